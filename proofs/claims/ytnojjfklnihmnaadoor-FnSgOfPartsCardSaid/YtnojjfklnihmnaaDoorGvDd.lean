/- Part of the proof of LawFnSgOfParts. -/
import Derived.Test.YtnojjfklnihmnaaDoorGvDl
set_option linter.unusedVariables false
set_option linter.unusedSimpArgs false
section
namespace Go.Proofs.YtnojjfklnihmnaaDoor.Given
open Go.RowKit Go.Proofs.YtnojjfklnihmnaaDoorW.PrintWords Go.Proofs.YtnojjfklnihmnaaDoorW.PrintLast Go.Proofs.YtnojjfklnihmnaaDoor.Pl Go.Proofs.YtnojjfklnihmnaaDoor.By Go.Proofs.YtnojjfklnihmnaaDoor.SgT Go.Proofs.YtnojjfklnihmnaaDoor.PFnSgOfParts
set_option linter.unusedVariables false
def Els (w : World) (B p : Nat) (sv : Value) (es : List (TypeId × Value)) (tys : List Tr) : Prop := ∀ (i : Nat) (e : TypeId × Value) (x : Tr), es[i]? = some e → tys[i]? = some x → TyO (fun k => B ≤ k ∧ k ≠ p ∧ some k ≠ sv.ownBlock) w e.1 e.2 x
theorem Els.old {w w' : World} {B p : Nat} {sv : Value} {es : List (TypeId × Value)} {tys : List Tr} (h : Els w B p sv es tys) (hb : Below w.heap.size w w') : Els w' B p sv es tys := fun i e x he hx => (h i e x he hx).move fun k hk hl => ⟨hb.block k hl, hk⟩
theorem Els.snoc {w : World} {B p : Nat} {sv : Value} {es : List (TypeId × Value)} {tys : List Tr} {T : TypeId} {u : Value} {x : Tr} (h : Els w B p sv es tys) (hx : tys[es.length]? = some x) (ht : TyO (fun k => B ≤ k ∧ k ≠ p ∧ some k ≠ sv.ownBlock) w T u x) : Els w B p sv (es ++ [(T, u)]) tys := by
  intro i e y he hy
  by_cases hi : i < es.length
  · rw [List.getElem?_append_left hi] at he
    exact h i e y he hy
  · have hl : i < (es ++ [(T, u)]).length := (List.getElem?_eq_some_iff.1 he).1
    rw [List.length_append, List.length_singleton] at hl
    obtain rfl : i = es.length := by omega
    rw [List.getElem?_append_right (Nat.le_refl _), Nat.sub_self] at he
    obtain rfl := Option.some.inj he
    rw [hx] at hy
    obtain rfl := Option.some.inj hy
    exact ht
theorem Els.grown {w w' : World} {B p : Nat} {sv v5 : Value} {es : List (TypeId × Value)} {tys : List Tr} (h : Els w B p sv es tys) (hg : w.grownBy w' sv.ownBlock) (hat : v5.ownBlock = sv.ownBlock ∨ ∃ b, v5.ownBlock = some b ∧ w.heap.size ≤ b) : Els w' B p v5 es tys :=
  fun i e x he hx => (h i e x he hx).move fun k hk hl => ⟨hg.block k hl hk.2.2, hk.1, hk.2.1, by
    rcases hat with hat | ⟨b, hb, hle⟩
    · rw [hat]; exact hk.2.2
    · rw [hb]; intro e; injection e with e; omega⟩
theorem Els.set {w : World} {B p : Nat} {sv : Value} {es : List (TypeId × Value)} {tys : List Tr} (h : Els w B p sv es tys) (o : Nat) (u : Value) : Els (w.setCell ⟨p, o, none⟩ u) B p sv es tys :=
  fun i e x he hx => (h i e x he hx).move fun k hk hl => ⟨Below.heap_setCell _ _ _ _ hk.2.1, hk⟩
set_option maxHeartbeats 16000000 in
set_option maxRecDepth 100000 in
theorem di_rec (v : S47) (xs : Tr) (h : v.f0 = 40) (hlen : v.f3.length = (kidsX xs).length) (hpos : 0 < v.f3.length) (hn : v.f3.length ≤ 1000)
    (ih : ∀ (i : Nat) (y : S47) (x : Tr), v.f3[i]? = some y → (kidsX xs)[i]? = some x → DIn y x) : DIn v (.str xs) := by
  intro A c w hC hc
  rw [h]
  have HIH := Aside0.mk ih
  have HLEN := Aside0.mk hlen
  have HC := Aside0.mk hC
  have HPOS := Aside0.mk hpos
  clear ih hlen hC h hpos
  go_enter Tryd.func29, Tryd.ntmps29
  go_wp2_with fail
  obtain ⟨wB, hwB⟩ : ∃ wB, (w.alloc (.cells #[.int .u8 40, .int .u64 v.f1, .string v.f2, .slice A v.f3.length c] 47)).alloc (.cells #[.slice none 0 0] 99) = wB := ⟨_, rfl⟩
  have HB0 : Aside0 (Below w.heap.size w wB) := ⟨hwB ▸ below_alloc' (below_alloc' (Below.refl _ _) _) _⟩
  obtain ⟨p, hp⟩ : ∃ p, w.heap.size + 1 = p := ⟨_, rfl⟩
  have BP0 : Aside0 (wB.heap[p]? = some (.cells #[.slice none 0 0] 99 (0, 0))) := ⟨by
    have h := heap_alloc_new (w.alloc (.cells #[.int .u8 40, .int .u64 v.f1, .string v.f2, .slice A v.f3.length c] 47)) (.cells #[.slice none 0 0] 99)
    rw [hwB, show (w.alloc (.cells #[.int .u8 40, .int .u64 v.f1, .string v.f2, .slice A v.f3.length c] 47)).heap.size = w.heap.size + 1 by simp, hp] at h
    exact h⟩
  have hpB : w.heap.size ≤ p := by omega
  rw [hwB, hp]
  clear hwB hp
  go_loopw [104] (fun i wr => ∃ j : Nat, j ≤ v.f3.length ∧ i = .int .i64 j ∧ ∃ sv es, Aside0 (wr.heap[p]? = some (.cells #[sv] 99 (0, 0))) ∧ Aside0 (wr.ownsRow w.heap.size 20 1 sv j (es.map fun e => .iface e.1 e.2)) ∧ Aside0 (Els wr w.heap.size p sv es (kidsX xs)) ∧ Aside0 (Below w.heap.size w wr)) (fun i _ => v.f3.length - (intOf i).toNat)
  case atStart => exact ⟨0, Nat.zero_le _, rfl, .slice none 0 0, [], BP0, ⟨own_nil _ _ _ _⟩, ⟨fun i e x he => by cases he⟩, HB0⟩
  case round =>
    clear BP0 HB0
    obtain ⟨j, hj, rfl, sv, es, BKP, HO, HE, HB⟩ := hrel
    have hel : es.length = j := by have := HO.out.1; rw [List.length_map] at this; omega
    by_cases hlt : j < v.f3.length
    · obtain ⟨y, hy⟩ : ∃ y, v.f3[j]? = some y := ⟨_, List.getElem?_eq_getElem hlt⟩
      obtain ⟨x, hx⟩ : ∃ x, (kidsX xs)[j]? = some x := ⟨_, List.getElem?_eq_getElem (by have := HLEN.out; omega)⟩
      obtain ⟨ad, A3, c3, hA, d0, d1, d2, d3, hl3, hC3⟩ := at_T47 (Kd.C_below HC.out HB.out) (j : Int) (by omega) (by omega)
      rw [rd47 hy] at d0 d1 d2 d3 hl3 hC3
      simp only [Int.toNat_natCast] at d0 d1 d2 d3
      have HI := Aside0.mk (HIH.out j y x hy hx)
      have HC3 := Aside0.mk hC3
      have HX := Aside0.mk (show (kidsX xs)[es.length]? = some x by rw [hel]; exact hx)
      cases hA
      clear hy hC3 hx hel
      go_wp2_with fail
      clear d0 d1 d2 d3
      obtain ⟨q, hq⟩ : ∃ q, wr.heap.size = q := ⟨_, rfl⟩
      have hbn : Below wr.heap.size wr (wr.alloc (.cells #[.int .u8 y.f0, .int .u64 y.f1, .string y.f2, .slice A3 y.f3.length c3] 47)) := (Below.refl _ _).alloc (Nat.le_refl _) _
      have BKQ : Aside0 ((wr.alloc (.cells #[.int .u8 y.f0, .int .u64 y.f1, .string y.f2, .slice A3 y.f3.length c3] 47)).heap[q]? = some (.cells #[.int .u8 y.f0, .int .u64 y.f1, .string y.f2, .slice A3 y.f3.length c3] 47 (0, 0))) := ⟨by rw [← hq]; exact heap_alloc_new _ _⟩
      have BKP := Aside0.mk (boxed_block BKP.out hbn)
      have HO := Aside0.mk (own_old HO.out hbn)
      have HE := Aside0.mk (HE.out.old hbn)
      have HB := Aside0.mk (below_step HB.out hbn)
      have HC3 := Aside0.mk (Kd.C_below HC3.out hbn)
      rw [hq]
      generalize wr.alloc (.cells #[.int .u8 y.f0, .int .u64 y.f1, .string y.f2, .slice A3 y.f3.length c3] 47) = W1 at BKQ BKP HO HB HC3 HE hbn ⊢
      clear hbn hq
      refine start_ (n := 8) (S := fun w' => w'.cell? ⟨p, 0, none⟩ = some sv ∧ w'.cell? ⟨q, 0, none⟩ = some (.int .u8 y.f0) ∧ w'.cell? ⟨q, 1, none⟩ = some (.int .u64 y.f1) ∧ w'.cell? ⟨q, 2, none⟩ = some (.string y.f2) ∧ w'.cell? ⟨q, 3, none⟩ = some (.slice A3 y.f3.length c3)) (ds := [7]) #[false, false, false, false, false, false, false, false] (by kernel_rfl) rfl rfl ⟨(blk_cell BKP.out 0).trans rfl, (blk_cell BKQ.out 0).trans rfl, (blk_cell BKQ.out 1).trans rfl, (blk_cell BKQ.out 2).trans rfl, (blk_cell BKQ.out 3).trans rfl⟩ (fun hHeld => ?_)
      refine with_tabW f29_35.tab f29_35.bits (fun HT_ HW_ => ?_)
      have BKP := Aside0.mk (blk_drew BKP.out)
      have BKQ := Aside0.mk (blk_drew BKQ.out)
      have HO := Aside0.mk (own_drew HO.out)
      have HE := Aside0.mk (HE.out.old (Below.refl _ _).drew)
      have HB := Aside0.mk HB.out.drew
      have HC3 := Aside0.mk (Kd.C_below HC3.out (Below.refl _ _).drew)
      generalize W1.drew = W2 at BKP BKQ HO HB HC3 HE hHeld ⊢
      refine pure_ (i := 0) (N := some 108) (v := ?_) (a' := ?_) #[true, false, false, false, false, false, false, false] rfl rfl (any_of HT_.out (by kernel_rfl)) (fun _ _ _ h => h) (Or.inl ⟨by rfl, ?_⟩) ?_ ?_
      rotate_left
      · intro w'
        go_simp
        with_reducible rfl
      rotate_left
      · simp only [Act.put, List.setIfInBounds_toArray, List.set_cons_zero, List.set_cons_succ]
        rfl
      refine take_ (i := 1) (N := some 109) (v := ?_) (a' := ?_) #[true, true, false, false, false, false, false, false] rfl rfl (take_ofW HT_.out HW_.out (by kernel_rfl)) (fun _ _ _ h => h) (Or.inl ⟨by rfl, ?_⟩) hHeld ?_ ?_
      rotate_left
      · rintro w' ⟨s0, s1, s2, s3, s4⟩
        go_simp
        with_reducible rfl
      rotate_left
      · simp only [Act.put, List.setIfInBounds_toArray, List.set_cons_zero, List.set_cons_succ]
        rfl
      refine take_ (i := 2) (N := some 110) (v := ?_) (a' := ?_) #[true, true, true, false, false, false, false, false] rfl rfl (take_ofW HT_.out HW_.out (by kernel_rfl)) (fun _ _ _ h => h) (Or.inl ⟨by rfl, ?_⟩) hHeld ?_ ?_
      rotate_left
      · rintro w' ⟨s0, s1, s2, s3, s4⟩
        go_simp
        with_reducible rfl
      rotate_left
      · simp only [Act.put, List.setIfInBounds_toArray, List.set_cons_zero, List.set_cons_succ]
        rfl
      refine one_ (i := 3) (N := some 111) #[true, true, true, true, false, false, false, false] rfl rfl (one_of HT_.out (by kernel_rfl)) (by decide) (fun K hK => ?_)
      refine goes_ Tryd.func29 (by kernel_rfl) rfl #[.agg #[.int .u8 y.f0, .int .u64 y.f1, .string y.f2, .slice A3 y.f3.length c3]] (by rfl) rfl rfl (by (try simp only [List.map_toArray, List.map_cons, List.map_nil]); first | done | rfl) ?_
      refine (HI.out A3 c3 W2 HC3.out hl3).mono ?_
      rintro e W3 ⟨T, u, rfl, hty, -, hb⟩
      refine ⟨_, rfl, ?_⟩
      have HT : Aside0 (TyO (fun k => w.heap.size ≤ k ∧ k ≠ p ∧ some k ≠ sv.ownBlock) W3 T u x) := ⟨hty.move fun k hk _ => ⟨rfl, by have := HB.out.size; omega, fun e => by have := blk_lt BKP.out; omega, fun e => by have := own_lt HO.out k e.symm; omega⟩⟩
      have BKP := Aside0.mk (boxed_block BKP.out hb)
      have BKQ := Aside0.mk (boxed_block BKQ.out hb)
      have HO := Aside0.mk (own_old HO.out hb)
      have HE := Aside0.mk (HE.out.old hb)
      have HB := Aside0.mk (below_step HB.out hb)
      clear hb hty
      refine hK.out _ _ ⟨(blk_cell BKP.out 0).trans rfl, (blk_cell BKQ.out 0).trans rfl, (blk_cell BKQ.out 1).trans rfl, (blk_cell BKQ.out 2).trans rfl, (blk_cell BKQ.out 3).trans rfl⟩ (fun hHeld => ?_)
      clear hK K
      refine norm_ (a' := ?_) ?_ ?_
      rotate_left
      · show Act.put _ (some 111) _ = _
        simp only [Act.put, List.setIfInBounds_toArray, List.set_cons_zero, List.set_cons_succ]
        rfl
      refine one_ (i := 4) (N := some 112) #[true, true, true, true, true, false, false, false] rfl rfl (one_of HT_.out (by kernel_rfl)) (by decide) (fun K hK => ?_)
      refine value_ (w1 := ?_) (v := ?_) (by rfl) rfl ?_ ?_
      rotate_left 2
      · go_simp
        constructor
        · rfl
        · rfl
      have hz := heap_alloc_new W3 (.cells #[.iface T u] 20)
      have hbn : Below W3.heap.size W3 (W3.alloc (.cells #[.iface T u] 20)) := (Below.refl _ _).alloc (Nat.le_refl _) _
      have BKP := Aside0.mk (boxed_block BKP.out hbn)
      have BKQ := Aside0.mk (boxed_block BKQ.out hbn)
      have HO := Aside0.mk (own_old HO.out hbn)
      have HE := Aside0.mk (HE.out.old hbn)
      have HT := Aside0.mk (HT.out.move (ok' := fun k => w.heap.size ≤ k ∧ k ≠ p ∧ some k ≠ sv.ownBlock) fun k hk hl => ⟨hbn.block k hl, hk⟩)
      have HB := Aside0.mk (below_step HB.out hbn)
      obtain ⟨z, hzz⟩ : ∃ z, W3.heap.size = z := ⟨_, rfl⟩
      rw [hzz] at hz ⊢
      clear hzz
      generalize W3.alloc (.cells #[.iface T u] 20) = W4 at BKP BKQ HO HB HE HT hz hbn ⊢
      clear hbn
      refine hK.out _ _ ⟨(blk_cell BKP.out 0).trans rfl, (blk_cell BKQ.out 0).trans rfl, (blk_cell BKQ.out 1).trans rfl, (blk_cell BKQ.out 2).trans rfl, (blk_cell BKQ.out 3).trans rfl⟩ (fun hHeld => ?_)
      clear hK K
      refine norm_ (a' := ?_) ?_ ?_
      rotate_left
      · show Act.put _ (some 112) _ = _
        simp only [Act.put, List.setIfInBounds_toArray, List.set_cons_zero, List.set_cons_succ]
        rfl
      refine one_ (i := 5) (N := some 113) #[true, true, true, true, true, true, false, false] rfl rfl (one_of HT_.out (by kernel_rfl)) (by decide) (fun K hK => ?_)
      refine step_app (w0 := w) w.heap.size (by rfl) (.tmp 109) (.tmp 112) 44 20 .nilIface 16 rfl Tryd.underlying44 info20 rfl (by decide) sv j (es.map fun e => .iface e.1 e.2) (.iface T u) z rfl rfl hz rfl HO.out HB.out HB.out.size (by omega) ?_
      intro v5 W5 ho hb hg hat
      have HE := Aside0.mk ((HE.out.snoc HX.out HT.out).grown hg hat)
      have BKP := Aside0.mk (blk_grown BKP.out hg (own_ne HO.out BKP.out (by decide)))
      have BKQ := Aside0.mk (blk_grown BKQ.out hg (own_ne HO.out BKQ.out (by decide)))
      have HO := Aside0.mk (show W5.ownsRow w.heap.size 20 1 v5 (j + 1) ((es ++ [(T, u)]).map fun e => .iface e.1 e.2) by rw [List.map_append]; exact ho)
      have HB := Aside0.mk hb
      clear ho hb hg hat hz HT
      obtain ⟨A5, m5, rfl⟩ := own_slice HO.out
      refine hK.out _ _ ⟨(blk_cell BKP.out 0).trans rfl, (blk_cell BKQ.out 0).trans rfl, (blk_cell BKQ.out 1).trans rfl, (blk_cell BKQ.out 2).trans rfl, (blk_cell BKQ.out 3).trans rfl⟩ (fun hHeld => ?_)
      clear hK K
      refine norm_ (a' := ?_) ?_ ?_
      rotate_left
      · show Act.put _ (some 113) _ = _
        simp only [Act.put, List.setIfInBounds_toArray, List.set_cons_zero, List.set_cons_succ]
        rfl
      refine pure_ (i := 6) (N := some 114) (v := ?_) (a' := ?_) #[true, true, true, true, true, true, true, false] rfl rfl (any_of HT_.out (by kernel_rfl)) (fun _ _ _ h => h) (Or.inl ⟨by rfl, ?_⟩) ?_ ?_
      rotate_left
      · intro w'
        go_simp
        with_reducible rfl
      rotate_left
      · simp only [Act.put, List.setIfInBounds_toArray, List.set_cons_zero, List.set_cons_succ]
        rfl
      refine last_ (i := 7) (N := none) #[true, true, true, true, true, true, true, true] rfl rfl (one_of HT_.out (by kernel_rfl)) (by decide) (fun K hK => ?_)
      have e1 : W5.cell? ⟨p, 0, none⟩ = some sv := (blk_cell BKP.out 0).trans rfl
      have f1 := blk_frozen BKP.out 0
      refine skip_ (w1 := ?_) (by rfl) rfl ?_ ?_
      rotate_left
      · go_simp
        rfl
      refine hK.out _ _ ?_
      clear hK K
      refine done_ (done_of HT_.out (by kernel_rfl)) ?_
      have BKP5 := Aside0.mk (blk_set BKP.out 0 (.slice A5 (j + 1) m5))
      have HO5 := Aside0.mk (own_setCell HO.out (p := ⟨p, 0, none⟩) (own_ne HO.out BKP.out (by decide)) (.slice A5 (j + 1) m5))
      have HE5 := Aside0.mk (HE.out.set 0 (.slice A5 (j + 1) m5))
      have HB5 := Aside0.mk (HB.out.setCell (p := ⟨p, 0, none⟩) hpB (.slice A5 (j + 1) m5))
      clear e1 f1 BKP BKQ HO HB HC3 HE hHeld
      go_wp2_with fail
      go_roundw
      case rel => exact ⟨j + 1, by omega, by go_num, _, _, BKP5, HO5, HE5, HB5⟩
      case measure => simp [intOf]; omega
    · obtain rfl : v.f3.length = j := by omega
      obtain ⟨A7, m7, rfl⟩ := own_slice HO.out
      have d0 : wr.cell? ⟨p, 0, none⟩ = some (.slice A7 v.f3.length m7) := (blk_cell BKP.out 0).trans rfl
      go_wp2_with fail
      go_ret
      obtain ⟨g, cap, he, -, -⟩ := HO.out.form HPOS.out
      injection he with h1 h2 h3
      subst h1 h3
      refine ⟨_, _, rfl, ?_, fun k hk => (by cases hk), HB.out⟩
      have hown := HO.out
      rw [← hel] at hown ⊢
      refine .rec_ ⟨g, 0, none⟩ es xs m7 (own_base hown g rfl) (by have := HPOS.out; omega) (by have := HLEN.out; omega) (own_cap hown) (fun i e he => ?_) (fun i e y he hy => (HE.out i e y he hy).move fun k hk _ => ⟨rfl, hk.1⟩)
      refine hown.cells (g := g) rfl i _ ?_
      rw [List.getElem?_map, he]; rfl
end Go.Proofs.YtnojjfklnihmnaaDoor.Given
end
section
namespace Go.Proofs.YtnojjfklnihmnaaDoor.Given
open Go.RowKit Go.Proofs.YtnojjfklnihmnaaDoorW.PrintWords Go.Proofs.YtnojjfklnihmnaaDoorW.PrintLast Go.Proofs.YtnojjfklnihmnaaDoor.Pl Go.Proofs.YtnojjfklnihmnaaDoor.By Go.Proofs.YtnojjfklnihmnaaDoor.SgT Go.Proofs.YtnojjfklnihmnaaDoor.PFnSgOfParts
set_option linter.unusedVariables false
def f29_44.T : Bool × List (List Nat × List Nat) := (true, [([], []), ([], []), ([1], [1]), ([2], [2]), ([3], [3]), ([4], [4]), ([5, 5], [5]), ([], []), ([7], [7]), ([8], [8]), ([9], [9]), ([10, 6], [10]), ([11, 11], [11]), ([0, 6, 12, 12], [0, 6, 12])])
def f29_44.B : List Nat := [0, 0, 2, 6, 14, 30, 62, 0, 128, 384, 896, 2046, 4094, 8191]
theorem f29_44.tab : rtab .any (opsOf Tryd.f29 44) = f29_44.T := by kernel_rfl
theorem f29_44.bits : waitsOk f29_44.T.2 f29_44.B = true := by kernel_rfl
theorem DmOut.le {w : World} {B p : Nat} {K E : ByteArray} {c : Int} {n m : Nat} (h : DmOut w B p K E c n) (hle : n ≤ m) : DmOut w B p K E c m := by
  obtain ⟨n', kv, vv, ks, vs, h1, h2⟩ := h
  exact ⟨n', kv, vv, ks, vs, by omega, h2⟩
def Dh (w' : World) (m6 q p : Nat) (TT : ByteArray) (ad3 ab : Addr) (n3 c3 : Nat) (a b : S47) (A4 : Option Addr) (c4 : Nat) (A5 : Option Addr) (c5 : Nat) : Prop := w'.cell? ⟨m6, 0, none⟩ = some (.iface 94 (.pointer (some ⟨p, 0, none⟩))) ∧ w'.cell? ⟨m6, 1, none⟩ = some (.string TT) ∧ w'.cell? ⟨q, 3, none⟩ = some (.slice (some ad3) n3 c3) ∧ w'.cell? ad3 = some (.int .u8 a.f0) ∧ w'.cell? ⟨ad3.block, ad3.off + 1, none⟩ = some (.int .u64 a.f1) ∧ w'.cell? ⟨ad3.block, ad3.off + 2, none⟩ = some (.string a.f2) ∧ w'.cell? ⟨ad3.block, ad3.off + 3, none⟩ = some (.slice A4 a.f3.length c4) ∧ w'.cell? ab = some (.int .u8 b.f0) ∧ w'.cell? ⟨ab.block, ab.off + 1, none⟩ = some (.int .u64 b.f1) ∧ w'.cell? ⟨ab.block, ab.off + 2, none⟩ = some (.string b.f2) ∧ w'.cell? ⟨ab.block, ab.off + 3, none⟩ = some (.slice A5 b.f3.length c5)
theorem Dh.old {W W' : World} {m6 q p : Nat} {TT : ByteArray} {ad3 ab : Addr} {n3 c3 : Nat} {a b : S47} {A4 : Option Addr} {c4 : Nat} {A5 : Option Addr} {c5 : Nat} (h : Dh W m6 q p TT ad3 ab n3 c3 a b A4 c4 A5 c5) (hb : Below W.heap.size W W') : Dh W' m6 q p TT ad3 ab n3 c3 a b A4 c4 A5 c5 := by
  obtain ⟨h0, h1, h2, h3, h4, h5, h6, h7, h8, h9, h10⟩ := h
  have key : ∀ (g : Addr) (v : Value), W.cell? g = some v → W'.cell? g = some v := fun g v h => (hb.cell (World.block_lt_of_cell? W _ h)).trans h
  exact ⟨key _ _ h0, key _ _ h1, key _ _ h2, key _ _ h3, key _ _ h4, key _ _ h5, key _ _ h6, key _ _ h7, key _ _ h8, key _ _ h9, key _ _ h10⟩
set_option maxHeartbeats 16000000 in
set_option maxRecDepth 100000 in
theorem di_dict (v : S47) (k : Int) (e : Tr) (h : v.f0 = 97) (hk : keyed k = true) (hbk : basic k = true) (hw : wf e true) (hf : fits (.dict k e) 0 0 0 = true) (hl : (word (.dict k e)).length ≤ 255) (hs : v.f2 = strOfNums (123 :: k :: (word e ++ [125]))) (hn : v.f3.length ≤ 1000)
    (ih : ∀ (i : Nat) (y : S47), v.f3[i]? = some y → ∃ a b x, y.f3[0]? = some a ∧ y.f3[1]? = some b ∧ DIn a (.lone k) ∧ DIn b x ∧ Gd x) : DIn v (.dict k e) := by
  intro A c w hC hc
  rw [h, hs]
  have hwd : wf (.dict k e) true := ⟨rfl, hbk, hw⟩
  have hby := word_bytes (.dict k e) _ hwd
  have eb : bytesOf (strOfNums (123 :: k :: (word e ++ [125]))) = 123 :: k :: (word e ++ [125]) := bytes_str fun c hc => hby c (List.mem_cons_of_mem _ hc)
  obtain ⟨h0, h1, -⟩ := at_zero eb
  have hne := not_empty (l := 123 :: k :: (word e ++ [125])) (by simp)
  have hlS : (strOfNums (123 :: k :: (word e ++ [125]))).size ≤ 254 := by rw [strOf_size]; simp only [word, List.length_cons] at hl ⊢; omega
  have hDT : ∀ w : World, Calls Tryd.prog 50 #[.string (⟨#[97]⟩ ++ strOfNums (123 :: k :: (word e ++ [125])))] w fun r w' => r = .returned (.string (strOfNums (tyS (.dict k e)))) ∧ Below w.heap.size w w' := fun w => by
    have := (doorType.calls (.dict k e)).1 hwd hf (by omega) w
    rwa [show strOfNums (word (.dict k e)) = ⟨#[97]⟩ ++ strOfNums (123 :: k :: (word e ++ [125])) from strOf_append [97] _] at this
  have HDT := Aside0.mk hDT
  have hte : bytesOf (strOfNums (tyS (.dict k e))) = 123 :: k :: bytesOf (strOfNums (tyS e)) := by rw [bytes_str (tyS_bytes _ _ hwd), bytes_str (tyS_bytes _ _ hw)]; rfl
  have hkb : bytesOf (strOfNums [k]) = [k] := bytes_str (Bytes.nil.cons (lone_byte (basic_lone hbk)))
  have HMM := Aside0.mk fun w => makeMap.calls (strOfNums (tyS (.dict k e))) (strOfNums [k]) (strOfNums (tyS e)) k hte hkb w
  have HGk : Aside0 (Gd (.lone k)) := ⟨⟨⟨rfl, basic_lone hbk⟩, rfl, (show ok 0 0 0 = true by decide), by show 1 ≤ 255; omega⟩⟩
  clear hDT hte hkb hl hf hby
  generalize strOfNums (123 :: k :: (word e ++ [125])) = S at *
  generalize strOfNums (tyS (.dict k e)) = TT at *
  have hx6 : ∀ h : 0 < S.size, ((S[0]'h).toNat : Int) = 123 := fun h => by rw [← h1]; exact bt_at S 0 h
  have q6 : (0 < S.size) = True := eq_true h0
  have qi6 : (0 < (S.size : Int)) = True := eq_true (by omega)
  have hz1 : ¬ 9223372036854775807 < 1 + S.size := by omega
  have HIH := Aside0.mk ih
  have HK := Aside0.mk hk
  have HC := Aside0.mk hC
  obtain ⟨wA, hwA⟩ : ∃ wA, w.alloc (.cells #[.int .u8 97, .int .u64 v.f1, .string S, .slice A v.f3.length c] 47) = wA := ⟨_, rfl⟩
  have hbA : Below w.heap.size w wA := hwA ▸ (Below.refl _ w).alloc (Nat.le_refl _) _
  have hbx : wA.heap[w.heap.size]? = some (.cells #[.int .u8 97, .int .u64 v.f1, .string S, .slice A v.f3.length c] 47 (0, 0)) := hwA ▸ heap_alloc_new w _
  have HBX := Aside0.mk hbx
  have HBA := Aside0.mk hbA
  have b0 : wA.cell? ⟨w.heap.size, 0, none⟩ = some (.int .u8 97) := (blk_cell hbx 0).trans rfl
  have b2 : wA.cell? ⟨w.heap.size, 2, none⟩ = some (.string S) := (blk_cell hbx 2).trans rfl
  clear ih hC hbA hbx h hs eb h0 h1 hw hwd hk hbk hlS
  go_enter Tryd.func29, Tryd.ntmps29
  go_wp2_with fail
  refine (HDT.out _).mono ?_
  rintro r w1 ⟨rfl, hb1⟩
  have HBX := Aside0.mk (boxed_block HBX.out hb1)
  have HBA := Aside0.mk (below_step HBA.out hb1)
  clear hb1 b0 b2 hwA
  go_wp2_with fail
  refine (HMM.out _).mono ?_
  rintro r w2 ⟨p, rfl, hp1, hp2, hb2⟩
  have HBX := Aside0.mk (boxed_block HBX.out hb2)
  have hpw : w.heap.size ≤ p := by have := HBA.out.size; omega
  have HBA := Aside0.mk (below_step HBA.out hb2)
  have HD0 := Aside0.mk (Dm.new (B := w.heap.size) k hp2 hpw)
  clear hb2 hp1 hp2
  obtain ⟨wB, hwB⟩ : ∃ wB, w2.alloc (.cells #[.iface 94 (.pointer (some ⟨p, 0, none⟩)), .string TT] 103) = wB := ⟨_, rfl⟩
  have hbB : Below w2.heap.size w2 wB := hwB ▸ (Below.refl _ w2).alloc (Nat.le_refl _) _
  have hbp : wB.heap[w2.heap.size]? = some (.cells #[.iface 94 (.pointer (some ⟨p, 0, none⟩)), .string TT] 103 (0, 0)) := hwB ▸ heap_alloc_new w2 _
  have b3 : wB.cell? ⟨w.heap.size, 3, none⟩ = some (.slice A v.f3.length c) := (blk_cell (boxed_block HBX.out hbB) 3).trans rfl
  have HB0 := Aside0.mk (below_step HBA.out hbB)
  have hmp : w2.heap.size ≠ p := by have := blk_lt HD0.out.blk; omega
  have HD0 := Aside0.mk (HD0.out.old hbB)
  have BM0 := Aside0.mk hbp
  clear hbB hbp
  go_wp2_with fail
  clear b3 hwB hx6 q6 qi6 hne HBX HBA hz1
  obtain ⟨m6, hm6⟩ : ∃ m6, w2.heap.size = m6 := ⟨_, rfl⟩
  rw [hm6] at BM0 hmp ⊢
  clear hm6
  have HPW := Aside0.mk hpw
  go_loopw [137] (fun i wr => ∃ j : Nat, j ≤ v.f3.length ∧ i = .int .i64 j ∧ Aside0 (DmOut wr w.heap.size p (strOfNums [k]) (strOfNums (tyS e)) k j) ∧ Aside0 (wr.heap[m6]? = some (.cells #[.iface 94 (.pointer (some ⟨p, 0, none⟩)), .string TT] 103 (0, 0))) ∧ Aside0 (Below w.heap.size w wr)) (fun i _ => v.f3.length - (intOf i).toNat)
  case atStart => exact ⟨0, Nat.zero_le _, rfl, ⟨⟨0, _, _, _, _, Nat.le_refl _, HD0.out⟩⟩, BM0, HB0⟩
  case round =>
    clear BM0 HB0 HD0
    obtain ⟨j, hj, rfl, HO, BM, HB⟩ := hrel
    by_cases hlt : j < v.f3.length
    · obtain ⟨nn, kv, vv, ks, vs, hnn, hD⟩ := HO.out
      have HD := Aside0.mk hD
      obtain ⟨y, hy⟩ : ∃ y, v.f3[j]? = some y := ⟨_, List.getElem?_eq_getElem hlt⟩
      obtain ⟨a, b, x, ha, hb, hia, hib, hgx⟩ := HIH.out j y hy
      obtain ⟨ad, A3, c3, hA, d0, d1, d2, d3, hl3, hC3⟩ := at_T47 (Kd.C_below HC.out HB.out) (j : Int) (by omega) (by omega)
      rw [rd47 hy] at d0 d1 d2 d3 hl3 hC3
      simp only [Int.toNat_natCast] at d0 d1 d2 d3
      have hy1 : 1 < y.f3.length := (List.getElem?_eq_some_iff.1 hb).1
      obtain ⟨n3, hn3⟩ : ∃ n3, y.f3.length = n3 := ⟨_, rfl⟩
      have hca := at_T47 hC3 ((0 : Nat) : Int) (by omega) (by omega)
      have hcb := at_T47 hC3 ((1 : Nat) : Int) (by omega) (by omega)
      rw [rd47 ha] at hca
      rw [rd47 hb] at hcb
      obtain ⟨ad3, A4, c4, hA3, a0, a1, a2, a3, hl4, hC4⟩ := hca
      obtain ⟨ad3', A5, c5, hA3', b0, b1, b2, b3, hl5, hC5⟩ := hcb
      obtain rfl : ad3 = ad3' := by rw [hA3] at hA3'; exact Option.some.inj hA3'
      have e0 : ad3.add (Int.toNat ((0 : Nat) : Int) * 4) = ad3 := by simp [Addr.add]
      obtain ⟨ab, hab⟩ : ∃ ab, ad3.add 4 = ab := ⟨_, rfl⟩
      have e4 : ad3.add (Int.toNat ((1 : Nat) : Int) * 4) = ab := hab
      rw [e0] at a0 a1 a2 a3
      rw [e4] at b0 b1 b2 b3
      have HIa := Aside0.mk hia
      have HIb := Aside0.mk hib
      have HGx := Aside0.mk hgx
      have HCa := Aside0.mk hC4
      have HCb := Aside0.mk hC5
      subst hA3
      obtain ⟨q, hq⟩ : ∃ q, wr.heap.size = q := ⟨_, rfl⟩
      obtain ⟨W1, hW1⟩ : ∃ W1, wr.alloc (.cells #[.int .u8 y.f0, .int .u64 y.f1, .string y.f2, .slice (some ad3) n3 c3] 47) = W1 := ⟨_, rfl⟩
      have hbn : Below wr.heap.size wr W1 := hW1 ▸ (Below.refl _ _).alloc (Nat.le_refl _) _
      have hbq : W1.heap[q]? = some (.cells #[.int .u8 y.f0, .int .u64 y.f1, .string y.f2, .slice (some ad3) n3 c3] 47 (0, 0)) := by rw [← hW1, ← hq]; exact heap_alloc_new _ _
      have key : ∀ (g : Addr) (v : Value), wr.cell? g = some v → W1.cell? g = some v := fun g v h => (hbn.cell (World.block_lt_of_cell? wr _ h)).trans h
      have HH : Aside0 (Dh W1 m6 q p TT ad3 ab n3 c3 a b A4 c4 A5 c5) := ⟨⟨key _ _ ((blk_cell BM.out 0).trans rfl), key _ _ ((blk_cell BM.out 1).trans rfl), (blk_cell hbq 3).trans rfl, key _ _ a0, key _ _ a1, key _ _ a2, key _ _ a3, key _ _ b0, key _ _ b1, key _ _ b2, key _ _ b3⟩⟩
      have HCa := Aside0.mk (Kd.C_below HCa.out hbn)
      have HCb := Aside0.mk (Kd.C_below HCb.out hbn)
      have BM := Aside0.mk (boxed_block BM.out hbn)
      have HD := Aside0.mk (HD.out.old hbn)
      have HB' := HB
      have HB := Aside0.mk (below_step HB.out hbn)
      rw [hn3] at d3 hy1
      have hy0 : 0 < n3 := by omega
      have hy1i : (1 : Int) < (n3 : Int) := by omega
      have hy0i : (0 : Int) < (n3 : Int) := by omega
      have HQ := Aside0.mk hW1
      have HQ2 := Aside0.mk hq
      cases hA
      clear hy ha hb hia hib hgx hC3 hC4 hC5 e0 e4 a0 a1 a2 a3 b0 b1 b2 b3 hbn hbq key hD hq HB' HO hl3 hW1 hA3' hn3
      go_wp2_with fail
      rw [HQ2.out]
      rw [HQ.out]
      clear d0 d1 d2 d3 HQ HQ2
      trace_state
      refine start_ (n := 14) (S := fun w' => w'.cell? ⟨m6, 0, none⟩ = some (.iface 94 (.pointer (some ⟨p, 0, none⟩))) ∧ w'.cell? ⟨m6, 1, none⟩ = some (.string TT) ∧ w'.cell? ⟨q, 3, none⟩ = some (.slice (some ad3) n3 c3) ∧ w'.cell? ad3 = some (.int .u8 a.f0) ∧ w'.cell? ⟨ad3.block, ad3.off + 1, none⟩ = some (.int .u64 a.f1) ∧ w'.cell? ⟨ad3.block, ad3.off + 2, none⟩ = some (.string a.f2) ∧ w'.cell? ⟨ad3.block, ad3.off + 3, none⟩ = some (.slice A4 a.f3.length c4) ∧ w'.cell? ab = some (.int .u8 b.f0) ∧ w'.cell? ⟨ab.block, ab.off + 1, none⟩ = some (.int .u64 b.f1) ∧ w'.cell? ⟨ab.block, ab.off + 2, none⟩ = some (.string b.f2) ∧ w'.cell? ⟨ab.block, ab.off + 3, none⟩ = some (.slice A5 b.f3.length c5)) (ds := [13]) #[false, false, false, false, false, false, false, false, false, false, false, false, false, false] (by kernel_rfl) rfl rfl (HH.out.old (Below.refl _ _).drew) (fun hHeld => ?_)
      refine with_tabW f29_44.tab f29_44.bits (fun HT_ HW_ => ?_)
      have HH := Aside0.mk (HH.out.old (Below.refl _ _).drew)
      have BM := Aside0.mk (blk_drew BM.out)
      have HD := Aside0.mk (HD.out.old (Below.refl _ _).drew)
      have HB := Aside0.mk HB.out.drew
      have HCa := Aside0.mk (Kd.C_below HCa.out (Below.refl _ _).drew)
      have HCb := Aside0.mk (Kd.C_below HCb.out (Below.refl _ _).drew)
      generalize W1.drew = W2 at HH BM HD HB HCa HCb hHeld ⊢
      refine take_ (i := 0) (N := some 141) (v := ?_) (a' := ?_) #[true, false, false, false, false, false, false, false, false, false, false, false, false, false] rfl rfl (take_ofW HT_.out HW_.out (by kernel_rfl)) (fun _ _ _ h => h) (Or.inl ⟨by rfl, ?_⟩) hHeld ?_ ?_
      rotate_left
      · rintro w' ⟨s0, s1, s2, s3, s4, s5, s6, s7, s8, s9, s10⟩
        go_simp
        with_reducible rfl
      rotate_left
      · simp only [Act.put, List.setIfInBounds_toArray, List.set_cons_zero, List.set_cons_succ]
        rfl
      refine pure_ (i := 1) (N := some 142) (v := ?_) (a' := ?_) #[true, true, false, false, false, false, false, false, false, false, false, false, false, false] rfl rfl (any_of HT_.out (by kernel_rfl)) (fun _ _ _ h => h) (Or.inl ⟨by rfl, ?_⟩) ?_ ?_
      rotate_left
      · intro w'
        go_simp
        with_reducible rfl
      rotate_left
      · simp only [Act.put, List.setIfInBounds_toArray, List.set_cons_zero, List.set_cons_succ]
        rfl
      refine take_ (i := 2) (N := some 143) (v := ?_) (a' := ?_) #[true, true, true, false, false, false, false, false, false, false, false, false, false, false] rfl rfl (take_ofW HT_.out HW_.out (by kernel_rfl)) (fun _ _ _ h => h) (Or.inl ⟨by rfl, ?_⟩) hHeld ?_ ?_
      rotate_left
      · rintro w' ⟨s0, s1, s2, s3, s4, s5, s6, s7, s8, s9, s10⟩
        go_simp
        with_reducible rfl
      rotate_left
      · simp only [Act.put, List.setIfInBounds_toArray, List.set_cons_zero, List.set_cons_succ]
        rfl
      refine pure_ (i := 3) (N := some 144) (v := ?_) (a' := ?_) #[true, true, true, true, false, false, false, false, false, false, false, false, false, false] rfl rfl (any_of HT_.out (by kernel_rfl)) (fun _ _ _ h => h) (Or.inl ⟨by rfl, ?_⟩) ?_ ?_
      rotate_left
      · intro w'
        go_simp
        with_reducible rfl
      rotate_left
      · simp only [Act.put, List.setIfInBounds_toArray, List.set_cons_zero, List.set_cons_succ]
        rfl
      refine take_ (i := 4) (N := some 145) (v := ?_) (a' := ?_) #[true, true, true, true, true, false, false, false, false, false, false, false, false, false] rfl rfl (take_ofW HT_.out HW_.out (by kernel_rfl)) (fun _ _ _ h => h) (Or.inl ⟨by rfl, ?_⟩) hHeld ?_ ?_
      rotate_left
      · rintro w' ⟨s0, s1, s2, s3, s4, s5, s6, s7, s8, s9, s10⟩
        go_simp
        with_reducible rfl
      rotate_left
      · simp only [Act.put, List.setIfInBounds_toArray, List.set_cons_zero, List.set_cons_succ]
        rfl
      refine pure_ (i := 7) (N := some 148) (v := ?_) (a' := ?_) #[true, true, true, true, true, false, false, true, false, false, false, false, false, false] rfl rfl (any_of HT_.out (by kernel_rfl)) (fun _ _ _ h => h) (Or.inl ⟨by rfl, ?_⟩) ?_ ?_
      rotate_left
      · intro w'
        go_simp
        with_reducible rfl
      rotate_left
      · simp only [Act.put, List.setIfInBounds_toArray, List.set_cons_zero, List.set_cons_succ]
        rfl
      refine take_ (i := 8) (N := some 149) (v := ?_) (a' := ?_) #[true, true, true, true, true, false, false, true, true, false, false, false, false, false] rfl rfl (take_ofW HT_.out HW_.out (by kernel_rfl)) (fun _ _ _ h => h) (Or.inl ⟨by rfl, ?_⟩) hHeld ?_ ?_
      rotate_left
      · rintro w' ⟨s0, s1, s2, s3, s4, s5, s6, s7, s8, s9, s10⟩
        go_simp
        with_reducible rfl
      rotate_left
      · simp only [Act.put, List.setIfInBounds_toArray, List.set_cons_zero, List.set_cons_succ]
        rfl
      refine pure_ (i := 9) (N := some 150) (v := ?_) (a' := ?_) #[true, true, true, true, true, false, false, true, true, true, false, false, false, false] rfl rfl (any_of HT_.out (by kernel_rfl)) (fun _ _ _ h => h) (Or.inl ⟨by rfl, ?_⟩) ?_ ?_
      rotate_left
      · intro w'
        go_simp
        with_reducible rfl
      rotate_left
      · simp only [Act.put, List.setIfInBounds_toArray, List.set_cons_zero, List.set_cons_succ]
        rfl
      refine take_ (i := 10) (N := some 151) (v := ?_) (a' := ?_) #[true, true, true, true, true, false, false, true, true, true, true, false, false, false] rfl rfl (take_ofW HT_.out HW_.out (by kernel_rfl)) (fun _ _ _ h => h) (Or.inl ⟨by rfl, ?_⟩) hHeld ?_ ?_
      rotate_left
      · rintro w' ⟨s0, s1, s2, s3, s4, s5, s6, s7, s8, s9, s10⟩
        go_simp
        with_reducible rfl
      rotate_left
      · simp only [Act.put, List.setIfInBounds_toArray, List.set_cons_zero, List.set_cons_succ]
        rfl
      refine one_ (i := 5) (N := some 146) #[true, true, true, true, true, true, false, true, true, true, true, false, false, false] rfl rfl (one_of HT_.out (by kernel_rfl)) (by decide) (fun K hK => ?_)
      refine goes_ Tryd.func29 (by kernel_rfl) rfl #[.agg #[.int .u8 a.f0, .int .u64 a.f1, .string a.f2, .slice A4 a.f3.length c4]] (by rfl) rfl rfl (by (try simp only [List.map_toArray, List.map_cons, List.map_nil]); first | done | rfl) ?_
      refine (HIa.out A4 c4 W2 HCa.out hl4).mono ?_
      rintro e W3 ⟨T, u, rfl, hty, hkey, hb⟩
      refine ⟨_, rfl, ?_⟩
      have HKV := Aside0.mk (hkey _ rfl HK.out)
      have HVO := Aside0.mk (valueOf.calls (w := W3) (x := .lone k) HGk.out hty.ty)
      clear hkey hty HCa
      have HH := Aside0.mk (HH.out.old hb)
      have BM := Aside0.mk (boxed_block BM.out hb)
      have HD := Aside0.mk (HD.out.old hb)
      have HB := Aside0.mk (below_step HB.out hb)
      have HCb := Aside0.mk (Kd.C_below HCb.out hb)
      clear hb
      refine hK.out _ _ HH.out (fun hHeld => ?_)
      clear hK K
      refine norm_ (a' := ?_) ?_ ?_
      rotate_left
      · show Act.put _ (some 146) _ = _
        simp only [Act.put, List.setIfInBounds_toArray, List.set_cons_zero, List.set_cons_succ]
        rfl
      refine one_ (i := 6) (N := some 147) #[true, true, true, true, true, true, true, true, true, true, true, false, false, false] rfl rfl (one_of HT_.out (by kernel_rfl)) (by decide) (fun K hK => ?_)
      refine goes_ Tryd.func52 (by kernel_rfl) rfl #[.iface T u] (by rfl) rfl rfl (by (try simp only [List.map_toArray, List.map_cons, List.map_nil]); first | done | rfl) ?_
      refine (HVO.out).mono ?_
      rintro e W4 ⟨rfl, hb⟩
      refine ⟨_, rfl, ?_⟩
      clear HVO
      have HH := Aside0.mk (HH.out.old hb)
      have BM := Aside0.mk (boxed_block BM.out hb)
      have HD := Aside0.mk (HD.out.old hb)
      have HB := Aside0.mk (below_step HB.out hb)
      have HCb := Aside0.mk (Kd.C_below HCb.out hb)
      clear hb
      refine hK.out _ _ HH.out (fun hHeld => ?_)
      clear hK K
      refine norm_ (a' := ?_) ?_ ?_
      rotate_left
      · show Act.put _ (some 147) _ = _
        simp only [Act.put, List.setIfInBounds_toArray, List.set_cons_zero, List.set_cons_succ]
        rfl
      refine one_ (i := 11) (N := some 152) #[true, true, true, true, true, true, true, true, true, true, true, true, false, false] rfl rfl (one_of HT_.out (by kernel_rfl)) (by decide) (fun K hK => ?_)
      refine goes_ Tryd.func29 (by kernel_rfl) rfl #[.agg #[.int .u8 b.f0, .int .u64 b.f1, .string b.f2, .slice A5 b.f3.length c5]] (by rfl) rfl rfl (by (try simp only [List.map_toArray, List.map_cons, List.map_nil]); first | done | rfl) ?_
      refine (HIb.out A5 c5 W4 HCb.out hl5).mono ?_
      rintro e W5 ⟨T2, u2, rfl, hty, -, hb⟩
      refine ⟨_, rfl, ?_⟩
      have HVO := Aside0.mk (valueOf.calls (w := W5) (x := x) HGx.out hty.ty)
      clear hty
      have HH := Aside0.mk (HH.out.old hb)
      have BM := Aside0.mk (boxed_block BM.out hb)
      have HD := Aside0.mk (HD.out.old hb)
      have HB := Aside0.mk (below_step HB.out hb)
      have HCb := Aside0.mk (Kd.C_below HCb.out hb)
      clear hb
      refine hK.out _ _ HH.out (fun hHeld => ?_)
      clear hK K
      refine norm_ (a' := ?_) ?_ ?_
      rotate_left
      · show Act.put _ (some 152) _ = _
        simp only [Act.put, List.setIfInBounds_toArray, List.set_cons_zero, List.set_cons_succ]
        rfl
      refine one_ (i := 12) (N := some 153) #[true, true, true, true, true, true, true, true, true, true, true, true, true, false] rfl rfl (one_of HT_.out (by kernel_rfl)) (by decide) (fun K hK => ?_)
      refine goes_ Tryd.func52 (by kernel_rfl) rfl #[.iface T2 u2] (by rfl) rfl rfl (by (try simp only [List.map_toArray, List.map_cons, List.map_nil]); first | done | rfl) ?_
      refine (HVO.out).mono ?_
      rintro e W6 ⟨rfl, hb⟩
      refine ⟨_, rfl, ?_⟩
      clear HVO
      have HH := Aside0.mk (HH.out.old hb)
      have BM := Aside0.mk (boxed_block BM.out hb)
      have HD := Aside0.mk (HD.out.old hb)
      have HB := Aside0.mk (below_step HB.out hb)
      have HCb := Aside0.mk (Kd.C_below HCb.out hb)
      clear hb
      refine hK.out _ _ HH.out (fun hHeld => ?_)
      clear hK K
      refine norm_ (a' := ?_) ?_ ?_
      rotate_left
      · show Act.put _ (some 153) _ = _
        simp only [Act.put, List.setIfInBounds_toArray, List.set_cons_zero, List.set_cons_succ]
        rfl
      refine last_ (i := 13) (N := some 154) #[true, true, true, true, true, true, true, true, true, true, true, true, true, true] rfl rfl (one_of HT_.out (by kernel_rfl)) (by decide) (fun K hK => ?_)
      refine goes_ Tryd.func51 (by kernel_rfl) rfl #[.agg #[.iface 94 (.pointer (some ⟨p, 0, none⟩)), .string TT], .agg #[.iface T u, .string (strOfNums (tyS (.lone k)))], .agg #[.iface T2 u2, .string (strOfNums (tyS x))]] (by rfl) rfl rfl (by (try simp only [List.map_toArray, List.map_cons, List.map_nil]); first | done | rfl) ?_
      refine (setMap.calls w.heap.size p (strOfNums [k]) (strOfNums (tyS e)) TT _ _ k nn kv vv ks vs T u T2 u2 W6 HD.out HKV.out (by omega)).mono ?_
      rintro e W7 ⟨rfl, hout, hb7, hkeep⟩
      refine ⟨_, rfl, ?_⟩
      have HOUT := Aside0.mk hout
      have HB := Aside0.mk (HB.out.trans hb7)
      have BM := Aside0.mk (hkeep _ _ _ BM.out (by decide) hmp)
      clear hout hb7 hkeep HH HD HCb
      refine hK.out _ _ ?_
      clear hK K
      refine norm_ (a' := ?_) ?_ ?_
      rotate_left
      · show Act.put _ (some 154) _ = _
        simp only [Act.put, List.setIfInBounds_toArray, List.set_cons_zero, List.set_cons_succ]
        rfl
      refine done_ (done_of HT_.out (by kernel_rfl)) ?_
      clear hHeld
      go_wp2_with fail
      go_roundw
      case rel => exact ⟨j + 1, by omega, by go_num, ⟨DmOut.le HOUT.out (by omega)⟩, BM, HB⟩
      case measure => simp [intOf]; omega
    · obtain rfl : v.f3.length = j := by omega
      obtain ⟨nn, kv, vv, ks, vs, hnn, hD⟩ := HO.out
      have HD := Aside0.mk hD
      have m0 : wr.cell? ⟨m6, 0, none⟩ = some (.iface 94 (.pointer (some ⟨p, 0, none⟩))) := (blk_cell BM.out 0).trans rfl
      have m1 : wr.cell? ⟨m6, 1, none⟩ = some (.string TT) := (blk_cell BM.out 1).trans rfl
      clear hD
      go_wp2_with fail
      refine (iface.calls _ _ _).mono ?_
      rintro r w9 ⟨rfl, hb9⟩
      have HD := Aside0.mk (HD.out.old hb9)
      have HB := Aside0.mk (below_step HB.out hb9)
      clear m0 m1 hb9
      go_wp2_with fail
      go_ret
      exact ⟨_, _, rfl, .dict p k e HPW.out ((blk_cell HD.out.blk 0).trans rfl) ((blk_cell HD.out.blk 1).trans rfl), fun k hk => (by cases hk), HB.out⟩
end Go.Proofs.YtnojjfklnihmnaaDoor.Given
end
