/- Part of the proof of LawFnMsName. -/
import Derived.Test.YtldjigfnagfalaaGreatDoorGvKi
set_option linter.unusedVariables false
set_option linter.unusedSimpArgs false
namespace Go.Proofs.YtldjigfnagfalaaGreatDoor.Given
open Go.RowKit Go.Proofs.YtldjigfnagfalaaGreatDoorW.PrintWords Go.Proofs.YtldjigfnagfalaaGreatDoorW.PrintLast Go.Proofs.YtldjigfnagfalaaGreatDoorW.PrintMore
set_option linter.unusedVariables false
def FB (F : List (Nat × HV)) (k : Nat) : List (Nat × HV) := F.filter fun x => decide (x.1 < k)
abbrev msgCells (t r s : Nat) : Obj := .cells #[.int .u8 t, .int .u8 0, .map (some r), .slice none 0 0, .int .u32 s] 109
theorem eq_97_97 (W : World) : (binOp .eql 73 (.iface 97 (.agg #[])) (.iface 97 (.agg #[]))).run Tryz.prog W = .ok (.bool true) W := by kernel_rfl
theorem eq_96_97 (W : World) : (binOp .eql 73 (.iface 96 (.agg #[])) (.iface 97 (.agg #[]))).run Tryz.prog W = .ok (.bool false) W := by kernel_rfl
theorem eq_96_96 (W : World) : (binOp .eql 73 (.iface 96 (.agg #[])) (.iface 96 (.agg #[]))).run Tryz.prog W = .ok (.bool true) W := by kernel_rfl
def msgBytes (big : Bool) (t s : Nat) (F : List (Nat × HV)) : List UInt8 := let q := 16 + (hdrBytes big (F.map hf)).length; headBytes big (if big then 66 else 108) t 0 s ++ cntBytes big (hdrBytes big (F.map hf)).length ++ hdrBytes big (F.map hf) ++ List.replicate (pd 8 q) 0
theorem sl168 (g : Nat) (W : World) : (Instr.sliceAt 168 (.pointer (some ⟨g, 0, none⟩)) none none none).run Tryz.prog W = .ok (.slice (some ⟨g, 0, none⟩) 7 7) W := by kernel_rfl
attribute [local go_sem] sl168 mk0 eq_97_97 eq_96_97 eq_96_96
def f40_28.T : Bool × List (List Nat × List Nat) := (true, [([], []), ([], []), ([1], [1]), ([2], [2]), ([3], [3]), ([], []), ([5], [5]), ([], []), ([7], [7]), ([6, 8], [6, 8]), ([9], [9]), ([10], [10]), ([11], [11]), ([4, 12], [4, 12]), ([0, 0, 1, 2, 3, 4, 5, 6, 7, 8, 9, 10, 11, 12, 13], [0]), ([14, 0, 1, 2, 3, 4, 5, 6, 7, 8, 9, 10, 11, 12, 13], [14]), ([15, 13, 13, 0, 1, 2, 3, 4, 5, 6, 7, 8, 9, 10, 11, 12, 13], [13, 15])])
def f40_28.B : List Nat := [0, 0, 2, 6, 14, 0, 32, 0, 128, 480, 992, 2016, 4064, 8190, 16383, 32767, 65535]
theorem f40_28.tab : rtab .any (opsOf Tryz.f40 28) = f40_28.T := by kernel_rfl
theorem f40_28.bits : waitsOk f40_28.T.2 f40_28.B = true := by kernel_rfl
theorem Kids.set {w : World} {base : Nat} {v : Value} {xs : List (TypeId × Value)} {L : List (Nat × HV)} (h : Kids w base v xs L) {p : Nat} {cs : Array Value} {T : TypeId} (hT : T ≠ 20) (hp : w.heap[p]? = some (.cells cs T)) (j : Nat) (u : Value) : Kids (w.setCell ⟨p, j, none⟩ u) base v xs L :=
  ⟨Kd.R_set h.own hp (by intro q_ hq_; simp [Kd.scalar] at hq_; subst hq_; first | exact hT | exact Ne.symm hT) j u, h.len, fun i x hi => by
    obtain ⟨gr, c, h1, h2, h3⟩ := h.recs i x hi
    refine ⟨gr, c, h1, (Below.heap_setCell _ _ _ _ ?_).trans h2, h3⟩
    rintro rfl
    have := hp.symm.trans h2; simp at this; exact hT this.2⟩
theorem al4 (w1 : World) (o1 o2 o3 o4 : Obj) (w2 : World) (h : w2 = (((w1.alloc o1).alloc o2).alloc o3).alloc o4) : w2.heap[w1.heap.size]? = some o1 ∧ w2.heap[w1.heap.size + 1]? = some o2 ∧ w2.heap[w1.heap.size + 3]? = some o4 ∧ Below w1.heap.size w1 w2 ∧ w2.heap.size = w1.heap.size + 4 := by
  subst h
  have s1 : (w1.alloc o1).heap.size = w1.heap.size + 1 := by simp
  have s2 : ((w1.alloc o1).alloc o2).heap.size = w1.heap.size + 2 := by simp
  have s3 : (((w1.alloc o1).alloc o2).alloc o3).heap.size = w1.heap.size + 3 := by simp
  refine ⟨?_, ?_, ?_, below_alloc (below_alloc (below_alloc (below_alloc (Below.refl _ _) _) _) _) _, by simp⟩
  · rw [Below.heap_alloc _ _ _ (by omega), Below.heap_alloc _ _ _ (by omega), Below.heap_alloc _ _ _ (by omega)]; exact heap_alloc_new w1 o1
  · rw [Below.heap_alloc _ _ _ (by omega), Below.heap_alloc _ _ _ (by omega)]
    have := heap_alloc_new (w1.alloc o1) o2
    rwa [s1] at this
  · have := heap_alloc_new (((w1.alloc o1).alloc o2).alloc o3) o4
    rwa [s3] at this
theorem vs_cells {W : World} {x : Nat} {cs : Array Value} {T : TypeId} (h : W.heap[x]? = some (.cells cs T)) (i : Nat) (v : Value) (hv : cs[i]? = some v) : W.cell? ⟨x, i, none⟩ = some v ∧ W.frozen? ⟨x, i, none⟩ = false := ⟨by rw [Lib.cell_of_heap h]; exact hv, Lib.frozen_of_heap h i⟩
theorem info20k : (Tryz.prog.info? 20).map (fun i => (i.zero, i.size, i.bytes)) = some (some .nilIface, 1, 16) := by kernel_rfl
def letter (big : Bool) : Nat := if big then 66 else 108
set_option maxHeartbeats 32000000 in
set_option maxRecDepth 100000 in
theorem encodeTo (big : Bool) (t s : Nat) (ht : t < 256) (hs : s < 4294967296) (F : List (Nat × HV)) (hF : ∀ k, k < 10 → (∃ v, (k, v) ∈ F ∧ (∀ v', (k, v') ∈ F → v' = v) ∧ FB F (k + 1) = FB F k ++ [(k, v)]) ∨ ((∀ v, (k, v) ∉ F) ∧ FB F (k + 1) = FB F k)) (hF0 : FB F 0 = []) (hF10 : FB F 10 = F) (hFn : F ≠ []) (hFl : F.length ≤ 10) (hok : ∀ x ∈ F, (hf x).Ok) (m r ob B : Nat)
    (hV : ∀ w, w.heap[m]? = some (msgCells t r s) → MapIs w r F → Calls Tryz.prog 77 #[.pointer (some ⟨m, 0, none⟩)] w fun e w' => e = .returned .nilIface ∧ Below w.heap.size w w')
    (w : World) (hm : w.heap[m]? = some (msgCells t r s)) (hr : MapIs w r F) (hO : Lib.IsBuffer 68 5 B ob [] w) (hBw : B ≤ w.heap.size) :
    Calls Tryz.prog 40 #[.pointer (some ⟨m, 0, none⟩), .iface 71 (.pointer (some ⟨ob, 0, none⟩)), .iface (ordOf big) (.agg #[])] w fun e w' => ∃ v, e = .returned (.tuple #[v, .nilIface]) ∧ Lib.IsBuffer 68 5 B ob (Lib.byteCells (msgBytes big t s F)) w' ∧ Below B w w' := by
  have hlm := Lib.lt_of_heap hm
  have hlr := hr.lt
  have HV := Aside0.mk (hV w hm hr)
  have HF := Aside0.mk hF
  have HOK := Aside0.mk hok
  have HO := Aside0.mk hO
  have HFN := Aside0.mk hFn
  clear hV hF hok hO hFn
  go_enter Tryz.func40, Tryz.ntmps40
  go_wp2_with fail
  refine (HV.out).mono ?_
  rintro e w1 ⟨rfl, hb1⟩
  have HM := Aside0.mk (boxed_block hm hb1)
  have HR := Aside0.mk (hr.old (hb1.block r hlr))
  have HO := Aside0.mk (HO.out.old hb1)
  have HB1 := Aside0.mk hb1
  have hz1 := hb1.size
  clear HV hm hr hb1
  cases big
  · have ho : ordOf false = 97 := rfl
    rw [ho]
    go_wp2_with fail
    refine (newEnc0 _ _ _ _ _ _).mono ?_
    rintro e w2 ⟨he, hw2⟩
    have he' : e = .returned (.pointer (some ⟨w1.heap.size + 3, 0, none⟩)) := by rw [he]; simp
    subst he'
    obtain ⟨hva, hbo, hen, hb2, hz2⟩ := al4 w1 _ _ _ _ w2 hw2
    have HVA := Aside0.mk hva
    have HBO := Aside0.mk hbo
    have HEN := Aside0.mk hen
    have HB2 := Aside0.mk hb2
    have HM := Aside0.mk (boxed_block HM.out hb2)
    have HB2r := Aside0.mk (hb2.block r HR.out.lt)
    have HR := Aside0.mk (HR.out.old (hb2.block r HR.out.lt))
    have hlm1 : m < w1.heap.size := by omega
    have hlr1 : r < w1.heap.size := by omega
    clear he hw2 hva hbo hen hb2
    obtain ⟨c0, -⟩ := vs_cells HM.out 0 _ rfl
    obtain ⟨c1, -⟩ := vs_cells HM.out 1 _ rfl
    obtain ⟨c2, -⟩ := vs_cells HM.out 2 _ rfl
    obtain ⟨c3, -⟩ := vs_cells HM.out 3 _ rfl
    obtain ⟨c4, -⟩ := vs_cells HM.out 4 _ rfl
    obtain ⟨v1, f1⟩ := vs_cells HVA.out 1 _ rfl
    obtain ⟨v2, f2⟩ := vs_cells HVA.out 2 _ rfl
    obtain ⟨v3, f3⟩ := vs_cells HVA.out 3 _ rfl
    have hmn : m ≠ w1.heap.size := by omega
    go_wp2_with fail
    obtain ⟨w3, hw3⟩ : ∃ w3, ((w2.setCell ⟨w1.heap.size, 1, none⟩ (.iface 105 (.int .u8 t))).setCell ⟨w1.heap.size, 2, none⟩ (.iface 106 (.int .u8 0))).setCell ⟨w1.heap.size, 3, none⟩ (.iface 5 (.int .u8 1)) = w3 := ⟨_, rfl⟩
    rw [hw3]
    have hva3 : w3.heap[w1.heap.size]? = some (.cells #[.iface 5 (.int .u8 108), .iface 105 (.int .u8 t), .iface 106 (.int .u8 0), .iface 5 (.int .u8 1), .nilIface, .nilIface, .nilIface] 168) := by
      rw [← hw3]
      exact Lib.heap_setCell_same (i := 3) (Lib.heap_setCell_same (i := 2) (Lib.heap_setCell_same (i := 1) HVA.out _) _) _
    have hk3 : ∀ x, x ≠ w1.heap.size → w3.heap[x]? = w2.heap[x]? := fun x hx => by rw [← hw3, Below.heap_setCell _ _ _ _ hx, Below.heap_setCell _ _ _ _ hx, Below.heap_setCell _ _ _ _ hx]
    have hb3 : Below w1.heap.size w2 w3 := by
      rw [← hw3]
      exact ((((Below.refl w1.heap.size w2).setCell (p := ⟨w1.heap.size, 1, none⟩) (Nat.le_refl _) _).setCell (p := ⟨w1.heap.size, 2, none⟩) (Nat.le_refl _) _).setCell (p := ⟨w1.heap.size, 3, none⟩) (Nat.le_refl _) _)
    have hz3 : w3.heap.size = w1.heap.size + 4 := by rw [← hw3, size_setCell, size_setCell, size_setCell]; exact hz2
    clear hw3 c0 c1 c2 c3 c4 v1 f1 v2 f2 v3 f3
    refine (bytes0 _ _ ((hk3 _ (by omega)).trans HBO.out)).mono ?_
    rintro e w4 ⟨⟨cc, rfl⟩, m4, hw4⟩
    have hx4 : w4.heap = w3.heap := by rw [hw4]; rfl
    have HVA := Aside0.mk (by rw [← hx4] at hva3; exact hva3)
    have HBO : Aside0 (w4.heap[w1.heap.size + 1]? = some (.cells #[.slice none 0 0, .int .i64 0, .int .i8 0] 68)) := ⟨by rw [hx4]; exact (hk3 _ (by omega)).trans HBO.out⟩
    have HEN : Aside0 (w4.heap[w1.heap.size + 3]? = some (efCells (w1.heap.size + 1) 97 (.slice (some ⟨w1.heap.size + 1 + 1, 0, none⟩) 0 0) 0)) := ⟨by rw [hx4]; exact (hk3 _ (by omega)).trans HEN.out⟩
    have HM : Aside0 (w4.heap[m]? = some (msgCells t r s)) := ⟨by rw [hx4]; exact (hk3 m hmn).trans HM.out⟩
    have HB4 : Aside0 (Below w1.heap.size w1 w4) := ⟨hw4 ▸ below_drewN (HB2.out.trans hb3) m4⟩
    have hz4 : w4.heap.size = w1.heap.size + 4 := by rw [hx4]; exact hz3
    clear hva3 hk3 hb3 hz3 hw4 hx4 HB2
    obtain ⟨c4, -⟩ := vs_cells HM.out 4 _ rfl
    obtain ⟨v4, f4⟩ := vs_cells HVA.out 4 _ rfl
    obtain ⟨v5, f5⟩ := vs_cells HVA.out 5 _ rfl
    go_wp2_with fail
    obtain ⟨n, hn⟩ : ∃ n, w1.heap.size = n := ⟨_, rfl⟩
    rw [hn] at HVA HBO HEN HB4 hz4 hlm1 hlr1 hmn hz1 ⊢
    obtain ⟨w5, hw5⟩ : ∃ w5, (w4.setCell ⟨n, 4, none⟩ (.iface 36 (.int .u32 0))).setCell ⟨n, 5, none⟩ (.iface 36 (.int .u32 s)) = w5 := ⟨_, rfl⟩
    have hva5 : w5.heap[n]? = some (.cells #[.iface 5 (.int .u8 108), .iface 105 (.int .u8 t), .iface 106 (.int .u8 0), .iface 5 (.int .u8 1), .iface 36 (.int .u32 0), .iface 36 (.int .u32 s), .nilIface] 168) := by
      rw [← hw5]
      exact Lib.heap_setCell_same (i := 5) (Lib.heap_setCell_same (i := 4) HVA.out _) _
    have hk5 : ∀ x, x ≠ n → w5.heap[x]? = w4.heap[x]? := fun x hx => by rw [← hw5, Below.heap_setCell _ _ _ _ hx, Below.heap_setCell _ _ _ _ hx]
    have hb5 : Below n w1 w5 := by
      rw [← hw5]
      exact (HB4.out.setCell (p := ⟨n, 4, none⟩) (Nat.le_refl _) _).setCell (p := ⟨n, 5, none⟩) (Nat.le_refl _) _
    have hz5 : w5.heap.size = n + 4 := by rw [← hw5, size_setCell, size_setCell]; exact hz4
    have HVA := Aside0.mk hva5
    have HBO := Aside0.mk ((hk5 _ (by omega)).trans HBO.out)
    have HEN := Aside0.mk ((hk5 _ (by omega)).trans HEN.out)
    have HM := Aside0.mk ((hk5 m hmn).trans HM.out)
    have HB5 := Aside0.mk hb5
    have HR5 : Aside0 (MapIs w5 r F) := ⟨HR.out.old (by rw [hb5.block r hlr1]; exact (HB2r.out).symm)⟩
    clear hva5 hk5 hb5 c4 v4 f4 v5 f5 HB4 hz4
    rw [hw5]
    clear hw5
    go_loopw [13] (fun i wr => ∃ k : Nat, k ≤ 10 ∧ i = .int .u8 k ∧ ∃ v xs, Aside0 (wr.heap[n + 4]? = some (.cells #[.string ⟨#[40, 121, 118, 41]⟩, v] 164)) ∧ Aside0 (Kids wr (n + 4) v xs (FB F k)) ∧ Aside0 (Below (n + 4) w5 wr)) (fun i _ => 10 - (intOf i).toNat)
    case atStart =>
      refine ⟨0, by omega, rfl, .slice none 0 0, [], ⟨?_⟩, ⟨?_⟩, ⟨?_⟩⟩
      · have := heap_alloc_new w5 (.cells #[.string ⟨#[40, 121, 118, 41]⟩, .slice none 0 0] 164)
        rwa [hz5] at this
      · rw [hF0]; exact Kids.nil _ _
      · exact (Below.refl _ w5).alloc (by omega) _
    case round =>
      obtain ⟨k, hk, rfl, v, xs, BKP, KI, HB⟩ := hrel
      have hzr : n + 4 < wr.heap.size := Lib.lt_of_heap BKP.out
      have hmr : wr.heap[m]? = some (msgCells t r s) := (HB.out.block m (by omega)).trans HM.out
      obtain ⟨c2, -⟩ := vs_cells hmr 2 _ rfl
      have hrr : MapIs wr r F := HR5.out.old (HB.out.block r (by omega))
      by_cases hlt : k < 10
      · have hlt2 : (k : Int) < 10 := by omega
        have hwk : IntKind.u8.wrap ((k : Int) + 1) = ((k + 1 : Nat) : Int) := by unfold IntKind.wrap; simp [IntKind.signed, IntKind.bits]; omega
        rcases HF.out k hlt with ⟨v', hmem, hd, hfb⟩ | ⟨hno, hfb⟩
        · have hlk := hrr.lookup_some k v' hmem hd k rfl
          rw [show v'.cell = .agg #[.string v'.sig, .iface v'.T v'.y] from rfl] at hlk
          have HFB := Aside0.mk hfb
          clear hmem hd hfb hrr hmr
          go_wp2_with fail
          obtain ⟨q, hq⟩ : ∃ q, wr.heap.size = q := ⟨_, rfl⟩
          have BKQ : Aside0 ((wr.alloc (.cells #[.string v'.sig, .iface v'.T v'.y] 113)).heap[q]? = some (.cells #[.string v'.sig, .iface v'.T v'.y] 113)) := ⟨by rw [← hq]; exact heap_alloc_new _ _⟩
          have hbn : Below wr.heap.size wr (wr.alloc (.cells #[.string v'.sig, .iface v'.T v'.y] 113)) := (Below.refl _ wr).alloc (Nat.le_refl _) _
          have BKP := Aside0.mk (boxed_block BKP.out hbn)
          have KI := Aside0.mk (KI.out.below hbn)
          have HB : Aside0 (Below (n + 4) w5 (wr.alloc (.cells #[.string v'.sig, .iface v'.T v'.y] 113))) := ⟨HB.out.trans (hbn.mono (by omega))⟩
          clear hbn
          rw [hq]
          obtain ⟨W1, hW1⟩ : ∃ W1, wr.alloc (.cells #[.string v'.sig, .iface v'.T v'.y] 113) = W1 := ⟨_, rfl⟩
          rw [hW1] at BKQ BKP KI HB ⊢
          clear hW1
          refine start_ (n := 17) (S := fun w' => w'.cell? ⟨n + 4, 1, none⟩ = some v ∧ w'.cell? ⟨q, 0, none⟩ = some (.string v'.sig) ∧ w'.cell? ⟨q, 1, none⟩ = some (.iface v'.T v'.y)) (ds := [16]) #[false, false, false, false, false, false, false, false, false, false, false, false, false, false, false, false, false] (by kernel_rfl) rfl rfl ⟨(blk_cell BKP.out 1).trans rfl, (blk_cell BKQ.out 0).trans rfl, (blk_cell BKQ.out 1).trans rfl⟩ (fun hHeld => ?_)
          refine with_tabW f40_28.tab f40_28.bits (fun HT_ HW_ => ?_)
          have BKP := Aside0.mk (blk_drew BKP.out)
          have BKQ := Aside0.mk (blk_drew BKQ.out)
          have KI := Aside0.mk (KI.out.below (Below.refl _ W1).drew)
          have HB := Aside0.mk HB.out.drew
          have hzq : q < W1.drew.heap.size := Lib.lt_of_heap BKQ.out
          have hzp : n + 4 < W1.drew.heap.size := Lib.lt_of_heap BKP.out
          generalize W1.drew = W2 at BKP BKQ KI HB hzq hzp hHeld ⊢
          refine pure_ (i := 0) (N := some 103) (v := ?_) (a' := ?_) #[true, false, false, false, false, false, false, false, false, false, false, false, false, false, false, false, false] rfl rfl (any_of HT_.out (by kernel_rfl)) (fun _ _ _ h => h) (Or.inl ⟨by rfl, ?_⟩) ?_ ?_
          rotate_left
          · intro w'
            go_simp
            with_reducible rfl
          rotate_left
          · simp only [Act.put, List.setIfInBounds_toArray, List.set_cons_zero, List.set_cons_succ]
            rfl
          refine pure_ (i := 1) (N := some 104) (v := ?_) (a' := ?_) #[true, true, false, false, false, false, false, false, false, false, false, false, false, false, false, false, false] rfl rfl (any_of HT_.out (by kernel_rfl)) (fun _ _ _ h => h) (Or.inl ⟨by rfl, ?_⟩) ?_ ?_
          rotate_left
          · intro w'
            go_simp
            with_reducible rfl
          rotate_left
          · simp only [Act.put, List.setIfInBounds_toArray, List.set_cons_zero, List.set_cons_succ]
            rfl
          refine pure_ (i := 2) (N := some 105) (v := ?_) (a' := ?_) #[true, true, true, false, false, false, false, false, false, false, false, false, false, false, false, false, false] rfl rfl (any_of HT_.out (by kernel_rfl)) (fun _ _ _ h => h) (Or.inl ⟨by rfl, ?_⟩) ?_ ?_
          rotate_left
          · intro w'
            go_simp
            with_reducible rfl
          rotate_left
          · simp only [Act.put, List.setIfInBounds_toArray, List.set_cons_zero, List.set_cons_succ]
            rfl
          refine pure_ (i := 3) (N := some 106) (v := ?_) (a' := ?_) #[true, true, true, true, false, false, false, false, false, false, false, false, false, false, false, false, false] rfl rfl (any_of HT_.out (by kernel_rfl)) (fun _ _ _ h => h) (Or.inl ⟨by rfl, ?_⟩) ?_ ?_
          rotate_left
          · intro w'
            go_simp
            with_reducible rfl
          rotate_left
          · simp only [Act.put, List.setIfInBounds_toArray, List.set_cons_zero, List.set_cons_succ]
            rfl
          refine take_ (i := 4) (N := some 107) (v := ?_) (a' := ?_) #[true, true, true, true, true, false, false, false, false, false, false, false, false, false, false, false, false] rfl rfl (take_ofW HT_.out HW_.out (by kernel_rfl)) (fun _ _ _ h => h) (Or.inl ⟨by rfl, ?_⟩) hHeld ?_ ?_
          rotate_left
          · rintro w' ⟨s0, s1, s2⟩
            go_simp
            with_reducible rfl
          rotate_left
          · simp only [Act.put, List.setIfInBounds_toArray, List.set_cons_zero, List.set_cons_succ]
            rfl
          refine pure_ (i := 5) (N := some 108) (v := ?_) (a' := ?_) #[true, true, true, true, true, true, false, false, false, false, false, false, false, false, false, false, false] rfl rfl (any_of HT_.out (by kernel_rfl)) (fun _ _ _ h => h) (Or.inl ⟨by rfl, ?_⟩) ?_ ?_
          rotate_left
          · intro w'
            go_simp
            with_reducible rfl
          rotate_left
          · simp only [Act.put, List.setIfInBounds_toArray, List.set_cons_zero, List.set_cons_succ]
            rfl
          refine pure_ (i := 6) (N := some 109) (v := ?_) (a' := ?_) #[true, true, true, true, true, true, true, false, false, false, false, false, false, false, false, false, false] rfl rfl (any_of HT_.out (by kernel_rfl)) (fun _ _ _ h => h) (Or.inl ⟨by rfl, ?_⟩) ?_ ?_
          rotate_left
          · intro w'
            go_simp
            with_reducible rfl
          rotate_left
          · simp only [Act.put, List.setIfInBounds_toArray, List.set_cons_zero, List.set_cons_succ]
            rfl
          refine take_ (i := 7) (N := some 110) (v := ?_) (a' := ?_) #[true, true, true, true, true, true, true, true, false, false, false, false, false, false, false, false, false] rfl rfl (take_ofW HT_.out HW_.out (by kernel_rfl)) (fun _ _ _ h => h) (Or.inl ⟨by rfl, ?_⟩) hHeld ?_ ?_
          rotate_left
          · rintro w' ⟨s0, s1, s2⟩
            go_simp
            with_reducible rfl
          rotate_left
          · simp only [Act.put, List.setIfInBounds_toArray, List.set_cons_zero, List.set_cons_succ]
            rfl
          refine pure_ (i := 8) (N := some 111) (v := ?_) (a' := ?_) #[true, true, true, true, true, true, true, true, true, false, false, false, false, false, false, false, false] rfl rfl (any_of HT_.out (by kernel_rfl)) (fun _ _ _ h => h) (Or.inl ⟨by rfl, ?_⟩) ?_ ?_
          rotate_left
          · intro w'
            go_simp
            with_reducible rfl
          rotate_left
          · simp only [Act.put, List.setIfInBounds_toArray, List.set_cons_zero, List.set_cons_succ]
            rfl
          refine one_ (i := 9) (N := some 112) #[true, true, true, true, true, true, true, true, true, true, false, false, false, false, false, false, false] rfl rfl (one_of HT_.out (by kernel_rfl)) (by decide) (fun K hK => ?_)
          refine value_ (w1 := ?_) (v := ?_) (by rfl) rfl ?_ ?_
          rotate_left 2
          · go_simp
            constructor
            · rfl
            · rfl
          refine hK.out _ _ ⟨(blk_cell (blk_alloc BKP.out _) 1).trans rfl, (blk_cell (blk_alloc BKQ.out _) 0).trans rfl, (blk_cell (blk_alloc BKQ.out _) 1).trans rfl⟩ (fun hHeld => ?_)
          clear hK K
          refine norm_ (a' := ?_) ?_ ?_
          rotate_left
          · show Act.put _ (some 112) _ = _
            simp only [Act.put, List.setIfInBounds_toArray, List.set_cons_zero, List.set_cons_succ]
            rfl
          have hbn : Below W2.heap.size W2 (W2.alloc (.cells #[.iface 5 (.int .u8 (k : Int)), .iface 113 (.agg #[.string v'.sig, .iface v'.T v'.y])] 20)) := (Below.refl _ W2).alloc (Nat.le_refl _) _
          have BKP := Aside0.mk (boxed_block BKP.out hbn)
          have BKQ := Aside0.mk (boxed_block BKQ.out hbn)
          have hgne : some W2.heap.size ≠ v.ownBlock := by
            intro h
            have := (Kd.R_bound KI.out.own).1 _ h.symm
            omega
          have KI := Aside0.mk (KI.out.below hbn)
          have HB : Aside0 (Below (n + 4) w5 (W2.alloc (.cells #[.iface 5 (.int .u8 (k : Int)), .iface 113 (.agg #[.string v'.sig, .iface v'.T v'.y])] 20))) := ⟨HB.out.trans (hbn.mono (by omega))⟩
          have HGR : Aside0 ((W2.alloc (.cells #[.iface 5 (.int .u8 (k : Int)), .iface 113 (.agg #[.string v'.sig, .iface v'.T v'.y])] 20)).heap[W2.heap.size]? = some (.cells #[.iface 5 (.int .u8 (k : Int)), .iface 113 (.agg #[.string v'.sig, .iface v'.T v'.y])] 20)) := ⟨heap_alloc_new W2 _⟩
          clear hbn
          obtain ⟨gr, hgr⟩ : ∃ gr, W2.heap.size = gr := ⟨_, rfl⟩
          obtain ⟨W3, hW3⟩ : ∃ W3, W2.alloc (.cells #[.iface 5 (.int .u8 (k : Int)), .iface 113 (.agg #[.string v'.sig, .iface v'.T v'.y])] 20) = W3 := ⟨_, rfl⟩
          rw [hgr] at hgne HGR ⊢
          rw [hW3] at BKP BKQ KI HB HGR ⊢
          clear hW3 hzq hzp
          refine pure_ (i := 10) (N := some 113) (v := ?_) (a' := ?_) #[true, true, true, true, true, true, true, true, true, true, true, false, false, false, false, false, false] rfl rfl (any_of HT_.out (by kernel_rfl)) (fun _ _ _ h => h) (Or.inl ⟨by rfl, ?_⟩) ?_ ?_
          rotate_left
          · intro w'
            go_simp
            with_reducible rfl
          rotate_left
          · simp only [Act.put, List.setIfInBounds_toArray, List.set_cons_zero, List.set_cons_succ]
            rfl
          refine pure_ (i := 11) (N := some 114) (v := ?_) (a' := ?_) #[true, true, true, true, true, true, true, true, true, true, true, true, false, false, false, false, false] rfl rfl (any_of HT_.out (by kernel_rfl)) (fun _ _ _ h => h) (Or.inl ⟨by rfl, ?_⟩) ?_ ?_
          rotate_left
          · intro w'
            go_simp
            with_reducible rfl
          rotate_left
          · simp only [Act.put, List.setIfInBounds_toArray, List.set_cons_zero, List.set_cons_succ]
            rfl
          refine one_ (i := 12) (N := some 115) #[true, true, true, true, true, true, true, true, true, true, true, true, true, false, false, false, false] rfl rfl (one_of HT_.out (by kernel_rfl)) (by decide) (fun K hK => ?_)
          refine value_ (w1 := ?_) (v := ?_) (by rfl) rfl ?_ ?_
          rotate_left 2
          · go_simp
            constructor
            · rfl
            · rfl
          refine hK.out _ _ ⟨(blk_cell (blk_alloc BKP.out _) 1).trans rfl, (blk_cell (blk_alloc BKQ.out _) 0).trans rfl, (blk_cell (blk_alloc BKQ.out _) 1).trans rfl⟩ (fun hHeld => ?_)
          clear hK K
          refine norm_ (a' := ?_) ?_ ?_
          rotate_left
          · show Act.put _ (some 115) _ = _
            simp only [Act.put, List.setIfInBounds_toArray, List.set_cons_zero, List.set_cons_succ]
            rfl
          refine one_ (i := 13) (N := some 116) #[true, true, true, true, true, true, true, true, true, true, true, true, true, true, false, false, false] rfl rfl (one_of HT_.out (by kernel_rfl)) (by decide) (fun K hK => ?_)
          refine Kd.R_append_step (Kd.scalar ifv ifv_one) (w0 := w5) (n + 4) (by rfl) (.tmp 107) (.tmp 115) 76 20 .nilIface 16 rfl Tryz.underlying76 info20k rfl (show 0 < 1 by decide) (by omega) v xs (158, .agg #[.slice (some ⟨gr, 0, none⟩) 2 2]) [.iface 158 (.agg #[.slice (some ⟨gr, 0, none⟩) 2 2])] (fun _ => True) (fun k_ => True ∧ some k_ ≠ (v : Value).ownBlock) rfl rfl rfl (fun _ hk => hk) (fun _ _ => trivial) KI.out.own HB.out (by have := Lib.lt_of_heap BKP.out; omega) ?aL ?_
          case aL => have h1_ := KI.out.len; have h2_ := List.length_filter_le (fun x : Nat × HV => decide (x.1 < k)) F; unfold FB at h1_; omega
          intro v4 W4 ho hb hg hat
          have BKP4 := Aside0.mk (blk_grown BKP.out hg (Kd.R_ne KI.out.own BKP.out (by decide)))
          have BKQ4 := Aside0.mk (blk_grown BKQ.out hg (Kd.R_ne KI.out.own BKQ.out (by decide)))
          have KI4 := Aside0.mk (KI.out.push (k, v') gr 2 HGR.out hgne ho hg hat)
          have HB4 := Aside0.mk hb
          clear ho hb hg hat BKP BKQ KI HB HGR
          obtain ⟨Ao4, co4, eo4⟩ := Kd.R_slice KI4.out.own
          obtain ⟨ln4, hln4⟩ : ∃ x, (xs ++ [((158 : TypeId), Value.agg #[.slice (some ⟨gr, 0, none⟩) 2 2])]).length = x := ⟨_, rfl⟩
          rw [hln4] at eo4
          subst eo4
          refine hK.out _ _ ⟨(blk_cell BKP4.out 1).trans rfl, (blk_cell BKQ4.out 0).trans rfl, (blk_cell BKQ4.out 1).trans rfl⟩ (fun hHeld => ?_)
          clear hK K
          refine norm_ (a' := ?_) ?_ ?_
          rotate_left
          · show Act.put _ (some 116) _ = _
            simp only [Act.put, List.setIfInBounds_toArray, List.set_cons_zero, List.set_cons_succ]
            rfl
          refine pure_ (i := 14) (N := some 117) (v := ?_) (a' := ?_) #[true, true, true, true, true, true, true, true, true, true, true, true, true, true, true, false, false] rfl rfl (any_of HT_.out (by kernel_rfl)) (fun _ _ _ h => h) (Or.inl ⟨by rfl, ?_⟩) ?_ ?_
          rotate_left
          · intro w'
            go_simp
            with_reducible rfl
          rotate_left
          · simp only [Act.put, List.setIfInBounds_toArray, List.set_cons_zero, List.set_cons_succ]
            rfl
          refine pure_ (i := 15) (N := some 118) (v := ?_) (a' := ?_) #[true, true, true, true, true, true, true, true, true, true, true, true, true, true, true, true, false] rfl rfl (any_of HT_.out (by kernel_rfl)) (fun _ _ _ h => h) (Or.inl ⟨by rfl, ?_⟩) ?_ ?_
          rotate_left
          · intro w'
            go_simp
            with_reducible rfl
          rotate_left
          · simp only [Act.put, List.setIfInBounds_toArray, List.set_cons_zero, List.set_cons_succ]
            rfl
          refine last_ (i := 16) (N := none) #[true, true, true, true, true, true, true, true, true, true, true, true, true, true, true, true, true] rfl rfl (one_of HT_.out (by kernel_rfl)) (by decide) (fun K hK => ?_)
          have hs4 : W4.cell? ⟨n + 4, 1, none⟩ = some v := (blk_cell BKP4.out 1).trans rfl
          have hf4 := blk_frozen BKP4.out 1
          refine skip_ (w1 := ?_) (by rfl) rfl ?_ ?_
          rotate_left
          · go_simp
            rfl
          refine hK.out _ _ ?_
          clear hK K
          refine done_ (done_of HT_.out (by kernel_rfl)) ?_
          have BKP5 := Aside0.mk (Lib.heap_setCell_same (i := 1) BKP4.out (.slice Ao4 ln4 co4))
          have KI5 := Aside0.mk (KI4.out.set (show (164 : TypeId) ≠ 20 by decide) BKP4.out 1 (.slice Ao4 ln4 co4))
          have HB5 := Aside0.mk (HB4.out.setCell (p := ⟨n + 4, 1, none⟩) (Nat.le_refl _) (.slice Ao4 ln4 co4))
          clear hs4 hf4 BKP4 BKQ4 KI4 HB4
          go_wp2_with fail
          go_roundw
          case rel => exact ⟨k + 1, by omega, by first | rfl | (congr 1), .slice Ao4 ln4 co4, _, BKP5, ⟨by rw [HFB.out]; exact KI5.out⟩, HB5⟩
          case measure => simp [intOf]; omega
        · have hlk := hrr.lookup_none k hno k rfl
          have HFB := Aside0.mk hfb
          clear hno hfb hrr hmr
          go_wp2_with fail
          go_roundw
          case rel => exact ⟨k + 1, by omega, by first | rfl | (congr 1), v, xs, ⟨boxed_block BKP.out ((Below.refl _ wr).alloc (Nat.le_refl _) _)⟩, ⟨by rw [HFB.out]; exact KI.out.below ((Below.refl _ wr).alloc (Nat.le_refl _) _)⟩, ⟨HB.out.alloc (by omega) _⟩⟩
          case measure => simp [intOf]; omega
      · obtain rfl : k = 10 := by omega
        have hvar := (HB.out.block n (by omega)).trans HVA.out
        have henr := (HB.out.block (n + 3) (by omega)).trans HEN.out
        obtain ⟨v6, f6⟩ := vs_cells hvar 6 _ rfl
        obtain ⟨-, e1, -, -, -, -⟩ := ef_cells henr
        have hne3 : n ≠ n + 3 := by omega
        have hz33 : n + 3 < wr.heap.size := by omega
        clear hmr c2 hrr e1 henr
        obtain ⟨-, e1, -, -, -, -⟩ := ef_cells ((HB.out.block (n + 3) (by omega)).trans HEN.out)
        go_wp2_with fail
        refine (newEnc0 _ _ _ _ _ _).mono ?_
        rintro e w8 ⟨he, hw8⟩
        obtain ⟨b, hb⟩ : ∃ b, wr.heap.size = b := ⟨_, rfl⟩
        rw [hb] at hw8 hzr hz33 ⊢
        have he' : e = .returned (.pointer (some ⟨b + 1, 0, none⟩)) := by rw [he, ← hb]; simp [World.setCell]
        subst he'
        obtain ⟨w6, hw6⟩ : ∃ w6, wr.setCell ⟨n, 6, none⟩ (.iface 162 (.pointer (some ⟨n + 4, 0, none⟩))) = w6 := ⟨_, rfl⟩
        rw [hw6] at hw8
        have hz6 : w6.heap.size = b := by rw [← hw6, size_setCell]; exact hb
        have hva6 : w6.heap[n]? = some (.cells (vals7 108 t 0 s (n + 4)) 168) := by rw [← hw6]; exact Lib.heap_setCell_same (i := 6) hvar _
        have hk6 : ∀ x, x ≠ n → w6.heap[x]? = wr.heap[x]? := fun x hx => by rw [← hw6]; exact Below.heap_setCell _ _ _ _ hx
        have KI6 := KI.out.set (show (168 : TypeId) ≠ 20 by decide) hvar 6 (.iface 162 (.pointer (some ⟨n + 4, 0, none⟩)))
        rw [hw6, hF10] at KI6
        have hb6 : Below n w1 w6 := by
          rw [← hw6]
          exact (HB5.out.trans (HB.out.mono (by omega))).setCell (p := ⟨n, 6, none⟩) (Nat.le_refl _) _
        have hp6 : w6.heap[n + 4]? = some (.cells #[.string ⟨#[40, 121, 118, 41]⟩, v] 164) := (hk6 _ (by omega)).trans BKP.out
        have hbo6 : w6.heap[n + 1]? = some (.cells #[.slice none 0 0, .int .i64 0, .int .i8 0] 68) := (hk6 _ (by omega)).trans ((HB.out.block _ (by omega)).trans HBO.out)
        clear hw6 hk6 hvar BKP KI HB v6 f6 e1
        have hb8 : Below w6.heap.size w6 w8 := by rw [hw8]; exact below_alloc (below_alloc (Below.refl _ _) _) _
        have hz8 : w8.heap.size = b + 2 := by rw [hw8]; simp; omega
        have hbk8 : w8.heap[b]? = some (.cells #[.slice none 0 0, .int .i64 0, .int .i8 0] 68) := by
          rw [hw8, Below.heap_alloc _ _ _ (by simp; omega), ← hz6]
          exact heap_alloc_new w6 _
        have hen8 : w8.heap[b + 1]? = some (efCells b 97 (.slice (some ⟨n + 1 + 1, 0, none⟩) 0 0) 0) := by
          rw [hw8]
          have := heap_alloc_new (w6.alloc (.cells #[.slice none 0 0, .int .i64 0, .int .i8 0] 68)) (efCells b 97 (.slice (some ⟨n + 1 + 1, 0, none⟩) 0 0) 0)
          rwa [show (w6.alloc (.cells #[.slice none 0 0, .int .i64 0, .int .i8 0] 68)).heap.size = b + 1 by simp; omega] at this
        obtain ⟨g, kc, hv, hrecs⟩ := (KI6.below hb8).recsIn HFN.out
        have hp8 := boxed_block hp6 hb8
        rw [hv] at hp8
        have hva8 := boxed_block hva6 hb8
        have hbo8 := boxed_block hbo6 hb8
        have hB8 : Below n w1 w8 := hb6.trans (hb8.mono (by omega))
        have HEM := Aside0.mk (encode_msg false 108 t 0 s (by decide) ht (by decide) hs b (b + 1) b (n + 4) g kc n 7 (some ⟨n + 1 + 1, 0, none⟩) 0 0 (F.map hf) (xs.map ifv) w8 (by omega) (Nat.le_refl _) (by omega) hen8 0 hbk8 hva8 (by rw [List.length_map]; exact hp8) (by rw [List.length_map]; exact hFl) (fun x hx => by obtain ⟨y, hy, rfl⟩ := List.mem_map.1 hx; exact HOK.out y hy) hrecs)
        have HBO8 := Aside0.mk hbo8
        have HB8 := Aside0.mk hB8
        clear hw8 he hb8 hbk8 hen8 hv hrecs hp8 hva8 hbo8 hB8 KI6 hp6 hbo6 hva6 hb6
        go_wp2_with fail
        refine (HEM.out).mono ?_
        rintro e w9 ⟨rfl, hE9⟩
        have HE9 := Aside0.mk hE9
        clear hE9 HEM
        have hhl : (hdrBytes false (F.map hf)).length ≤ 13000 := by
          have h1 := recsFrom_le (F.map hf) (fun x hx => by obtain ⟨y, hy, rfl⟩ := List.mem_map.1 hx; exact HOK.out y hy) false 16
          rw [List.length_map] at h1
          have h2 : F.length * 1300 ≤ 10 * 1300 := Nat.mul_le_mul_right _ hFl
          unfold hdrBytes; omega
        obtain ⟨HL, hHL⟩ : ∃ HL, (hdrBytes false (F.map hf)).length = HL := ⟨_, rfl⟩
        have hbl : (headBytes false 108 t 0 s ++ cntBytes false (hdrBytes false (F.map hf)).length ++ hdrBytes false (F.map hf)).length = 16 + HL := by
          rw [List.length_append, List.length_append, cntBytes_length, hHL]
          simp [headBytes, cntBytes_length]
        go_wp2_with fail
        refine (align_ef w9 b (b + 1) b 97 _ _ _ HE9.out.ef 8 8 rfl (by decide) (by omega) (by omega)).mono ?_
        rintro e w10 ⟨rfl, hE10⟩
        have HE10 := Aside0.mk (HE9.out.trans hE10)
        clear hE10 HE9
        have hbo10 : w10.heap[n + 1]? = some (.cells #[.slice none 0 0, .int .i64 0, .int .i8 0] 68) := (HE10.out.below.block _ (by omega)).trans HBO8.out
        have hB10 : Below n w1 w10 := HB8.out.trans (HE10.out.below.mono (by omega))
        have hI10 : Lib.IsBuffer 68 5 (n + 1) (n + 1) [] w10 := ⟨Nat.le_refl _, .slice none 0 0, 0, hbo10, World.ownsRow_nil _ _ _ _, by simp [Value.ownBlock]⟩
        have HW10 := Aside0.mk (writeTo_none (n + 1) b (n + 1) w10 hI10)
        clear hI10 HBO8 HB8
        go_wp2_with fail
        refine (HW10.out).mono ?_
        rintro e w11 ⟨rfl, hon, hbl11⟩
        have hI11 := buf_only HE10.out.ef.buf hon hbo10 (by omega)
        have hE11 : w11.heap[b + 1]? = _ := (hon.2 (b + 1) (by omega)).trans HE10.out.ef.enc
        have hB11 : Below n w1 w11 := hB10.trans (hbl11 n (by omega))
        have HI11 := Aside0.mk hI11
        have HE11 := Aside0.mk hE11
        have HB11 := Aside0.mk hB11
        clear hon hbl11 hI11 hE11 hB11 hbo10 hB10 HW10 HE10
        go_wp2_with fail
        refine (Tryz.Buffer_Len b b _ _ HI11.out).mono ?_
        rintro e w12 ⟨rfl, k12, hw12⟩
        have hb12 : Below w11.heap.size w11 w12 := hw12 ▸ below_drewN (Below.refl _ _) k12
        have HI12 := Aside0.mk (HI11.out.old hb12)
        have HE12 := Aside0.mk (boxed_block HE11.out hb12)
        have hB12 : Below n w1 w12 := hw12 ▸ below_drewN HB11.out k12
        clear hw12 hb12 HI11 HE11 HB11
        have hl12 : (Lib.byteCells (headBytes false 108 t 0 s ++ cntBytes false (hdrBytes false (F.map hf)).length ++ hdrBytes false (F.map hf) ++ List.replicate (pd 8 (16 + (hdrBytes false (F.map hf)).length)) 0)).length ≤ 20000 := by
          have h8 := pd_lt (n := 8) (a := 16 + (hdrBytes false (F.map hf)).length) (by decide)
          rw [Lib.byteCells_length, List.length_append, hbl, List.length_replicate]; omega
        have hO12 : Lib.IsBuffer 68 5 B ob [] w12 := HO.out.old (by rw [hn]; exact hB12)
        have hlob : ob < n := by have := HO.out.lt; omega
        have hlt12 := HI12.out.lt
        have HW12 := Aside0.mk (writeTo B b ob b [] _ w12 hO12 HI12.out (by omega) (by omega) (by omega) (by rw [Lib.byteCells_length] at hl12; simp only [List.length_nil]; omega) (by rw [Lib.byteCells_length] at hl12; omega))
        have HB12 := Aside0.mk hB12
        clear hO12 hB12
        obtain ⟨BL, hBL⟩ : ∃ BL, (Lib.byteCells (headBytes false 108 t 0 s ++ cntBytes false (hdrBytes false (F.map hf)).length ++ hdrBytes false (F.map hf) ++ List.replicate (pd 8 (16 + (hdrBytes false (F.map hf)).length)) 0)).length = BL := ⟨_, rfl⟩
        rw [hBL] at hl12 ⊢
        have hgt : ¬ ((134217728 : Int) < (BL : Int)) := by omega
        go_wp2_with fail
        refine (HW12.out).mono ?_
        rintro e w13 ⟨rfl, hI13, hb13, hk13⟩
        have hE13 := hk13 (b + 1) _ HE12.out (by omega) (by omega) (by intro c fz hc; cases hc)
        obtain ⟨-, e1, -, -, -, -⟩ := ef_cells hE13
        have HI13 := Aside0.mk hI13
        have HB13 : Aside0 (Below B w w13) := ⟨((HB1.out.mono hBw).trans (HB12.out.mono (by omega))).trans hb13⟩
        clear hI13 hb13 hk13 hE13 HW12 HI12 HE12
        go_wp2_with fail
        go_ret2
        exact ⟨_, rfl, HI13.out, HB13.out⟩
  · have ho : ordOf true = 96 := rfl
    rw [ho]
    go_wp2_with fail
    refine (newEnc0 _ _ _ _ _ _).mono ?_
    rintro e w2 ⟨he, hw2⟩
    have he' : e = .returned (.pointer (some ⟨w1.heap.size + 3, 0, none⟩)) := by rw [he]; simp
    subst he'
    obtain ⟨hva, hbo, hen, hb2, hz2⟩ := al4 w1 _ _ _ _ w2 hw2
    have HVA := Aside0.mk hva
    have HBO := Aside0.mk hbo
    have HEN := Aside0.mk hen
    have HB2 := Aside0.mk hb2
    have HM := Aside0.mk (boxed_block HM.out hb2)
    have HB2r := Aside0.mk (hb2.block r HR.out.lt)
    have HR := Aside0.mk (HR.out.old (hb2.block r HR.out.lt))
    have hlm1 : m < w1.heap.size := by omega
    have hlr1 : r < w1.heap.size := by omega
    clear he hw2 hva hbo hen hb2
    obtain ⟨c0, -⟩ := vs_cells HM.out 0 _ rfl
    obtain ⟨c1, -⟩ := vs_cells HM.out 1 _ rfl
    obtain ⟨c2, -⟩ := vs_cells HM.out 2 _ rfl
    obtain ⟨c3, -⟩ := vs_cells HM.out 3 _ rfl
    obtain ⟨c4, -⟩ := vs_cells HM.out 4 _ rfl
    obtain ⟨v1, f1⟩ := vs_cells HVA.out 1 _ rfl
    obtain ⟨v2, f2⟩ := vs_cells HVA.out 2 _ rfl
    obtain ⟨v3, f3⟩ := vs_cells HVA.out 3 _ rfl
    have hmn : m ≠ w1.heap.size := by omega
    go_wp2_with fail
    obtain ⟨w3, hw3⟩ : ∃ w3, ((w2.setCell ⟨w1.heap.size, 1, none⟩ (.iface 105 (.int .u8 t))).setCell ⟨w1.heap.size, 2, none⟩ (.iface 106 (.int .u8 0))).setCell ⟨w1.heap.size, 3, none⟩ (.iface 5 (.int .u8 1)) = w3 := ⟨_, rfl⟩
    rw [hw3]
    have hva3 : w3.heap[w1.heap.size]? = some (.cells #[.iface 5 (.int .u8 66), .iface 105 (.int .u8 t), .iface 106 (.int .u8 0), .iface 5 (.int .u8 1), .nilIface, .nilIface, .nilIface] 168) := by
      rw [← hw3]
      exact Lib.heap_setCell_same (i := 3) (Lib.heap_setCell_same (i := 2) (Lib.heap_setCell_same (i := 1) HVA.out _) _) _
    have hk3 : ∀ x, x ≠ w1.heap.size → w3.heap[x]? = w2.heap[x]? := fun x hx => by rw [← hw3, Below.heap_setCell _ _ _ _ hx, Below.heap_setCell _ _ _ _ hx, Below.heap_setCell _ _ _ _ hx]
    have hb3 : Below w1.heap.size w2 w3 := by
      rw [← hw3]
      exact ((((Below.refl w1.heap.size w2).setCell (p := ⟨w1.heap.size, 1, none⟩) (Nat.le_refl _) _).setCell (p := ⟨w1.heap.size, 2, none⟩) (Nat.le_refl _) _).setCell (p := ⟨w1.heap.size, 3, none⟩) (Nat.le_refl _) _)
    have hz3 : w3.heap.size = w1.heap.size + 4 := by rw [← hw3, size_setCell, size_setCell, size_setCell]; exact hz2
    clear hw3 c0 c1 c2 c3 c4 v1 f1 v2 f2 v3 f3
    refine (bytes0 _ _ ((hk3 _ (by omega)).trans HBO.out)).mono ?_
    rintro e w4 ⟨⟨cc, rfl⟩, m4, hw4⟩
    have hx4 : w4.heap = w3.heap := by rw [hw4]; rfl
    have HVA := Aside0.mk (by rw [← hx4] at hva3; exact hva3)
    have HBO : Aside0 (w4.heap[w1.heap.size + 1]? = some (.cells #[.slice none 0 0, .int .i64 0, .int .i8 0] 68)) := ⟨by rw [hx4]; exact (hk3 _ (by omega)).trans HBO.out⟩
    have HEN : Aside0 (w4.heap[w1.heap.size + 3]? = some (efCells (w1.heap.size + 1) 96 (.slice (some ⟨w1.heap.size + 1 + 1, 0, none⟩) 0 0) 0)) := ⟨by rw [hx4]; exact (hk3 _ (by omega)).trans HEN.out⟩
    have HM : Aside0 (w4.heap[m]? = some (msgCells t r s)) := ⟨by rw [hx4]; exact (hk3 m hmn).trans HM.out⟩
    have HB4 : Aside0 (Below w1.heap.size w1 w4) := ⟨hw4 ▸ below_drewN (HB2.out.trans hb3) m4⟩
    have hz4 : w4.heap.size = w1.heap.size + 4 := by rw [hx4]; exact hz3
    clear hva3 hk3 hb3 hz3 hw4 hx4 HB2
    obtain ⟨c4, -⟩ := vs_cells HM.out 4 _ rfl
    obtain ⟨v4, f4⟩ := vs_cells HVA.out 4 _ rfl
    obtain ⟨v5, f5⟩ := vs_cells HVA.out 5 _ rfl
    go_wp2_with fail
    obtain ⟨n, hn⟩ : ∃ n, w1.heap.size = n := ⟨_, rfl⟩
    rw [hn] at HVA HBO HEN HB4 hz4 hlm1 hlr1 hmn hz1 ⊢
    obtain ⟨w5, hw5⟩ : ∃ w5, (w4.setCell ⟨n, 4, none⟩ (.iface 36 (.int .u32 0))).setCell ⟨n, 5, none⟩ (.iface 36 (.int .u32 s)) = w5 := ⟨_, rfl⟩
    have hva5 : w5.heap[n]? = some (.cells #[.iface 5 (.int .u8 66), .iface 105 (.int .u8 t), .iface 106 (.int .u8 0), .iface 5 (.int .u8 1), .iface 36 (.int .u32 0), .iface 36 (.int .u32 s), .nilIface] 168) := by
      rw [← hw5]
      exact Lib.heap_setCell_same (i := 5) (Lib.heap_setCell_same (i := 4) HVA.out _) _
    have hk5 : ∀ x, x ≠ n → w5.heap[x]? = w4.heap[x]? := fun x hx => by rw [← hw5, Below.heap_setCell _ _ _ _ hx, Below.heap_setCell _ _ _ _ hx]
    have hb5 : Below n w1 w5 := by
      rw [← hw5]
      exact (HB4.out.setCell (p := ⟨n, 4, none⟩) (Nat.le_refl _) _).setCell (p := ⟨n, 5, none⟩) (Nat.le_refl _) _
    have hz5 : w5.heap.size = n + 4 := by rw [← hw5, size_setCell, size_setCell]; exact hz4
    have HVA := Aside0.mk hva5
    have HBO := Aside0.mk ((hk5 _ (by omega)).trans HBO.out)
    have HEN := Aside0.mk ((hk5 _ (by omega)).trans HEN.out)
    have HM := Aside0.mk ((hk5 m hmn).trans HM.out)
    have HB5 := Aside0.mk hb5
    have HR5 : Aside0 (MapIs w5 r F) := ⟨HR.out.old (by rw [hb5.block r hlr1]; exact (HB2r.out).symm)⟩
    clear hva5 hk5 hb5 c4 v4 f4 v5 f5 HB4 hz4
    rw [hw5]
    clear hw5
    go_loopw [13] (fun i wr => ∃ k : Nat, k ≤ 10 ∧ i = .int .u8 k ∧ ∃ v xs, Aside0 (wr.heap[n + 4]? = some (.cells #[.string ⟨#[40, 121, 118, 41]⟩, v] 164)) ∧ Aside0 (Kids wr (n + 4) v xs (FB F k)) ∧ Aside0 (Below (n + 4) w5 wr)) (fun i _ => 10 - (intOf i).toNat)
    case atStart =>
      refine ⟨0, by omega, rfl, .slice none 0 0, [], ⟨?_⟩, ⟨?_⟩, ⟨?_⟩⟩
      · have := heap_alloc_new w5 (.cells #[.string ⟨#[40, 121, 118, 41]⟩, .slice none 0 0] 164)
        rwa [hz5] at this
      · rw [hF0]; exact Kids.nil _ _
      · exact (Below.refl _ w5).alloc (by omega) _
    case round =>
      obtain ⟨k, hk, rfl, v, xs, BKP, KI, HB⟩ := hrel
      have hzr : n + 4 < wr.heap.size := Lib.lt_of_heap BKP.out
      have hmr : wr.heap[m]? = some (msgCells t r s) := (HB.out.block m (by omega)).trans HM.out
      obtain ⟨c2, -⟩ := vs_cells hmr 2 _ rfl
      have hrr : MapIs wr r F := HR5.out.old (HB.out.block r (by omega))
      by_cases hlt : k < 10
      · have hlt2 : (k : Int) < 10 := by omega
        have hwk : IntKind.u8.wrap ((k : Int) + 1) = ((k + 1 : Nat) : Int) := by unfold IntKind.wrap; simp [IntKind.signed, IntKind.bits]; omega
        rcases HF.out k hlt with ⟨v', hmem, hd, hfb⟩ | ⟨hno, hfb⟩
        · have hlk := hrr.lookup_some k v' hmem hd k rfl
          rw [show v'.cell = .agg #[.string v'.sig, .iface v'.T v'.y] from rfl] at hlk
          have HFB := Aside0.mk hfb
          clear hmem hd hfb hrr hmr
          go_wp2_with fail
          obtain ⟨q, hq⟩ : ∃ q, wr.heap.size = q := ⟨_, rfl⟩
          have BKQ : Aside0 ((wr.alloc (.cells #[.string v'.sig, .iface v'.T v'.y] 113)).heap[q]? = some (.cells #[.string v'.sig, .iface v'.T v'.y] 113)) := ⟨by rw [← hq]; exact heap_alloc_new _ _⟩
          have hbn : Below wr.heap.size wr (wr.alloc (.cells #[.string v'.sig, .iface v'.T v'.y] 113)) := (Below.refl _ wr).alloc (Nat.le_refl _) _
          have BKP := Aside0.mk (boxed_block BKP.out hbn)
          have KI := Aside0.mk (KI.out.below hbn)
          have HB : Aside0 (Below (n + 4) w5 (wr.alloc (.cells #[.string v'.sig, .iface v'.T v'.y] 113))) := ⟨HB.out.trans (hbn.mono (by omega))⟩
          clear hbn
          rw [hq]
          obtain ⟨W1, hW1⟩ : ∃ W1, wr.alloc (.cells #[.string v'.sig, .iface v'.T v'.y] 113) = W1 := ⟨_, rfl⟩
          rw [hW1] at BKQ BKP KI HB ⊢
          clear hW1
          refine start_ (n := 17) (S := fun w' => w'.cell? ⟨n + 4, 1, none⟩ = some v ∧ w'.cell? ⟨q, 0, none⟩ = some (.string v'.sig) ∧ w'.cell? ⟨q, 1, none⟩ = some (.iface v'.T v'.y)) (ds := [16]) #[false, false, false, false, false, false, false, false, false, false, false, false, false, false, false, false, false] (by kernel_rfl) rfl rfl ⟨(blk_cell BKP.out 1).trans rfl, (blk_cell BKQ.out 0).trans rfl, (blk_cell BKQ.out 1).trans rfl⟩ (fun hHeld => ?_)
          refine with_tabW f40_28.tab f40_28.bits (fun HT_ HW_ => ?_)
          have BKP := Aside0.mk (blk_drew BKP.out)
          have BKQ := Aside0.mk (blk_drew BKQ.out)
          have KI := Aside0.mk (KI.out.below (Below.refl _ W1).drew)
          have HB := Aside0.mk HB.out.drew
          have hzq : q < W1.drew.heap.size := Lib.lt_of_heap BKQ.out
          have hzp : n + 4 < W1.drew.heap.size := Lib.lt_of_heap BKP.out
          generalize W1.drew = W2 at BKP BKQ KI HB hzq hzp hHeld ⊢
          refine pure_ (i := 0) (N := some 103) (v := ?_) (a' := ?_) #[true, false, false, false, false, false, false, false, false, false, false, false, false, false, false, false, false] rfl rfl (any_of HT_.out (by kernel_rfl)) (fun _ _ _ h => h) (Or.inl ⟨by rfl, ?_⟩) ?_ ?_
          rotate_left
          · intro w'
            go_simp
            with_reducible rfl
          rotate_left
          · simp only [Act.put, List.setIfInBounds_toArray, List.set_cons_zero, List.set_cons_succ]
            rfl
          refine pure_ (i := 1) (N := some 104) (v := ?_) (a' := ?_) #[true, true, false, false, false, false, false, false, false, false, false, false, false, false, false, false, false] rfl rfl (any_of HT_.out (by kernel_rfl)) (fun _ _ _ h => h) (Or.inl ⟨by rfl, ?_⟩) ?_ ?_
          rotate_left
          · intro w'
            go_simp
            with_reducible rfl
          rotate_left
          · simp only [Act.put, List.setIfInBounds_toArray, List.set_cons_zero, List.set_cons_succ]
            rfl
          refine pure_ (i := 2) (N := some 105) (v := ?_) (a' := ?_) #[true, true, true, false, false, false, false, false, false, false, false, false, false, false, false, false, false] rfl rfl (any_of HT_.out (by kernel_rfl)) (fun _ _ _ h => h) (Or.inl ⟨by rfl, ?_⟩) ?_ ?_
          rotate_left
          · intro w'
            go_simp
            with_reducible rfl
          rotate_left
          · simp only [Act.put, List.setIfInBounds_toArray, List.set_cons_zero, List.set_cons_succ]
            rfl
          refine pure_ (i := 3) (N := some 106) (v := ?_) (a' := ?_) #[true, true, true, true, false, false, false, false, false, false, false, false, false, false, false, false, false] rfl rfl (any_of HT_.out (by kernel_rfl)) (fun _ _ _ h => h) (Or.inl ⟨by rfl, ?_⟩) ?_ ?_
          rotate_left
          · intro w'
            go_simp
            with_reducible rfl
          rotate_left
          · simp only [Act.put, List.setIfInBounds_toArray, List.set_cons_zero, List.set_cons_succ]
            rfl
          refine take_ (i := 4) (N := some 107) (v := ?_) (a' := ?_) #[true, true, true, true, true, false, false, false, false, false, false, false, false, false, false, false, false] rfl rfl (take_ofW HT_.out HW_.out (by kernel_rfl)) (fun _ _ _ h => h) (Or.inl ⟨by rfl, ?_⟩) hHeld ?_ ?_
          rotate_left
          · rintro w' ⟨s0, s1, s2⟩
            go_simp
            with_reducible rfl
          rotate_left
          · simp only [Act.put, List.setIfInBounds_toArray, List.set_cons_zero, List.set_cons_succ]
            rfl
          refine pure_ (i := 5) (N := some 108) (v := ?_) (a' := ?_) #[true, true, true, true, true, true, false, false, false, false, false, false, false, false, false, false, false] rfl rfl (any_of HT_.out (by kernel_rfl)) (fun _ _ _ h => h) (Or.inl ⟨by rfl, ?_⟩) ?_ ?_
          rotate_left
          · intro w'
            go_simp
            with_reducible rfl
          rotate_left
          · simp only [Act.put, List.setIfInBounds_toArray, List.set_cons_zero, List.set_cons_succ]
            rfl
          refine pure_ (i := 6) (N := some 109) (v := ?_) (a' := ?_) #[true, true, true, true, true, true, true, false, false, false, false, false, false, false, false, false, false] rfl rfl (any_of HT_.out (by kernel_rfl)) (fun _ _ _ h => h) (Or.inl ⟨by rfl, ?_⟩) ?_ ?_
          rotate_left
          · intro w'
            go_simp
            with_reducible rfl
          rotate_left
          · simp only [Act.put, List.setIfInBounds_toArray, List.set_cons_zero, List.set_cons_succ]
            rfl
          refine take_ (i := 7) (N := some 110) (v := ?_) (a' := ?_) #[true, true, true, true, true, true, true, true, false, false, false, false, false, false, false, false, false] rfl rfl (take_ofW HT_.out HW_.out (by kernel_rfl)) (fun _ _ _ h => h) (Or.inl ⟨by rfl, ?_⟩) hHeld ?_ ?_
          rotate_left
          · rintro w' ⟨s0, s1, s2⟩
            go_simp
            with_reducible rfl
          rotate_left
          · simp only [Act.put, List.setIfInBounds_toArray, List.set_cons_zero, List.set_cons_succ]
            rfl
          refine pure_ (i := 8) (N := some 111) (v := ?_) (a' := ?_) #[true, true, true, true, true, true, true, true, true, false, false, false, false, false, false, false, false] rfl rfl (any_of HT_.out (by kernel_rfl)) (fun _ _ _ h => h) (Or.inl ⟨by rfl, ?_⟩) ?_ ?_
          rotate_left
          · intro w'
            go_simp
            with_reducible rfl
          rotate_left
          · simp only [Act.put, List.setIfInBounds_toArray, List.set_cons_zero, List.set_cons_succ]
            rfl
          refine one_ (i := 9) (N := some 112) #[true, true, true, true, true, true, true, true, true, true, false, false, false, false, false, false, false] rfl rfl (one_of HT_.out (by kernel_rfl)) (by decide) (fun K hK => ?_)
          refine value_ (w1 := ?_) (v := ?_) (by rfl) rfl ?_ ?_
          rotate_left 2
          · go_simp
            constructor
            · rfl
            · rfl
          refine hK.out _ _ ⟨(blk_cell (blk_alloc BKP.out _) 1).trans rfl, (blk_cell (blk_alloc BKQ.out _) 0).trans rfl, (blk_cell (blk_alloc BKQ.out _) 1).trans rfl⟩ (fun hHeld => ?_)
          clear hK K
          refine norm_ (a' := ?_) ?_ ?_
          rotate_left
          · show Act.put _ (some 112) _ = _
            simp only [Act.put, List.setIfInBounds_toArray, List.set_cons_zero, List.set_cons_succ]
            rfl
          have hbn : Below W2.heap.size W2 (W2.alloc (.cells #[.iface 5 (.int .u8 (k : Int)), .iface 113 (.agg #[.string v'.sig, .iface v'.T v'.y])] 20)) := (Below.refl _ W2).alloc (Nat.le_refl _) _
          have BKP := Aside0.mk (boxed_block BKP.out hbn)
          have BKQ := Aside0.mk (boxed_block BKQ.out hbn)
          have hgne : some W2.heap.size ≠ v.ownBlock := by
            intro h
            have := (Kd.R_bound KI.out.own).1 _ h.symm
            omega
          have KI := Aside0.mk (KI.out.below hbn)
          have HB : Aside0 (Below (n + 4) w5 (W2.alloc (.cells #[.iface 5 (.int .u8 (k : Int)), .iface 113 (.agg #[.string v'.sig, .iface v'.T v'.y])] 20))) := ⟨HB.out.trans (hbn.mono (by omega))⟩
          have HGR : Aside0 ((W2.alloc (.cells #[.iface 5 (.int .u8 (k : Int)), .iface 113 (.agg #[.string v'.sig, .iface v'.T v'.y])] 20)).heap[W2.heap.size]? = some (.cells #[.iface 5 (.int .u8 (k : Int)), .iface 113 (.agg #[.string v'.sig, .iface v'.T v'.y])] 20)) := ⟨heap_alloc_new W2 _⟩
          clear hbn
          obtain ⟨gr, hgr⟩ : ∃ gr, W2.heap.size = gr := ⟨_, rfl⟩
          obtain ⟨W3, hW3⟩ : ∃ W3, W2.alloc (.cells #[.iface 5 (.int .u8 (k : Int)), .iface 113 (.agg #[.string v'.sig, .iface v'.T v'.y])] 20) = W3 := ⟨_, rfl⟩
          rw [hgr] at hgne HGR ⊢
          rw [hW3] at BKP BKQ KI HB HGR ⊢
          clear hW3 hzq hzp
          refine pure_ (i := 10) (N := some 113) (v := ?_) (a' := ?_) #[true, true, true, true, true, true, true, true, true, true, true, false, false, false, false, false, false] rfl rfl (any_of HT_.out (by kernel_rfl)) (fun _ _ _ h => h) (Or.inl ⟨by rfl, ?_⟩) ?_ ?_
          rotate_left
          · intro w'
            go_simp
            with_reducible rfl
          rotate_left
          · simp only [Act.put, List.setIfInBounds_toArray, List.set_cons_zero, List.set_cons_succ]
            rfl
          refine pure_ (i := 11) (N := some 114) (v := ?_) (a' := ?_) #[true, true, true, true, true, true, true, true, true, true, true, true, false, false, false, false, false] rfl rfl (any_of HT_.out (by kernel_rfl)) (fun _ _ _ h => h) (Or.inl ⟨by rfl, ?_⟩) ?_ ?_
          rotate_left
          · intro w'
            go_simp
            with_reducible rfl
          rotate_left
          · simp only [Act.put, List.setIfInBounds_toArray, List.set_cons_zero, List.set_cons_succ]
            rfl
          refine one_ (i := 12) (N := some 115) #[true, true, true, true, true, true, true, true, true, true, true, true, true, false, false, false, false] rfl rfl (one_of HT_.out (by kernel_rfl)) (by decide) (fun K hK => ?_)
          refine value_ (w1 := ?_) (v := ?_) (by rfl) rfl ?_ ?_
          rotate_left 2
          · go_simp
            constructor
            · rfl
            · rfl
          refine hK.out _ _ ⟨(blk_cell (blk_alloc BKP.out _) 1).trans rfl, (blk_cell (blk_alloc BKQ.out _) 0).trans rfl, (blk_cell (blk_alloc BKQ.out _) 1).trans rfl⟩ (fun hHeld => ?_)
          clear hK K
          refine norm_ (a' := ?_) ?_ ?_
          rotate_left
          · show Act.put _ (some 115) _ = _
            simp only [Act.put, List.setIfInBounds_toArray, List.set_cons_zero, List.set_cons_succ]
            rfl
          refine one_ (i := 13) (N := some 116) #[true, true, true, true, true, true, true, true, true, true, true, true, true, true, false, false, false] rfl rfl (one_of HT_.out (by kernel_rfl)) (by decide) (fun K hK => ?_)
          refine Kd.R_append_step (Kd.scalar ifv ifv_one) (w0 := w5) (n + 4) (by rfl) (.tmp 107) (.tmp 115) 76 20 .nilIface 16 rfl Tryz.underlying76 info20k rfl (show 0 < 1 by decide) (by omega) v xs (158, .agg #[.slice (some ⟨gr, 0, none⟩) 2 2]) [.iface 158 (.agg #[.slice (some ⟨gr, 0, none⟩) 2 2])] (fun _ => True) (fun k_ => True ∧ some k_ ≠ (v : Value).ownBlock) rfl rfl rfl (fun _ hk => hk) (fun _ _ => trivial) KI.out.own HB.out (by have := Lib.lt_of_heap BKP.out; omega) ?aL ?_
          case aL => have h1_ := KI.out.len; have h2_ := List.length_filter_le (fun x : Nat × HV => decide (x.1 < k)) F; unfold FB at h1_; omega
          intro v4 W4 ho hb hg hat
          have BKP4 := Aside0.mk (blk_grown BKP.out hg (Kd.R_ne KI.out.own BKP.out (by decide)))
          have BKQ4 := Aside0.mk (blk_grown BKQ.out hg (Kd.R_ne KI.out.own BKQ.out (by decide)))
          have KI4 := Aside0.mk (KI.out.push (k, v') gr 2 HGR.out hgne ho hg hat)
          have HB4 := Aside0.mk hb
          clear ho hb hg hat BKP BKQ KI HB HGR
          obtain ⟨Ao4, co4, eo4⟩ := Kd.R_slice KI4.out.own
          obtain ⟨ln4, hln4⟩ : ∃ x, (xs ++ [((158 : TypeId), Value.agg #[.slice (some ⟨gr, 0, none⟩) 2 2])]).length = x := ⟨_, rfl⟩
          rw [hln4] at eo4
          subst eo4
          refine hK.out _ _ ⟨(blk_cell BKP4.out 1).trans rfl, (blk_cell BKQ4.out 0).trans rfl, (blk_cell BKQ4.out 1).trans rfl⟩ (fun hHeld => ?_)
          clear hK K
          refine norm_ (a' := ?_) ?_ ?_
          rotate_left
          · show Act.put _ (some 116) _ = _
            simp only [Act.put, List.setIfInBounds_toArray, List.set_cons_zero, List.set_cons_succ]
            rfl
          refine pure_ (i := 14) (N := some 117) (v := ?_) (a' := ?_) #[true, true, true, true, true, true, true, true, true, true, true, true, true, true, true, false, false] rfl rfl (any_of HT_.out (by kernel_rfl)) (fun _ _ _ h => h) (Or.inl ⟨by rfl, ?_⟩) ?_ ?_
          rotate_left
          · intro w'
            go_simp
            with_reducible rfl
          rotate_left
          · simp only [Act.put, List.setIfInBounds_toArray, List.set_cons_zero, List.set_cons_succ]
            rfl
          refine pure_ (i := 15) (N := some 118) (v := ?_) (a' := ?_) #[true, true, true, true, true, true, true, true, true, true, true, true, true, true, true, true, false] rfl rfl (any_of HT_.out (by kernel_rfl)) (fun _ _ _ h => h) (Or.inl ⟨by rfl, ?_⟩) ?_ ?_
          rotate_left
          · intro w'
            go_simp
            with_reducible rfl
          rotate_left
          · simp only [Act.put, List.setIfInBounds_toArray, List.set_cons_zero, List.set_cons_succ]
            rfl
          refine last_ (i := 16) (N := none) #[true, true, true, true, true, true, true, true, true, true, true, true, true, true, true, true, true] rfl rfl (one_of HT_.out (by kernel_rfl)) (by decide) (fun K hK => ?_)
          have hs4 : W4.cell? ⟨n + 4, 1, none⟩ = some v := (blk_cell BKP4.out 1).trans rfl
          have hf4 := blk_frozen BKP4.out 1
          refine skip_ (w1 := ?_) (by rfl) rfl ?_ ?_
          rotate_left
          · go_simp
            rfl
          refine hK.out _ _ ?_
          clear hK K
          refine done_ (done_of HT_.out (by kernel_rfl)) ?_
          have BKP5 := Aside0.mk (Lib.heap_setCell_same (i := 1) BKP4.out (.slice Ao4 ln4 co4))
          have KI5 := Aside0.mk (KI4.out.set (show (164 : TypeId) ≠ 20 by decide) BKP4.out 1 (.slice Ao4 ln4 co4))
          have HB5 := Aside0.mk (HB4.out.setCell (p := ⟨n + 4, 1, none⟩) (Nat.le_refl _) (.slice Ao4 ln4 co4))
          clear hs4 hf4 BKP4 BKQ4 KI4 HB4
          go_wp2_with fail
          go_roundw
          case rel => exact ⟨k + 1, by omega, by first | rfl | (congr 1), .slice Ao4 ln4 co4, _, BKP5, ⟨by rw [HFB.out]; exact KI5.out⟩, HB5⟩
          case measure => simp [intOf]; omega
        · have hlk := hrr.lookup_none k hno k rfl
          have HFB := Aside0.mk hfb
          clear hno hfb hrr hmr
          go_wp2_with fail
          go_roundw
          case rel => exact ⟨k + 1, by omega, by first | rfl | (congr 1), v, xs, ⟨boxed_block BKP.out ((Below.refl _ wr).alloc (Nat.le_refl _) _)⟩, ⟨by rw [HFB.out]; exact KI.out.below ((Below.refl _ wr).alloc (Nat.le_refl _) _)⟩, ⟨HB.out.alloc (by omega) _⟩⟩
          case measure => simp [intOf]; omega
      · obtain rfl : k = 10 := by omega
        have hvar := (HB.out.block n (by omega)).trans HVA.out
        have henr := (HB.out.block (n + 3) (by omega)).trans HEN.out
        obtain ⟨v6, f6⟩ := vs_cells hvar 6 _ rfl
        obtain ⟨-, e1, -, -, -, -⟩ := ef_cells henr
        have hne3 : n ≠ n + 3 := by omega
        have hz33 : n + 3 < wr.heap.size := by omega
        clear hmr c2 hrr e1 henr
        obtain ⟨-, e1, -, -, -, -⟩ := ef_cells ((HB.out.block (n + 3) (by omega)).trans HEN.out)
        go_wp2_with fail
        refine (newEnc0 _ _ _ _ _ _).mono ?_
        rintro e w8 ⟨he, hw8⟩
        obtain ⟨b, hb⟩ : ∃ b, wr.heap.size = b := ⟨_, rfl⟩
        rw [hb] at hw8 hzr hz33 ⊢
        have he' : e = .returned (.pointer (some ⟨b + 1, 0, none⟩)) := by rw [he, ← hb]; simp [World.setCell]
        subst he'
        obtain ⟨w6, hw6⟩ : ∃ w6, wr.setCell ⟨n, 6, none⟩ (.iface 162 (.pointer (some ⟨n + 4, 0, none⟩))) = w6 := ⟨_, rfl⟩
        rw [hw6] at hw8
        have hz6 : w6.heap.size = b := by rw [← hw6, size_setCell]; exact hb
        have hva6 : w6.heap[n]? = some (.cells (vals7 66 t 0 s (n + 4)) 168) := by rw [← hw6]; exact Lib.heap_setCell_same (i := 6) hvar _
        have hk6 : ∀ x, x ≠ n → w6.heap[x]? = wr.heap[x]? := fun x hx => by rw [← hw6]; exact Below.heap_setCell _ _ _ _ hx
        have KI6 := KI.out.set (show (168 : TypeId) ≠ 20 by decide) hvar 6 (.iface 162 (.pointer (some ⟨n + 4, 0, none⟩)))
        rw [hw6, hF10] at KI6
        have hb6 : Below n w1 w6 := by
          rw [← hw6]
          exact (HB5.out.trans (HB.out.mono (by omega))).setCell (p := ⟨n, 6, none⟩) (Nat.le_refl _) _
        have hp6 : w6.heap[n + 4]? = some (.cells #[.string ⟨#[40, 121, 118, 41]⟩, v] 164) := (hk6 _ (by omega)).trans BKP.out
        have hbo6 : w6.heap[n + 1]? = some (.cells #[.slice none 0 0, .int .i64 0, .int .i8 0] 68) := (hk6 _ (by omega)).trans ((HB.out.block _ (by omega)).trans HBO.out)
        clear hw6 hk6 hvar BKP KI HB v6 f6 e1
        have hb8 : Below w6.heap.size w6 w8 := by rw [hw8]; exact below_alloc (below_alloc (Below.refl _ _) _) _
        have hz8 : w8.heap.size = b + 2 := by rw [hw8]; simp; omega
        have hbk8 : w8.heap[b]? = some (.cells #[.slice none 0 0, .int .i64 0, .int .i8 0] 68) := by
          rw [hw8, Below.heap_alloc _ _ _ (by simp; omega), ← hz6]
          exact heap_alloc_new w6 _
        have hen8 : w8.heap[b + 1]? = some (efCells b 96 (.slice (some ⟨n + 1 + 1, 0, none⟩) 0 0) 0) := by
          rw [hw8]
          have := heap_alloc_new (w6.alloc (.cells #[.slice none 0 0, .int .i64 0, .int .i8 0] 68)) (efCells b 96 (.slice (some ⟨n + 1 + 1, 0, none⟩) 0 0) 0)
          rwa [show (w6.alloc (.cells #[.slice none 0 0, .int .i64 0, .int .i8 0] 68)).heap.size = b + 1 by simp; omega] at this
        obtain ⟨g, kc, hv, hrecs⟩ := (KI6.below hb8).recsIn HFN.out
        have hp8 := boxed_block hp6 hb8
        rw [hv] at hp8
        have hva8 := boxed_block hva6 hb8
        have hbo8 := boxed_block hbo6 hb8
        have hB8 : Below n w1 w8 := hb6.trans (hb8.mono (by omega))
        have HEM := Aside0.mk (encode_msg true 66 t 0 s (by decide) ht (by decide) hs b (b + 1) b (n + 4) g kc n 7 (some ⟨n + 1 + 1, 0, none⟩) 0 0 (F.map hf) (xs.map ifv) w8 (by omega) (Nat.le_refl _) (by omega) hen8 0 hbk8 hva8 (by rw [List.length_map]; exact hp8) (by rw [List.length_map]; exact hFl) (fun x hx => by obtain ⟨y, hy, rfl⟩ := List.mem_map.1 hx; exact HOK.out y hy) hrecs)
        have HBO8 := Aside0.mk hbo8
        have HB8 := Aside0.mk hB8
        clear hw8 he hb8 hbk8 hen8 hv hrecs hp8 hva8 hbo8 hB8 KI6 hp6 hbo6 hva6 hb6
        go_wp2_with fail
        refine (HEM.out).mono ?_
        rintro e w9 ⟨rfl, hE9⟩
        have HE9 := Aside0.mk hE9
        clear hE9 HEM
        have hhl : (hdrBytes true (F.map hf)).length ≤ 13000 := by
          have h1 := recsFrom_le (F.map hf) (fun x hx => by obtain ⟨y, hy, rfl⟩ := List.mem_map.1 hx; exact HOK.out y hy) true 16
          rw [List.length_map] at h1
          have h2 : F.length * 1300 ≤ 10 * 1300 := Nat.mul_le_mul_right _ hFl
          unfold hdrBytes; omega
        obtain ⟨HL, hHL⟩ : ∃ HL, (hdrBytes true (F.map hf)).length = HL := ⟨_, rfl⟩
        have hbl : (headBytes true 66 t 0 s ++ cntBytes true (hdrBytes true (F.map hf)).length ++ hdrBytes true (F.map hf)).length = 16 + HL := by
          rw [List.length_append, List.length_append, cntBytes_length, hHL]
          simp [headBytes, cntBytes_length]
        go_wp2_with fail
        refine (align_ef w9 b (b + 1) b 96 _ _ _ HE9.out.ef 8 8 rfl (by decide) (by omega) (by omega)).mono ?_
        rintro e w10 ⟨rfl, hE10⟩
        have HE10 := Aside0.mk (HE9.out.trans hE10)
        clear hE10 HE9
        have hbo10 : w10.heap[n + 1]? = some (.cells #[.slice none 0 0, .int .i64 0, .int .i8 0] 68) := (HE10.out.below.block _ (by omega)).trans HBO8.out
        have hB10 : Below n w1 w10 := HB8.out.trans (HE10.out.below.mono (by omega))
        have hI10 : Lib.IsBuffer 68 5 (n + 1) (n + 1) [] w10 := ⟨Nat.le_refl _, .slice none 0 0, 0, hbo10, World.ownsRow_nil _ _ _ _, by simp [Value.ownBlock]⟩
        have HW10 := Aside0.mk (writeTo_none (n + 1) b (n + 1) w10 hI10)
        clear hI10 HBO8 HB8
        go_wp2_with fail
        refine (HW10.out).mono ?_
        rintro e w11 ⟨rfl, hon, hbl11⟩
        have hI11 := buf_only HE10.out.ef.buf hon hbo10 (by omega)
        have hE11 : w11.heap[b + 1]? = _ := (hon.2 (b + 1) (by omega)).trans HE10.out.ef.enc
        have hB11 : Below n w1 w11 := hB10.trans (hbl11 n (by omega))
        have HI11 := Aside0.mk hI11
        have HE11 := Aside0.mk hE11
        have HB11 := Aside0.mk hB11
        clear hon hbl11 hI11 hE11 hB11 hbo10 hB10 HW10 HE10
        go_wp2_with fail
        refine (Tryz.Buffer_Len b b _ _ HI11.out).mono ?_
        rintro e w12 ⟨rfl, k12, hw12⟩
        have hb12 : Below w11.heap.size w11 w12 := hw12 ▸ below_drewN (Below.refl _ _) k12
        have HI12 := Aside0.mk (HI11.out.old hb12)
        have HE12 := Aside0.mk (boxed_block HE11.out hb12)
        have hB12 : Below n w1 w12 := hw12 ▸ below_drewN HB11.out k12
        clear hw12 hb12 HI11 HE11 HB11
        have hl12 : (Lib.byteCells (headBytes true 66 t 0 s ++ cntBytes true (hdrBytes true (F.map hf)).length ++ hdrBytes true (F.map hf) ++ List.replicate (pd 8 (16 + (hdrBytes true (F.map hf)).length)) 0)).length ≤ 20000 := by
          have h8 := pd_lt (n := 8) (a := 16 + (hdrBytes true (F.map hf)).length) (by decide)
          rw [Lib.byteCells_length, List.length_append, hbl, List.length_replicate]; omega
        have hO12 : Lib.IsBuffer 68 5 B ob [] w12 := HO.out.old (by rw [hn]; exact hB12)
        have hlob : ob < n := by have := HO.out.lt; omega
        have hlt12 := HI12.out.lt
        have HW12 := Aside0.mk (writeTo B b ob b [] _ w12 hO12 HI12.out (by omega) (by omega) (by omega) (by rw [Lib.byteCells_length] at hl12; simp only [List.length_nil]; omega) (by rw [Lib.byteCells_length] at hl12; omega))
        have HB12 := Aside0.mk hB12
        clear hO12 hB12
        obtain ⟨BL, hBL⟩ : ∃ BL, (Lib.byteCells (headBytes true 66 t 0 s ++ cntBytes true (hdrBytes true (F.map hf)).length ++ hdrBytes true (F.map hf) ++ List.replicate (pd 8 (16 + (hdrBytes true (F.map hf)).length)) 0)).length = BL := ⟨_, rfl⟩
        rw [hBL] at hl12 ⊢
        have hgt : ¬ ((134217728 : Int) < (BL : Int)) := by omega
        go_wp2_with fail
        refine (HW12.out).mono ?_
        rintro e w13 ⟨rfl, hI13, hb13, hk13⟩
        have hE13 := hk13 (b + 1) _ HE12.out (by omega) (by omega) (by intro c fz hc; cases hc)
        obtain ⟨-, e1, -, -, -, -⟩ := ef_cells hE13
        have HI13 := Aside0.mk hI13
        have HB13 : Aside0 (Below B w w13) := ⟨((HB1.out.mono hBw).trans (HB12.out.mono (by omega))).trans hb13⟩
        clear hI13 hb13 hk13 hE13 HW12 HI12 HE12
        go_wp2_with fail
        go_ret2
        exact ⟨_, rfl, HI13.out, HB13.out⟩
end Go.Proofs.YtldjigfnagfalaaGreatDoor.Given
