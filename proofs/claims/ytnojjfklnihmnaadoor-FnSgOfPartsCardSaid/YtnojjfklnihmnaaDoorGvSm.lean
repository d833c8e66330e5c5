/- Part of the proof of LawFnSgOfParts. -/
import Derived.Test.YtnojjfklnihmnaaDoorGvDm
set_option linter.unusedVariables false
set_option linter.unusedSimpArgs false
namespace Go.Proofs.YtnojjfklnihmnaaDoor.Given
open Go.RowKit Go.Proofs.YtnojjfklnihmnaaDoorW.PrintWords Go.Proofs.YtnojjfklnihmnaaDoorW.PrintLast Go.Proofs.YtnojjfklnihmnaaDoor.Pl Go.Proofs.YtnojjfklnihmnaaDoor.By Go.Proofs.YtnojjfklnihmnaaDoor.SgT Go.Proofs.YtnojjfklnihmnaaDoor.PFnSgOfParts
set_option linter.unusedVariables false
attribute [local go_sem] ai_94 eqG
def f51_8.T : Bool × List (List Nat × List Nat) := (true, [([], []), ([], []), ([], []), ([2], [2]), ([3], [3]), ([4], [4]), ([], []), ([6], [6]), ([7], [7]), ([5, 8], [5, 8]), ([], []), ([10], [10]), ([11], [11]), ([12], [12]), ([], []), ([14], [14]), ([15], [15]), ([13, 16, 9], [13, 16]), ([0, 0, 2, 3, 4, 5, 6, 7, 8, 9, 13, 17], [0]), ([18, 0, 2, 3, 4, 5, 6, 7, 8, 9, 13, 17], [18]), ([19, 9, 17, 0, 2, 3, 4, 5, 6, 7, 8, 9, 13, 17], [9, 19]), ([1, 0, 1, 2, 3, 4, 5, 6, 7, 8, 9, 10, 11, 12, 13, 14, 15, 16, 17, 18, 19, 20], [1]), ([21, 0, 1, 2, 3, 4, 5, 6, 7, 8, 9, 10, 11, 12, 13, 14, 15, 16, 17, 18, 19, 20], [21]), ([22, 17, 20, 0, 1, 2, 3, 4, 5, 6, 7, 8, 9, 10, 11, 12, 13, 14, 15, 16, 17, 18, 19, 20], [17, 22])])
def f51_8.B : List Nat := [0, 0, 0, 4, 12, 28, 0, 64, 192, 508, 0, 1024, 3072, 7168, 0, 16384, 49152, 131068, 262141, 524285, 1048573, 2097151, 4194303, 8388607]
theorem f51_8.tab : rtab .any (opsOf Tryd.f51 8) = f51_8.T := by kernel_rfl
theorem f51_8.bits : waitsOk f51_8.T.2 f51_8.B = true := by kernel_rfl
theorem info20 : (Tryd.prog.info? 20).map (fun i => (i.zero, i.size, i.bytes)) = some (some .nilIface, 1, 16) := by kernel_rfl
def DmOut (w : World) (B p : Nat) (K E : ByteArray) (c : Int) (n : Nat) : Prop := ∃ (n' : Nat) (kv vv : Value) (ks vs : List Value), n' ≤ n ∧ Dm w B p K E c n' kv vv ks vs
def Keeps (w0 w : World) : Prop := ∀ (g : Nat) (cs : Array Value) (t : TypeId), w0.heap[g]? = some (.cells cs t (0, 0)) → t ≠ 20 → w.heap[g]? = some (.cells cs t (0, 0))
structure Sm (w : World) (B p q : Nat) (K E s1 s2 : ByteArray) (T : TypeId) (v : Value) (U : TypeId) (x : Value) (kv vv k1 : Value) (nk : Nat) (ks : List Value) (v1 : Value) (nv : Nat) (vs : List Value) (w0 : World) : Prop where
  blk : w.heap[p]? = some (.cells #[.string K, .string E, kv, vv] 97 (0, 0))
  b1 : w.heap[q + 1]? = some (.cells #[.iface T v, .string s1] 103 (0, 0))
  b2 : w.heap[q + 1 + 1]? = some (.cells #[.iface U x, .string s2] 103 (0, 0))
  kown : w.ownsRow B 20 1 k1 nk ks
  vown : w.ownsRow B 20 1 v1 nv vs
  ne : NeRow k1 v1
  bel : Below B w0 w
  le : B ≤ w.heap.size
  keep : Keeps w0 w
namespace Sm
variable {w w' w0 : World} {B p q : Nat} {K E s1 s2 : ByteArray} {T : TypeId} {v : Value} {U : TypeId} {x : Value} {kv vv k1 : Value} {nk : Nat} {ks : List Value} {v1 : Value} {nv : Nat} {vs : List Value}
theorem held (h : Sm w B p q K E s1 s2 T v U x kv vv k1 nk ks v1 nv vs w0) : w.cell? ⟨p, 2, none⟩ = some kv ∧ w.cell? ⟨p, 3, none⟩ = some vv ∧ w.cell? ⟨q + 1, 0, none⟩ = some (.iface T v) ∧ w.cell? ⟨q + 1 + 1, 0, none⟩ = some (.iface U x) :=
  ⟨(blk_cell h.blk 2).trans rfl, (blk_cell h.blk 3).trans rfl, (blk_cell h.b1 0).trans rfl, (blk_cell h.b2 0).trans rfl⟩
theorem stores (h : Sm w B p q K E s1 s2 T v U x kv vv k1 nk ks v1 nv vs w0) : w.cell? ⟨p, 2, none⟩ = some kv ∧ w.cell? ⟨p, 3, none⟩ = some vv ∧ w.frozen? ⟨p, 2, none⟩ = false ∧ w.frozen? ⟨p, 3, none⟩ = false :=
  ⟨(blk_cell h.blk 2).trans rfl, (blk_cell h.blk 3).trans rfl, blk_frozen h.blk 2, blk_frozen h.blk 3⟩
theorem old (h : Sm w B p q K E s1 s2 T v U x kv vv k1 nk ks v1 nv vs w0) (hb : Below w.heap.size w w') : Sm w' B p q K E s1 s2 T v U x kv vv k1 nk ks v1 nv vs w0 :=
  ⟨boxed_block h.blk hb, boxed_block h.b1 hb, boxed_block h.b2 hb, own_old h.kown hb, own_old h.vown hb, h.ne, h.bel.trans (hb.mono h.le), Nat.le_trans h.le hb.size, fun g cs t hg ht => boxed_block (h.keep g cs t hg ht) hb⟩
theorem drew (h : Sm w B p q K E s1 s2 T v U x kv vv k1 nk ks v1 nv vs w0) : Sm w.drew B p q K E s1 s2 T v U x kv vv k1 nk ks v1 nv vs w0 := h.old (Below.refl _ _).drew
theorem alloc (h : Sm w B p q K E s1 s2 T v U x kv vv k1 nk ks v1 nv vs w0) (o : Obj) : Sm (w.alloc o) B p q K E s1 s2 T v U x kv vv k1 nk ks v1 nv vs w0 := h.old ((Below.refl _ _).alloc (Nat.le_refl _) o)
theorem kown_new (h : Sm w B p q K E s1 s2 T v U x kv vv k1 nk ks v1 nv vs w0) : some w.heap.size ≠ k1.ownBlock := own_ne_new h.kown 0
theorem vown_new (h : Sm w B p q K E s1 s2 T v U x kv vv k1 nk ks v1 nv vs w0) : some w.heap.size ≠ v1.ownBlock := own_ne_new h.vown 0
theorem grownK (h : Sm w B p q K E s1 s2 T v U x kv vv k1 nk ks v1 nv vs w0) {k2 : Value} {nk2 : Nat} {ks2 : List Value} (hg : w.grownBy w' k1.ownBlock) (ho : w'.ownsRow B 20 1 k2 nk2 ks2) (hb : Below B w0 w')
    (hat : k2.ownBlock = k1.ownBlock ∨ ∃ b, k2.ownBlock = some b ∧ w.heap.size ≤ b) : Sm w' B p q K E s1 s2 T v U x kv vv k2 nk2 ks2 v1 nv vs w0 :=
  ⟨blk_grown h.blk hg (own_ne h.kown h.blk (by decide)), blk_grown h.b1 hg (own_ne h.kown h.b1 (by decide)), blk_grown h.b2 hg (own_ne h.kown h.b2 (by decide)), ho, own_other h.vown hg (ne_other h.ne), ne_append h.ne hat h.vown, hb, Nat.le_trans h.le hg.size, fun g cs t h1 h2 => blk_grown (h.keep g cs t h1 h2) hg (own_ne h.kown (h.keep g cs t h1 h2) (Ne.symm h2))⟩
theorem grownV (h : Sm w B p q K E s1 s2 T v U x kv vv k1 nk ks v1 nv vs w0) {v2 : Value} {nv2 : Nat} {vs2 : List Value} (hg : w.grownBy w' v1.ownBlock) (ho : w'.ownsRow B 20 1 v2 nv2 vs2) (hb : Below B w0 w')
    (hat : v2.ownBlock = v1.ownBlock ∨ ∃ b, v2.ownBlock = some b ∧ w.heap.size ≤ b) : Sm w' B p q K E s1 s2 T v U x kv vv k1 nk ks v2 nv2 vs2 w0 :=
  ⟨blk_grown h.blk hg (own_ne h.vown h.blk (by decide)), blk_grown h.b1 hg (own_ne h.vown h.b1 (by decide)), blk_grown h.b2 hg (own_ne h.vown h.b2 (by decide)), own_other h.kown hg (ne_other (ne_symm h.ne)), ho, ne_append' h.ne hat h.kown, hb, Nat.le_trans h.le hg.size, fun g cs t h1 h2 => blk_grown (h.keep g cs t h1 h2) hg (own_ne h.vown (h.keep g cs t h1 h2) (Ne.symm h2))⟩
theorem dm (h : Sm w B p q K E s1 s2 T v U x kv vv k1 nk ks v1 nk vs w0) (c : Int) (hk : ∀ u ∈ ks, ∃ T v, u = .iface T v ∧ KeyV c T v) (hp : B ≤ p) : Dm ((w.setCell ⟨p, 2, none⟩ k1).setCell ⟨p, 3, none⟩ v1) B p K E c nk k1 v1 ks vs := by
  have h1 := blk_set (blk_set h.blk 2 k1) 3 v1
  have nk1 := own_ne h.kown h.blk (by decide)
  have nv1 := own_ne h.vown h.blk (by decide)
  exact ⟨h1, own_setCell (own_setCell h.kown nk1 _) nk1 _, own_setCell (own_setCell h.vown nv1 _) nv1 _, hk, h.ne, hp⟩
end Sm
theorem ne_after {z n : Nat} {kv v9 : Value} (h : some z ≠ kv.ownBlock) (hz : z < n) (hat : v9.ownBlock = kv.ownBlock ∨ ∃ b, v9.ownBlock = some b ∧ n ≤ b) : some z ≠ v9.ownBlock := by
  rcases hat with hat | ⟨b, hb, hle⟩
  · rw [hat]; exact h
  · rw [hb]
    intro e
    injection e with e
    omega
set_option maxRecDepth 100000 in
set_option maxHeartbeats 16000000 in
theorem setMap.calls (B p : Nat) (K E S s1 s2 : ByteArray) (c : Int) (n : Nat) (kv vv : Value) (ks vs : List Value) (T : TypeId) (v : Value) (U : TypeId) (x : Value) (w : World) (hd : Dm w B p K E c n kv vv ks vs) (hk : KeyV c T v) (hn : n ≤ 100000) :
    Calls Tryd.prog 51 #[.agg #[.iface 94 (.pointer (some ⟨p, 0, none⟩)), .string S], .agg #[.iface T v, .string s1], .agg #[.iface U x, .string s2]] w fun e w' => e = .returned (.tuple #[]) ∧ DmOut w' B p K E c (n + 1) ∧ Below B w w' ∧ ∀ (g : Nat) (cs : Array Value) (t : TypeId), w.heap[g]? = some (.cells cs t (0, 0)) → t ≠ 20 → g ≠ p → w'.heap[g]? = some (.cells cs t (0, 0)) := by
  obtain ⟨A, m, rfl⟩ := own_slice hd.kown
  obtain ⟨A2, m2, rfl⟩ := own_slice hd.vown
  have hBw : B ≤ w.heap.size := by have := hd.bp; have := blk_lt hd.blk; omega
  have h3 := blk_lt hd.blk
  obtain ⟨W, hW⟩ : ∃ W, ((w.alloc (.cells #[.iface 94 (.pointer (some ⟨p, 0, none⟩)), .string S] 103)).alloc (.cells #[.iface T v, .string s1] 103)).alloc (.cells #[.iface U x, .string s2] 103) = W := ⟨_, rfl⟩
  have hbW : Below w.heap.size w W := hW ▸ below_alloc' (below_alloc' (below_alloc' (Below.refl _ _) _) _) _
  have hDW := Aside0.mk (hd.old hbW)
  have hq1 : W.heap[w.heap.size + 1]? = some (.cells #[.iface T v, .string s1] 103 (0, 0)) := by
    rw [← hW, Below.heap_alloc _ _ _ (by simp)]
    have h := heap_alloc_new (w.alloc (.cells #[.iface 94 (.pointer (some ⟨p, 0, none⟩)), .string S] 103)) (.cells #[.iface T v, .string s1] 103)
    simpa using h
  have hq2 : W.heap[w.heap.size + 1 + 1]? = some (.cells #[.iface U x, .string s2] 103 (0, 0)) := by
    rw [← hW]
    have h := heap_alloc_new ((w.alloc (.cells #[.iface 94 (.pointer (some ⟨p, 0, none⟩)), .string S] 103)).alloc (.cells #[.iface T v, .string s1] 103)) (.cells #[.iface U x, .string s2] 103)
    simpa using h
  have hq0 : W.heap[w.heap.size]? = some (.cells #[.iface 94 (.pointer (some ⟨p, 0, none⟩)), .string S] 103 (0, 0)) := by
    rw [← hW, Below.heap_alloc _ _ _ (by simp; omega), Below.heap_alloc _ _ _ (by simp)]
    exact heap_alloc_new w _
  have qc0 : W.cell? ⟨w.heap.size, 0, none⟩ = some (.iface 94 (.pointer (some ⟨p, 0, none⟩))) := (blk_cell hq0 0).trans rfl
  clear hq0
  have HQ1 := Aside0.mk hq1
  have HQ2 := Aside0.mk hq2
  have HBW := Aside0.mk (hbW.mono hBw)
  have HBX := Aside0.mk hbW
  have HK := Aside0.mk hk
  have HBL := Aside0.mk hBw
  obtain ⟨d2, d3, -, -⟩ := hDW.out.cells
  clear hd hq1 hq2 hbW hk hBw
  go_enter Tryd.func51, Tryd.ntmps51
  go_wp2_with fail
  clear qc0 d2 d3 hW
  obtain ⟨q, hq⟩ : ∃ q, w.heap.size = q := ⟨_, rfl⟩
  rw [hq] at HQ1 HQ2 ⊢
  trace_state
  go_loopw [16] (fun i wr => ∃ j : Nat, j ≤ n ∧ i = .int .i64 j ∧ Aside0 (∃ k, wr = W.drewN k)) (fun i _ => n - (intOf i).toNat)
  case atStart => exact ⟨0, Nat.zero_le _, rfl, ⟨0, rfl⟩⟩
  case round =>
    obtain ⟨j, hj, rfl, HM⟩ := hrel
    obtain ⟨k0, hk0⟩ := HM.out
    have hbr : Below W.heap.size W wr := hk0 ▸ pw_below_drewN (Below.refl _ _) k0
    have HD := Aside0.mk (hDW.out.old hbr)
    have HR1 := Aside0.mk (boxed_block HQ1.out hbr)
    have HR2 := Aside0.mk (boxed_block HQ2.out hbr)
    have HBR := Aside0.mk (HBW.out.trans (hbr.mono (by have := HBW.out.size; have := HBL.out; omega)))
    have HKX := Aside0.mk (below_step HBX.out hbr)
    obtain ⟨d2, d3, f2, f3⟩ := HD.out.cells
    have r1 : wr.cell? ⟨q + 1, 0, none⟩ = some (.iface T v) := (blk_cell HR1.out 0).trans rfl
    have r2 : wr.cell? ⟨q + 1 + 1, 0, none⟩ = some (.iface U x) := (blk_cell HR2.out 0).trans rfl
    clear hbr hk0
    by_cases hlt : j < n
    · obtain ⟨g, Tj, vj, hA, hcj, hkj⟩ := HD.out.key j hlt
      obtain ⟨ad, had⟩ : ∃ ad : Addr, (⟨g, 0, none⟩ : Addr) = ad := ⟨_, rfl⟩
      rw [had] at hcj hA
      subst hA
      clear had
      obtain ⟨b, hb⟩ := key_eq hkj HK.out
      clear hkj
      cases b
      · go_wp2_with fail
        have HN : Aside0 (∃ k, wr.drew = W.drewN k) := ⟨by obtain ⟨k0, hk0⟩ := HM.out; exact ⟨k0 + 1, by rw [hk0]; simp⟩⟩
        go_region_with (fail)
        all_goals go_wp2_with fail
        all_goals go_roundw
        all_goals first
          | exact ⟨j + 1, by omega, by go_num, HN⟩
          | (simp [intOf]; omega)
      · obtain ⟨g2, u, hA2, hcv, hfv, ha⟩ := HD.out.val j hlt
        have HA := Aside0.mk ha
        obtain ⟨ad2, had2⟩ : ∃ ad : Addr, (⟨g2, 0, none⟩ : Addr) = ad := ⟨_, rfl⟩
        rw [had2] at hcv hfv hA2
        subst hA2
        have HA2 := Aside0.mk had2
        clear ha had2
        go_wp2_with fail
        go_region_with (fail)
        all_goals go_wp2_with fail
        all_goals (go_region_with (fail))
        all_goals go_wp2_with fail
        all_goals refine bodyPost_ret (v := .tuple #[]) (by simp [results, go_sem, Tryd.results51]) rfl ⟨rfl, ?_⟩
        all_goals
          obtain ⟨g3, rfl⟩ : ∃ g3, ad2 = ⟨g3, 0, none⟩ := ⟨g2, HA2.out.symm⟩
          obtain rfl : g2 = g3 := by have := HA2.out; injection this
          rw [HA.out]
          have hgp : g2 ≠ p := fun e => own_ne HD.out.vown HD.out.blk (by decide) (by rw [e]; rfl)
          have hgB : B ≤ g2 := own_base HD.out.vown g2 rfl
          exact ⟨⟨n, _, _, _, _, Nat.le_succ n, (HD.out.set j (.iface U x) hgp).old (Below.refl _ _).drew.drew⟩, (HBR.out.setCell (p := ⟨g2, j, none⟩) hgB _).drew.drew, fun g cs t hg ht _ => (Below.heap_setCell _ _ _ _ (fun e => own_ne HD.out.vown (boxed_block hg HKX.out) (Ne.symm ht) (by rw [e]; rfl))).trans (boxed_block hg HKX.out)⟩
    · obtain rfl : n = j := by omega
      clear f2 f3 d2 d3 r1 r2
      go_wp2_with fail
      have hSM : Sm wr B p q K E s1 s2 T v U x (.slice A n m) (.slice A2 n m2) (.slice A n m) n ks (.slice A2 n m2) n vs w := ⟨HD.out.blk, HR1.out, HR2.out, HD.out.kown, HD.out.vown, HD.out.ne, HBR.out, by have := HBR.out.size; have := HBL.out; omega, fun g cs t hg _ => boxed_block hg HKX.out⟩
      have HBP := Aside0.mk (And.intro HD.out.keys HD.out.bp)
      clear HD HR1 HR2 HBR HM hDW HQ1 HQ2 HBW HKX HBX
      refine start_ (n := 24) (S := fun w' => w'.cell? ⟨p, 2, none⟩ = some (.slice A n m) ∧ w'.cell? ⟨p, 3, none⟩ = some (.slice A2 n m2) ∧ w'.cell? ⟨q + 1, 0, none⟩ = some (.iface T v) ∧ w'.cell? ⟨q + 1 + 1, 0, none⟩ = some (.iface U x)) (ds := [20, 23]) #[false, false, false, false, false, false, false, false, false, false, false, false, false, false, false, false, false, false, false, false, false, false, false, false] (by kernel_rfl) rfl rfl hSM.drew.held (fun hHeld => ?_)
      refine with_tabW f51_8.tab f51_8.bits (fun HT_ HW_ => ?_)
      have SM := Aside0.mk hSM.drew
      clear hSM
      generalize wr.drew = w7 at SM hHeld ⊢
      refine pure_ (i := 0) (N := some 38) (v := ?_) (a' := ?_) #[true, false, false, false, false, false, false, false, false, false, false, false, false, false, false, false, false, false, false, false, false, false, false, false] rfl rfl (any_of HT_.out (by kernel_rfl)) (fun _ _ _ h => h) (Or.inl ⟨by rfl, ?_⟩) ?_ ?_
      rotate_left
      · intro w'
        go_simp
        with_reducible rfl
      rotate_left
      · simp only [Act.put, List.setIfInBounds_toArray, List.set_cons_zero, List.set_cons_succ]
        rfl
      refine pure_ (i := 1) (N := some 39) (v := ?_) (a' := ?_) #[true, true, false, false, false, false, false, false, false, false, false, false, false, false, false, false, false, false, false, false, false, false, false, false] rfl rfl (any_of HT_.out (by kernel_rfl)) (fun _ _ _ h => h) (Or.inl ⟨by rfl, ?_⟩) ?_ ?_
      rotate_left
      · intro w'
        go_simp
        with_reducible rfl
      rotate_left
      · simp only [Act.put, List.setIfInBounds_toArray, List.set_cons_zero, List.set_cons_succ]
        rfl
      refine pure_ (i := 2) (N := some 40) (v := ?_) (a' := ?_) #[true, true, true, false, false, false, false, false, false, false, false, false, false, false, false, false, false, false, false, false, false, false, false, false] rfl rfl (any_of HT_.out (by kernel_rfl)) (fun _ _ _ h => h) (Or.inl ⟨by rfl, ?_⟩) ?_ ?_
      rotate_left
      · intro w'
        go_simp
        with_reducible rfl
      rotate_left
      · simp only [Act.put, List.setIfInBounds_toArray, List.set_cons_zero, List.set_cons_succ]
        rfl
      refine pure_ (i := 3) (N := some 41) (v := ?_) (a' := ?_) #[true, true, true, true, false, false, false, false, false, false, false, false, false, false, false, false, false, false, false, false, false, false, false, false] rfl rfl (any_of HT_.out (by kernel_rfl)) (fun _ _ _ h => h) (Or.inl ⟨by rfl, ?_⟩) ?_ ?_
      rotate_left
      · intro w'
        go_simp
        with_reducible rfl
      rotate_left
      · simp only [Act.put, List.setIfInBounds_toArray, List.set_cons_zero, List.set_cons_succ]
        rfl
      refine pure_ (i := 4) (N := some 42) (v := ?_) (a' := ?_) #[true, true, true, true, true, false, false, false, false, false, false, false, false, false, false, false, false, false, false, false, false, false, false, false] rfl rfl (any_of HT_.out (by kernel_rfl)) (fun _ _ _ h => h) (Or.inl ⟨by rfl, ?_⟩) ?_ ?_
      rotate_left
      · intro w'
        go_simp
        with_reducible rfl
      rotate_left
      · simp only [Act.put, List.setIfInBounds_toArray, List.set_cons_zero, List.set_cons_succ]
        rfl
      refine take_ (i := 5) (N := some 43) (v := ?_) (a' := ?_) #[true, true, true, true, true, true, false, false, false, false, false, false, false, false, false, false, false, false, false, false, false, false, false, false] rfl rfl (take_ofW HT_.out HW_.out (by kernel_rfl)) (fun _ _ _ h => h) (Or.inl ⟨by rfl, ?_⟩) hHeld ?_ ?_
      rotate_left
      · rintro w' ⟨s0, s1, s2, s3⟩
        go_simp
        with_reducible rfl
      rotate_left
      · simp only [Act.put, List.setIfInBounds_toArray, List.set_cons_zero, List.set_cons_succ]
        rfl
      refine pure_ (i := 6) (N := some 44) (v := ?_) (a' := ?_) #[true, true, true, true, true, true, true, false, false, false, false, false, false, false, false, false, false, false, false, false, false, false, false, false] rfl rfl (any_of HT_.out (by kernel_rfl)) (fun _ _ _ h => h) (Or.inl ⟨by rfl, ?_⟩) ?_ ?_
      rotate_left
      · intro w'
        go_simp
        with_reducible rfl
      rotate_left
      · simp only [Act.put, List.setIfInBounds_toArray, List.set_cons_zero, List.set_cons_succ]
        rfl
      refine take_ (i := 7) (N := some 45) (v := ?_) (a' := ?_) #[true, true, true, true, true, true, true, true, false, false, false, false, false, false, false, false, false, false, false, false, false, false, false, false] rfl rfl (take_ofW HT_.out HW_.out (by kernel_rfl)) (fun _ _ _ h => h) (Or.inl ⟨by rfl, ?_⟩) hHeld ?_ ?_
      rotate_left
      · rintro w' ⟨s0, s1, s2, s3⟩
        go_simp
        with_reducible rfl
      rotate_left
      · simp only [Act.put, List.setIfInBounds_toArray, List.set_cons_zero, List.set_cons_succ]
        rfl
      refine pure_ (i := 10) (N := some 48) (v := ?_) (a' := ?_) #[true, true, true, true, true, true, true, true, false, false, true, false, false, false, false, false, false, false, false, false, false, false, false, false] rfl rfl (any_of HT_.out (by kernel_rfl)) (fun _ _ _ h => h) (Or.inl ⟨by rfl, ?_⟩) ?_ ?_
      rotate_left
      · intro w'
        go_simp
        with_reducible rfl
      rotate_left
      · simp only [Act.put, List.setIfInBounds_toArray, List.set_cons_zero, List.set_cons_succ]
        rfl
      refine pure_ (i := 11) (N := some 49) (v := ?_) (a' := ?_) #[true, true, true, true, true, true, true, true, false, false, true, true, false, false, false, false, false, false, false, false, false, false, false, false] rfl rfl (any_of HT_.out (by kernel_rfl)) (fun _ _ _ h => h) (Or.inl ⟨by rfl, ?_⟩) ?_ ?_
      rotate_left
      · intro w'
        go_simp
        with_reducible rfl
      rotate_left
      · simp only [Act.put, List.setIfInBounds_toArray, List.set_cons_zero, List.set_cons_succ]
        rfl
      refine pure_ (i := 12) (N := some 50) (v := ?_) (a' := ?_) #[true, true, true, true, true, true, true, true, false, false, true, true, true, false, false, false, false, false, false, false, false, false, false, false] rfl rfl (any_of HT_.out (by kernel_rfl)) (fun _ _ _ h => h) (Or.inl ⟨by rfl, ?_⟩) ?_ ?_
      rotate_left
      · intro w'
        go_simp
        with_reducible rfl
      rotate_left
      · simp only [Act.put, List.setIfInBounds_toArray, List.set_cons_zero, List.set_cons_succ]
        rfl
      refine take_ (i := 13) (N := some 51) (v := ?_) (a' := ?_) #[true, true, true, true, true, true, true, true, false, false, true, true, true, true, false, false, false, false, false, false, false, false, false, false] rfl rfl (take_ofW HT_.out HW_.out (by kernel_rfl)) (fun _ _ _ h => h) (Or.inl ⟨by rfl, ?_⟩) hHeld ?_ ?_
      rotate_left
      · rintro w' ⟨s0, s1, s2, s3⟩
        go_simp
        with_reducible rfl
      rotate_left
      · simp only [Act.put, List.setIfInBounds_toArray, List.set_cons_zero, List.set_cons_succ]
        rfl
      refine pure_ (i := 14) (N := some 52) (v := ?_) (a' := ?_) #[true, true, true, true, true, true, true, true, false, false, true, true, true, true, true, false, false, false, false, false, false, false, false, false] rfl rfl (any_of HT_.out (by kernel_rfl)) (fun _ _ _ h => h) (Or.inl ⟨by rfl, ?_⟩) ?_ ?_
      rotate_left
      · intro w'
        go_simp
        with_reducible rfl
      rotate_left
      · simp only [Act.put, List.setIfInBounds_toArray, List.set_cons_zero, List.set_cons_succ]
        rfl
      refine take_ (i := 15) (N := some 53) (v := ?_) (a' := ?_) #[true, true, true, true, true, true, true, true, false, false, true, true, true, true, true, true, false, false, false, false, false, false, false, false] rfl rfl (take_ofW HT_.out HW_.out (by kernel_rfl)) (fun _ _ _ h => h) (Or.inl ⟨by rfl, ?_⟩) hHeld ?_ ?_
      rotate_left
      · rintro w' ⟨s0, s1, s2, s3⟩
        go_simp
        with_reducible rfl
      rotate_left
      · simp only [Act.put, List.setIfInBounds_toArray, List.set_cons_zero, List.set_cons_succ]
        rfl
      refine join_ (σ := Nat × Nat × Value) 7 #[true, true, true, true, true, true, true, true, true, true, true, true, true, true, true, true, true, false, false, false, false, false, false, false] (fun s => [(46, .slice (some ⟨s.1, 0, none⟩) 1 1), (47, s.2.2), (54, .slice (some ⟨s.2.1, 0, none⟩) 1 1)]) (fun s w' => (w'.cell? ⟨p, 2, none⟩ = some (.slice A n m) ∧ w'.cell? ⟨p, 3, none⟩ = some (.slice A2 n m2) ∧ w'.cell? ⟨q + 1, 0, none⟩ = some (.iface T v) ∧ w'.cell? ⟨q + 1 + 1, 0, none⟩ = some (.iface U x)) ∧ Sm w' B p q K E s1 s2 T v U x (.slice A n m) (.slice A2 n m2) s.2.2 (n + 1) (ks ++ [.iface T v]) (.slice A2 n m2) n vs w ∧ w'.heap[s.2.1]? = some (.cells #[.iface U x] 20 (0, 0)) ∧ some s.2.1 ≠ s.2.2.ownBlock ∧ some s.2.1 ≠ Value.ownBlock (.slice A2 n m2)) ?cont_ ?_
      rotate_left
      · intro hCont
        refine two_ (i := 8) (j := 16) (Ni := some 46) (Nj := some 54) #[true, true, true, true, true, true, true, true, true, false, true, true, true, true, true, true, false, false, false, false, false, false, false, false] #[true, true, true, true, true, true, true, true, false, false, true, true, true, true, true, true, true, false, false, false, false, false, false, false] rfl rfl rfl rfl (two_of HT_.out (by kernel_rfl)) (by decide) (by decide) (fun K hK => ?_) (fun K hK => ?_)
        · refine value_ (w1 := ?_) (v := ?_) (by rfl) rfl ?_ ?_
          rotate_left 2
          · go_simp
            constructor
            · rfl
            · rfl
          have hz1 := heap_alloc_new w7 (.cells #[.iface T v] 20)
          have SM := Aside0.mk (SM.out.alloc (.cells #[.iface T v] 20))
          obtain ⟨z1, hzz1⟩ : ∃ z, w7.heap.size = z := ⟨_, rfl⟩
          rw [hzz1] at hz1 ⊢
          have lz1 : z1 < (w7.alloc (.cells #[.iface T v] 20)).heap.size := blk_lt hz1
          clear hzz1
          generalize w7.alloc (.cells #[.iface T v] 20) = w8 at SM hz1 lz1 ⊢
          refine hK.out _ _ SM.out.held (fun hHeld => ?_)
          clear hK K
          refine norm_ (a' := ?_) ?_ ?_
          rotate_left
          · show Act.put _ (some 46) _ = _
            simp only [Act.put, List.setIfInBounds_toArray, List.set_cons_zero, List.set_cons_succ]
            rfl
          refine two_ (i := 9) (j := 16) (Ni := some 47) (Nj := some 54) #[true, true, true, true, true, true, true, true, true, true, true, true, true, true, true, true, false, false, false, false, false, false, false, false] #[true, true, true, true, true, true, true, true, true, false, true, true, true, true, true, true, true, false, false, false, false, false, false, false] rfl rfl rfl rfl (two_of HT_.out (by kernel_rfl)) (by decide) (by decide) (fun K hK => ?_) (fun K hK => ?_)
          · refine step_app (w0 := w) B (by rfl) (.tmp 43) (.tmp 46) 44 20 .nilIface 16 rfl Tryd.underlying44 info20 rfl (by decide) (.slice A n m) n ks (.iface T v) z1 rfl rfl hz1 rfl SM.out.kown SM.out.bel SM.out.le (by omega) ?_
            intro v9 w9 ho hb hg hat
            have SM9 := Aside0.mk (SM.out.grownK hg ho hb hat)
            clear ho hb hg hat hz1 lz1 SM
            refine hK.out _ _ SM9.out.held (fun hHeld => ?_)
            clear hK K
            refine norm_ (a' := ?_) ?_ ?_
            rotate_left
            · show Act.put _ (some 47) _ = _
              simp only [Act.put, List.setIfInBounds_toArray, List.set_cons_zero, List.set_cons_succ]
              rfl
            refine one_ (i := 16) (N := some 54) #[true, true, true, true, true, true, true, true, true, true, true, true, true, true, true, true, true, false, false, false, false, false, false, false] rfl rfl (one_of HT_.out (by kernel_rfl)) (by decide) (fun K hK => ?_)
            refine value_ (w1 := ?_) (v := ?_) (by rfl) rfl ?_ ?_
            rotate_left 2
            · go_simp
              constructor
              · rfl
              · rfl
            have hz2 := heap_alloc_new w9 (.cells #[.iface U x] 20)
            have nk9 := SM9.out.kown_new
            have nv2 := SM9.out.vown_new
            have SM9 := Aside0.mk (SM9.out.alloc (.cells #[.iface U x] 20))
            obtain ⟨z2, hzz2⟩ : ∃ z, w9.heap.size = z := ⟨_, rfl⟩
            rw [hzz2] at hz2 nk9 nv2 ⊢
            clear hzz2
            generalize w9.alloc (.cells #[.iface U x] 20) = w10 at SM9 hz2 ⊢
            refine hK.out _ _ SM9.out.held (fun hHeld => ?_)
            clear hK K
            refine norm_ (a' := ?_) ?_ ?_
            rotate_left
            · show Act.put _ (some 54) _ = _
              simp only [Act.put, List.setIfInBounds_toArray, List.set_cons_zero, List.set_cons_succ]
              rfl
            exact norm_ (by simp only [putAll, Act.put, List.setIfInBounds_toArray, List.set_cons_zero, List.set_cons_succ]) (hCont (z1, z2, v9) _ ⟨hHeld, SM9.out, hz2, nk9, nv2⟩)
          · refine value_ (w1 := ?_) (v := ?_) (by rfl) rfl ?_ ?_
            rotate_left 2
            · go_simp
              constructor
              · rfl
              · rfl
            have hz1 := blk_alloc hz1 (.cells #[.iface U x] 20)
            have hz2 := heap_alloc_new w8 (.cells #[.iface U x] 20)
            have nk2 := SM.out.kown_new
            have nv2 := SM.out.vown_new
            have SM := Aside0.mk (SM.out.alloc (.cells #[.iface U x] 20))
            obtain ⟨z2, hzz2⟩ : ∃ z, w8.heap.size = z := ⟨_, rfl⟩
            rw [hzz2] at hz2 nk2 nv2 ⊢
            have lz2 : z2 < (w8.alloc (.cells #[.iface U x] 20)).heap.size := blk_lt hz2
            clear hzz2
            generalize w8.alloc (.cells #[.iface U x] 20) = w9 at SM hz2 lz2 hz1 ⊢
            refine hK.out _ _ SM.out.held (fun hHeld => ?_)
            clear hK K
            refine norm_ (a' := ?_) ?_ ?_
            rotate_left
            · show Act.put _ (some 54) _ = _
              simp only [Act.put, List.setIfInBounds_toArray, List.set_cons_zero, List.set_cons_succ]
              rfl
            refine one_ (i := 9) (N := some 47) #[true, true, true, true, true, true, true, true, true, true, true, true, true, true, true, true, true, false, false, false, false, false, false, false] rfl rfl (one_of HT_.out (by kernel_rfl)) (by decide) (fun K hK => ?_)
            refine step_app (w0 := w) B (by rfl) (.tmp 43) (.tmp 46) 44 20 .nilIface 16 rfl Tryd.underlying44 info20 rfl (by decide) (.slice A n m) n ks (.iface T v) z1 rfl rfl hz1 rfl SM.out.kown SM.out.bel SM.out.le (by omega) ?_
            intro v9 w10 ho hb hg hat
            have hz2 := blk_grown hz2 hg nk2
            have nk9 : some z2 ≠ v9.ownBlock := ne_after nk2 lz2 hat
            have lz2 := blk_lt hz2
            clear nk2
            have SM9 := Aside0.mk (SM.out.grownK hg ho hb hat)
            clear ho hb hg hat hz1 lz1 SM
            refine hK.out _ _ SM9.out.held (fun hHeld => ?_)
            clear hK K
            refine norm_ (a' := ?_) ?_ ?_
            rotate_left
            · show Act.put _ (some 47) _ = _
              simp only [Act.put, List.setIfInBounds_toArray, List.set_cons_zero, List.set_cons_succ]
              rfl
            exact norm_ (by simp only [putAll, Act.put, List.setIfInBounds_toArray, List.set_cons_zero, List.set_cons_succ]) (hCont (z1, z2, v9) _ ⟨hHeld, SM9.out, hz2, nk9, nv2⟩)
        · refine value_ (w1 := ?_) (v := ?_) (by rfl) rfl ?_ ?_
          rotate_left 2
          · go_simp
            constructor
            · rfl
            · rfl
          have hz2 := heap_alloc_new w7 (.cells #[.iface U x] 20)
          have nk2 := SM.out.kown_new
          have nv2 := SM.out.vown_new
          have SM := Aside0.mk (SM.out.alloc (.cells #[.iface U x] 20))
          obtain ⟨z2, hzz2⟩ : ∃ z, w7.heap.size = z := ⟨_, rfl⟩
          rw [hzz2] at hz2 nk2 nv2 ⊢
          have lz2 : z2 < (w7.alloc (.cells #[.iface U x] 20)).heap.size := blk_lt hz2
          clear hzz2
          generalize w7.alloc (.cells #[.iface U x] 20) = w8 at SM hz2 lz2 ⊢
          refine hK.out _ _ SM.out.held (fun hHeld => ?_)
          clear hK K
          refine norm_ (a' := ?_) ?_ ?_
          rotate_left
          · show Act.put _ (some 54) _ = _
            simp only [Act.put, List.setIfInBounds_toArray, List.set_cons_zero, List.set_cons_succ]
            rfl
          refine one_ (i := 8) (N := some 46) #[true, true, true, true, true, true, true, true, true, false, true, true, true, true, true, true, true, false, false, false, false, false, false, false] rfl rfl (one_of HT_.out (by kernel_rfl)) (by decide) (fun K hK => ?_)
          refine value_ (w1 := ?_) (v := ?_) (by rfl) rfl ?_ ?_
          rotate_left 2
          · go_simp
            constructor
            · rfl
            · rfl
          have hz2 := blk_alloc hz2 (.cells #[.iface T v] 20)
          have lz2 := blk_lt hz2
          have hz1 := heap_alloc_new w8 (.cells #[.iface T v] 20)
          have SM := Aside0.mk (SM.out.alloc (.cells #[.iface T v] 20))
          obtain ⟨z1, hzz1⟩ : ∃ z, w8.heap.size = z := ⟨_, rfl⟩
          rw [hzz1] at hz1 ⊢
          have lz1 : z1 < (w8.alloc (.cells #[.iface T v] 20)).heap.size := blk_lt hz1
          clear hzz1
          generalize w8.alloc (.cells #[.iface T v] 20) = w9 at SM hz1 lz1 hz2 lz2 ⊢
          refine hK.out _ _ SM.out.held (fun hHeld => ?_)
          clear hK K
          refine norm_ (a' := ?_) ?_ ?_
          rotate_left
          · show Act.put _ (some 46) _ = _
            simp only [Act.put, List.setIfInBounds_toArray, List.set_cons_zero, List.set_cons_succ]
            rfl
          refine one_ (i := 9) (N := some 47) #[true, true, true, true, true, true, true, true, true, true, true, true, true, true, true, true, true, false, false, false, false, false, false, false] rfl rfl (one_of HT_.out (by kernel_rfl)) (by decide) (fun K hK => ?_)
          refine step_app (w0 := w) B (by rfl) (.tmp 43) (.tmp 46) 44 20 .nilIface 16 rfl Tryd.underlying44 info20 rfl (by decide) (.slice A n m) n ks (.iface T v) z1 rfl rfl hz1 rfl SM.out.kown SM.out.bel SM.out.le (by omega) ?_
          intro v9 w10 ho hb hg hat
          have hz2 := blk_grown hz2 hg nk2
          have nk9 : some z2 ≠ v9.ownBlock := ne_after nk2 lz2 hat
          have lz2 := blk_lt hz2
          clear nk2
          have SM9 := Aside0.mk (SM.out.grownK hg ho hb hat)
          clear ho hb hg hat hz1 lz1 SM
          refine hK.out _ _ SM9.out.held (fun hHeld => ?_)
          clear hK K
          refine norm_ (a' := ?_) ?_ ?_
          rotate_left
          · show Act.put _ (some 47) _ = _
            simp only [Act.put, List.setIfInBounds_toArray, List.set_cons_zero, List.set_cons_succ]
            rfl
          exact norm_ (by simp only [putAll, Act.put, List.setIfInBounds_toArray, List.set_cons_zero, List.set_cons_succ]) (hCont (z1, z2, v9) _ ⟨hHeld, SM9.out, hz2, nk9, nv2⟩)
      rintro ⟨z1, z2, v9⟩ w11 ⟨hHeld, hS9, hz2, nk9, nv2⟩
      have SM9 := Aside0.mk hS9
      clear hS9 SM
      obtain ⟨A9, m9, rfl⟩ := own_slice SM9.out.kown
      refine norm_ (a' := ?_) ?_ ?_
      rotate_left
      · show putAll _ [(46, _), (47, _), (54, _)] = _
        simp only [putAll, Act.put, List.setIfInBounds_toArray, List.set_cons_zero, List.set_cons_succ]
        rfl
      refine one_ (i := 17) (N := some 55) #[true, true, true, true, true, true, true, true, true, true, true, true, true, true, true, true, true, true, false, false, false, false, false, false] rfl rfl (one_of HT_.out (by kernel_rfl)) (by decide) (fun K hK => ?_)
      refine step_app (w0 := w) B (by rfl) (.tmp 51) (.tmp 54) 44 20 .nilIface 16 rfl Tryd.underlying44 info20 rfl (by decide) (.slice A2 n m2) n vs (.iface U x) z2 rfl rfl hz2 rfl SM9.out.vown SM9.out.bel SM9.out.le (by omega) ?_
      intro v17 w12 ho hb hg hat
      have SX := Aside0.mk (SM9.out.grownV hg ho hb hat)
      clear ho hb hg hat hz2 nk9 nv2 SM9
      obtain ⟨A17, m17, rfl⟩ := own_slice SX.out.vown
      refine hK.out _ _ SX.out.held (fun hHeld => ?_)
      clear hK K
      refine norm_ (a' := ?_) ?_ ?_
      rotate_left
      · show Act.put _ (some 55) _ = _
        simp only [Act.put, List.setIfInBounds_toArray, List.set_cons_zero, List.set_cons_succ]
        rfl
      refine pure_ (i := 18) (N := some 56) (v := ?_) (a' := ?_) #[true, true, true, true, true, true, true, true, true, true, true, true, true, true, true, true, true, true, true, false, false, false, false, false] rfl rfl (any_of HT_.out (by kernel_rfl)) (fun _ _ _ h => h) (Or.inl ⟨by rfl, ?_⟩) ?_ ?_
      rotate_left
      · intro w'
        go_simp
        with_reducible rfl
      rotate_left
      · simp only [Act.put, List.setIfInBounds_toArray, List.set_cons_zero, List.set_cons_succ]
        rfl
      refine pure_ (i := 19) (N := some 57) (v := ?_) (a' := ?_) #[true, true, true, true, true, true, true, true, true, true, true, true, true, true, true, true, true, true, true, true, false, false, false, false] rfl rfl (any_of HT_.out (by kernel_rfl)) (fun _ _ _ h => h) (Or.inl ⟨by rfl, ?_⟩) ?_ ?_
      rotate_left
      · intro w'
        go_simp
        with_reducible rfl
      rotate_left
      · simp only [Act.put, List.setIfInBounds_toArray, List.set_cons_zero, List.set_cons_succ]
        rfl
      refine last_ (i := 20) (N := none) #[true, true, true, true, true, true, true, true, true, true, true, true, true, true, true, true, true, true, true, true, true, false, false, false] rfl rfl (one_of HT_.out (by kernel_rfl)) (by decide) (fun K hK => ?_)
      obtain ⟨e2, e3, f2, f3⟩ := SX.out.stores
      refine skip_ (w1 := ?_) (by rfl) rfl ?_ ?_
      rotate_left
      · go_simp
        rfl
      refine hK.out _ _ ?_
      clear hK K e2 f2
      refine pure_ (i := 21) (N := some 58) (v := ?_) (a' := ?_) #[true, true, true, true, true, true, true, true, true, true, true, true, true, true, true, true, true, true, true, true, true, true, false, false] rfl rfl (any_of HT_.out (by kernel_rfl)) (fun _ _ _ h => h) (Or.inl ⟨by rfl, ?_⟩) ?_ ?_
      rotate_left
      · intro w'
        go_simp
        with_reducible rfl
      rotate_left
      · simp only [Act.put, List.setIfInBounds_toArray, List.set_cons_zero, List.set_cons_succ]
        rfl
      refine pure_ (i := 22) (N := some 59) (v := ?_) (a' := ?_) #[true, true, true, true, true, true, true, true, true, true, true, true, true, true, true, true, true, true, true, true, true, true, true, false] rfl rfl (any_of HT_.out (by kernel_rfl)) (fun _ _ _ h => h) (Or.inl ⟨by rfl, ?_⟩) ?_ ?_
      rotate_left
      · intro w'
        go_simp
        with_reducible rfl
      rotate_left
      · simp only [Act.put, List.setIfInBounds_toArray, List.set_cons_zero, List.set_cons_succ]
        rfl
      refine last_ (i := 23) (N := none) #[true, true, true, true, true, true, true, true, true, true, true, true, true, true, true, true, true, true, true, true, true, true, true, true] rfl rfl (one_of HT_.out (by kernel_rfl)) (by decide) (fun K hK => ?_)
      have e3 : (w12.setCell ⟨p, 2, none⟩ (.slice A9 (n + 1) m9)).cell? ⟨p, 3, none⟩ = some (.slice A2 n m2) := (blk_cell (blk_set SX.out.blk 2 (.slice A9 (n + 1) m9)) 3).trans rfl
      refine skip_ (w1 := ?_) (by rfl) rfl ?_ ?_
      rotate_left
      · go_simp
        rfl
      refine hK.out _ _ ?_
      clear hK K
      refine done_ (done_of HT_.out (by kernel_rfl)) ?_
      clear e3 f3 hHeld
      go_wp2_with fail
      refine bodyPost_end (results_none (by rfl) _ _ _) rfl ⟨rfl, ⟨n + 1, _, _, _, _, Nat.le_refl _, SX.out.dm c ?_ HBP.out.2⟩, (SX.out.bel.setCell (p := ⟨p, 2, none⟩) HBP.out.2 _).setCell (p := ⟨p, 3, none⟩) HBP.out.2 _, fun g cs t hg ht hp => (Below.heap_setCell _ _ _ _ hp).trans ((Below.heap_setCell _ _ _ _ hp).trans (SX.out.keep g cs t hg ht))⟩
      intro u hu
      rcases List.mem_append.1 hu with hu | hu
      · exact HBP.out.1 u hu
      · rw [List.mem_singleton] at hu
        exact ⟨T, v, hu, HK.out⟩
end Go.Proofs.YtnojjfklnihmnaaDoor.Given
