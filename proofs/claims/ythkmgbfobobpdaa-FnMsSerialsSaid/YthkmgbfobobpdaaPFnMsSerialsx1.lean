-- PRINTED BY print.sh 35421559b90ae4d0a3588c463048766b98c2df88dd9212a6774a882060cdf62d: not written by this session
import Derived.Test.YthkmgbfobobpdaaPFnMsSerialsx0
namespace Go.Proofs.Ythkmgbfobobpdaa.PFnMsSerials
open Go.RowKit Go.Proofs.YthkmgbfobobpdaaW.PrintWords Go.Proofs.YthkmgbfobobpdaaW.PrintLast Go.Proofs.YthkmgbfobobpdaaW.PrintMore
attribute [local go_sem] max2_int min2_int max_two min_two max_three min_three max_four min_four   -- for this text's walks alone
set_option linter.unusedVariables false
set_option linter.unusedSimpArgs false

/-- A state of type 78 at block g of W; what its slices lead to came in by w0. -/
def IsS78 (w0 W : World) (g : Nat) (f0 : Int) : Prop := W.heap[g]? = some (.cells #[.int .u64 f0] 78 (0, 0)) ∧ w0.heap.size ≤ g
theorem IsS78.grown {w0 W : World} {g : Nat} {f0 : Int} {W1 : World} {row : Option Nat} (h : IsS78 w0 W g f0) (hw : W.grownBy W1 row) (hne : some g ≠ row) : IsS78 w0 W1 g f0 := by
  obtain ⟨hb, hg⟩ := h
  exact ⟨blk_grown hb hw hne, hg⟩
theorem IsS78.own_neN {w0 W : World} {g : Nat} {f0 : Int} {α : Type} {d : Kd α} {e : Nat} {base : Nat} {ok : Nat → Prop} {v : Value} {xs : List α} (h : IsS78 w0 W g f0) (ho : Kd.N d e W base ok v xs) (ht : e ≠ 78) : some g ≠ v.ownBlock := by
  obtain ⟨hb, hg⟩ := h
  exact Kd.N_ne ho hb ht
theorem IsS78.fresh {w0 W : World} {g : Nat} {f0 : Int} (h : IsS78 w0 W g f0) : ∀ k, W.heap.size ≤ k → k ≠ g := by
  obtain ⟨hb, hg⟩ := h
  exact Kd.freshB hb
theorem IsS78.kept {w0 W : World} {g : Nat} {f0 : Int} {W1 : World} {S : Nat → Prop} (h : IsS78 w0 W g f0) (hk : Kept W W1 S) (hne : ¬ S g) : IsS78 w0 W1 g f0 := by
  obtain ⟨hb, hg⟩ := h
  exact ⟨blk_kept hb hk hne, hg⟩
theorem IsS78.below {w0 W : World} {g : Nat} {f0 : Int} {W1 : World} (h : IsS78 w0 W g f0) (hw : Below W.heap.size W W1) : IsS78 w0 W1 g f0 := h.grown (grown_of_below hw none) (by simp)
theorem IsS78.alloc {w0 W : World} {g : Nat} {f0 : Int} (h : IsS78 w0 W g f0) (o : Obj) : IsS78 w0 (W.alloc o) g f0 := h.below (below_alloc (Below.refl _ _) o)
theorem IsS78.drewN {w0 W : World} {g : Nat} {f0 : Int} (h : IsS78 w0 W g f0) (m : Nat) : IsS78 w0 (W.drewN m) g f0 := h
theorem IsS78.drew {w0 W : World} {g : Nat} {f0 : Int} (h : IsS78 w0 W g f0) : IsS78 w0 W.drew g f0 := h
theorem IsS78.at_ {w0 W : World} {g : Nat} {f0 : Int} {w' : World} {m : Nat} (hq : W.drewN m = w') (h : IsS78 w0 W g f0) : IsS78 w0 w' g f0 := by subst hq; exact IsS78.drewN h m
theorem IsS78.apart {w0 W : World} {g : Nat} {f0 : Int} {α : Type} {d : Kd α} {e : Nat} {base : Nat} {ok : Nat → Prop} {v : Value} {xs : List α} (h : IsS78 w0 W g f0) (ho : d.R e W base ok v xs) (ht : ∀ q, q ∈ e :: d.E → q ≠ 78) : d.R e W base (fun k => ok k ∧ k ≠ g) v xs := by
  obtain ⟨hb, hg⟩ := h
  exact Kd.R_types ho hb ht
theorem IsS78.own_ne {w0 W : World} {g : Nat} {f0 : Int} {α : Type} {d : Kd α} {e : Nat} {base : Nat} {ok : Nat → Prop} {v : Value} {xs : List α} (h : IsS78 w0 W g f0) (ho : d.R e W base ok v xs) (ht : e ≠ 78) : some g ≠ v.ownBlock := by
  obtain ⟨hb, hg⟩ := h
  exact Kd.R_ne ho hb ht
theorem IsS78.apartQ {w0 W : World} {g : Nat} {f0 : Int} {α : Type} {d : Kd α} {e : Nat} {base : Nat} {ok : Nat → Prop} {v : Value} {xs : List α} (h : IsS78 w0 W g f0) (ho : d.Q e W base ok v xs) (ht : ∀ q, q ∈ e :: d.E → q ≠ 78) : d.Q e W base (fun k => ok k ∧ k ≠ g) v xs := by
  obtain ⟨hb, hg⟩ := h
  exact Kd.Q_types ho hb ht
theorem IsS78.own_neQ {w0 W : World} {g : Nat} {f0 : Int} {α : Type} {d : Kd α} {e : Nat} {base : Nat} {ok : Nat → Prop} {v : Value} {xs : List α} (h : IsS78 w0 W g f0) (ho : d.Q e W base ok v xs) (ht : e ≠ 78) : some g ≠ v.ownBlock := by
  obtain ⟨hb, hg⟩ := h
  exact Kd.Q_ne ho hb ht
theorem IsS78.apartS {w0 W : World} {g : Nat} {f0 : Int} {α : Type} {d : Kd α} {e : Nat} {base : Nat} {ok : Nat → Prop} {v : Value} {xs : List α} (h : IsS78 w0 W g f0) (ho : d.S e W base ok v xs) (ht : ∀ q, q ∈ e :: d.E → q ≠ 78) : d.S e W base (fun k => ok k ∧ k ≠ g) v xs := by
  obtain ⟨hb, hg⟩ := h
  exact Kd.S_types ho hb ht
theorem IsS78.own_neS {w0 W : World} {g : Nat} {f0 : Int} {α : Type} {d : Kd α} {e : Nat} {base : Nat} {ok : Nat → Prop} {v : Value} {xs : List α} (h : IsS78 w0 W g f0) (ho : d.S e W base ok v xs) (ht : e ≠ 78) : some g ≠ v.ownBlock := by
  obtain ⟨hb, hg⟩ := h
  exact Kd.S_ne ho hb ht
theorem IsS78.lt {w0 W : World} {g : Nat} {f0 : Int} (h : IsS78 w0 W g f0) : g < W.heap.size := by
  obtain ⟨hb, hg⟩ := h
  exact blk_lt hb
theorem IsS78.ge {w0 W : World} {g : Nat} {f0 : Int} (h : IsS78 w0 W g f0) : w0.heap.size ≤ g := by
  obtain ⟨hb, hg⟩ := h
  exact hg
theorem IsS78.ne_blk {w0 W : World} {g : Nat} {f0 : Int} {a : Nat} {cs : Array Value} {t : TypeId} {fr : Nat × Nat} (h : IsS78 w0 W g f0) (hb2 : W.heap[a]? = some (.cells cs t fr)) (ht : t ≠ 78) : g ≠ a := by
  obtain ⟨hb, hg⟩ := h
  rintro rfl
  rw [hb] at hb2
  injection hb2 with hb2
  injection hb2 with _ ht2
  exact ht ht2.symm
theorem IsS78.far {w0 W : World} {g : Nat} {f0 : Int} {p : Addr} (h : IsS78 w0 W g f0) (hne : g ≠ p.block) (u : Value) : IsS78 w0 (W.setCell p u) g f0 := by
  obtain ⟨hb, hg⟩ := h
  exact ⟨blk_far hb hne u, hg⟩
theorem cellS78_0 {W : World} {g : Nat} {f0 : Int} (h : W.heap[g]? = some (.cells #[.int .u64 f0] 78 (0, 0))) : W.cell? ⟨g, 0, none⟩ = some (.int .u64 f0) := (blk_cell h 0).trans rfl
theorem IsS78.set_0 {w0 W : World} {g : Nat} {f0 : Int} (h : IsS78 w0 W g f0) (x : Int) : IsS78 w0 (W.setCell ⟨g, 0, none⟩ (.int .u64 x)) g x := by
  obtain ⟨hb, hg⟩ := h
  exact ⟨by simpa using blk_set hb 0 (.int .u64 x), hg⟩
theorem IsS78.new (w0 W : World) (f0 : Int) (hB : Below w0.heap.size w0 W) : IsS78 w0 (W.alloc (.cells #[.int .u64 f0] 78)) W.heap.size f0 := ⟨by simpa using heap_alloc_new W _, hB.size⟩

/-! ### dbus_newSequenceGenerator: function 48 -/
def dbus_newSequenceGenerator.f  : Option (Int) := some 1
set_option maxHeartbeats 8000000 in
set_option maxRecDepth 100000 in
theorem dbus_newSequenceGenerator.calls  (r : Int) (w0 w : World) (hB : Below w0.heap.size w0 w) (h : dbus_newSequenceGenerator.f  = some r) :
    Calls Try.prog 48 #[] w fun e w' => ∃ g_ : Nat, e = .returned (.pointer (some ⟨g_, 0, none⟩)) ∧ IsS78 w0 w' g_ r ∧ Below w0.heap.size w0 w' ∧ Below w.heap.size w w' := by
  have hu78 := Try.underlying78
  have HBW := Aside0.mk (Below.refl w.heap.size w)
  have HW0 := Aside0.mk hB.size
  have HB := Aside0.mk hB
  clear hB
  have H : (some 1) = some r := h
  clear h
  obtain rfl := Option.some.inj H
  go_enter Try.func48, Try.ntmps48
  go_wp2_with (first | ((with_reducible refine gate_dst (N := 2) rfl ?_); refine box_event ?hg (N := 2) ?hd (cs := #[.int .u64 1]) (t := 78) ?hr ?_; (case hd => rfl); (case hg => rfl); (case hr => first | (go_simp; done) | (go_simp; rfl)); intro gb101 hg w1 hbox hb; have n0_ := Aside0.mk (below_step HBW.out hb); have n1_ := Aside0.mk (below_step (by repeat (first | (with_reducible first | exact HB.out | apply below_alloc | apply pw_below_drewN | apply below_drew1) | exact HB.out)) hb); have n2_ := Aside0.mk (hbox); have n3_ := Aside0.mk ((by rw [hg]; exact (below_size (by repeat (first | (with_reducible first | exact HBW.out | apply below_alloc | apply pw_below_drewN | apply below_drew1) | exact HBW.out))) : w.heap.size ≤ gb101)); have n4_ := Aside0.mk ((Nat.le_trans HW0.out (by rw [hg]; exact (below_size (by repeat (first | (with_reducible first | exact HBW.out | apply below_alloc | apply pw_below_drewN | apply below_drew1) | exact HBW.out))) : w.heap.size ≤ gb101) : w0.heap.size ≤ gb101)); clear HBW; clear HB; have HBW := n0_; have HB := n1_; have BK101 := n2_; have GW101 := n3_; have GE101 := n4_; clear n0_ n1_ n2_ n3_ n4_; clear hb hbox hg))
  go_ret
  exact ⟨_, rfl, (show IsS78 w0 _ gb101 1 from ⟨by (with_reducible repeat (first | refine blk_drewN ?_ _ | refine blk_drew ?_ | refine blk_alloc ?_ _)); exact BK101.out, GE101.out⟩), by repeat (first | (with_reducible first | exact HB.out | apply below_alloc | apply pw_below_drewN | apply below_drew1 | refine below_set ?_ GE101.out) | exact HB.out), by repeat (first | (with_reducible first | exact HBW.out | apply below_alloc | apply pw_below_drewN | apply below_drew1 | refine below_set ?_ GW101.out) | exact HBW.out)⟩

/-! ### dbus_sequenceGenerator_next: function 49 -/
def dbus_sequenceGenerator_next.f (s0_0 : Int) : Option (Int × Int) := some (s0_0, IntKind.u64.wrap (s0_0 + 1))
set_option maxHeartbeats 8000000 in
set_option maxRecDepth 100000 in
theorem dbus_sequenceGenerator_next.calls (g : Nat) (s0_0 : Int) (r1 : Int) (r2 : Int) (w0 w : World) (hI : IsS78 w0 w g s0_0) (hB : Below w0.heap.size w0 w) (h : dbus_sequenceGenerator_next.f s0_0 = some (r1, r2)) :
    Calls Try.prog 49 #[.pointer (some ⟨g, 0, none⟩)] w fun e w' => e = .returned (.int .u64 r1) ∧ IsS78 w0 w' g r2 ∧ Below w0.heap.size w0 w' ∧ KeepBut w w' g none := by
  have HI0 := Aside0.mk hI
  have HK := Aside0.mk (KeepBut.refl w g none)
  have HL := Aside0.mk hB.size
  clear hI
  have HW0 := Aside0.mk hB.size
  have HB := Aside0.mk hB
  clear hB
  have H : (some (s0_0, IntKind.u64.wrap (s0_0 + 1))) = some (r1, r2) := h
  clear h
  simp only [Option.some.injEq, Prod.mk.injEq] at H
  obtain ⟨rfl, rfl⟩ := H
  obtain ⟨HGz2, hgz2⟩ := HI0.out
  have hcz2_0 := cellS78_0 HGz2
  have hfz2_0 := blk_frozen HGz2 0
  clear HGz2 hgz2
  go_enter Try.func49, Try.ntmps49
  go_wp2
  go_ret
  exact ⟨by first | rfl | (simp [errW_none, errW_some] <;> rfl) | (simp [*, errW_none, errW_some] <;> rfl), by repeat (first | (with_reducible first | exact HI0.out | apply IsS78.alloc | apply IsS78.drewN | apply IsS78.drew | apply IsS78.set_0) | exact HI0.out), by repeat (first | (with_reducible first | exact HB.out | apply below_alloc | apply pw_below_drewN | apply below_drew1 | refine below_set ?_ (IsS78.ge HI0.out)) | exact HB.out), by repeat (first | (with_reducible first | exact HK.out | apply KeepBut.set_ | apply keep_drewN | apply keep_drew | apply keep_alloc) | exact HK.out)⟩

/-! ### dbus_DoorSequence: function 34 -/
def dbus_DoorSequence.l0 : Nat → Int → List Int → Int → Int → Option (List Int)
  | 0, _, _, _, _ => none
  | k + 1, x0, x4, x5, x104000 => if x5 < x0 then ((dbus_sequenceGenerator_next.f x104000).bind fun bt104 => (if x4.length < 17592186044416 then (dbus_DoorSequence.l0 k x0 (x4 ++ [bt104.1]) (wrap64 (x5 + 1)) bt104.2) else (none))) else (some x4)
def dbus_DoorSequence.f (k : Nat) (a0 : Int) : Option (List Int) := (dbus_newSequenceGenerator.f).bind fun t102 => (dbus_DoorSequence.l0 k a0 ([] : List Int) 0 t102)
theorem dbus_DoorSequence.mono_l : ∀ k, (∀ y0 y1 y2 y3, LeO (dbus_DoorSequence.l0 k y0 y1 y2 y3) (dbus_DoorSequence.l0 (k + 1) y0 y1 y2 y3))
  | 0 => fun _ _ _ _ r h => by simp [dbus_DoorSequence.l0] at h
  | k + 1 => by
    have ih0 := dbus_DoorSequence.mono_l k
    · intro y0 y1 y2 y3
      unfold dbus_DoorSequence.l0
      repeat' first
      | (with_reducible exact ih0 _ _ _ _)
      | (with_reducible exact LeO.refl _)
      | (with_reducible exact LeO.none _)
      | (with_reducible refine LeO.ite ?_ ?_)
      | (with_reducible refine LeO.bind ?_ (fun _ => ?_))
      | exact ih0 _ _ _ _
      | exact LeO.none _
      | refine LeO.ite ?_ ?_
      | refine LeO.bind ?_ (fun _ => ?_)
theorem dbus_DoorSequence.mono : ∀ a0 k, LeO (dbus_DoorSequence.f k a0) (dbus_DoorSequence.f (k + 1) a0) := by
  intro a0 k
  have ih0 := dbus_DoorSequence.mono_l k
  unfold dbus_DoorSequence.f
  repeat' first
      | (with_reducible exact ih0 _ _ _ _)
      | (with_reducible exact LeO.refl _)
      | (with_reducible exact LeO.none _)
      | (with_reducible refine LeO.ite ?_ ?_)
      | (with_reducible refine LeO.bind ?_ (fun _ => ?_))
      | exact ih0 _ _ _ _
      | exact LeO.none _
      | refine LeO.ite ?_ ?_
      | refine LeO.bind ?_ (fun _ => ?_)
set_option maxHeartbeats 8000000 in
set_option maxRecDepth 100000 in
theorem dbus_DoorSequence.calls (k : Nat) (a0 : Int) (r : List Int) (w : World) (h : dbus_DoorSequence.f k a0 = some r) :
    Calls Try.prog 34 #[.int .i64 a0] w fun e w' => ∃ v0_ : Value, e = .returned (v0_) ∧ Kd.R (Kd.int .u64) 22 w' w.heap.size (fun _ => True) v0_ r ∧ Below w.heap.size w w' := by
  have HB := Aside0.mk (Below.refl w.heap.size w)
  have H : ((dbus_newSequenceGenerator.f).bind fun t102 => (dbus_DoorSequence.l0 k a0 ([] : List Int) 0 t102)) = some r := h
  clear h
  replace H := Option.bind_eq_some_iff.mp H
  obtain ⟨t102, A20, H⟩ := H
  replace H : (dbus_DoorSequence.l0 k a0 ([] : List Int) 0 t102) = some r := H
  have A2 := Aside0.mk A20
  clear A20
  have H' := Aside0.mk H
  clear H
  go_enter Try.func34, Try.ntmps34
  go_wp2_with (first | ((with_reducible refine gate_callee (f := 48) rfl ?_); refine goesL_ (some 6) rfl rfl Try.func48 (by kernel_rfl) rfl #[] rfl (by (try simp only [List.map_toArray, List.map_cons, List.map_nil]); first | done | rfl | (simp only [List.length_drop, List.length_take]; rfl)) ?_; (with_reducible refine (dbus_newSequenceGenerator.calls  t102 w _ ?side1 A2.out).mono ?_); (case side1 => repeat (first | (with_reducible first | exact HB.out | apply below_alloc | apply pw_below_drewN | apply below_drew1) | exact HB.out)); rintro e w3 ⟨g103, rfl, hi, hb, hb2⟩; refine ⟨_, rfl, ?_⟩; have n0_ := Aside0.mk (hb); have n1_ := Aside0.mk (hi); clear HB; have HB := n0_; have HI103 := n1_; clear n0_ n1_; (try clear hb); (try clear hb2); (try clear hk); (try clear hi)))
  go_loopg [4, 5] k (fun kq v4 v5 w' => ∃ (x4_1 : List Int) (x5_1 : Int) (x104000_1 : Int), v5 = .int .i64 x5_1 ∧ Aside0 (dbus_DoorSequence.l0 kq a0 x4_1 x5_1 x104000_1 = some r) ∧ Aside0 (kq ≤ k) ∧ Aside0 (Kd.R (Kd.int .u64) 22 w' w.heap.size (fun _ => True) v4 x4_1) ∧ Aside0 (IsS78 w w' g103 x104000_1) ∧ Aside0 (Below w.heap.size w w'))
  case atStart => exact ⟨(([] : List Int)), (0), (t102), (by first | rfl | (simp; done) | (simp [*]; done)), H', ⟨Nat.le_refl _⟩, ⟨by first | exact Kd.R_nil _ _ _ _ _ | exact Kd.N_nil _ _ _ _ _ | exact Kd.V_nil _ _ _ _ _ | exact Kd.Q_nil _ _ _ _ _ | exact Kd.S_nil _ _ _ _ _⟩, ⟨by repeat (first | (with_reducible first | exact HI103.out | apply IsS78.alloc | apply IsS78.drewN | apply IsS78.drew | apply IsS78.set_0) | exact HI103.out)⟩, ⟨by repeat (first | (with_reducible first | exact HB.out | apply below_alloc | apply pw_below_drewN | apply below_drew1 | refine below_set ?_ (IsS78.ge HI103.out)) | exact HB.out)⟩⟩
  case round =>
    clear H'
    try clear p2
    try clear c3
    obtain ⟨x4_1, x5_1, x104000_1, rfl, HA, HK1, HO_4, HI103, HB⟩ := hrel
    cases gk with
    | zero => exact absurd HA.out (by simp [dbus_DoorSequence.l0])
    | succ k1 =>
      have H := HA.out
      clear HA
      simp only [dbus_DoorSequence.l0] at H
      by_cases c4 : x5_1 < a0
      · rw [if_pos c4] at H
        have c4b0 : decide (x5_1 < a0) = true := decide_eq_true c4
        clear c4
        replace H := Option.bind_eq_some_iff.mp H
        obtain ⟨⟨t104, t105⟩, A50, H⟩ := H
        replace H : (if x4_1.length < 17592186044416 then (dbus_DoorSequence.l0 k1 a0 (x4_1 ++ [t104]) (wrap64 (x5_1 + 1)) t105) else (none)) = some r := H
        have A5 := Aside0.mk A50
        clear A50
        by_cases c6 : x4_1.length < 17592186044416
        · rw [if_pos c6] at H
          have LMc6 := Aside0.mk c6
          clear c6
          obtain ⟨y106, hy106⟩ : ∃ y_ : List Int, y_ = (x4_1 ++ [t104]) := ⟨_, rfl⟩
          replace H : (dbus_DoorSequence.l0 k1 a0 y106 (wrap64 (x5_1 + 1)) t105) = some r := by first | (rw [hy106]; with_reducible exact H) | (have H2_ := (Option.bind_some _ _).symm.trans H; rw [hy106]; with_reducible exact H2_) | (have H2_ := (Option.bind_some _ _).symm.trans H; with_reducible exact H2_) | with_reducible exact H | (rw [hy106]; exact H) | exact H
          have Ny106 := Aside0.mk hy106
          clear hy106
          have H' := Aside0.mk H
          clear H
          go_wp2_with (first | ((with_reducible refine gate_callee (f := 49) rfl ?_); refine goesL_ (some 14) rfl rfl Try.func49 (by kernel_rfl) rfl #[.pointer (some ⟨g103, 0, none⟩)] rfl (by (try simp only [List.map_toArray, List.map_cons, List.map_nil]); first | done | rfl | (simp only [List.length_drop, List.length_take]; rfl)) ?_; (with_reducible refine (dbus_sequenceGenerator_next.calls g103 x104000_1 t104 t105 w _ ?side1 ?side2 A5.out).mono ?_); (case side1 => repeat (first | (with_reducible first | exact HI103.out | apply IsS78.alloc | apply IsS78.drewN | apply IsS78.drew | apply IsS78.set_0) | exact HI103.out)); (case side2 => repeat (first | (with_reducible first | exact HB.out | apply below_alloc | apply pw_below_drewN | apply below_drew1 | refine below_set ?_ (IsS78.ge HI103.out)) | exact HB.out)); rintro e w7 ⟨rfl, hi, hb, hk⟩; refine ⟨_, rfl, ?_⟩; have n0_ := Aside0.mk (Kd.R_mono (Kd.R_keep (IsS78.apart (show IsS78 w _ g103 x104000_1 from by repeat (first | (with_reducible first | exact HI103.out | apply IsS78.alloc | apply IsS78.drewN | apply IsS78.drew | apply IsS78.set_0) | exact HI103.out)) (by (with_reducible repeat (first | apply Kd.R_alloc | apply Kd.R_drewN | apply Kd.R_drew)); exact HO_4.out) (by decide)) hk (fun _ h => h.2)) (fun _ h => h.1)); have n1_ := Aside0.mk (hb); have n2_ := Aside0.mk (hi); clear HO_4; clear HB; clear HI103; have HO_4 := n0_; have HB := n1_; have HI103 := n2_; clear n0_ n1_ n2_; (try clear hb); (try clear hb2); (try clear hk); (try clear hi)) | ((with_reducible refine gate_builtin (b := .append) (xs := #[.tmp 12, .tmp 15]) rfl ?_); at_builtin; refine Kd.R_append (Kd.int .u64) (w0 := w) w.heap.size rfl (.tmp 12) (.tmp 15) 32 22 (.int .u64 0) 8 rfl Try.underlying32 info22 rfl (by decide) (by omega) u4 x4_1 t104 [.int .u64 t104] (fun _ => True) (fun _ => False) rfl rfl ?aP (fun _ hk => hk.elim) ?aF ?aO ?aB ?aS ?aL ?_; (case aP => exact rfl); (case aB => exact (by repeat (first | (with_reducible first | exact HB.out | apply below_alloc | apply pw_below_drewN | apply below_drew1 | refine below_set ?_ (IsS78.ge HI103.out)) | exact HB.out))); (case aF => exact (fun _ _ => trivial)); (case aO => exact (by (with_reducible repeat (first | apply Kd.R_alloc | apply Kd.R_drewN | apply Kd.R_drew)); exact HO_4.out)); (case aS => exact (below_size (by repeat (first | (with_reducible first | exact HB.out | apply below_alloc | apply pw_below_drewN | apply below_drew1 | refine below_set ?_ (IsS78.ge HI103.out)) | exact HB.out)))); (case aL => have := LMc6.out; omega); intro v107 w8 ho hb hg hat; rw [← Ny106.out] at ho; have n0_ := Aside0.mk (IsS78.grown (by repeat (first | (with_reducible first | exact HI103.out | apply IsS78.alloc | apply IsS78.drewN | apply IsS78.drew | apply IsS78.set_0) | exact HI103.out)) hg (IsS78.own_ne HI103.out HO_4.out (by decide))); have n1_ := Aside0.mk (hb); have n2_ := Aside0.mk (ho); clear HI103; clear HB; clear HO_4; have HI103 := n0_; have HB := n1_; have HO108 := n2_; clear n0_ n1_ n2_; clear ho hb hg hat))
          go_roundg k1
          case measure => have := HK1.out; omega
          case rel => exact ⟨(y106), (wrap64 (x5_1 + 1)), (t105), (by first | rfl | (simp; done) | (simp [*]; done)), H', ⟨by have := HK1.out; omega⟩, ⟨by (with_reducible repeat (first | apply Kd.R_alloc | apply Kd.R_drewN | apply Kd.R_drew)); exact HO108.out⟩, ⟨by repeat (first | (with_reducible first | exact HI103.out | apply IsS78.alloc | apply IsS78.drewN | apply IsS78.drew | apply IsS78.set_0) | exact HI103.out)⟩, ⟨by repeat (first | (with_reducible first | exact HB.out | apply below_alloc | apply pw_below_drewN | apply below_drew1 | refine below_set ?_ (IsS78.ge HI103.out)) | exact HB.out)⟩⟩
        · rw [if_neg c6] at H
          exact absurd H (by simp)
      · rw [if_neg c4] at H
        have c4b0 : decide (x5_1 < a0) = false := decide_eq_false c4
        clear c4
        obtain rfl := Option.some.inj H
        go_wp2
        go_ret
        exact ⟨_, by first | rfl | (simp [errW_none, errW_some] <;> rfl) | (simp [*, errW_none, errW_some] <;> rfl), by (with_reducible repeat (first | apply Kd.R_alloc | apply Kd.R_drewN | apply Kd.R_drew)); exact HO_4.out, by repeat (first | (with_reducible first | exact HB.out | apply below_alloc | apply pw_below_drewN | apply below_drew1 | refine below_set ?_ (IsS78.ge HI103.out)) | exact HB.out)⟩

/-! ### impl_MsSerials: function 18 -/
def impl_MsSerials.f (k : Nat) (a0 : Int) : Option (List Int) := (dbus_DoorSequence.f k a0).bind fun t109 => (some t109)
theorem impl_MsSerials.mono : ∀ a0 k, LeO (impl_MsSerials.f k a0) (impl_MsSerials.f (k + 1) a0) := by
  intro a0 k
  unfold impl_MsSerials.f
  repeat' first
      | (with_reducible exact dbus_DoorSequence.mono _ _)
      | (with_reducible exact LeO.refl _)
      | (with_reducible exact LeO.none _)
      | (with_reducible refine LeO.ite ?_ ?_)
      | (with_reducible refine LeO.bind ?_ (fun _ => ?_))
      | exact dbus_DoorSequence.mono _ _
      | exact LeO.none _
      | refine LeO.ite ?_ ?_
      | refine LeO.bind ?_ (fun _ => ?_)
set_option maxHeartbeats 8000000 in
set_option maxRecDepth 100000 in
theorem impl_MsSerials.calls (k : Nat) (a0 : Int) (r : List Int) (w : World) (h : impl_MsSerials.f k a0 = some r) :
    Calls Try.prog 18 #[.int .i64 a0] w fun e w' => ∃ v0_ : Value, e = .returned (v0_) ∧ Kd.R (Kd.int .u64) 22 w' w.heap.size (fun _ => True) v0_ r ∧ Below w.heap.size w w' := by
  have HB := Aside0.mk (Below.refl w.heap.size w)
  have H : ((dbus_DoorSequence.f k a0).bind fun t109 => (some t109)) = some r := h
  clear h
  replace H := Option.bind_eq_some_iff.mp H
  obtain ⟨t109, A20, H⟩ := H
  replace H : (some t109) = some r := H
  have A2 := Aside0.mk A20
  clear A20
  obtain rfl := Option.some.inj H
  go_enter Try.func18, Try.ntmps18
  go_wp2_with (first | ((with_reducible refine gate_callee (f := 34) rfl ?_); refine goesL_ (some 4) rfl rfl Try.func34 (by kernel_rfl) rfl #[.int .i64 a0] rfl (by (try simp only [List.map_toArray, List.map_cons, List.map_nil]); first | done | rfl | (simp only [List.length_drop, List.length_take]; rfl)) ?_; (with_reducible refine (dbus_DoorSequence.calls k a0 t109 _ A2.out).mono ?_); rintro e w3 ⟨v110, rfl, ho0, hb⟩; refine ⟨_, rfl, ?_⟩; have n0_ := Aside0.mk (Kd.R_lower ho0 (below_size (by repeat (first | (with_reducible first | exact HB.out | apply below_alloc | apply pw_below_drewN | apply below_drew1) | exact HB.out)))); have n1_ := Aside0.mk (below_step (by repeat (first | (with_reducible first | exact HB.out | apply below_alloc | apply pw_below_drewN | apply below_drew1) | exact HB.out)) hb); clear HB; have HO111 := n0_; have HB := n1_; clear n0_ n1_; (try clear hb); (try clear hb2); (try clear hk); (try clear hi); (try clear ho0)))
  go_ret
  exact ⟨_, by first | rfl | (simp [errW_none, errW_some] <;> rfl) | (simp [*, errW_none, errW_some] <;> rfl), by (with_reducible repeat (first | apply Kd.R_alloc | apply Kd.R_drewN | apply Kd.R_drew)); exact HO111.out, by repeat (first | (with_reducible first | exact HB.out | apply below_alloc | apply pw_below_drewN | apply below_drew1) | exact HB.out)⟩

/-! ### laws_FnMsSerials: function 6 -/
mutual
def laws_FnMsSerials.j0 : Nat → List Int → List Int → Bool → Option (Bool)
  | 0, _, _, _ => none
  | k + 1, x3, x4, x21 => if x21 = true then (some false) else (laws_FnMsSerials.l0 k x3 x4 (x3.length : Int) 0)
def laws_FnMsSerials.l0 : Nat → List Int → List Int → Int → Int → Option (Bool)
  | 0, _, _, _, _ => none
  | k + 1, x3, x4, x23, x24 => if x24 < x23 then (if 0 ≤ x24 then (if x24 < (x3.length : Int) then (if (rd x3 x24) = (IntKind.u64.wrap (wrap64 (x24 + 1))) then (laws_FnMsSerials.l0 k x3 x4 x23 (wrap64 (x24 + 1))) else (some false)) else (none)) else (none)) else (if 0 < (x4.length : Int) then (some ((rd x4 0) == 1)) else (none))
end
def laws_FnMsSerials.f (k : Nat) (a0 : Int) : Option (Bool) := if a0 > 1000 then (some true) else ((impl_MsSerials.f k (wrap64 (a0))).bind fun t112 => ((impl_MsSerials.f k 1).bind fun t115 => (if (t112.length : Int) = (wrap64 (a0)) then (laws_FnMsSerials.j0 k t112 t115 ((t115.length : Int) != 1)) else (laws_FnMsSerials.j0 k t112 t115 true))))
theorem laws_FnMsSerials.mono_l : ∀ k, (∀ y0 y1 y2, LeO (laws_FnMsSerials.j0 k y0 y1 y2) (laws_FnMsSerials.j0 (k + 1) y0 y1 y2)) ∧ (∀ y0 y1 y2 y3, LeO (laws_FnMsSerials.l0 k y0 y1 y2 y3) (laws_FnMsSerials.l0 (k + 1) y0 y1 y2 y3))
  | 0 => ⟨fun _ _ _ r h => by simp [laws_FnMsSerials.j0] at h, fun _ _ _ _ r h => by simp [laws_FnMsSerials.l0] at h⟩
  | k + 1 => by
    obtain ⟨ih0, ih1⟩ := laws_FnMsSerials.mono_l k
    refine ⟨?_, ?_⟩
    · intro y0 y1 y2
      unfold laws_FnMsSerials.j0
      repeat' first
      | (with_reducible exact ih0 _ _ _)
      | (with_reducible exact ih1 _ _ _ _)
      | (with_reducible exact impl_MsSerials.mono _ _)
      | (with_reducible exact LeO.refl _)
      | (with_reducible exact LeO.none _)
      | (with_reducible refine LeO.ite ?_ ?_)
      | (with_reducible refine LeO.bind ?_ (fun _ => ?_))
      | exact ih0 _ _ _
      | exact ih1 _ _ _ _
      | exact impl_MsSerials.mono _ _
      | exact LeO.none _
      | refine LeO.ite ?_ ?_
      | refine LeO.bind ?_ (fun _ => ?_)
    · intro y0 y1 y2 y3
      unfold laws_FnMsSerials.l0
      repeat' first
      | (with_reducible exact ih0 _ _ _)
      | (with_reducible exact ih1 _ _ _ _)
      | (with_reducible exact impl_MsSerials.mono _ _)
      | (with_reducible exact LeO.refl _)
      | (with_reducible exact LeO.none _)
      | (with_reducible refine LeO.ite ?_ ?_)
      | (with_reducible refine LeO.bind ?_ (fun _ => ?_))
      | exact ih0 _ _ _
      | exact ih1 _ _ _ _
      | exact impl_MsSerials.mono _ _
      | exact LeO.none _
      | refine LeO.ite ?_ ?_
      | refine LeO.bind ?_ (fun _ => ?_)
theorem laws_FnMsSerials.mono : ∀ a0 k, LeO (laws_FnMsSerials.f k a0) (laws_FnMsSerials.f (k + 1) a0) := by
  intro a0 k
  obtain ⟨ih0, ih1⟩ := laws_FnMsSerials.mono_l k
  unfold laws_FnMsSerials.f
  repeat' first
      | (with_reducible exact ih0 _ _ _)
      | (with_reducible exact ih1 _ _ _ _)
      | (with_reducible exact impl_MsSerials.mono _ _)
      | (with_reducible exact LeO.refl _)
      | (with_reducible exact LeO.none _)
      | (with_reducible refine LeO.ite ?_ ?_)
      | (with_reducible refine LeO.bind ?_ (fun _ => ?_))
      | exact ih0 _ _ _
      | exact ih1 _ _ _ _
      | exact impl_MsSerials.mono _ _
      | exact LeO.none _
      | refine LeO.ite ?_ ?_
      | refine LeO.bind ?_ (fun _ => ?_)
set_option maxHeartbeats 8000000 in
set_option maxRecDepth 100000 in
theorem laws_FnMsSerials.calls (k : Nat) (a0 : Int) (r : Bool) (w : World) (h : laws_FnMsSerials.f k a0 = some r) :
    Calls Try.prog 6 #[.int .u16 a0] w fun e w' => e = .returned (.bool r) ∧ Below w.heap.size w w' := by
  have HB := Aside0.mk (Below.refl w.heap.size w)
  have H : (if a0 > 1000 then (some true) else ((impl_MsSerials.f k (wrap64 (a0))).bind fun t112 => ((impl_MsSerials.f k 1).bind fun t115 => (if (t112.length : Int) = (wrap64 (a0)) then (laws_FnMsSerials.j0 k t112 t115 ((t115.length : Int) != 1)) else (laws_FnMsSerials.j0 k t112 t115 true))))) = some r := h
  clear h
  by_cases c2 : a0 > 1000
  · rw [if_pos c2] at H
    have c2b0 : decide (1000 < a0) = true := decide_eq_true c2
    clear c2
    obtain rfl := Option.some.inj H
    go_enter Try.func6, Try.ntmps6
    go_wp2
    go_ret
    exact ⟨by first | rfl | (simp [errW_none, errW_some] <;> rfl) | (simp [*, errW_none, errW_some] <;> rfl), by repeat (first | (with_reducible first | exact HB.out | apply below_alloc | apply pw_below_drewN | apply below_drew1) | exact HB.out)⟩
  · rw [if_neg c2] at H
    have c2b0 : decide (1000 < a0) = false := decide_eq_false c2
    clear c2
    replace H := Option.bind_eq_some_iff.mp H
    obtain ⟨t112, A30, H⟩ := H
    replace H : ((impl_MsSerials.f k 1).bind fun t115 => (if (t112.length : Int) = (wrap64 (a0)) then (laws_FnMsSerials.j0 k t112 t115 ((t115.length : Int) != 1)) else (laws_FnMsSerials.j0 k t112 t115 true))) = some r := H
    have A3 := Aside0.mk A30
    clear A30
    replace H := Option.bind_eq_some_iff.mp H
    obtain ⟨t115, A40, H⟩ := H
    replace H : (if (t112.length : Int) = (wrap64 (a0)) then (laws_FnMsSerials.j0 k t112 t115 ((t115.length : Int) != 1)) else (laws_FnMsSerials.j0 k t112 t115 true)) = some r := H
    have A4 := Aside0.mk A40
    clear A40
    have HC5 := Aside0.mk H
    clear H
    go_enter Try.func6, Try.ntmps6
    go_upto_region 5 with (first | ((with_reducible refine gate_callee (f := 18) rfl ?_); refine goesL_ (some 10) rfl rfl Try.func18 (by kernel_rfl) rfl #[.int .i64 (wrap64 (a0))] rfl (by (try simp only [List.map_toArray, List.map_cons, List.map_nil]); first | done | rfl | (simp only [List.length_drop, List.length_take]; rfl)) ?_; (with_reducible refine (impl_MsSerials.calls k (wrap64 (a0)) t112 _ A3.out).mono ?_); rintro e w6 ⟨v113, rfl, ho0, hb⟩; refine ⟨_, rfl, ?_⟩; have n0_ := Aside0.mk (Kd.R_lower ho0 (below_size (by repeat (first | (with_reducible first | exact HB.out | apply below_alloc | apply pw_below_drewN | apply below_drew1) | exact HB.out)))); have n1_ := Aside0.mk (below_step (by repeat (first | (with_reducible first | exact HB.out | apply below_alloc | apply pw_below_drewN | apply below_drew1) | exact HB.out)) hb); clear HB; have HO114 := n0_; have HB := n1_; clear n0_ n1_; (try clear hb); (try clear hb2); (try clear hk); (try clear hi); (try clear ho0)) | ((with_reducible refine gate_callee (f := 18) rfl ?_); refine goesL_ (some 11) rfl rfl Try.func18 (by kernel_rfl) rfl #[.int .i64 1] rfl (by (try simp only [List.map_toArray, List.map_cons, List.map_nil]); first | done | rfl | (simp only [List.length_drop, List.length_take]; rfl)) ?_; (with_reducible refine (impl_MsSerials.calls k 1 t115 _ A4.out).mono ?_); rintro e w7 ⟨v116, rfl, ho0, hb⟩; refine ⟨_, rfl, ?_⟩; have n0_ := Aside0.mk (Kd.R_elder' (by (with_reducible repeat (first | apply Kd.R_alloc | apply Kd.R_drewN | apply Kd.R_drew)); exact HO114.out) (Kd.R_base ho0) hb); have n1_ := Aside0.mk (Kd.R_lower (Kd.R_new' ho0 (Kd.R_lt (by (with_reducible repeat (first | apply Kd.R_alloc | apply Kd.R_drewN | apply Kd.R_drew)); exact HO114.out))) (below_size (by repeat (first | (with_reducible first | exact HB.out | apply below_alloc | apply pw_below_drewN | apply below_drew1) | exact HB.out)))); have n2_ := Aside0.mk (below_step (by repeat (first | (with_reducible first | exact HB.out | apply below_alloc | apply pw_below_drewN | apply below_drew1) | exact HB.out)) hb); clear HO114; clear HB; have HO114 := n0_; have HO117 := n1_; have HB := n2_; clear n0_ n1_ n2_; (try clear hb); (try clear hb2); (try clear hk); (try clear hi); (try clear ho0)))
    (try simp only [Act.put, List.setIfInBounds_toArray, List.set_cons_zero, List.set_cons_succ])
    go_cut [21] (fun v21 wc => ∃ (kq : Nat) (x21_4 : Bool), v21 = .bool x21_4 ∧ Aside0 (laws_FnMsSerials.j0 kq t112 t115 x21_4 = some r) ∧ Aside0 (kq ≤ k) ∧ Aside0 (Kd.R (Kd.int .u64) 22 wc w.heap.size (fun k_ => some k_ ≠ (v116 : Value).ownBlock) v113 t112) ∧ Aside0 (Kd.R (Kd.int .u64) 22 wc w.heap.size (fun k_ => some k_ ≠ (v113 : Value).ownBlock) v116 t115) ∧ Aside0 (Below w.heap.size w wc))
    case first =>
      have H := HC5.out
      clear HC5
      by_cases c8 : (t112.length : Int) = (wrap64 (a0))
      · rw [if_pos c8] at H
        have c8b0 : ((t112.length : Int) == (wrap64 (a0))) = true := beq_iff_eq.mpr c8
        have c8b1 : ((t112.length : Int) != (wrap64 (a0))) = false := bne_eq_false_iff_eq.mpr c8
        clear c8
        (first | rw [c8b0] | (simp only [i64_w, i32_w]; rw [c8b0]) | skip)
        have H' := Aside0.mk H
        clear H
        obtain ⟨Ao9, co9, eo9⟩ := Kd.R_slice HO114.out
        subst eo9
        obtain ⟨Ao10, co10, eo10⟩ := Kd.R_slice HO117.out
        subst eo10
        go_wp2
        go_meet
        case rel => exact ⟨_, (((t115.length : Int) != 1)), (by first | rfl | (simp; done) | (simp [*]; done)), H', ⟨by first | omega | exact Nat.le_refl _⟩, ⟨by (with_reducible repeat (first | apply Kd.R_alloc | apply Kd.R_drewN | apply Kd.R_drew)); exact Kd.R_mono HO114.out (fun _ hk => hk.2)⟩, ⟨by (with_reducible repeat (first | apply Kd.R_alloc | apply Kd.R_drewN | apply Kd.R_drew)); exact Kd.R_mono HO117.out (fun _ hk => hk.2)⟩, ⟨by repeat (first | (with_reducible first | exact HB.out | apply below_alloc | apply pw_below_drewN | apply below_drew1) | exact HB.out)⟩⟩
      · rw [if_neg c8] at H
        have c8b0 : ((t112.length : Int) == (wrap64 (a0))) = false := beq_eq_false_iff_ne.mpr c8
        have c8b1 : ((t112.length : Int) != (wrap64 (a0))) = true := bne_iff_ne.mpr c8
        (first | rw [c8b0] | (simp only [i64_w, i32_w]; rw [c8b0]) | skip)
        have H' := Aside0.mk H
        clear H
        obtain ⟨Ao11, co11, eo11⟩ := Kd.R_slice HO114.out
        subst eo11
        go_wp2
        go_meet
        case rel => exact ⟨_, (true), (by first | rfl | (simp; done) | (simp [*]; done)), H', ⟨by first | omega | exact Nat.le_refl _⟩, ⟨by (with_reducible repeat (first | apply Kd.R_alloc | apply Kd.R_drewN | apply Kd.R_drew)); exact Kd.R_mono HO114.out (fun _ hk => hk.2)⟩, ⟨by (with_reducible repeat (first | apply Kd.R_alloc | apply Kd.R_drewN | apply Kd.R_drew)); exact Kd.R_mono HO117.out (fun _ hk => hk.2)⟩, ⟨by repeat (first | (with_reducible first | exact HB.out | apply below_alloc | apply pw_below_drewN | apply below_drew1) | exact HB.out)⟩⟩
    case rest =>
      clear HC5
      try clear c1
      try clear c2
      try clear c2b0
      try clear p2
      try clear c6
      try clear p6
      try clear c8
      try clear c8b0
      try clear c8b1
      obtain ⟨kq, x21_4, rfl, HA, HJ4, HO_3, HO_4, HB⟩ := hcut
      cases kq with
      | zero => exact absurd HA.out (by simp [laws_FnMsSerials.j0])
      | succ kj4 =>
        have H := HA.out
        clear HA
        simp only [laws_FnMsSerials.j0] at H
        by_cases c12 : x21_4 = true
        · subst c12
          have H1 : (some false) = some r := by rw [if_pos rfl] at H; exact H
          clear H
          have H := H1
          clear H1
          obtain rfl := Option.some.inj H
          go_wp2
          go_ret
          exact ⟨by first | rfl | (simp [errW_none, errW_some] <;> rfl) | (simp [*, errW_none, errW_some] <;> rfl), by repeat (first | (with_reducible first | exact HB.out | apply below_alloc | apply pw_below_drewN | apply below_drew1) | exact HB.out)⟩
        · replace c12 := Bool.eq_false_iff.mpr c12
          subst c12
          have H1 : (laws_FnMsSerials.l0 kj4 t112 t115 (t112.length : Int) 0) = some r := by rw [if_neg (show ¬ (false = true) by decide)] at H; exact H
          clear H
          have H := H1
          clear H1
          have H' := Aside0.mk H
          clear H
          obtain ⟨Ao13, co13, eo13⟩ := Kd.R_slice HO_3.out
          subst eo13
          go_wp2
          go_loopg [24] kj4 (fun kq v24 w' => ∃ (x24_2 : Int), v24 = .int .i64 x24_2 ∧ Aside0 (laws_FnMsSerials.l0 kq t112 t115 (t112.length : Int) x24_2 = some r) ∧ Aside0 (kq ≤ kj4) ∧ Aside0 (Kd.R (Kd.int .u64) 22 w' w.heap.size (fun k_ => some k_ ≠ (v116 : Value).ownBlock) (.slice Ao13 t112.length co13) t112) ∧ Aside0 (Kd.R (Kd.int .u64) 22 w' w.heap.size (fun k_ => some k_ ≠ ((.slice Ao13 t112.length co13) : Value).ownBlock) v116 t115) ∧ Aside0 (Below w.heap.size w w'))
          case atStart => exact ⟨(0), (by first | rfl | (simp; done) | (simp [*]; done)), H', ⟨Nat.le_refl _⟩, ⟨by (with_reducible repeat (first | apply Kd.R_alloc | apply Kd.R_drewN | apply Kd.R_drew)); exact HO_3.out⟩, ⟨by (with_reducible repeat (first | apply Kd.R_alloc | apply Kd.R_drewN | apply Kd.R_drew)); exact HO_4.out⟩, ⟨by repeat (first | (with_reducible first | exact HB.out | apply below_alloc | apply pw_below_drewN | apply below_drew1) | exact HB.out)⟩⟩
          case round =>
            clear H'
            try clear c1
            try clear c2
            try clear c2b0
            try clear p2
            try clear c6
            try clear p6
            try clear c8
            try clear c8b0
            try clear c8b1
            try clear c12
            try clear p2
            try clear p6
            obtain ⟨x24_2, rfl, HA, HK2, HO_3, HO_4, HB⟩ := hrel
            cases gk with
            | zero => exact absurd HA.out (by simp [laws_FnMsSerials.l0])
            | succ k2 =>
              have H := HA.out
              clear HA
              simp only [laws_FnMsSerials.l0] at H
              by_cases c14 : x24_2 < (t112.length : Int)
              · rw [if_pos c14] at H
                have c14b0 : decide (x24_2 < (t112.length : Int)) = true := decide_eq_true c14
                clear c14
                by_cases c15 : 0 ≤ x24_2
                · rw [if_pos c15] at H
                  have c15b0 : decide (0 ≤ x24_2) = true := decide_eq_true c15
                  clear c15
                  by_cases c16 : x24_2 < (t112.length : Int)
                  · rw [if_pos c16] at H
                    have c16b0 : decide (x24_2 < (t112.length : Int)) = true := decide_eq_true c16
                    clear c16
                    by_cases c17 : (rd t112 x24_2) = (IntKind.u64.wrap (wrap64 (x24_2 + 1)))
                    · rw [if_pos c17] at H
                      have c17b0 : ((rd t112 x24_2) == (IntKind.u64.wrap (wrap64 (x24_2 + 1)))) = true := beq_iff_eq.mpr c17
                      have c17b1 : ((rd t112 x24_2) != (IntKind.u64.wrap (wrap64 (x24_2 + 1)))) = false := bne_eq_false_iff_eq.mpr c17
                      clear c17
                      have H' := Aside0.mk H
                      clear H
                      have p118 : 0 ≤ (x24_2 : Int) := of_decide_eq_true (by first | (with_reducible assumption) | assumption)
                      have q118 : x24_2 < (t112.length : Int) := of_decide_eq_true (by first | (with_reducible assumption) | assumption)
                      obtain ⟨ad118, e118, hx118_0⟩ := Kd.at_int (Kd.R_reads' HO_3.out).2.2 x24_2 p118 q118
                      cases e118
                      replace p118 := eq_true p118
                      replace q118 := eq_true q118
                      go_wp2
                      go_roundg k2
                      case measure => have := HJ4.out; have := HK2.out; omega
                      case rel => exact ⟨(wrap64 (x24_2 + 1)), (by first | rfl | (simp; done) | (simp [*]; done)), H', ⟨by have := HJ4.out; have := HK2.out; omega⟩, ⟨by (with_reducible repeat (first | apply Kd.R_alloc | apply Kd.R_drewN | apply Kd.R_drew)); exact HO_3.out⟩, ⟨by (with_reducible repeat (first | apply Kd.R_alloc | apply Kd.R_drewN | apply Kd.R_drew)); exact HO_4.out⟩, ⟨by repeat (first | (with_reducible first | exact HB.out | apply below_alloc | apply pw_below_drewN | apply below_drew1) | exact HB.out)⟩⟩
                    · rw [if_neg c17] at H
                      have c17b0 : ((rd t112 x24_2) == (IntKind.u64.wrap (wrap64 (x24_2 + 1)))) = false := beq_eq_false_iff_ne.mpr c17
                      have c17b1 : ((rd t112 x24_2) != (IntKind.u64.wrap (wrap64 (x24_2 + 1)))) = true := bne_iff_ne.mpr c17
                      obtain rfl := Option.some.inj H
                      have p118 : 0 ≤ (x24_2 : Int) := of_decide_eq_true (by first | (with_reducible assumption) | assumption)
                      have q118 : x24_2 < (t112.length : Int) := of_decide_eq_true (by first | (with_reducible assumption) | assumption)
                      obtain ⟨ad118, e118, hx118_0⟩ := Kd.at_int (Kd.R_reads' HO_3.out).2.2 x24_2 p118 q118
                      cases e118
                      replace p118 := eq_true p118
                      replace q118 := eq_true q118
                      go_wp2
                      go_ret
                      exact ⟨by first | rfl | (simp [errW_none, errW_some] <;> rfl) | (simp [*, errW_none, errW_some] <;> rfl), by repeat (first | (with_reducible first | exact HB.out | apply below_alloc | apply pw_below_drewN | apply below_drew1) | exact HB.out)⟩
                  · rw [if_neg c16] at H
                    exact absurd H (by simp)
                · rw [if_neg c15] at H
                  exact absurd H (by simp)
              · rw [if_neg c14] at H
                have c14b0 : decide (x24_2 < (t112.length : Int)) = false := decide_eq_false c14
                clear c14
                by_cases c18 : 0 < (t115.length : Int)
                · rw [if_pos c18] at H
                  have c18b0 : decide (0 < (t115.length : Int)) = true := decide_eq_true c18
                  have c18b1 : decide (0 < t115.length) = true := decide_eq_true (by omega)
                  clear c18
                  obtain rfl := Option.some.inj H
                  obtain ⟨Ao19, co19, eo19⟩ := Kd.R_slice HO_4.out
                  subst eo19
                  have p119 : 0 ≤ (0 : Int) := (by omega)
                  have q119 : 0 < (t115.length : Int) := of_decide_eq_true (by first | (with_reducible assumption) | assumption)
                  obtain ⟨ad119, e119, hx119_0⟩ := Kd.at_int (Kd.R_reads' HO_4.out).2.2 0 p119 q119
                  cases e119
                  have qi119 : (0 < t115.length) = True := eq_true (by omega)
                  (try rw [show ((0 : Int)).toNat = 0 from rfl] at hx119_0)
                  (try rw [Addr.add_zero'] at hx119_0)
                  replace p119 := eq_true p119
                  replace q119 := eq_true q119
                  go_wp2
                  go_ret
                  exact ⟨by first | rfl | (simp [errW_none, errW_some] <;> rfl) | (simp [*, errW_none, errW_some] <;> rfl), by repeat (first | (with_reducible first | exact HB.out | apply below_alloc | apply pw_below_drewN | apply below_drew1) | exact HB.out)⟩
                · rw [if_neg c18] at H
                  exact absurd H (by simp)

/-- THE ONE PURE STATEMENT of laws_FnMsSerials: yours. -/
def laws_FnMsSerials.Pure : Prop := ∀ (a0 : Int), (Lit.int .u16 a0).wf = true → ∃ k, laws_FnMsSerials.f k a0 = some true
theorem laws_FnMsSerials.walk (P : laws_FnMsSerials.Pure) (a0 : Int) (w : World) (w0 : (Lit.int .u16 a0).wf = true) :
    Calls Try.prog 6 #[.int .u16 a0] w fun e w' => e = .returned (.bool true) ∧ Below w.heap.size w w' := by
  obtain ⟨k, h⟩ := P a0 w0
  refine (laws_FnMsSerials.calls k a0 true w h).mono ?_
  rintro e w' ⟨rfl, hd⟩
  exact ⟨rfl, hd⟩

end Go.Proofs.Ythkmgbfobobpdaa.PFnMsSerials
