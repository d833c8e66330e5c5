/- Part of the proof of LawFnSgOfParts. -/
import Derived.Test.YtnojjfklnihmnaaDoorGvSm
import Derived.Test.YtnojjfklnihmnaaDoorPFnSgOfPartsx8
set_option linter.unusedVariables false
set_option linter.unusedSimpArgs false
section
namespace Go.Proofs.YtnojjfklnihmnaaDoor.Given
open Go.RowKit Go.Proofs.YtnojjfklnihmnaaDoorW.PrintWords Go.Proofs.YtnojjfklnihmnaaDoorW.PrintLast Go.Proofs.YtnojjfklnihmnaaDoor.Pl Go.Proofs.YtnojjfklnihmnaaDoor.By Go.Proofs.YtnojjfklnihmnaaDoor.SgT Go.Proofs.YtnojjfklnihmnaaDoor.PFnSgOfParts
set_option linter.unusedVariables false
theorem cf47 (v : Int) (W : World) : (callFunc 47 #[.int .u64 v]).run Tryd.prog W = .ok (.value (.float .f64 v.toNat)) W := by kernel_rfl
attribute [local go_sem] cf47
inductive TyO (ok : Nat → Prop) (w : World) : TypeId → Value → Tr → Prop
  | lone {T : TypeId} {v : Value} {c : Int} : Lone T v c → TyO ok w T v (.lone c)
  | list (p : Nat) (x : Tr) : ok p → w.cell? ⟨p, 0, none⟩ = some (.string (strOfNums (tyS x))) → TyO ok w 90 (.pointer (some ⟨p, 0, none⟩)) (.arr x)
  | dict (p : Nat) (k : Int) (x : Tr) : ok p → w.cell? ⟨p, 0, none⟩ = some (.string (strOfNums [k])) → w.cell? ⟨p, 1, none⟩ = some (.string (strOfNums (tyS x))) → TyO ok w 94 (.pointer (some ⟨p, 0, none⟩)) (.dict k x)
  | rec_ (ad : Addr) (es : List (TypeId × Value)) (xs : Tr) (c : Nat) : ok ad.block → 0 < es.length → es.length = (kidsX xs).length → es.length ≤ c →
      (∀ (i : Nat) (e : TypeId × Value), es[i]? = some e → w.cell? (ad.add i) = some (.iface e.1 e.2)) →
      (∀ (i : Nat) (e : TypeId × Value) (y : Tr), es[i]? = some e → (kidsX xs)[i]? = some y → TyO ok w e.1 e.2 y) → TyO ok w 99 (.agg #[.slice (some ad) es.length c]) (.str xs)
theorem TyO.ty {ok : Nat → Prop} {w : World} {T : TypeId} {v : Value} {x : Tr} (h : TyO ok w T v x) : Ty w T v x := by
  induction h with
  | lone h => exact .lone h
  | list p x _ h => exact .list p x h
  | dict p k x _ h1 h2 => exact .dict p k x h1 h2
  | rec_ ad es xs c _ _ h1 h2 h3 _ ih => exact .rec_ ad es xs c h1 h2 h3 ih
theorem TyO.move {ok ok' : Nat → Prop} {w w' : World} {T : TypeId} {v : Value} {x : Tr} (h : TyO ok w T v x) (hm : ∀ k, ok k → k < w.heap.size → w'.heap[k]? = w.heap[k]? ∧ ok' k) : TyO ok' w' T v x := by
  induction h with
  | lone h => exact .lone h
  | list p x h0 h =>
    obtain ⟨h1, h2⟩ := hm p h0 (World.block_lt_of_cell? w _ h)
    exact .list p x h2 ((World.cell?_of_block (a := ⟨p, 0, none⟩) h1).trans h)
  | dict p k x h0 ha hb =>
    obtain ⟨h1, h2⟩ := hm p h0 (World.block_lt_of_cell? w _ ha)
    exact .dict p k x h2 ((World.cell?_of_block (a := ⟨p, 0, none⟩) h1).trans ha) ((World.cell?_of_block (a := ⟨p, 1, none⟩) h1).trans hb)
  | rec_ ad es xs c h0 hz h1 h2 h3 _ ih =>
    have key : ∀ (i : Nat) (e : TypeId × Value), es[i]? = some e → w'.cell? (ad.add i) = some (.iface e.1 e.2) := fun i e he => by
      have hc := h3 i e he
      have hl := World.block_lt_of_cell? w _ hc
      have hbk : (ad.add i).block = ad.block := by unfold Addr.add; split <;> rfl
      rw [hbk] at hl
      exact (World.cell?_of_block (a := ad.add i) (by rw [hbk]; exact (hm _ h0 hl).1)).trans hc
    have hc := h3 0 _ (List.getElem?_eq_getElem hz)
    have hl := World.block_lt_of_cell? w _ hc
    have hbk : (ad.add 0).block = ad.block := by unfold Addr.add; split <;> rfl
    rw [hbk] at hl
    exact .rec_ ad es xs c (hm _ h0 hl).2 hz h1 h2 key ih
def DiOut (w : World) (x : Tr) (r : Ending) (w' : World) : Prop := ∃ T u, r = .returned (.iface T u) ∧ TyO (fun k => w.heap.size ≤ k) w' T u x ∧ (∀ k, x = .lone k → keyed k = true → KeyV k T u) ∧ Below w.heap.size w w'
def DIn (v : S47) (x : Tr) : Prop := ∀ (A : Option Addr) (c : Nat) (w : World), Kd.C k47 w A v.f3.length v.f3 → v.f3.length ≤ c →
  Calls Tryd.prog 29 #[.agg #[.int .u8 v.f0, .int .u64 v.f1, .string v.f2, .slice A v.f3.length c]] w (DiOut w x)
set_option maxHeartbeats 4000000 in
set_option maxRecDepth 100000 in
theorem di_121 (n : Int) (s : ByteArray) (A : Option Addr) (l c : Nat) (w : World) : Calls Tryd.prog 29 #[.agg #[.int .u8 121, .int .u64 n, .string s, .slice A l c]] w (DiOut w (.lone 121)) := by
  refine Calls.mono (R := fun r w' => r = .returned (.iface 5 (.int .u8 (IntKind.u8.wrap n))) ∧ Below w.heap.size w w') ?_ ?_
  · go_enter Tryd.func29, Tryd.ntmps29
    go_wp2
    all_goals go_ret
    all_goals exact ⟨rfl, (Below.refl _ _).alloc (Nat.le_refl _) _⟩
  · rintro r w' ⟨rfl, hb⟩
    exact ⟨_, _, rfl, .lone (.t5 _), fun k hk h => by cases hk; exact .y _, hb⟩
set_option maxHeartbeats 4000000 in
set_option maxRecDepth 100000 in
theorem di_98 (n : Int) (s : ByteArray) (A : Option Addr) (l c : Nat) (w : World) : Calls Tryd.prog 29 #[.agg #[.int .u8 98, .int .u64 n, .string s, .slice A l c]] w (DiOut w (.lone 98)) := by
  refine Calls.mono (R := fun r w' => r = .returned (.iface 4 (.bool (n != 0))) ∧ Below w.heap.size w w') ?_ ?_
  · go_enter Tryd.func29, Tryd.ntmps29
    go_wp2
    all_goals go_ret
    all_goals exact ⟨rfl, (Below.refl _ _).alloc (Nat.le_refl _) _⟩
  · rintro r w' ⟨rfl, hb⟩
    exact ⟨_, _, rfl, .lone (.t4 _), fun k hk h => absurd h (by cases hk; decide), hb⟩
set_option maxHeartbeats 4000000 in
set_option maxRecDepth 100000 in
theorem di_110 (n : Int) (s : ByteArray) (A : Option Addr) (l c : Nat) (w : World) : Calls Tryd.prog 29 #[.agg #[.int .u8 110, .int .u64 n, .string s, .slice A l c]] w (DiOut w (.lone 110)) := by
  refine Calls.mono (R := fun r w' => r = .returned (.iface 64 (.int .i16 (IntKind.i16.wrap n))) ∧ Below w.heap.size w w') ?_ ?_
  · go_enter Tryd.func29, Tryd.ntmps29
    go_wp2
    all_goals go_ret
    all_goals exact ⟨rfl, (Below.refl _ _).alloc (Nat.le_refl _) _⟩
  · rintro r w' ⟨rfl, hb⟩
    exact ⟨_, _, rfl, .lone (.t64 _), fun k hk h => by cases hk; exact .n _, hb⟩
set_option maxHeartbeats 4000000 in
set_option maxRecDepth 100000 in
theorem di_113 (n : Int) (s : ByteArray) (A : Option Addr) (l c : Nat) (w : World) : Calls Tryd.prog 29 #[.agg #[.int .u8 113, .int .u64 n, .string s, .slice A l c]] w (DiOut w (.lone 113)) := by
  refine Calls.mono (R := fun r w' => r = .returned (.iface 82 (.int .u16 (IntKind.u16.wrap n))) ∧ Below w.heap.size w w') ?_ ?_
  · go_enter Tryd.func29, Tryd.ntmps29
    go_wp2
    all_goals go_ret
    all_goals exact ⟨rfl, (Below.refl _ _).alloc (Nat.le_refl _) _⟩
  · rintro r w' ⟨rfl, hb⟩
    exact ⟨_, _, rfl, .lone (.t82 _), fun k hk h => by cases hk; exact .q _, hb⟩
set_option maxHeartbeats 4000000 in
set_option maxRecDepth 100000 in
theorem di_105 (n : Int) (s : ByteArray) (A : Option Addr) (l c : Nat) (w : World) : Calls Tryd.prog 29 #[.agg #[.int .u8 105, .int .u64 n, .string s, .slice A l c]] w (DiOut w (.lone 105)) := by
  refine Calls.mono (R := fun r w' => r = .returned (.iface 21 (.int .i32 (wrap32 n))) ∧ Below w.heap.size w w') ?_ ?_
  · go_enter Tryd.func29, Tryd.ntmps29
    go_wp2
    all_goals go_ret
    all_goals exact ⟨rfl, (Below.refl _ _).alloc (Nat.le_refl _) _⟩
  · rintro r w' ⟨rfl, hb⟩
    exact ⟨_, _, rfl, .lone (.t21 _), fun k hk h => by cases hk; exact .i _, hb⟩
set_option maxHeartbeats 4000000 in
set_option maxRecDepth 100000 in
theorem di_117 (n : Int) (s : ByteArray) (A : Option Addr) (l c : Nat) (w : World) : Calls Tryd.prog 29 #[.agg #[.int .u8 117, .int .u64 n, .string s, .slice A l c]] w (DiOut w (.lone 117)) := by
  refine Calls.mono (R := fun r w' => r = .returned (.iface 83 (.int .u32 (IntKind.u32.wrap n))) ∧ Below w.heap.size w w') ?_ ?_
  · go_enter Tryd.func29, Tryd.ntmps29
    go_wp2
    all_goals go_ret
    all_goals exact ⟨rfl, (Below.refl _ _).alloc (Nat.le_refl _) _⟩
  · rintro r w' ⟨rfl, hb⟩
    exact ⟨_, _, rfl, .lone (.t83 _), fun k hk h => by cases hk; exact .u _, hb⟩
set_option maxHeartbeats 4000000 in
set_option maxRecDepth 100000 in
theorem di_120 (n : Int) (s : ByteArray) (A : Option Addr) (l c : Nat) (w : World) : Calls Tryd.prog 29 #[.agg #[.int .u8 120, .int .u64 n, .string s, .slice A l c]] w (DiOut w (.lone 120)) := by
  refine Calls.mono (R := fun r w' => r = .returned (.iface 2 (.int .i64 (wrap64 n))) ∧ Below w.heap.size w w') ?_ ?_
  · go_enter Tryd.func29, Tryd.ntmps29
    go_wp2
    all_goals go_ret
    all_goals exact ⟨rfl, (Below.refl _ _).alloc (Nat.le_refl _) _⟩
  · rintro r w' ⟨rfl, hb⟩
    exact ⟨_, _, rfl, .lone (.t2 _), fun k hk h => by cases hk; exact .x _, hb⟩
set_option maxHeartbeats 4000000 in
set_option maxRecDepth 100000 in
theorem di_116 (n : Int) (s : ByteArray) (A : Option Addr) (l c : Nat) (w : World) : Calls Tryd.prog 29 #[.agg #[.int .u8 116, .int .u64 n, .string s, .slice A l c]] w (DiOut w (.lone 116)) := by
  refine Calls.mono (R := fun r w' => r = .returned (.iface 22 (.int .u64 n)) ∧ Below w.heap.size w w') ?_ ?_
  · go_enter Tryd.func29, Tryd.ntmps29
    go_wp2
    all_goals go_ret
    all_goals exact ⟨rfl, (Below.refl _ _).alloc (Nat.le_refl _) _⟩
  · rintro r w' ⟨rfl, hb⟩
    exact ⟨_, _, rfl, .lone (.t22 _), fun k hk h => by cases hk; exact .t _, hb⟩
set_option maxHeartbeats 4000000 in
set_option maxRecDepth 100000 in
theorem di_100 (n : Int) (s : ByteArray) (A : Option Addr) (l c : Nat) (w : World) : Calls Tryd.prog 29 #[.agg #[.int .u8 100, .int .u64 n, .string s, .slice A l c]] w (DiOut w (.lone 100)) := by
  refine Calls.mono (R := fun r w' => r = .returned (.iface 84 (.float .f64 n.toNat)) ∧ Below w.heap.size w w') ?_ ?_
  · go_enter Tryd.func29, Tryd.ntmps29
    go_wp2
    all_goals go_ret
    all_goals exact ⟨rfl, (Below.refl _ _).alloc (Nat.le_refl _) _⟩
  · rintro r w' ⟨rfl, hb⟩
    exact ⟨_, _, rfl, .lone (.t84 _), fun k hk h => by cases hk; exact .d _, hb⟩
set_option maxHeartbeats 4000000 in
set_option maxRecDepth 100000 in
theorem di_115 (n : Int) (s : ByteArray) (A : Option Addr) (l c : Nat) (w : World) : Calls Tryd.prog 29 #[.agg #[.int .u8 115, .int .u64 n, .string s, .slice A l c]] w (DiOut w (.lone 115)) := by
  refine Calls.mono (R := fun r w' => r = .returned (.iface 9 (.string s)) ∧ Below w.heap.size w w') ?_ ?_
  · go_enter Tryd.func29, Tryd.ntmps29
    go_wp2
    all_goals go_ret
    all_goals exact ⟨rfl, (Below.refl _ _).alloc (Nat.le_refl _) _⟩
  · rintro r w' ⟨rfl, hb⟩
    exact ⟨_, _, rfl, .lone (.t9 _), fun k hk h => by cases hk; exact .s _, hb⟩
set_option maxHeartbeats 4000000 in
set_option maxRecDepth 100000 in
theorem di_111 (n : Int) (s : ByteArray) (A : Option Addr) (l c : Nat) (w : World) : Calls Tryd.prog 29 #[.agg #[.int .u8 111, .int .u64 n, .string s, .slice A l c]] w (DiOut w (.lone 111)) := by
  refine Calls.mono (R := fun r w' => r = .returned (.iface 85 (.string s)) ∧ Below w.heap.size w w') ?_ ?_
  · go_enter Tryd.func29, Tryd.ntmps29
    go_wp2
    all_goals go_ret
    all_goals exact ⟨rfl, (Below.refl _ _).alloc (Nat.le_refl _) _⟩
  · rintro r w' ⟨rfl, hb⟩
    exact ⟨_, _, rfl, .lone (.t85 _), fun k hk h => by cases hk; exact .o _, hb⟩
set_option maxHeartbeats 4000000 in
set_option maxRecDepth 100000 in
theorem di_103 (n : Int) (s : ByteArray) (A : Option Addr) (l c : Nat) (w : World) : Calls Tryd.prog 29 #[.agg #[.int .u8 103, .int .u64 n, .string s, .slice A l c]] w (DiOut w (.lone 103)) := by
  refine Calls.mono (R := fun r w' => r = .returned (.iface 42 (.agg #[.string s])) ∧ Below w.heap.size w w') ?_ ?_
  · go_enter Tryd.func29, Tryd.ntmps29
    go_wp2
    all_goals go_ret
    all_goals exact ⟨rfl, (Below.refl _ _).alloc (Nat.le_refl _) _⟩
  · rintro r w' ⟨rfl, hb⟩
    exact ⟨_, _, rfl, .lone (.g _), fun k hk h => absurd h (by cases hk; decide), hb⟩
set_option maxHeartbeats 4000000 in
set_option maxRecDepth 100000 in
theorem di_104 (n : Int) (s : ByteArray) (A : Option Addr) (l c : Nat) (w : World) : Calls Tryd.prog 29 #[.agg #[.int .u8 104, .int .u64 n, .string s, .slice A l c]] w (DiOut w (.lone 104)) := by
  refine Calls.mono (R := fun r w' => r = .returned (.iface 89 (.int .u32 (IntKind.u32.wrap n))) ∧ Below w.heap.size w w') ?_ ?_
  · go_enter Tryd.func29, Tryd.ntmps29
    go_wp2
    all_goals go_ret
    all_goals exact ⟨rfl, (Below.refl _ _).alloc (Nat.le_refl _) _⟩
  · rintro r w' ⟨rfl, hb⟩
    exact ⟨_, _, rfl, .lone (.t89 _), fun k hk h => by cases hk; exact .h _, hb⟩
theorem di_lone (v : S47) (c : Int) (h : v.f0 = c) (hl : Given.lone c = true) (h118 : c ≠ 118) : DIn v (.lone c) := by
  intro A m w _ _
  rw [h]
  rcases is_lone hl with ((((((((((((h | h) | h) | h) | h) | h) | h) | h) | h) | h) | h) | h) | h) | h <;> subst h
  · exact di_121 _ _ _ _ _ w
  · exact di_98 _ _ _ _ _ w
  · exact di_110 _ _ _ _ _ w
  · exact di_113 _ _ _ _ _ w
  · exact di_105 _ _ _ _ _ w
  · exact di_117 _ _ _ _ _ w
  · exact di_120 _ _ _ _ _ w
  · exact di_116 _ _ _ _ _ w
  · exact di_100 _ _ _ _ _ w
  · exact di_115 _ _ _ _ _ w
  · exact di_103 _ _ _ _ _ w
  · exact di_111 _ _ _ _ _ w
  · exact absurd rfl h118
  · exact di_104 _ _ _ _ _ w
set_option maxHeartbeats 4000000 in
set_option maxRecDepth 100000 in
theorem di_var (v y : S47) (x : Tr) (h : v.f0 = 118) (hy : v.f3[0]? = some y) (hg : Gd x) (ih : DIn y x) : DIn v (.lone 118) := by
  intro A c w hC hc
  have hpos : 0 < v.f3.length := (List.getElem?_eq_some_iff.1 hy).1
  rw [h]
  obtain ⟨wA, hwA⟩ : ∃ wA, w.alloc (.cells #[.int .u8 118, .int .u64 v.f1, .string v.f2, .slice A v.f3.length c] 47) = wA := ⟨_, rfl⟩
  have hbA : Below w.heap.size w wA := hwA ▸ (Below.refl _ w).alloc (Nat.le_refl _) _
  obtain ⟨ad, A3, c3, hA, d0, d1, d2, d3, hl3, hC3⟩ := at_T47 (Kd.C_below hC hbA) 0 (by omega) (by omega)
  have hrd : rd_T47 v.f3 0 = y := by
    unfold rd_T47
    rw [List.getD_eq_getElem?_getD, show (0 : Int).toNat = 0 from rfl, hy]; rfl
  rw [hrd] at d0 d1 d2 d3 hl3 hC3
  have hbx : wA.heap[w.heap.size]? = some (.cells #[.int .u8 118, .int .u64 v.f1, .string v.f2, .slice A v.f3.length c] 47 (0, 0)) := hwA ▸ heap_alloc_new w _
  have b0 : wA.cell? ⟨w.heap.size, 0, none⟩ = some (.int .u8 118) := (blk_cell hbx 0).trans rfl
  have b3 : wA.cell? ⟨w.heap.size, 3, none⟩ = some (.slice A v.f3.length c) := (blk_cell hbx 3).trans rfl
  have HI := Aside0.mk (ih A3 c3 wA hC3 hl3)
  have HG := Aside0.mk hg
  have HB := Aside0.mk hbA
  have e0 : ad.add (Int.toNat 0 * 4) = ad := by simp [Addr.add]
  rw [e0] at d0 d1 d2 d3
  clear e0
  subst hA
  clear h hC hg ih hbA hC3 hl3 hrd hy hbx
  go_enter Tryd.func29, Tryd.ntmps29
  go_wp2_with fail
  refine (HI.out).mono ?_
  rintro r w1 ⟨T, u, rfl, hty, -, hb1⟩
  have HB := Aside0.mk (below_step HB.out hb1)
  have HM := Aside0.mk (mkVar.calls HG.out hty.ty)
  clear hty hb1 d0 d1 d2 d3 b0 b3
  go_wp2_with fail
  refine (HM.out).mono ?_
  rintro r w2 ⟨rfl, hb2⟩
  go_wp2_with fail
  go_ret
  exact ⟨_, _, rfl, .lone (.v _ _ _), fun k hk h => absurd h (by cases hk; decide), below_step HB.out hb2⟩
end Go.Proofs.YtnojjfklnihmnaaDoor.Given
end
section
namespace Go.Proofs.YtnojjfklnihmnaaDoor.Given
open Go.RowKit Go.Proofs.YtnojjfklnihmnaaDoorW.PrintWords Go.Proofs.YtnojjfklnihmnaaDoorW.PrintLast Go.Proofs.YtnojjfklnihmnaaDoor.Pl Go.Proofs.YtnojjfklnihmnaaDoor.By Go.Proofs.YtnojjfklnihmnaaDoor.SgT Go.Proofs.YtnojjfklnihmnaaDoor.PFnSgOfParts
set_option linter.unusedVariables false
def f29_51.T : Bool × List (List Nat × List Nat) := (true, [([], []), ([], []), ([1], [1]), ([2], [2]), ([3], [3]), ([], []), ([5], [5]), ([6], [6]), ([4, 7, 6], [4, 7]), ([0, 0, 1, 2, 3, 4, 5, 6, 7, 8], [0]), ([9, 0, 1, 2, 3, 4, 5, 6, 7, 8], [9]), ([10, 8, 8, 0, 1, 2, 3, 4, 5, 6, 7, 8], [8, 10])])
def f29_51.B : List Nat := [0, 0, 2, 6, 14, 0, 32, 96, 254, 511, 1023, 2047]
theorem f29_51.tab : rtab .any (opsOf Tryd.f29 51) = f29_51.T := by kernel_rfl
theorem f29_51.bits : waitsOk f29_51.T.2 f29_51.B = true := by kernel_rfl
def f29_35.T : Bool × List (List Nat × List Nat) := (true, [([], []), ([0], [0]), ([], []), ([2], [2]), ([3], [3]), ([1, 4, 3], [1, 4]), ([0, 1, 2, 3, 4, 5], []), ([6, 5, 5, 0, 1, 2, 3, 4, 5], [5, 6])])
def f29_35.B : List Nat := [0, 1, 0, 4, 12, 31, 63, 127]
theorem f29_35.tab : rtab .any (opsOf Tryd.f29 35) = f29_35.T := by kernel_rfl
theorem f29_35.bits : waitsOk f29_35.T.2 f29_35.B = true := by kernel_rfl
theorem rd47 {l : List S47} {j : Nat} {y : S47} (h : l[j]? = some y) : rd_T47 l (j : Int) = y := by
  unfold rd_T47
  rw [Int.toNat_natCast, List.getD_eq_getElem?_getD, h]; rfl
set_option maxHeartbeats 16000000 in
set_option maxRecDepth 100000 in
theorem di_arr (v : S47) (e : Tr) (tys : List Tr) (h : v.f0 = 97) (hw : wf e true) (hf : fits e 0 0 0 = true) (hl : (word e).length ≤ 255) (hs : v.f2 = strOfNums (word e)) (hlen : v.f3.length = tys.length) (hn : v.f3.length ≤ 1000)
    (ih : ∀ (i : Nat) (y : S47) (x : Tr), v.f3[i]? = some y → tys[i]? = some x → DIn y x) : DIn v (.arr e) := by
  intro A c w hC hc
  rw [h, hs]
  obtain ⟨c0, r0, ec, hc0, -, -⟩ := head_wf hw
  have eb := bytes_str (word_bytes e _ hw)
  obtain ⟨h0, h1, -⟩ := at_zero (eb.trans ec)
  have hne := not_empty (l := word e) (by rw [ec]; simp)
  have HDT := Aside0.mk fun w => (doorType.calls e).1 hw hf (by omega) w
  generalize strOfNums (word e) = S at *
  have hx6 : ∀ h : 0 < S.size, ((S[0]'h).toNat : Int) = c0 := fun h => by rw [← h1]; exact bt_at S 0 h
  have q6 : (0 < S.size) = True := eq_true h0
  have qi6 : (0 < (S.size : Int)) = True := eq_true (by omega)
  have cb : (c0 == 123) = false := beq_eq_false_iff_ne.mpr hc0
  have HIH := Aside0.mk ih
  have HLEN := Aside0.mk hlen
  have HC := Aside0.mk hC
  obtain ⟨wA, hwA⟩ : ∃ wA, w.alloc (.cells #[.int .u8 97, .int .u64 v.f1, .string S, .slice A v.f3.length c] 47) = wA := ⟨_, rfl⟩
  have hbA : Below w.heap.size w wA := hwA ▸ (Below.refl _ w).alloc (Nat.le_refl _) _
  have hbx : wA.heap[w.heap.size]? = some (.cells #[.int .u8 97, .int .u64 v.f1, .string S, .slice A v.f3.length c] 47 (0, 0)) := hwA ▸ heap_alloc_new w _
  have HBX := Aside0.mk hbx
  have HBA := Aside0.mk hbA
  have b0 : wA.cell? ⟨w.heap.size, 0, none⟩ = some (.int .u8 97) := (blk_cell hbx 0).trans rfl
  have b2 : wA.cell? ⟨w.heap.size, 2, none⟩ = some (.string S) := (blk_cell hbx 2).trans rfl
  clear ih hlen hC hbA hbx h hs ec eb h0 h1 hc0 hw hf hl
  go_enter Tryd.func29, Tryd.ntmps29
  go_wp2_with fail
  refine (HDT.out _).mono ?_
  rintro r w1 ⟨rfl, hb1⟩
  have HBX := Aside0.mk (boxed_block HBX.out hb1)
  have HBA := Aside0.mk (below_step HBA.out hb1)
  clear hb1 b0 b2 hwA
  obtain ⟨wB, hwB⟩ : ∃ wB, w1.alloc (.cells #[.string (strOfNums (tyS e)), .slice none 0 0] 93) = wB := ⟨_, rfl⟩
  have hbB : Below w1.heap.size w1 wB := hwB ▸ (Below.refl _ w1).alloc (Nat.le_refl _) _
  have hbp : wB.heap[w1.heap.size]? = some (.cells #[.string (strOfNums (tyS e)), .slice none 0 0] 93 (0, 0)) := hwB ▸ heap_alloc_new w1 _
  have b3 : wB.cell? ⟨w.heap.size, 3, none⟩ = some (.slice A v.f3.length c) := (blk_cell (boxed_block HBX.out hbB) 3).trans rfl
  have HB0 := Aside0.mk (below_step HBA.out hbB)
  have BP0 := Aside0.mk hbp
  have hpB : w.heap.size ≤ w1.heap.size := HBA.out.size
  clear hbB hbp
  go_wp2_with fail
  clear b3 hwB hx6 q6 qi6 cb hne HBX HBA
  obtain ⟨p, hp⟩ : ∃ p, w1.heap.size = p := ⟨_, rfl⟩
  rw [hp] at BP0 hpB ⊢
  clear hp
  have HP := Aside0.mk hpB
  go_loopw [166] (fun i wr => ∃ j : Nat, j ≤ v.f3.length ∧ i = .int .i64 j ∧ ∃ sv us, Aside0 (wr.heap[p]? = some (.cells #[.string (strOfNums (tyS e)), sv] 93 (0, 0))) ∧ Aside0 (wr.ownsRow w.heap.size 20 1 sv j us) ∧ Aside0 (Below w.heap.size w wr)) (fun i _ => v.f3.length - (intOf i).toNat)
  case atStart => exact ⟨0, Nat.zero_le _, rfl, .slice none 0 0, [], BP0, ⟨own_nil _ _ _ _⟩, HB0⟩
  case round =>
    clear BP0 HB0
    obtain ⟨j, hj, rfl, sv, us, BKP, HO, HB⟩ := hrel
    by_cases hlt : j < v.f3.length
    · obtain ⟨y, hy⟩ : ∃ y, v.f3[j]? = some y := ⟨_, List.getElem?_eq_getElem hlt⟩
      obtain ⟨x, hx⟩ : ∃ x, tys[j]? = some x := ⟨_, List.getElem?_eq_getElem (by have := HLEN.out; omega)⟩
      obtain ⟨ad, A3, c3, hA, d0, d1, d2, d3, hl3, hC3⟩ := at_T47 (Kd.C_below HC.out HB.out) (j : Int) (by omega) (by omega)
      rw [rd47 hy] at d0 d1 d2 d3 hl3 hC3
      simp only [Int.toNat_natCast] at d0 d1 d2 d3
      have HI := Aside0.mk (HIH.out j y x hy hx)
      have HC3 := Aside0.mk hC3
      cases hA
      clear hy hx hC3
      go_wp2_with fail
      clear d0 d1 d2 d3
      obtain ⟨q, hq⟩ : ∃ q, wr.heap.size = q := ⟨_, rfl⟩
      have hbn : Below wr.heap.size wr (wr.alloc (.cells #[.int .u8 y.f0, .int .u64 y.f1, .string y.f2, .slice A3 y.f3.length c3] 47)) := (Below.refl _ _).alloc (Nat.le_refl _) _
      have BKQ : Aside0 ((wr.alloc (.cells #[.int .u8 y.f0, .int .u64 y.f1, .string y.f2, .slice A3 y.f3.length c3] 47)).heap[q]? = some (.cells #[.int .u8 y.f0, .int .u64 y.f1, .string y.f2, .slice A3 y.f3.length c3] 47 (0, 0))) := ⟨by rw [← hq]; exact heap_alloc_new _ _⟩
      have BKP := Aside0.mk (boxed_block BKP.out hbn)
      have HO := Aside0.mk (own_old HO.out hbn)
      have HB := Aside0.mk (below_step HB.out hbn)
      have HC3 := Aside0.mk (Kd.C_below HC3.out hbn)
      rw [hq]
      generalize wr.alloc (.cells #[.int .u8 y.f0, .int .u64 y.f1, .string y.f2, .slice A3 y.f3.length c3] 47) = W1 at BKQ BKP HO HB HC3 hbn ⊢
      clear hbn hq
      refine start_ (n := 12) (S := fun w' => w'.cell? ⟨p, 1, none⟩ = some sv ∧ w'.cell? ⟨q, 0, none⟩ = some (.int .u8 y.f0) ∧ w'.cell? ⟨q, 1, none⟩ = some (.int .u64 y.f1) ∧ w'.cell? ⟨q, 2, none⟩ = some (.string y.f2) ∧ w'.cell? ⟨q, 3, none⟩ = some (.slice A3 y.f3.length c3)) (ds := [11]) #[false, false, false, false, false, false, false, false, false, false, false, false] (by kernel_rfl) rfl rfl ⟨(blk_cell BKP.out 1).trans rfl, (blk_cell BKQ.out 0).trans rfl, (blk_cell BKQ.out 1).trans rfl, (blk_cell BKQ.out 2).trans rfl, (blk_cell BKQ.out 3).trans rfl⟩ (fun hHeld => ?_)
      refine with_tabW f29_51.tab f29_51.bits (fun HT_ HW_ => ?_)
      have BKP := Aside0.mk (blk_drew BKP.out)
      have BKQ := Aside0.mk (blk_drew BKQ.out)
      have HO := Aside0.mk (own_drew HO.out)
      have HB := Aside0.mk HB.out.drew
      have HC3 := Aside0.mk (Kd.C_below HC3.out (Below.refl _ _).drew)
      generalize W1.drew = W2 at BKP BKQ HO HB HC3 hHeld ⊢
      refine pure_ (i := 0) (N := some 170) (v := ?_) (a' := ?_) #[true, false, false, false, false, false, false, false, false, false, false, false] rfl rfl (any_of HT_.out (by kernel_rfl)) (fun _ _ _ h => h) (Or.inl ⟨by rfl, ?_⟩) ?_ ?_
      rotate_left
      · intro w'
        go_simp
        with_reducible rfl
      rotate_left
      · simp only [Act.put, List.setIfInBounds_toArray, List.set_cons_zero, List.set_cons_succ]
        rfl
      refine pure_ (i := 1) (N := some 171) (v := ?_) (a' := ?_) #[true, true, false, false, false, false, false, false, false, false, false, false] rfl rfl (any_of HT_.out (by kernel_rfl)) (fun _ _ _ h => h) (Or.inl ⟨by rfl, ?_⟩) ?_ ?_
      rotate_left
      · intro w'
        go_simp
        with_reducible rfl
      rotate_left
      · simp only [Act.put, List.setIfInBounds_toArray, List.set_cons_zero, List.set_cons_succ]
        rfl
      refine pure_ (i := 2) (N := some 172) (v := ?_) (a' := ?_) #[true, true, true, false, false, false, false, false, false, false, false, false] rfl rfl (any_of HT_.out (by kernel_rfl)) (fun _ _ _ h => h) (Or.inl ⟨by rfl, ?_⟩) ?_ ?_
      rotate_left
      · intro w'
        go_simp
        with_reducible rfl
      rotate_left
      · simp only [Act.put, List.setIfInBounds_toArray, List.set_cons_zero, List.set_cons_succ]
        rfl
      refine pure_ (i := 3) (N := some 173) (v := ?_) (a' := ?_) #[true, true, true, true, false, false, false, false, false, false, false, false] rfl rfl (any_of HT_.out (by kernel_rfl)) (fun _ _ _ h => h) (Or.inl ⟨by rfl, ?_⟩) ?_ ?_
      rotate_left
      · intro w'
        go_simp
        with_reducible rfl
      rotate_left
      · simp only [Act.put, List.setIfInBounds_toArray, List.set_cons_zero, List.set_cons_succ]
        rfl
      refine take_ (i := 4) (N := some 174) (v := ?_) (a' := ?_) #[true, true, true, true, true, false, false, false, false, false, false, false] rfl rfl (take_ofW HT_.out HW_.out (by kernel_rfl)) (fun _ _ _ h => h) (Or.inl ⟨by rfl, ?_⟩) hHeld ?_ ?_
      rotate_left
      · rintro w' ⟨s0, s1, s2, s3, s4⟩
        go_simp
        with_reducible rfl
      rotate_left
      · simp only [Act.put, List.setIfInBounds_toArray, List.set_cons_zero, List.set_cons_succ]
        rfl
      refine take_ (i := 5) (N := some 175) (v := ?_) (a' := ?_) #[true, true, true, true, true, true, false, false, false, false, false, false] rfl rfl (take_ofW HT_.out HW_.out (by kernel_rfl)) (fun _ _ _ h => h) (Or.inl ⟨by rfl, ?_⟩) hHeld ?_ ?_
      rotate_left
      · rintro w' ⟨s0, s1, s2, s3, s4⟩
        go_simp
        with_reducible rfl
      rotate_left
      · simp only [Act.put, List.setIfInBounds_toArray, List.set_cons_zero, List.set_cons_succ]
        rfl
      refine one_ (i := 6) (N := some 176) #[true, true, true, true, true, true, true, false, false, false, false, false] rfl rfl (one_of HT_.out (by kernel_rfl)) (by decide) (fun K hK => ?_)
      refine goes_ Tryd.func29 (by kernel_rfl) rfl #[.agg #[.int .u8 y.f0, .int .u64 y.f1, .string y.f2, .slice A3 y.f3.length c3]] (by rfl) rfl rfl (by (try simp only [List.map_toArray, List.map_cons, List.map_nil]); first | done | rfl) ?_
      refine (HI.out A3 c3 W2 HC3.out hl3).mono ?_
      rintro e W3 ⟨T, u, rfl, -, -, hb⟩
      refine ⟨_, rfl, ?_⟩
      have BKP := Aside0.mk (boxed_block BKP.out hb)
      have BKQ := Aside0.mk (boxed_block BKQ.out hb)
      have HO := Aside0.mk (own_old HO.out hb)
      have HB := Aside0.mk (below_step HB.out hb)
      clear hb
      refine hK.out _ _ ⟨(blk_cell BKP.out 1).trans rfl, (blk_cell BKQ.out 0).trans rfl, (blk_cell BKQ.out 1).trans rfl, (blk_cell BKQ.out 2).trans rfl, (blk_cell BKQ.out 3).trans rfl⟩ (fun hHeld => ?_)
      clear hK K
      refine norm_ (a' := ?_) ?_ ?_
      rotate_left
      · show Act.put _ (some 176) _ = _
        simp only [Act.put, List.setIfInBounds_toArray, List.set_cons_zero, List.set_cons_succ]
        rfl
      refine one_ (i := 7) (N := some 177) #[true, true, true, true, true, true, true, true, false, false, false, false] rfl rfl (one_of HT_.out (by kernel_rfl)) (by decide) (fun K hK => ?_)
      refine value_ (w1 := ?_) (v := ?_) (by rfl) rfl ?_ ?_
      rotate_left 2
      · go_simp
        constructor
        · rfl
        · rfl
      have hz := heap_alloc_new W3 (.cells #[.iface T u] 20)
      have hbn : Below W3.heap.size W3 (W3.alloc (.cells #[.iface T u] 20)) := (Below.refl _ _).alloc (Nat.le_refl _) _
      have BKP := Aside0.mk (boxed_block BKP.out hbn)
      have BKQ := Aside0.mk (boxed_block BKQ.out hbn)
      have HO := Aside0.mk (own_old HO.out hbn)
      have HB := Aside0.mk (below_step HB.out hbn)
      obtain ⟨z, hzz⟩ : ∃ z, W3.heap.size = z := ⟨_, rfl⟩
      rw [hzz] at hz ⊢
      clear hzz
      generalize W3.alloc (.cells #[.iface T u] 20) = W4 at BKP BKQ HO HB hz hbn ⊢
      clear hbn
      refine hK.out _ _ ⟨(blk_cell BKP.out 1).trans rfl, (blk_cell BKQ.out 0).trans rfl, (blk_cell BKQ.out 1).trans rfl, (blk_cell BKQ.out 2).trans rfl, (blk_cell BKQ.out 3).trans rfl⟩ (fun hHeld => ?_)
      clear hK K
      refine norm_ (a' := ?_) ?_ ?_
      rotate_left
      · show Act.put _ (some 177) _ = _
        simp only [Act.put, List.setIfInBounds_toArray, List.set_cons_zero, List.set_cons_succ]
        rfl
      refine one_ (i := 8) (N := some 178) #[true, true, true, true, true, true, true, true, true, false, false, false] rfl rfl (one_of HT_.out (by kernel_rfl)) (by decide) (fun K hK => ?_)
      refine step_app (w0 := w) w.heap.size (by rfl) (.tmp 174) (.tmp 177) 44 20 .nilIface 16 rfl Tryd.underlying44 info20 rfl (by decide) sv j us (.iface T u) z rfl rfl hz rfl HO.out HB.out HB.out.size (by omega) ?_
      intro v5 W5 ho hb hg hat
      have BKP := Aside0.mk (blk_grown BKP.out hg (own_ne HO.out BKP.out (by decide)))
      have BKQ := Aside0.mk (blk_grown BKQ.out hg (own_ne HO.out BKQ.out (by decide)))
      have HO := Aside0.mk ho
      have HB := Aside0.mk hb
      clear ho hb hg hat hz
      obtain ⟨A5, m5, rfl⟩ := own_slice HO.out
      refine hK.out _ _ ⟨(blk_cell BKP.out 1).trans rfl, (blk_cell BKQ.out 0).trans rfl, (blk_cell BKQ.out 1).trans rfl, (blk_cell BKQ.out 2).trans rfl, (blk_cell BKQ.out 3).trans rfl⟩ (fun hHeld => ?_)
      clear hK K
      refine norm_ (a' := ?_) ?_ ?_
      rotate_left
      · show Act.put _ (some 178) _ = _
        simp only [Act.put, List.setIfInBounds_toArray, List.set_cons_zero, List.set_cons_succ]
        rfl
      refine pure_ (i := 9) (N := some 179) (v := ?_) (a' := ?_) #[true, true, true, true, true, true, true, true, true, true, false, false] rfl rfl (any_of HT_.out (by kernel_rfl)) (fun _ _ _ h => h) (Or.inl ⟨by rfl, ?_⟩) ?_ ?_
      rotate_left
      · intro w'
        go_simp
        with_reducible rfl
      rotate_left
      · simp only [Act.put, List.setIfInBounds_toArray, List.set_cons_zero, List.set_cons_succ]
        rfl
      refine pure_ (i := 10) (N := some 180) (v := ?_) (a' := ?_) #[true, true, true, true, true, true, true, true, true, true, true, false] rfl rfl (any_of HT_.out (by kernel_rfl)) (fun _ _ _ h => h) (Or.inl ⟨by rfl, ?_⟩) ?_ ?_
      rotate_left
      · intro w'
        go_simp
        with_reducible rfl
      rotate_left
      · simp only [Act.put, List.setIfInBounds_toArray, List.set_cons_zero, List.set_cons_succ]
        rfl
      refine last_ (i := 11) (N := none) #[true, true, true, true, true, true, true, true, true, true, true, true] rfl rfl (one_of HT_.out (by kernel_rfl)) (by decide) (fun K hK => ?_)
      have e1 : W5.cell? ⟨p, 1, none⟩ = some sv := (blk_cell BKP.out 1).trans rfl
      have f1 := blk_frozen BKP.out 1
      refine skip_ (w1 := ?_) (by rfl) rfl ?_ ?_
      rotate_left
      · go_simp
        rfl
      refine hK.out _ _ ?_
      clear hK K
      refine done_ (done_of HT_.out (by kernel_rfl)) ?_
      have BKP5 := Aside0.mk (blk_set BKP.out 1 (.slice A5 (j + 1) m5))
      have HO5 := Aside0.mk (own_setCell HO.out (p := ⟨p, 1, none⟩) (own_ne HO.out BKP.out (by decide)) (.slice A5 (j + 1) m5))
      have HB5 := Aside0.mk (HB.out.setCell (p := ⟨p, 1, none⟩) hpB (.slice A5 (j + 1) m5))
      clear e1 f1 BKP BKQ HO HB HC3 hHeld
      go_wp2_with fail
      go_roundw
      case rel => exact ⟨j + 1, by omega, by go_num, _, _, BKP5, HO5, HB5⟩
      case measure => simp [intOf]; omega
    · obtain rfl : j = v.f3.length := by omega
      go_wp2_with fail
      go_ret
      exact ⟨_, _, rfl, .list p e HP.out ((blk_cell BKP.out 0).trans rfl), fun k hk => (by cases hk), HB.out⟩
end Go.Proofs.YtnojjfklnihmnaaDoor.Given
end
