/- Several texts of this claim in one. -/
import Derived.Test.YtldjigfnagfalaaGreatDoorGvDa
import Derived.Test.YtldjigfnagfalaaGreatDoorPVax1
/- doorsIn of one array of numbers. -/
namespace Go.Proofs.YtldjigfnagfalaaGreatDoor.Given
open Go.RowKit Go.Proofs.YtldjigfnagfalaaGreatDoorW.PrintWords Go.Proofs.YtldjigfnagfalaaGreatDoorW.PrintLast Go.Proofs.YtldjigfnagfalaaGreatDoorW.PrintMore Go.Proofs.YtldjigfnagfalaaGreatDoor.PVa
set_option linter.unusedVariables false
def ifc (x : TypeId × Value) : Value := .iface x.1 x.2
theorem add_zero (a : Addr) : a.add 0 = a := by simp [Addr.add]
theorem ifc_one (x : TypeId × Value) : (ifc x).oneCell' = true := rfl
set_option maxHeartbeats 16000000 in
set_option maxRecDepth 100000 in
theorem doorsIn_arr (k : NK) (l : List S80) (ns : List Nat) (hns : IsNs k l ns) (hn : l.length ≤ 1000) (n0 : Int) (A : Option Addr) (m : Nat) (hm : 1 ≤ m) (w : World) (hC : Kd.C k80 w A 1 [⟨97, n0, ⟨#[k.code]⟩, l⟩]) :
    Calls Tryz.prog 27 #[.slice A 1 m] w fun r w' => ∃ gv cv p, r = .returned (.slice (some ⟨gv, 0, none⟩) 1 cv) ∧ w'.cell? ⟨gv, 0, none⟩ = some (.iface 162 (.pointer (some ⟨p, 0, none⟩))) ∧ Below w.heap.size w w' ∧ ∀ big, IsNums w' k.code (k.size : Int) big p ns.length (numList k big ns) := by
  obtain ⟨ad, A3, c3, hA, d0, d1, d2, d3, hl3, hC3⟩ := at_T80 hC 0 (by decide) (by decide)
  have hrd : rd_T80 [⟨97, n0, ⟨#[k.code]⟩, l⟩] 0 = ⟨97, n0, ⟨#[k.code]⟩, l⟩ := rfl
  rw [hrd] at d0 d1 d2 d3 hl3 hC3
  simp only [Int.toNat_zero, Nat.zero_mul, add_zero] at d0 d1 d2 d3
  cases hA
  have hlt : ad.block < w.heap.size := World.block_lt_of_cell? w _ d0
  have HC3 := Aside0.mk hC3
  have HNS := Aside0.mk hns
  clear hC hns hC3 hrd
  go_enter Tryz.func27, Tryz.ntmps27
  go_wp2_with fail
  go_loopw [3, 8] (fun v i wr => Aside0 (v = .slice none 0 0 ∧ i = .int .i64 0 ∧ w = wr) ∨ Aside0 (i = .int .i64 1 ∧ ∃ p, (Kd.scalar ifc ifc_one).R 20 wr w.heap.size (fun _ => True) v [(162, .pointer (some ⟨p, 0, none⟩))] ∧ Below w.heap.size w wr ∧ ∀ big, IsNums wr k.code (k.size : Int) big p ns.length (numList k big ns))) (fun _ i _ => 1 - (intOf i).toNat)
  case atStart => exact Or.inl ⟨rfl, rfl, rfl⟩
  case round =>
    rcases hrel with ⟨rfl, rfl, rfl⟩ | ⟨rfl, p, h1, h2, h3⟩
    · go_wp2_with fail
      have hb0 : Below w.heap.size w (w.alloc (.cells #[.int .u8 97, .int .u64 n0, .string ⟨#[k.code]⟩, .slice A3 l.length c3] 80)) := (Below.refl _ w).alloc (Nat.le_refl _) _
      have HDI := Aside0.mk (doorIn_arr k l ns HNS.out hn n0 A3 c3 hl3 _ (Kd.C_below HC3.out hb0))
      refine (HDI.out).mono ?_
      clear HDI
      rintro r W1 ⟨p, rfl, hb, hN⟩
      have HB := Aside0.mk (below_step hb0 hb)
      have HN := Aside0.mk hN
      clear hb hN hb0 d0 d1 d2 d3
      go_wp2_with ((with_reducible refine gate_builtin (b := .append) (xs := #[.tmp 12, .tmp 15]) rfl ?_); at_builtin; refine Kd.R_append (Kd.scalar ifc ifc_one) (w0 := w) w.heap.size rfl (.tmp 12) (.tmp 15) 76 20 .nilIface 16 rfl Tryz.underlying76 info20 rfl (show 0 < 1 by decide) (by omega) (.slice none 0 0) [] (162, .pointer (some ⟨p, 0, none⟩)) [.iface 162 (.pointer (some ⟨p, 0, none⟩))] (fun _ => True) (fun k_ => True ∧ some k_ ≠ (Value.slice none 0 0).ownBlock) rfl rfl rfl (fun _ hk => hk) (fun _ _ => trivial) (Kd.R_nil _ _ _ _ _) HB.out HB.out.size (show (0 + 1) * 16 ≤ 140737488355328 by decide) ?_; intro v4 w4 ho hb4 hg hat; have HO4 := Aside0.mk ho; have HB4 := Aside0.mk hb4; have HG4 := Aside0.mk hg; clear ho hb4 hg hat)
      have HN4 : Aside0 (∀ big, IsNums w4 k.code (k.size : Int) big p ns.length (numList k big ns)) := ⟨fun big => (HN.out big).old (fun x hx => HG4.out.block x hx (by simp [Value.ownBlock]))⟩
      go_roundw
      case rel => exact Or.inr ⟨by go_num, p, HO4.out, HB4.out, HN4.out⟩
      case measure => simp [intOf]
    · have h1' := Aside0.mk h1
      have h2' := Aside0.mk h2
      have h3' := Aside0.mk h3
      clear h1 h2 h3
      go_wp2_with fail
      go_ret
      have hown := Kd.own_of_R h1'.out
      rcases hown.2 with ⟨-, h0⟩ | ⟨g, cap, cur, hv, hBg, hg, hnc, hcm, hcs, htk⟩
      · simp at h0
      · refine ⟨g, cap, p, by rw [hv]; rfl, ?_, h2'.out, h3'.out⟩
        have hj : (encs ifc [((162 : TypeId), Value.pointer (some ⟨p, 0, none⟩))])[0]? = some (.iface 162 (.pointer (some ⟨p, 0, none⟩))) := rfl
        rw [← htk] at hj
        have := Lib.cells_of_row hg _ 0 _ hj
        rwa [Lib.addr_add, Nat.zero_add] at this
end Go.Proofs.YtldjigfnagfalaaGreatDoor.Given
/- DoorEncode and WrEncode of one array of numbers. -/
namespace Go.Proofs.YtldjigfnagfalaaGreatDoor.Given
open Go.RowKit Go.Proofs.YtldjigfnagfalaaGreatDoorW.PrintWords Go.Proofs.YtldjigfnagfalaaGreatDoorW.PrintLast Go.Proofs.YtldjigfnagfalaaGreatDoorW.PrintMore Go.Proofs.YtldjigfnagfalaaGreatDoor.PVa
set_option linter.unusedVariables false
theorem de_idle (p q : Addr) (w : World) :
    CallsD Tryz.prog 23 #[.pointer (some p), .pointer (some q)] .returning w fun e u' w' => e = .returned (.tuple #[]) ∧ u' = .returning ∧ w' = w := by
  refine callsD_of_wpS Tryz.func23 rfl fun c₀ cs hu => ?_
  apply wpS_seq
  apply wpS_region
  simp [wpOpsS, go_sem, recoverD, hu, Tryz.ntmps23, Exit.thenS]
  refine wpS_cond (t := false) (by simp [Act.eval, Array.replicate]) ?_
  simp only [Bool.false_eq_true, if_false]
  refine wpS_of_wp (wp_skip ?_)
  cases c₀
  simp_all [bodyPostS, results, Tryz.results23]
theorem order' (big : Bool) (w : World) :
    Calls Tryz.prog 25 #[.bool big] w fun r w' => r = .returned (.iface (ordOf big) (.agg #[])) ∧ w = w' := order big w
set_option maxHeartbeats 16000000 in
set_option maxRecDepth 100000 in
theorem doorEncode_arr (k : NK) (big : Bool) (l : List S80) (ns : List Nat) (hns : IsNs k l ns) (hn : l.length ≤ 1000) (n0 : Int) (A : Option Addr) (m : Nat) (hm : 1 ≤ m) (w : World) (hC : Kd.C k80 w A 1 [⟨97, n0, ⟨#[k.code]⟩, l⟩]) :
    Calls Tryz.prog 15 #[.slice A 1 m, .bool big, .int .i64 0] w fun r w' => r = .returned (.tuple #[.string ⟨(arrBytes big (k.size : Int) k.head (numList k big ns)).toArray⟩, .nilIface]) ∧ Below w.heap.size w w' := by
  have hmf : ∀ (fn : Fn) (first cap : Array Value) (w : World), (Instr.makeFunc fn first cap).run Tryz.prog w = .ok (.func fn first cap) w := fun _ _ _ _ => rfl
  have HNS := Aside0.mk hns
  have HC := Aside0.mk hC
  clear hns hC
  go_enter_defers Tryz.func15, Tryz.ntmps15
  go_wp2_with fail
  refine (order' big _).mono ?_
  rintro r w1 ⟨rfl, rfl⟩
  go_wp2_with fail
  refine (newEnc _ _ _ _ _ _ _).mono ?_
  rintro r w1 ⟨rfl, rfl⟩
  go_wp2_with fail
  obtain ⟨b, hb⟩ : ∃ b, w.heap.size + 1 + 1 = b := ⟨_, rfl⟩
  rw [hb]
  have hz : ((((w.alloc (.cells #[.string ⟨#[]⟩] 9)).alloc (.cells #[.nilIface] 50)).alloc (.cells #[.slice none 0 0, .int .i64 0, .int .i8 0] 68))).heap.size = b + 1 := by simp; omega
  have hzs : (((((w.alloc (.cells #[.string ⟨#[]⟩] 9)).alloc (.cells #[.nilIface] 50)).alloc (.cells #[.slice none 0 0, .int .i64 0, .int .i8 0] 68))).alloc (encCells b (ordOf big) 0)).heap.size = b + 2 := by simp; omega
  have k0 : (((((w.alloc (.cells #[.string ⟨#[]⟩] 9)).alloc (.cells #[.nilIface] 50)).alloc (.cells #[.slice none 0 0, .int .i64 0, .int .i8 0] 68))).alloc (encCells b (ordOf big) 0)).heap[w.heap.size]? = some (.cells #[.string ⟨#[]⟩] 9 (0, 0)) := by
    rw [Below.heap_alloc _ _ _ (by simp; omega), Below.heap_alloc _ _ _ (by simp; omega), Below.heap_alloc _ _ _ (by simp)]
    exact heap_alloc_new _ _
  have k1 : (((((w.alloc (.cells #[.string ⟨#[]⟩] 9)).alloc (.cells #[.nilIface] 50)).alloc (.cells #[.slice none 0 0, .int .i64 0, .int .i8 0] 68))).alloc (encCells b (ordOf big) 0)).heap[w.heap.size + 1]? = some (.cells #[.nilIface] 50 (0, 0)) := by
    rw [Below.heap_alloc _ _ _ (by simp), Below.heap_alloc _ _ _ (by simp)]
    have := heap_alloc_new (w.alloc (.cells #[.string ⟨#[]⟩] 9)) (.cells #[.nilIface] 50)
    simpa using this
  have k2 : (((((w.alloc (.cells #[.string ⟨#[]⟩] 9)).alloc (.cells #[.nilIface] 50)).alloc (.cells #[.slice none 0 0, .int .i64 0, .int .i8 0] 68))).alloc (encCells b (ordOf big) 0)).heap[b]? = some (.cells #[.slice none 0 0, .int .i64 0, .int .i8 0] 68 (0, 0)) := by
    rw [Below.heap_alloc _ _ _ (by rw [hz]; omega)]
    have := heap_alloc_new ((w.alloc (.cells #[.string ⟨#[]⟩] 9)).alloc (.cells #[.nilIface] 50)) (.cells #[.slice none 0 0, .int .i64 0, .int .i8 0] 68)
    have hzz : ((w.alloc (.cells #[.string ⟨#[]⟩] 9)).alloc (.cells #[.nilIface] 50)).heap.size = b := by simp; omega
    rwa [hzz] at this
  have k3 : (((((w.alloc (.cells #[.string ⟨#[]⟩] 9)).alloc (.cells #[.nilIface] 50)).alloc (.cells #[.slice none 0 0, .int .i64 0, .int .i8 0] 68))).alloc (encCells b (ordOf big) 0)).heap[b + 1]? = some (encCells b (ordOf big) 0) := by
    have := heap_alloc_new (((w.alloc (.cells #[.string ⟨#[]⟩] 9)).alloc (.cells #[.nilIface] 50)).alloc (.cells #[.slice none 0 0, .int .i64 0, .int .i8 0] 68)) (encCells b (ordOf big) 0)
    rwa [hz] at this
  have hB1 : Below w.heap.size w (((((w.alloc (.cells #[.string ⟨#[]⟩] 9)).alloc (.cells #[.nilIface] 50)).alloc (.cells #[.slice none 0 0, .int .i64 0, .int .i8 0] 68))).alloc (encCells b (ordOf big) 0)) := below_alloc (below_alloc (below_alloc (below_alloc (Below.refl _ w) _) _) _) _
  obtain ⟨W1, hW1⟩ : ∃ W1, (((((w.alloc (.cells #[.string ⟨#[]⟩] 9)).alloc (.cells #[.nilIface] 50)).alloc (.cells #[.slice none 0 0, .int .i64 0, .int .i8 0] 68))).alloc (encCells b (ordOf big) 0)) = W1 := ⟨_, rfl⟩
  rw [hW1] at k0 k1 k2 k3 hB1 hzs ⊢
  clear hW1 hz
  have HDS := Aside0.mk (doorsIn_arr k l ns HNS.out hn n0 A m hm W1 (Kd.C_below HC.out hB1))
  have K0 := Aside0.mk k0
  have K1 := Aside0.mk k1
  have K2 := Aside0.mk k2
  have K3 := Aside0.mk k3
  have HB1 := Aside0.mk hB1
  clear k0 k1 k2 k3 hB1
  refine (HDS.out).mono ?_
  clear HDS
  rintro r W2 ⟨gv, cv, p, rfl, hgv, hb2, hN⟩
  have K0 := Aside0.mk ((hb2.block w.heap.size (by omega)).trans K0.out)
  have K1 := Aside0.mk ((hb2.block (w.heap.size + 1) (by omega)).trans K1.out)
  have hz2 : W1.heap.size ≤ W2.heap.size := hb2.size
  have HEA := Aside0.mk (encode_nums k.code (k.size : Int) k.head big w.heap.size (b + 1) b p ns.length gv cv (numList k big ns) W2 k.places k.aligned (by omega) (by omega) (by omega) ((hb2.block (b + 1) (by omega)).trans K3.out) 0 ((hb2.block b (by omega)).trans K2.out) (hN big) hgv)
  have HB2 := Aside0.mk (below_step HB1.out hb2)
  clear hb2 hN hgv HB1 K2 K3
  go_wp2_with fail
  refine (HEA.out).mono ?_
  clear HEA
  rintro r W3 ⟨rfl, hI, hb3, hk3⟩
  have HI := Aside0.mk hI
  have HB3 := Aside0.mk (HB2.out.trans hb3)
  have K0 := Aside0.mk (hk3 w.heap.size _ K0.out (by omega) (by omega) (by intro c fz hc; cases hc))
  have K1 := Aside0.mk (hk3 (w.heap.size + 1) _ K1.out (by omega) (by omega) (by intro c fz hc; cases hc))
  clear hI hb3 hk3 HB2
  go_wp2_with fail
  refine (Tryz.Buffer_String w.heap.size b _ W3 HI.out).mono ?_
  rintro r W4 ⟨rfl, k4, hW4⟩
  have K0 : Aside0 (W4.heap[w.heap.size]? = some (.cells #[.string ⟨#[]⟩] 9 (0, 0))) := ⟨by rw [hW4]; exact K0.out⟩
  have K1 : Aside0 (W4.heap[w.heap.size + 1]? = some (.cells #[.nilIface] 50 (0, 0))) := ⟨by rw [hW4]; exact K1.out⟩
  have HB4 : Aside0 (Below w.heap.size w W4) := ⟨hW4 ▸ below_drewN HB3.out k4⟩
  clear hW4 HI HB3
  have s0 : W4.cell? ⟨w.heap.size, 0, none⟩ = some (.string ⟨#[]⟩) := by rw [Lib.cell_of_heap K0.out]; rfl
  have f0 := Lib.frozen_of_heap K0.out 0
  have s1 : W4.cell? ⟨w.heap.size + 1, 0, none⟩ = some .nilIface := by rw [Lib.cell_of_heap K1.out]; rfl
  have f1 := Lib.frozen_of_heap K1.out 0
  obtain ⟨S, hS⟩ : ∃ S : ByteArray, ⟨(arrBytes big (k.size : Int) k.head (numList k big ns)).toArray⟩ = S := ⟨_, rfl⟩
  rw [hS]
  go_wp2_with fail
  have HF := Aside0.mk ((HB4.out.setCell (p := ⟨w.heap.size, 0, none⟩) (Nat.le_refl _) (.string S)).setCell (p := ⟨w.heap.size + 1, 0, none⟩) (show w.heap.size ≤ w.heap.size + 1 by omega) .nilIface)
  have e0 : ((W4.setCell ⟨w.heap.size, 0, none⟩ (.string S)).setCell ⟨w.heap.size + 1, 0, none⟩ .nilIface).cell? ⟨w.heap.size, 0, none⟩ = some (.string S) := by
    rw [World.cell?_setCell_far _ _ _ _ (show w.heap.size + 1 ≠ w.heap.size by omega)]
    exact World.cell?_setCell_same _ _ _ s0
  have e1 : ((W4.setCell ⟨w.heap.size, 0, none⟩ (.string S)).setCell ⟨w.heap.size + 1, 0, none⟩ .nilIface).cell? ⟨w.heap.size + 1, 0, none⟩ = some .nilIface := by
    have hs : (W4.setCell ⟨w.heap.size, 0, none⟩ (.string S)).cell? ⟨w.heap.size + 1, 0, none⟩ = some .nilIface := by
      rw [World.cell?_setCell_far _ _ _ _ (show w.heap.size ≠ w.heap.size + 1 by omega)]
      exact s1
    exact World.cell?_setCell_same _ _ _ hs
  refine leaves_cons (f := 23) (args := #[.pointer (some ⟨w.heap.size, 0, none⟩), .pointer (some ⟨w.heap.size + 1, 0, none⟩)]) (by simp) (by simp [go_sem]) ?_
  refine (de_idle ⟨w.heap.size, 0, none⟩ ⟨w.heap.size + 1, 0, none⟩ _).mono ?_
  rintro r u' w'' ⟨rfl, rfl, rfl⟩
  clear s0 f0 s1 f1 K0 K1 HB4
  generalize ((W4.setCell ⟨w.heap.size, 0, none⟩ (.string S)).setCell ⟨w.heap.size + 1, 0, none⟩ .nilIface) = W5 at *
  simp [Leaves, settle, results, Tryz.results15, go_sem, e0, e1]
  exact ⟨hS.symm, HF.out⟩
end Go.Proofs.YtldjigfnagfalaaGreatDoor.Given
