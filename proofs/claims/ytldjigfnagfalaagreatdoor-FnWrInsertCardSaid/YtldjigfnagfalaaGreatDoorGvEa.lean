/- (*encoder).Encode of one list of numbers. -/
import Derived.Test.YtldjigfnagfalaaGreatDoorGvLe
import Derived.Tactics
import Derived.Tactics2
import Derived.Defers
import Derived.Recover
namespace Go.Proofs.YtldjigfnagfalaaGreatDoor.Given
open Go.RowKit Go.Proofs.YtldjigfnagfalaaGreatDoorW.PrintWords
set_option linter.unusedVariables false
theorem type_list (c : UInt8) : (⟨#[91]⟩ : ByteArray) ++ ⟨#[c]⟩ = ⟨#[91, c]⟩ := rfl
set_option maxHeartbeats 4000000 in
theorem valueOf_list (p : Nat) (c : UInt8) (w : World) (c0 : w.cell? ⟨p, 0, none⟩ = some (.string ⟨#[c]⟩)) : Calls Tryz.prog 37 #[.iface 162 (.pointer (some ⟨p, 0, none⟩))] w fun e w' => e = .returned (.agg #[.iface 162 (.pointer (some ⟨p, 0, none⟩)), .string ⟨#[91, c]⟩]) ∧ Below w.heap.size w w' := by
  have hp := block_lt_of_cell c0
  go_enter Tryz.func37, Tryz.ntmps37
  go_wp2_with fail
  refine (typeOf_list p ⟨#[c]⟩ (show 1 ≤ 64 by decide) _ ((((Below.refl _ _).alloc (Nat.le_refl _) _).cell (p := ⟨p, 0, none⟩) hp).trans c0)).mono ?_
  rw [type_list]
  rintro e w1 ⟨rfl, hb⟩
  obtain ⟨hc, hf⟩ := bcell hb
  go_wp2
  refine bodyPost_ret (v := .agg #[.iface 162 (.pointer (some ⟨p, 0, none⟩)), .string ⟨#[91, c]⟩]) (by simp [results, go_sem, hc]) rfl ⟨rfl, ?_⟩
  exact ((below_new hb).setCell (Nat.le_refl _) _).setCell (Nat.le_refl _) _
theorem en_idle (p : Addr) (w : World) :
    CallsD Tryz.prog 35 #[.pointer (some p)] .returning w fun e u' w' => e = .returned (.tuple #[]) ∧ u' = .returning ∧ w' = w := by
  refine callsD_of_wpS Tryz.func35 rfl fun c₀ cs hu => ?_
  apply wpS_seq
  apply wpS_region
  simp [wpOpsS, go_sem, recoverD, hu, Tryz.ntmps35, Exit.thenS]
  refine wpS_of_wp ?_
  rw [show (#[Value.pointer (some p)] ++ ((Array.replicate 15 undef).setIfInBounds 3 Value.nilIface).setIfInBounds 0 Value.nilIface) = #[.pointer (some p), .nilIface, undef, undef, .nilIface, undef, undef, undef, undef, undef, undef, undef, undef, undef, undef, undef] from rfl]
  go_wp2
  cases c₀
  simp_all [bodyPostS, results, Tryz.results35]
/-- What a list of numbers is, in memory. -/
structure IsNums (w : World) (c : UInt8) (s : Int) (big : Bool) (p n : Nat) (xs : List (Value × List UInt8)) : Prop where
  c0 : w.cell? ⟨p, 0, none⟩ = some (.string ⟨#[c]⟩)
  ex : ∃ ao k g, w.cell? ⟨p, 1, none⟩ = some (.slice ao n k) ∧ (0 < n → ao = some ⟨g, 0, none⟩) ∧ ∀ i x, xs[i]? = some x → w.cell? ⟨g, i, none⟩ = some x.1 ∧ (∃ T v, x.1 = .iface T v) ∧ Encs c x.1 s (ordOf big) x.2 ∧ x.2.length = s.toNat
  len : xs.length = n
  le : n ≤ 1000
theorem IsNums.old {w w' : World} {c : UInt8} {s : Int} {big : Bool} {p n : Nat} {xs : List (Value × List UInt8)} (h : IsNums w c s big p n xs) (hb : ∀ x, x < w.heap.size → w'.heap[x]? = w.heap[x]?) : IsNums w' c s big p n xs := by
  obtain ⟨ao, k, g, h1, h2, h3⟩ := h.ex
  refine ⟨(cell_same (a := ⟨p, 0, none⟩) (hb p (block_lt_of_cell h.c0))).trans h.c0, ⟨ao, k, g, (cell_same (a := ⟨p, 1, none⟩) (hb p (block_lt_of_cell h1))).trans h1, h2, fun i x hx => ?_⟩, h.len, h.le⟩
  obtain ⟨h4, h5⟩ := h3 i x hx
  exact ⟨(cell_same (a := ⟨g, i, none⟩) (hb g (block_lt_of_cell h4))).trans h4, h5⟩
/-- What an array of numbers is written as. -/
def arrBytes (big : Bool) (s h0 : Int) (xs : List (Value × List UInt8)) : List UInt8 := cntBytes big (xs.length * s.toNat) ++ List.replicate (h0 - 4).toNat 0 ++ firstBytes xs xs.length
theorem enc_nums (c : UInt8) (s h0 : Int) (big : Bool) (B e b p n : Nat) (xs : List (Value × List UInt8)) (w : World)
    (hs : (s = 8 ∧ h0 = 8) ∨ ((s = 1 ∨ s = 2 ∨ s = 4) ∧ h0 = 4)) (hal : ∀ w, Calls Tryz.prog 42 #[.string ⟨#[c]⟩] w fun r w' => r = .returned (.int .i64 s) ∧ w = w')
    (hBe : B ≤ e) (hBb : B ≤ b) (hBw : B ≤ w.heap.size)
    (hE : w.heap[e]? = some (encCells b (ordOf big) 0)) (lr : Int) (hbk : w.heap[b]? = some (.cells #[.slice none 0 0, .int .i64 0, .int .i8 lr] 68 (0, 0))) (hN : IsNums w c s big p n xs) :
    Calls Tryz.prog 36 #[.pointer (some ⟨e, 0, none⟩), .agg #[.iface 162 (.pointer (some ⟨p, 0, none⟩)), .string ⟨#[91, c]⟩], .int .i64 0] w fun r w' => r = .returned (.tuple #[]) ∧
      Lib.IsBuffer 68 5 B b (Lib.byteCells (arrBytes big s h0 xs)) w' ∧ Below B w w' ∧ Keeps e b w w' := by
  obtain ⟨ao, k, g, h1, h2, h3⟩ := hN.ex
  refine (enc_list c s h0 big B e b p g n k ao xs w hs hal hBe hBb hBw hE lr hbk h1 hN.len hN.le h2 h3).mono ?_
  rintro r w' ⟨rfl, h4, h5⟩
  refine ⟨rfl, ?_, h5⟩
  unfold arrBytes
  rw [hN.len]
  exact h4
/-- What Encode leaves. -/
def EncPost (B e b : Nat) (bytes : List UInt8) (w w' : World) : Prop := Lib.IsBuffer 68 5 B b (Lib.byteCells bytes) w' ∧ Below B w w' ∧ Keeps e b w w'
set_option maxHeartbeats 16000000 in
set_option maxRecDepth 100000 in
theorem encode_nums (c : UInt8) (s h0 : Int) (big : Bool) (B e b p n gv cv : Nat) (xs : List (Value × List UInt8)) (w : World)
    (hs : (s = 8 ∧ h0 = 8) ∨ ((s = 1 ∨ s = 2 ∨ s = 4) ∧ h0 = 4)) (hal : ∀ w, Calls Tryz.prog 42 #[.string ⟨#[c]⟩] w fun r w' => r = .returned (.int .i64 s) ∧ w = w')
    (hBe : B ≤ e) (hBb : B ≤ b) (hBw : B ≤ w.heap.size)
    (hE : w.heap[e]? = some (encCells b (ordOf big) 0)) (lr : Int) (hbk : w.heap[b]? = some (.cells #[.slice none 0 0, .int .i64 0, .int .i8 lr] 68 (0, 0))) (hN : IsNums w c s big p n xs)
    (hv : w.cell? ⟨gv, 0, none⟩ = some (.iface 162 (.pointer (some ⟨p, 0, none⟩)))) :
    Calls Tryz.prog 26 #[.pointer (some ⟨e, 0, none⟩), .slice (some ⟨gv, 0, none⟩) 1 cv] w fun r w' => r = .returned .nilIface ∧ EncPost B e b (arrBytes big s h0 xs) w w' := by
  have hmf : ∀ (fn : Fn) (first cap : Array Value) (w : World), (Instr.makeFunc fn first cap).run Tryz.prog w = .ok (.func fn first cap) w := fun _ _ _ _ => rfl
  have hle := Lib.lt_of_heap hE
  have hlb := Lib.lt_of_heap hbk
  have hlv : gv < w.heap.size := block_lt_of_cell hv
  have HE := Aside0.mk hE
  have HBK := Aside0.mk hbk
  have HN := Aside0.mk hN
  have HV := Aside0.mk hv
  have HAL := Aside0.mk hal
  have HS := Aside0.mk hs
  clear hE hbk hN hal hs hv
  go_enter_defers Tryz.func26, Tryz.ntmps26
  go_wp2_with fail
  go_loopw [10] (fun i wr => Aside0 (i = .int .i64 0 ∧ w.alloc (.cells #[.nilIface] 50) = wr) ∨ Aside0 (i = .int .i64 1 ∧ EncPost B e b (arrBytes big s h0 xs) w wr ∧ wr.heap[w.heap.size]? = some (.cells #[.nilIface] 50 (0, 0)))) (fun i _ => 1 - (intOf i).toNat)
  case atStart => exact Or.inl ⟨rfl, rfl⟩
  case round =>
    rcases hrel with ⟨rfl, rfl⟩ | ⟨rfl, h1, h2⟩
    · have cv0 : (w.alloc (.cells #[.nilIface] 50)).cell? ⟨gv, 0, none⟩ = some (.iface 162 (.pointer (some ⟨p, 0, none⟩))) := (cell_same (a := ⟨gv, 0, none⟩) (Below.heap_alloc w _ gv hlv)).trans HV.out
      go_wp2_with fail
      have hN1 := HN.out.old (w' := w.alloc (.cells #[.nilIface] 50)) (fun x hx => Below.heap_alloc w _ x hx)
      refine (valueOf_list p c _ hN1.c0).mono ?_
      clear hN1
      rintro r w2 ⟨rfl, hb2⟩
      have HOLD : Aside0 (∀ x, x < w.heap.size → w2.heap[x]? = w.heap[x]?) := ⟨fun x hx => (hb2.block x (by simp; omega)).trans (Below.heap_alloc w _ x hx)⟩
      have HR2 : Aside0 (w2.heap[w.heap.size]? = some (.cells #[.nilIface] 50 (0, 0))) := ⟨(hb2.block w.heap.size (by simp)).trans (heap_alloc_new w _)⟩
      have HB2 : Aside0 (Below w.heap.size w w2) := ⟨((Below.refl _ w).alloc (Nat.le_refl _) _).trans (hb2.mono (by simp))⟩
      have hz2 : w.heap.size < w2.heap.size := Lib.lt_of_heap HR2.out
      clear hb2 cv0
      have HEN := Aside0.mk (enc_nums c s h0 big B e b p n xs w2 HS.out HAL.out hBe hBb (by omega) ((HOLD.out e hle).trans HE.out) lr ((HOLD.out b hlb).trans HBK.out) (HN.out.old HOLD.out))
      go_wp2_with fail
      refine (HEN.out).mono ?_
      rintro r w3 ⟨rfl, hI3, hB3, hK3⟩
      have HP3 : Aside0 (EncPost B e b (arrBytes big s h0 xs) w w3 ∧ w3.heap[w.heap.size]? = some (.cells #[.nilIface] 50 (0, 0))) := ⟨⟨hI3, (HB2.out.mono hBw).trans hB3, fun x ob hx hxe hxb hob => hK3 x ob ((HOLD.out x (Lib.lt_of_heap hx)).trans hx) hxe hxb hob⟩, hK3 w.heap.size _ HR2.out (by omega) (by omega) (by intro c fz hc; cases hc)⟩
      clear hI3 hB3 hK3 HEN HOLD HR2 HB2
      go_wp2_with fail
      go_roundw
      case rel => exact Or.inr ⟨by go_num, HP3.out.1, HP3.out.2⟩
      case measure => simp [intOf]
    · have HH1 := Aside0.mk h1
      have HH2 := Aside0.mk h2
      have c4 : wr.cell? ⟨w.heap.size, 0, none⟩ = some .nilIface := by rw [Lib.cell_of_heap h2]; rfl
      have f4 : wr.frozen? ⟨w.heap.size, 0, none⟩ = false := Lib.frozen_of_heap h2 0
      clear h1 h2
      go_wp2_with fail
      have hP : EncPost B e b (arrBytes big s h0 xs) w (wr.setCell ⟨w.heap.size, 0, none⟩ .nilIface) := by
        obtain ⟨hI, hB, hK⟩ := HH1.out
        refine ⟨?_, hB.setCell (p := ⟨w.heap.size, 0, none⟩) hBw _, fun x ob hx hxe hxb hob => ?_⟩
        · have hbe : b ≠ w.heap.size := by omega
          obtain ⟨hB', v, lr', hbk', hown, hne⟩ := hI
          refine ⟨hB', v, lr', (Below.heap_setCell _ _ _ _ hbe).trans hbk', ⟨hown.1, ?_⟩, hne⟩
          rcases hown.2 with hn | ⟨g, cap, cur, hv, hBg, hg, rest⟩
          · exact .inl hn
          · refine .inr ⟨g, cap, cur, hv, hBg, (Below.heap_setCell _ _ _ _ ?_).trans hg, rest⟩
            rintro rfl
            have := hg.symm.trans HH2.out; simp at this
        · have hxl := Lib.lt_of_heap hx
          rw [Below.heap_setCell _ _ _ _ (by show x ≠ w.heap.size; omega)]
          exact hK x ob hx hxe hxb hob
      have c5 : (wr.setCell ⟨w.heap.size, 0, none⟩ .nilIface).cell? ⟨w.heap.size, 0, none⟩ = some .nilIface := World.cell?_setCell_same wr _ _ c4
      have HPP := Aside0.mk hP
      clear hP HH1 HH2
      refine leaves_cons (f := 35) (args := #[.pointer (some ⟨w.heap.size, 0, none⟩)]) (by simp) (by simp [go_sem]) ?_
      refine (en_idle ⟨w.heap.size, 0, none⟩ _).mono ?_
      rintro r u' w'' ⟨rfl, rfl, rfl⟩
      simp [Leaves, settle, results, Tryz.results26, go_sem, c5]
      exact HPP.out
end Go.Proofs.YtldjigfnagfalaaGreatDoor.Given
