/- Part of the proof of LawFnMsName. -/
import Derived.Test.YtldjigfnagfalaaGreatDoorGvRc
set_option linter.unusedVariables false
set_option linter.unusedSimpArgs false
section
namespace Go.Proofs.YtldjigfnagfalaaGreatDoor.Given
open Go.RowKit Go.Proofs.YtldjigfnagfalaaGreatDoorW.PrintWords
set_option linter.unusedVariables false
set_option maxHeartbeats 4000000 in
theorem elem_l (w : World) : Calls Tryz.prog 57 #[.string ⟨#[91, 40, 121, 118, 41]⟩] w fun e w' => e = .returned (.string ⟨#[40, 121, 118, 41]⟩) ∧ w = w' := by
  have hx : (⟨#[91, 40, 121, 118, 41]⟩ : ByteArray).extract 1 5 = ⟨#[40, 121, 118, 41]⟩ := rfl
  go_enter Tryz.func57, Tryz.ntmps57
  go_wp2_with (go_at_call 81; refine (kindOf_l _).mono ?_; rintro e w1 ⟨rfl, rfl⟩)
  go_ret
  exact ⟨rfl, rfl⟩
set_option maxHeartbeats 4000000 in
theorem index_l (p g l k i : Nat) (T : TypeId) (v : Value) (hi : i < l) (hk : l ≤ 1000) (w : World) (c1 : w.cell? ⟨p, 1, none⟩ = some (.slice (some ⟨g, 0, none⟩) l k)) (cx : w.cell? ⟨g, i, none⟩ = some (.iface T v)) : Calls Tryz.prog 58 #[.agg #[.iface 162 (.pointer (some ⟨p, 0, none⟩)), .string ⟨#[91, 40, 121, 118, 41]⟩], .int .i64 i] w fun e w' => e = .returned (.agg #[.iface T v, .string ⟨#[40, 121, 118, 41]⟩]) ∧ Below w.heap.size w w' := by
  have hp : p < w.heap.size := block_lt_of_cell c1
  have hg : g < w.heap.size := block_lt_of_cell cx
  have hne1 : w.heap.size ≠ g := Nat.ne_of_gt hg
  have hne2 : w.heap.size + 1 ≠ g := by omega
  have hi2 : (i : Int) < (l : Int) := by omega
  have hi3 : 0 ≤ (i : Int) := by omega
  have hadd : (⟨g, 0, none⟩ : Addr).add i = ⟨g, i, none⟩ := by rw [Lib.addr_add, Nat.zero_add]
  go_enter Tryz.func58, Tryz.ntmps58
  go_wp2
  go_region_with (first
    | (go_at_call 87; refine (kids_list p (some ⟨g, 0, none⟩) l k _ (((show Below w.heap.size w _ by repeat (first | exact Below.refl _ _ | apply below_alloc | apply below_drew)).cell (p := ⟨p, 1, none⟩) hp).trans c1)).mono ?_; rintro e w1 ⟨rfl, rfl⟩)
    | (go_at_call 57; refine (elem_l _).mono ?_; rintro e w1 ⟨rfl, rfl⟩))
  all_goals
    go_wp2
    refine bodyPost_ret (v := .agg #[.iface T v, .string ⟨#[40, 121, 118, 41]⟩]) (by simp [results, go_sem]) rfl ⟨rfl, ?_⟩
    repeat (first | exact Below.refl _ _ | apply below_alloc | apply below_drew)
def recsFrom (q : Nat) : List (Nat → List UInt8) → List UInt8
  | [] => []
  | fb :: r => fb q ++ recsFrom (q + (fb q).length) r
theorem recsFrom_append (l : List (Nat → List UInt8)) (fb : Nat → List UInt8) : ∀ q, recsFrom q (l ++ [fb]) = recsFrom q l ++ fb (q + (recsFrom q l).length) := by
  induction l with
  | nil => intro q; simp [recsFrom]
  | cons a l ih => intro q; simp only [List.cons_append, recsFrom, ih, List.append_assoc, List.length_append, Nat.add_assoc]
theorem recsFrom_succ {xs : List (Value × (Nat → List UInt8))} {j : Nat} {x : Value × (Nat → List UInt8)} (h : xs[j]? = some x) (q : Nat) : recsFrom q ((xs.take (j + 1)).map (·.2)) = recsFrom q ((xs.take j).map (·.2)) ++ x.2 (q + (recsFrom q ((xs.take j).map (·.2))).length) := by
  rw [List.take_add_one, h, List.map_append]
  exact recsFrom_append _ _ _
def R2 (W : World) (B b g : Nat) (bs : List UInt8) (w' : World) : Prop := Sm w' B b g bs ∧ Below B W w' ∧ ∀ x, x < W.heap.size → x ≠ b → x ≠ g → w'.heap[x]? = W.heap[x]?
theorem takes_room (B b g : Nat) (bs bytes : List UInt8) (W : World) (h : Sm W B b g bs) (hBw : B ≤ W.heap.size) (h0 : 0 < bytes.length) (hl : bs.length + bytes.length ≤ 64) : Takes W b bytes (R2 W B b g (bs ++ bytes)) := by
  intro W' gs c hb hg hcs
  have hlb : b < W.heap.size := h.buf.lt
  have hlg := h.lt
  refine (write_room B b g bs bytes ⟨gs, 0, none⟩ bytes.length c W' (h.old (hb.block b hlb) (hb.block g hlg)) rfl h0 hl (show gs ≠ b by omega) hcs).mono ?_
  rintro r w' ⟨rfl, hS, hB, hbut⟩
  refine ⟨rfl, hS, (hb.mono hBw).trans hB, fun x hx hxb hxg => (hbut x (Nat.lt_of_lt_of_le hx hb.size) hxb hxg).trans (hb.block x hx)⟩
theorem en_u32f (big : Bool) (e b v : Nat) (hv : v < 4294967296) (f : Value) (q dep : Int) (hd0 : 0 ≤ dep) (hd : dep ≤ 64) (hq0 : 0 ≤ q) (hq1 : q < 4611686018427387904) (hm : q.tmod 4 = 0) (R : World → Prop) (w : World)
    (hE : w.heap[e]? = some (efCells b (ordOf big) f q)) (HW : Takes w b (cntBytes big v) R)
    (hR : ∀ w', R w' → w'.cell? ⟨e, 3, none⟩ = some (.int .i64 q) ∧ w'.frozen? ⟨e, 3, none⟩ = false) :
    Calls Tryz.prog 36 #[.pointer (some ⟨e, 0, none⟩), .agg #[.iface 36 (.int .u32 v), .string ⟨#[117]⟩], .int .i64 dep] w fun r w' => r = .returned (.tuple #[]) ∧ ∃ w1, R w1 ∧ w' = w1.setCell ⟨e, 3, none⟩ (.int .i64 (q + 4)) := by
  obtain ⟨c0, -, c2, c3, -, -⟩ := ef_cells hE
  cases big
  · exact en_117_le e b v hv q dep hd0 hd hq0 hq1 hm R w c0 c2 c3 HW hR
  · exact en_117_be e b v hv q dep hd0 hd hq0 hq1 hm R w c0 c2 c3 HW hR
theorem heap_old {w W : World} {o : Obj} (hb : Below (w.alloc o).heap.size (w.alloc o) W) {x : Nat} {ob : Obj} (h : w.heap[x]? = some ob) : W.heap[x]? = some ob :=
  (hb.block x (by have := Lib.lt_of_heap h; simp; omega)).trans ((Below.heap_alloc w o x (Lib.lt_of_heap h)).trans h)
theorem box2 {w W : World} {x0 x1 : Value} {T : TypeId} (hb : Below (w.alloc (.cells #[x0, x1] T)).heap.size (w.alloc (.cells #[x0, x1] T)) W) : W.heap[w.heap.size]? = some (.cells #[x0, x1] T) := (hb.block w.heap.size (by simp)).trans (heap_alloc_new w _)
set_option maxHeartbeats 16000000 in
set_option maxRecDepth 100000 in
theorem enc_recs (big : Bool) (B e b gg p g n k : Nat) (fo : Option Addr) (fl fc : Nat) (hd : List UInt8) (xs : List (Value × (Nat → List UInt8))) (w : World)
    (hBe : B ≤ e) (hBw : B ≤ w.heap.size) (hE : w.heap[e]? = some (efCells b (ordOf big) (.slice fo fl fc) 12)) (hS : Sm w B b gg hd) (hhd : hd.length = 12)
    (hP : w.cell? ⟨p, 1, none⟩ = some (.slice (some ⟨g, 0, none⟩) n k)) (hn : xs.length = n) (hn2 : n ≤ 10)
    (hxs : ∀ i x, xs[i]? = some x → w.cell? ⟨g, i, none⟩ = some x.1 ∧ (∃ T v, x.1 = .iface T v) ∧ EncV 300000 40 w big x.1 ⟨#[40, 121, 118, 41]⟩ x.2) (hlen : ∀ j, (recsFrom 16 ((xs.take j).map (·.2))).length ≤ 20000) :
    Calls Tryz.prog 36 #[.pointer (some ⟨e, 0, none⟩), .agg #[.iface 162 (.pointer (some ⟨p, 0, none⟩)), .string ⟨#[91, 40, 121, 118, 41]⟩], .int .i64 0] w fun r w' => r = .returned (.tuple #[]) ∧
      Eg w w' B e b (ordOf big) (.slice fo fl fc) (16 + (recsFrom 16 (xs.map (·.2))).length) (hd ++ cntBytes big (recsFrom 16 (xs.map (·.2))).length ++ recsFrom 16 (xs.map (·.2))) := by
  obtain ⟨o, ho⟩ : ∃ o, ordOf big = o := ⟨_, rfl⟩
  have HX := Aside0.mk hxs
  have HLEN := Aside0.mk hlen
  have HN := Aside0.mk hn
  have HE := Aside0.mk hE
  have HSM := Aside0.mk hS
  have HHD := Aside0.mk hhd
  have HP := Aside0.mk hP
  have HO := Aside0.mk ho
  have hle : e < w.heap.size := Lib.lt_of_heap hE
  have hlb : b < w.heap.size := hS.buf.lt
  have hlg : gg < w.heap.size := hS.lt
  have hlp : p < w.heap.size := block_lt_of_cell hP
  have heb : e ≠ b := by
    rintro rfl
    obtain ⟨lr, cur, h1, -⟩ := hS.ex
    have := hE.symm.trans h1; simp at this
  have heg : e ≠ gg := by
    rintro rfl
    obtain ⟨lr, cur, -, h1, -⟩ := hS.ex
    have := hE.symm.trans h1; simp at this
  have hgb : gg ≠ b := hS.ne
  clear hxs hlen hn hE hS hhd hP ho
  go_enter Tryz.func36, Tryz.ntmps36
  go_wp2_with fail
  refine (zType _ _ _).mono ?_
  rintro r w1 ⟨rfl, hb⟩
  have HB1 := Aside0.mk hb; clear hb
  obtain ⟨x0, x1⟩ := boxed_cells (box2 HB1.out)
  obtain ⟨e0, e1, e2, e3, -, -⟩ := ef_cells (heap_old HB1.out HE.out)
  go_wp2_with fail
  refine (align_l _).mono ?_
  rintro r w2 ⟨rfl, rfl⟩
  go_wp2_with fail
  refine (align0 e 12 4 (by decide) (by decide) (by decide) rfl _ e3).mono ?_
  rintro r w2 ⟨rfl, rfl⟩
  go_wp2_with fail
  refine (zKind_l _ _).mono ?_
  rintro r w2 ⟨rfl, hb⟩
  have HB2 := Aside0.mk (HB1.out.trans (hb.mono HB1.out.size)); clear hb x0 x1 e0 e1 e2 e3
  obtain ⟨x0, x1⟩ := boxed_cells (box2 HB2.out)
  obtain ⟨e0, e1, e2, e3, -, -⟩ := ef_cells (heap_old HB2.out HE.out)
  go_wp2_with fail
  refine (padding0 e 12 4 (by decide) (by decide) (by decide) rfl _ e3).mono ?_
  rintro r w3 ⟨rfl, rfl⟩
  go_wp2_with fail
  go_region_held3 (fun w' => w'.cell? ⟨w.heap.size, 0, none⟩ = some (.iface 162 (.pointer (some ⟨p, 0, none⟩))) ∧ w'.cell? ⟨w.heap.size, 1, none⟩ = some (.string ⟨#[91, 40, 121, 118, 41]⟩) ∧ w'.cell? ⟨e, 3, none⟩ = some (.int .i64 12))
    (first | exact ⟨y0, y1, y3⟩ | exact ⟨x0, x1, e3⟩)
    (first
      | (go_at_call 43; refine (zType _ _ _).mono ?_; rintro r w3 ⟨rfl, hb⟩; have HB3 := Aside0.mk (HB2.out.drew.trans (hb.mono HB2.out.size)); clear hb; obtain ⟨y0, y1⟩ := boxed_cells (box2 HB3.out); obtain ⟨-, -, -, y3, -, -⟩ := ef_cells (heap_old HB3.out HE.out))
      | (go_at_call 57; refine (elem_l _).mono ?_; rintro r w4 ⟨rfl, rfl⟩)
      | (go_at_call 42; refine (align_r _).mono ?_; rintro r w4 ⟨rfl, rfl⟩)
      | (go_at_call 56; refine (padding_n e 12 4 8 4 8 rfl rfl (by decide) (by decide) _ y3).mono ?_; rintro r w4 ⟨rfl, rfl⟩))
  rw [show IntKind.i64.wrap (IntKind.i64.wrap 16 + ((pd 8 16 : Nat) : Int)) = 16 from by decide]
  clear x0 x1 e0 e1 e2 e3 y0 y1 y3
  go_wp2_with fail
  have HB4 := Aside0.mk (HB3.out.alloc HB3.out.size (.cells #[.slice none 0 0, .int .i64 0, .int .i8 0] 68))
  have HI4 := Aside0.mk (Lib.fresh_isBuffer 68 5 w3)
  have hz4 : (w3.alloc (.cells #[.slice none 0 0, .int .i64 0, .int .i8 0] 68)).heap.size = w3.heap.size + 1 := by simp
  have hz3 : w.heap.size < w3.heap.size := by have := HB3.out.size; simp at this; omega
  obtain ⟨b1, hb1⟩ : ∃ b1, w3.heap.size = b1 := ⟨_, rfl⟩
  rw [hb1] at hz4 hz3 HI4 ⊢
  obtain ⟨W4, hW4⟩ : ∃ W4, w3.alloc (.cells #[.slice none 0 0, .int .i64 0, .int .i8 0] 68) = W4 := ⟨_, rfl⟩
  rw [hW4] at hz4 HI4 HB4 ⊢
  clear hW4 hb1 HB3
  obtain ⟨-, e1, e2, -, -, -⟩ := ef_cells (heap_old HB4.out HE.out)
  go_region_held3 (fun w' => w'.cell? ⟨e, 1, none⟩ = some (.slice fo fl fc) ∧ w'.cell? ⟨e, 2, none⟩ = some (.iface (ordOf big) (.agg #[])))
    (first | exact ⟨y1, y2⟩ | exact ⟨e1, e2⟩)
    (first
      | (go_at_call 24; refine (newEnc _ _ _ _ _ _ _).mono ?_; rintro r w5 ⟨rfl, rfl⟩; obtain ⟨-, y1, y2, -, -, -⟩ := ef_cells ((Below.heap_alloc W4.drew (efCells b1 (ordOf big) (.slice fo fl fc) 16) e (Lib.lt_of_heap (heap_old HB4.out HE.out))).trans (heap_old HB4.out HE.out))))
  have hEn : Ef (W4.alloc (efCells b1 (ordOf big) (.slice fo fl fc) 16)).drew b1 (b1 + 1) b1 (ordOf big) (.slice fo fl fc) 16 [] := by
    refine ⟨?_, (HI4.out.alloc _).drew, by omega, by simp; omega⟩
    have := heap_alloc_new W4 (efCells b1 (ordOf big) (.slice fo fl fc) 16)
    rw [hz4] at this
    exact this
  have hB5 : Below b1 W4 (W4.alloc (efCells b1 (ordOf big) (.slice fo fl fc) 16)).drew := ((Below.refl b1 W4).alloc (by omega) _).drew
  have hold4 : ∀ x, x < w.heap.size → W4.heap[x]? = w.heap[x]? := fun x hx => (HB4.out.block x (by simp; omega)).trans (Below.heap_alloc w _ x hx)
  have HBX := Aside0.mk (box2 HB4.out)
  have HOLD := Aside0.mk hold4
  clear hold4
  have HEN := Aside0.mk hEn
  have HB5 := Aside0.mk hB5
  clear hEn hB5 e1 e2 y1 y2
  go_wp2_with fail
  go_loopw [19] (fun i wr => ∃ j : Nat, j ≤ n ∧ i = .int .i64 j ∧ Aside0 (Ef wr b1 (b1 + 1) b1 (ordOf big) (.slice fo fl fc) (16 + (recsFrom 16 ((xs.take j).map (·.2))).length) (recsFrom 16 ((xs.take j).map (·.2)))) ∧ Aside0 (Below b1 W4 wr)) (fun i _ => n - (intOf i).toNat)
  case atStart => exact ⟨0, Nat.zero_le _, rfl, ⟨by simpa [recsFrom] using HEN.out⟩, HB5⟩
  case round =>
    clear HEN HB5
    obtain ⟨j, hj, rfl, HEn, HBr⟩ := hrel
    have hbx := (HBr.out.block _ hz3).trans HBX.out
    obtain ⟨x0, x1⟩ := boxed_cells hbx
    have holdr : ∀ x, x < w.heap.size → wr.heap[x]? = w.heap[x]? := fun x hx => (HBr.out.block x (by omega)).trans (HOLD.out x hx)
    have pc := (cell_same (w' := wr) (a := ⟨p, 1, none⟩) (holdr p hlp)).trans HP.out
    have HOR := Aside0.mk holdr
    clear hbx holdr
    by_cases hlt : j < n
    · go_wp2_with fail
      refine (len_list p _ _ n k _ pc).mono ?_
      rintro r w6 ⟨rfl, hb6⟩
      have HEn6 := Aside0.mk (HEn.out.old hb6)
      have y0 := (cell_same (a := ⟨w.heap.size, 0, none⟩) (hb6.block w.heap.size (block_lt_of_cell x0))).trans x0
      have y1 := (cell_same (a := ⟨w.heap.size, 1, none⟩) (hb6.block w.heap.size (block_lt_of_cell x0))).trans x1
      obtain ⟨X, hX⟩ : ∃ X, xs[j]? = some X := ⟨_, List.getElem?_eq_getElem (by rw [HN.out]; exact hlt)⟩
      have HXj := Aside0.mk hX
      clear hX
      obtain ⟨hcx, ⟨T, v, hTv⟩, hEnc⟩ := HX.out j X HXj.out
      have hz6 : wr.heap.size ≤ w6.heap.size := hb6.size
      have hb1r : b1 < wr.heap.size := HEn.out.buf.lt
      have hold6 : Old w w6 := ⟨by omega, fun x hx => (hb6.block x (by omega)).trans (HOR.out x hx)⟩
      have cx : w6.cell? ⟨g, j, none⟩ = some (.iface T v) := by rw [← hTv]; exact hold6.cell hcx
      have pc6 := hold6.cell HP.out
      have HB6 := Aside0.mk (HBr.out.trans (hb6.mono (by omega)))
      have HENC := Aside0.mk hEnc
      have HTV := Aside0.mk hTv
      have HCX := Aside0.mk cx
      have HPC := Aside0.mk pc6
      have HO6 := Aside0.mk hold6
      clear hb6 x0 x1 hEnc hcx hTv cx pc6 pc hold6
      go_wp2_with fail
      refine (index_l p g n k j T v hlt (by omega) _ HPC.out HCX.out).mono ?_
      rintro r w7 ⟨rfl, hb7⟩
      have HEn7 := Aside0.mk (HEn6.out.old hb7)
      have HB7 := Aside0.mk (HB6.out.trans (hb7.mono (by omega)))
      have HO7 := Aside0.mk (HO6.out.grown hb7)
      clear hb7 y0 y1
      have hE2 : EncV 300000 40 w big (.iface T v) ⟨#[40, 121, 118, 41]⟩ X.2 := by rw [← HTV.out]; exact HENC.out
      have hll := HLEN.out j
      have HCALL := Aside0.mk (hE2 (b1 + 1) b1 w7 b1 _ _ 1 _ HEn7.out HO7.out (by omega) (by decide) (by decide) (by omega) (by omega))
      clear hE2 hll
      go_wp2_with fail
      refine (HCALL.out).mono ?_
      rintro r w8 ⟨rfl, hE8⟩
      have HEn8 := Aside0.mk hE8.ef
      have HB8 := Aside0.mk (HB7.out.trans hE8.below)
      clear hE8 HCALL
      go_wp2_with fail
      go_roundw
      case rel => exact ⟨j + 1, by omega, by go_num, ⟨by
        rw [recsFrom_succ HXj.out, List.length_append, ← Nat.add_assoc]
        exact HEn8.out⟩, HB8⟩
      case measure => simp [intOf]; omega
    · obtain rfl : j = n := by omega
      go_wp2_with fail
      refine (len_list p _ _ j k _ pc).mono ?_
      rintro r w6 ⟨rfl, hb6⟩
      have hb1r : b1 < wr.heap.size := HEn.out.buf.lt
      have HEn6 := Aside0.mk (HEn.out.old hb6)
      have HB6 := Aside0.mk (HBr.out.trans (hb6.mono (by omega)))
      have hall : recsFrom 16 ((xs.take j).map (·.2)) = recsFrom 16 (xs.map (·.2)) := by rw [List.take_of_length_le (by rw [HN.out]; exact Nat.le_refl _)]
      have hls := HLEN.out j
      rw [hall] at hls HEn6
      obtain ⟨RS, hRS⟩ : ∃ RS, recsFrom 16 (xs.map (·.2)) = RS := ⟨_, rfl⟩
      have HRS := Aside0.mk hRS
      rw [hRS] at hls HEn6
      obtain ⟨L, hL⟩ : ∃ L, RS.length = L := ⟨_, rfl⟩
      have HL := Aside0.mk hL
      rw [hL] at hls HEn6
      clear hall hRS hL hb6 x0 x1 pc HEn HBr HX HLEN HOR
      go_wp2_with fail
      refine (Tryz.Buffer_Len b1 b1 _ _ HEn6.out.buf).mono ?_
      rintro r W7 ⟨rfl, k7, hW7⟩
      rw [Lib.byteCells_length, HL.out]
      have HI7 : Aside0 (Lib.IsBuffer 68 5 b1 b1 (Lib.byteCells RS) W7) := ⟨hW7 ▸ HEn6.out.buf.drewN k7⟩
      have he17 : W7.heap[b1 + 1]? = some (efCells b1 (ordOf big) (.slice fo fl fc) ((16 + L : Nat) : Int)) := by rw [hW7]; exact HEn6.out.enc
      have HB7 : Aside0 (Below b1 W4 W7) := ⟨hW7 ▸ below_drewN HB6.out k7⟩
      clear hW7 HB6 HEn6
      have HE7 : Aside0 (W7.heap[e]? = some (efCells b (ordOf big) (.slice fo fl fc) 12)) := ⟨(HB7.out.block e (by omega)).trans ((HOLD.out e hle).trans HE.out)⟩
      have i1 : W7.cell? ⟨b1 + 1, 1, none⟩ = some (.slice fo fl fc) := (ef_cells he17).2.1
      obtain ⟨-, c1, -, -, f1, -⟩ := ef_cells HE7.out
      clear he17
      go_wp2_with fail
      have HE8 : Aside0 ((W7.setCell ⟨e, 1, none⟩ (.slice fo fl fc)).heap[e]? = some (efCells b (ordOf big) (.slice fo fl fc) 12)) := ⟨Lib.heap_setCell_same (i := 1) HE7.out (.slice fo fl fc)⟩
      have HI8 : Aside0 (Lib.IsBuffer 68 5 b1 b1 (Lib.byteCells RS) (W7.setCell ⟨e, 1, none⟩ (.slice fo fl fc))) := ⟨buf_set HI7.out HE7.out _⟩
      have HK8 : Aside0 (∀ x, x < b1 → x ≠ e → (W7.setCell ⟨e, 1, none⟩ (.slice fo fl fc)).heap[x]? = W4.heap[x]?) := ⟨fun x hx hxe => (Below.heap_setCell _ _ _ _ hxe).trans (HB7.out.block x hx)⟩
      have HBB4 : Below B w W4 := ((Below.refl B w).alloc hBw _).trans (HB4.out.mono (by simp; omega))
      have HBB8 : Aside0 (Below B w (W7.setCell ⟨e, 1, none⟩ (.slice fo fl fc))) := ⟨(HBB4.trans (HB7.out.mono (by omega))).setCell (p := ⟨e, 1, none⟩) hBe _⟩
      obtain ⟨W8, hW8⟩ : ∃ W8, W7.setCell ⟨e, 1, none⟩ (.slice fo fl fc) = W8 := ⟨_, rfl⟩
      rw [hW8] at HE8 HI8 HK8 HBB8 ⊢
      clear hW8 HBB4 c1 f1 i1 HI7 HB7 HE7
      refine (Tryz.Buffer_Len b1 b1 _ _ HI8.out).mono ?_
      rintro r W9 ⟨rfl, k9, hW9⟩
      rw [Lib.byteCells_length, HL.out]
      have HE9 : Aside0 (W9.heap[e]? = some (efCells b (ordOf big) (.slice fo fl fc) 12)) := ⟨by rw [hW9]; exact HE8.out⟩
      have HI9 : Aside0 (Lib.IsBuffer 68 5 b1 b1 (Lib.byteCells RS) W9) := ⟨hW9 ▸ HI8.out.drewN k9⟩
      have HK9 : Aside0 (∀ x, x < b1 → x ≠ e → W9.heap[x]? = W4.heap[x]?) := ⟨by rw [hW9]; exact HK8.out⟩
      have HBB9 : Aside0 (Below B w W9) := ⟨hW9 ▸ below_drewN HBB8.out k9⟩
      clear hW9 HE8 HI8 HK8 HBB8
      have hwL : IntKind.u32.wrap (L : Int) = L := by unfold IntKind.wrap; simp [IntKind.signed, IntKind.bits]; omega
      go_wp2_with fail
      refine (valueOf_117 (.int .u32 L) _).mono ?_
      rintro r W10 ⟨rfl, hb10⟩
      have hlt9 := HI9.out.lt
      have HE10 : Aside0 (W10.heap[e]? = some (efCells b (ordOf big) (.slice fo fl fc) 12)) := ⟨(hb10.block e (by omega)).trans HE9.out⟩
      have HI10 : Aside0 (Lib.IsBuffer 68 5 b1 b1 (Lib.byteCells RS) W10) := ⟨HI9.out.old hb10⟩
      have HK10 : Aside0 (∀ x, x < b1 → x ≠ e → W10.heap[x]? = W4.heap[x]?) := ⟨fun x hx hxe => (hb10.block x (by omega)).trans (HK9.out x hx hxe)⟩
      have HBB10 : Aside0 (Below B w W10) := ⟨HBB9.out.trans (hb10.mono (by omega))⟩
      have hlt10 := HI10.out.lt
      clear hb10 HE9 HI9 HK9 HBB9 hlt9 hwL
      have HS10 : Aside0 (Sm W10 B b gg hd) := ⟨HSM.out.old ((HK10.out b (by omega) (Ne.symm heb)).trans (HOLD.out b hlb)) ((HK10.out gg (by omega) (Ne.symm heg)).trans (HOLD.out gg hlg))⟩
      have HEN10 := Aside0.mk (en_u32f big e b L (by omega) (.slice fo fl fc) 12 0 (by decide) (by decide) (by decide) (by decide) rfl _ W10 HE10.out (takes_room B b gg hd (cntBytes big L) W10 HS10.out (by omega) (by rw [cntBytes_length]; decide) (by rw [cntBytes_length, HHD.out]; decide)) (by
        rintro w' ⟨hS, hb, hk⟩
        have h := (hk e (by omega) heb heg).trans HE10.out
        obtain ⟨-, -, -, d3, -, g3⟩ := ef_cells h
        exact ⟨d3, g3⟩))
      go_wp2_with fail
      refine (HEN10.out).mono ?_
      rintro r W12 ⟨rfl, W11, ⟨hS, hb, hk⟩, hW12⟩
      have he11 : W11.heap[e]? = some (efCells b (ordOf big) (.slice fo fl fc) 12) := (hk e (by omega) heb heg).trans HE10.out
      have HE12 : Aside0 (W12.heap[e]? = some (efCells b (ordOf big) (.slice fo fl fc) 16)) := ⟨by rw [hW12]; exact Lib.heap_setCell_same (i := 3) he11 (.int .i64 (12 + 4))⟩
      have HK12 : Aside0 (∀ x, x < W10.heap.size → x ≠ b → x ≠ gg → x ≠ e → W12.heap[x]? = W10.heap[x]?) := ⟨fun x hx hxb hxg hxe => by rw [hW12, Below.heap_setCell _ _ _ _ hxe]; exact hk x hx hxb hxg⟩
      have HS12 : Aside0 (Sm W12 B b gg (hd ++ cntBytes big L)) := ⟨by rw [hW12]; exact hS.old (Below.heap_setCell _ _ _ _ (Ne.symm heb)) (Below.heap_setCell _ _ _ _ (Ne.symm heg))⟩
      have HI12 : Aside0 (Lib.IsBuffer 68 5 b1 b1 (Lib.byteCells RS) W12) := ⟨buf_above HI10.out (fun x h1 h2 => HK12.out x h2 (by omega) (by omega) (by omega))⟩
      have HBB12 : Aside0 (Below B w W12) := ⟨by rw [hW12]; exact (HBB10.out.trans hb).setCell (p := ⟨e, 3, none⟩) hBe _⟩
      have hz12 : W10.heap.size ≤ W12.heap.size := by rw [hW12, size_setCell]; exact hb.size
      have HST12 : Aside0 (Stays e b w W12) := ⟨fun x ob hx hxe hxb hob => by
        have hxl := Lib.lt_of_heap hx
        have hxg : x ≠ gg := by
          rintro rfl
          obtain ⟨lr, cur, -, h1, -⟩ := HSM.out.ex
          exact hob _ _ (Option.some.inj (hx.symm.trans h1))
        exact (HK12.out x (by omega) hxb hxg hxe).trans ((HK10.out x (by omega) hxe).trans ((HOLD.out x hxl).trans hx))⟩
      have HBX12 : Aside0 (W12.heap[w.heap.size]? = some (.cells #[.iface 162 (.pointer (some ⟨p, 0, none⟩)), .string ⟨#[91, 40, 121, 118, 41]⟩] 102)) := ⟨(HK12.out w.heap.size (by omega) (by omega) (by omega) (by omega)).trans ((HK10.out w.heap.size hz3 (by omega)).trans HBX.out)⟩
      clear hW12 he11 hS hk hb HEN10 HE10 HBB10 HS10 HI10 HK10
      go_wp2_with fail
      refine (Tryz.Buffer_Len b1 b1 _ _ HI12.out).mono ?_
      rintro r W13 ⟨rfl, k13, hW13⟩
      rw [Lib.byteCells_length, HL.out]
      have hb13 : Below W12.heap.size W12 W13 := hW13 ▸ below_drewN (Below.refl _ _) k13
      have hlt12 := HI12.out.lt
      have HE13 : Aside0 (W13.heap[e]? = some (efCells b (ordOf big) (.slice fo fl fc) 16)) := ⟨(hb13.block e (by omega)).trans HE12.out⟩
      have HI13 : Aside0 (Lib.IsBuffer 68 5 b1 b1 (Lib.byteCells RS) W13) := ⟨HI12.out.old hb13⟩
      have HS13 : Aside0 (Sm W13 B b gg (hd ++ cntBytes big L)) := ⟨HS12.out.old (hb13.block b (by omega)) (hb13.block gg (by omega))⟩
      have HBB13 : Aside0 (Below B w W13) := ⟨HBB12.out.trans (hb13.mono (by omega))⟩
      have HST13 : Aside0 (Stays e b w W13) := ⟨HST12.out.old hb13⟩
      have HBX13 := Aside0.mk (boxed_block HBX12.out hb13)
      have hz13 : W12.heap.size ≤ W13.heap.size := hb13.size
      clear hW13 hb13 HE12 HI12 HS12 HBB12 HBX12 HK12 HST12
      obtain ⟨x0, x1⟩ := boxed_cells HBX13.out
      go_wp2_with fail
      refine (zType _ _ _).mono ?_
      rintro r W14 ⟨rfl, hb14⟩
      have hlt13 := HI13.out.lt
      have HE14 : Aside0 (W14.heap[e]? = some (efCells b (ordOf big) (.slice fo fl fc) 16)) := ⟨(hb14.block e (by omega)).trans HE13.out⟩
      have HI14 : Aside0 (Lib.IsBuffer 68 5 b1 b1 (Lib.byteCells RS) W14) := ⟨HI13.out.old hb14⟩
      have HS14 : Aside0 (Sm W14 B b gg (hd ++ cntBytes big L)) := ⟨HS13.out.old (hb14.block b (by omega)) (hb14.block gg (by omega))⟩
      have HBB14 : Aside0 (Below B w W14) := ⟨HBB13.out.trans (hb14.mono (by omega))⟩
      have HST14 : Aside0 (Stays e b w W14) := ⟨HST13.out.old hb14⟩
      have hz14 : W13.heap.size ≤ W14.heap.size := hb14.size
      clear hb14 HE13 HI13 HS13 HBB13 HBX13 x0 x1 HST13
      go_wp2_with fail
      refine (elem_l _).mono ?_
      rintro r W15 ⟨rfl, rfl⟩
      go_wp2_with fail
      refine (align_r _).mono ?_
      rintro r W15 ⟨rfl, rfl⟩
      obtain ⟨e0, -, -, e3, -, -⟩ := ef_cells HE14.out
      go_wp2_with fail
      refine (align0 e 16 8 (by decide) (by decide) (by decide) rfl _ e3).mono ?_
      rintro r W15 ⟨rfl, rfl⟩
      clear e3
      have HWT := Aside0.mk (writeTo B b1 b b1 (hd ++ cntBytes big L) RS W14 HS14.out.buf HI14.out (by omega) (by omega) (by omega) (by rw [List.length_append, cntBytes_length, HHD.out, HL.out]; omega) (by rw [HL.out]; omega))
      go_wp2_with fail
      refine (HWT.out).mono ?_
      rintro r W16 ⟨rfl, hI16, hb16, hk16⟩
      have HE16 := Aside0.mk (hk16 e _ HE14.out heb (by omega) (by intro c fz hc; cases hc))
      have HST16 : Aside0 (Stays e b w W16) := ⟨fun x ob hx hxe hxb hob => hk16 x ob (HST14.out x ob hx hxe hxb hob) hxb (by have := Lib.lt_of_heap hx; omega) hob⟩
      have HI16 := Aside0.mk hI16
      have HBB16 := Aside0.mk (HBB14.out.trans hb16)
      clear hI16 hb16 hk16 HWT HI14 HE14 HS14 HBB14 e0 HST14
      rw [HL.out]
      obtain ⟨-, -, -, d3, -, f3⟩ := ef_cells HE16.out
      go_wp2_with fail
      refine bodyPost_end (results_none (by rfl) _ _ _) rfl ⟨rfl, ?_⟩
      rw [HRS.out, HL.out]
      refine ⟨⟨?_, ?_, hBe, ?_⟩, HBB16.out.setCell (p := ⟨e, 3, none⟩) hBe _, fun x ob hx hxe hxb hob => by rw [Below.heap_setCell _ _ _ _ hxe]; exact HST16.out x ob hx hxe hxb hob⟩
      · exact Lib.heap_setCell_same (i := 3) HE16.out _
      · exact buf_set HI16.out HE16.out _
      · rw [size_setCell]; have := HBB16.out.size; omega
end Go.Proofs.YtldjigfnagfalaaGreatDoor.Given
end
section
namespace Go.Proofs.YtldjigfnagfalaaGreatDoor.Given
open Go.RowKit Go.Proofs.YtldjigfnagfalaaGreatDoorW.PrintWords
set_option linter.unusedVariables false
theorem mk1_64 (W : World) : (Instr.makeSlice 24 (.int .i64 1) (.int .i64 64)).run Tryz.prog W = .ok (.slice (some ⟨W.heap.size, 0, none⟩) 1 64) (W.alloc (.cells (Array.replicate 64 (.int .u8 0)) 5)) := by kernel_rfl
attribute [local go_sem] mk1_64 eq_nil24
set_option maxHeartbeats 4000000 in
theorem tryGrow_none1 (b : Nat) (w : World) (c0 : w.cell? ⟨b, 0, none⟩ = some (.slice none 0 0)) : Calls Tryz.prog 125 #[.pointer (some ⟨b, 0, none⟩), .int .i64 1] w fun e w' => e = .returned (.tuple #[.int .i64 0, .bool false]) ∧ w = w' := by
  go_enter Tryz.func125, Tryz.ntmps125
  go_wp2
  go_ret2
  exact ⟨rfl, rfl⟩
set_option maxHeartbeats 4000000 in
set_option maxRecDepth 100000 in
theorem grow1 (B b : Nat) (lr : Int) (w : World) (hI : Lib.IsBuffer 68 5 B b [] w) (hbk : w.heap[b]? = some (.cells #[.slice none 0 0, .int .i64 0, .int .i8 lr] 68 (0, 0))) : Calls Tryz.prog 126 #[.pointer (some ⟨b, 0, none⟩), .int .i64 1] w fun e w' => e = .returned (.int .i64 0) ∧ ∃ k, w' = ((w.drewN k).alloc (.cells (Array.replicate 64 (.int .u8 0)) 5)).setCell ⟨b, 0, none⟩ (.slice (some ⟨w.heap.size, 0, none⟩) 1 64) := by
  have c0 : w.cell? ⟨b, 0, none⟩ = some (.slice none 0 0) := by rw [Lib.cell_of_heap hbk]; rfl
  have c1 : w.cell? ⟨b, 1, none⟩ = some (.int .i64 0) := by rw [Lib.cell_of_heap hbk]; rfl
  have f0 : w.frozen? ⟨b, 0, none⟩ = false := Lib.frozen_of_heap hbk 0
  have hlt : b < w.heap.size := block_lt_of_cell c0
  have hne : w.heap.size ≠ b := Nat.ne_of_gt hlt
  have hsz : ∀ k, (w.drewN k).heap.size = w.heap.size := fun k => by simp
  have hB : ∀ k x, Below w.heap.size w ((w.drewN k).alloc x) := fun k x => below_alloc ((Drawn0.refl w).step k).below x
  have d0 : ∀ k x, ((w.drewN k).alloc x).cell? ⟨b, 0, none⟩ = some (.slice none 0 0) := fun k x => ((hB k x).cell (p := ⟨b, 0, none⟩) hlt).trans c0
  have e0 : ∀ k x, ((w.drewN k).alloc x).frozen? ⟨b, 0, none⟩ = false := fun k x => ((hB k x).frozen (p := ⟨b, 0, none⟩) hlt).trans f0
  clear hB
  have HI := Aside0.mk hI
  clear hI hbk
  go_enter Tryz.func126, Tryz.ntmps126
  go_wp2_with (first
    | (go_at_call 59; refine (Tryz.Buffer_Len B b [] _ HI.out).mono ?_; rintro e w1 ⟨rfl, k, rfl⟩)
    | (go_at_call 125; refine (tryGrow_none1 b _ (by first | exact c0 | (rw [World.cell?_drewN]; exact c0))).mono ?_; rintro e w2 ⟨rfl, rfl⟩))
  go_ret
  exact ⟨rfl, k, rfl⟩
set_option maxHeartbeats 6400000 in
set_option maxRecDepth 100000 in
theorem write_first1 (B b : Nat) (lr : Int) (l : List UInt8) (a : Addr) (c : Nat) (w : World) (hB : B ≤ b) (hBw : B ≤ w.heap.size) (hbk : w.heap[b]? = some (.cells #[.slice none 0 0, .int .i64 0, .int .i8 lr] 68 (0, 0))) (hn : l.length = 1) (hab : a.block ≠ b)
    (hsrc : ∀ j v, (Lib.byteCells l)[j]? = some v → w.cell? (a.add j) = some v) :
    Calls Tryz.prog 124 #[.pointer (some ⟨b, 0, none⟩), .slice (some a) 1 c] w fun e w' => e = .returned (.tuple #[.int .i64 1, .nilIface]) ∧ Sm w' B b w.heap.size l ∧ Below B w w' ∧ But b w.heap.size w w' := by
  have c2 : w.cell? ⟨b, 2, none⟩ = some (.int .i8 lr) := by rw [Lib.cell_of_heap hbk]; rfl
  have f2 : w.frozen? ⟨b, 2, none⟩ = false := Lib.frozen_of_heap hbk 2
  have hlt : b < w.heap.size := block_lt_of_cell c2
  have hbk1 : (w.setCell ⟨b, 2, none⟩ (.int .i8 0)).heap[b]? = some (.cells #[.slice none 0 0, .int .i64 0, .int .i8 0] 68 (0, 0)) := Lib.heap_setCell_same (i := 2) hbk (.int .i8 0)
  have hI : Lib.IsBuffer 68 5 B b [] (w.setCell ⟨b, 2, none⟩ (.int .i8 0)) := ⟨hB, .slice none 0 0, 0, hbk1, World.ownsRow_nil _ _ _ _, by simp [Value.ownBlock]⟩
  have e0 : (w.setCell ⟨b, 2, none⟩ (.int .i8 0)).cell? ⟨b, 0, none⟩ = some (.slice none 0 0) := by rw [Lib.cell_of_heap hbk1]; rfl
  have HB := Aside0.mk hbk1
  have HI := Aside0.mk hI
  have HE := Aside0.mk e0
  have HS := Aside0.mk hsrc
  have HN := Aside0.mk hn
  clear hbk1 hI e0 hsrc hn hbk
  go_enter Tryz.func124, Tryz.ntmps124
  go_wp2_with (go_at_call 125; refine (tryGrow_none1 b _ HE.out).mono ?_)
  rintro e w1 ⟨rfl, rfl⟩
  go_wp2_with (go_at_call 126; refine (grow1 B b 0 _ HI.out HB.out).mono ?_)
  rintro e w2 ⟨rfl, k, hw2⟩
  rw [size_setCell] at hw2
  obtain ⟨W1, hW1⟩ : ∃ W1, W1 = ((w.setCell ⟨b, 2, none⟩ (.int .i8 0)).drewN k).alloc (.cells (Array.replicate 64 (.int .u8 0)) 5) := ⟨_, rfl⟩
  rw [← hW1] at hw2
  have hz : W1.heap.size = w.heap.size + 1 := by rw [hW1]; simp [World.setCell]
  have hne : w.heap.size ≠ b := Nat.ne_of_gt hlt
  have hbW : W1.heap[b]? = some (.cells #[.slice none 0 0, .int .i64 0, .int .i8 0] 68 (0, 0)) := by
    rw [hW1, Below.heap_alloc _ _ _ (by simp [World.setCell]; exact hlt)]; exact HB.out
  have hgW : W1.heap[w.heap.size]? = some (.cells (Array.replicate 64 (.int .u8 0)) 5 (0, 0)) := by
    rw [hW1]; have := heap_alloc_new ((w.setCell ⟨b, 2, none⟩ (.int .i8 0)).drewN k) (.cells (Array.replicate 64 (.int .u8 0)) 5)
    simpa [World.setCell] using this
  have hoW : ∀ x, x < w.heap.size → x ≠ b → W1.heap[x]? = w.heap[x]? := fun x hx hxb => by
    rw [hW1, Below.heap_alloc _ _ _ (by simp [World.setCell]; exact hx)]
    exact Below.heap_setCell _ _ _ _ hxb
  have hBW : Below B w W1 := by
    rw [hW1]
    exact (((Below.refl B w).setCell (p := ⟨b, 2, none⟩) hB _).trans ((((Drawn0.refl (w.setCell ⟨b, 2, none⟩ (.int .i8 0))).step k).below).mono (by rw [size_setCell]; exact hBw))).alloc (by simpa [World.setCell] using hBw) _
  clear hW1
  subst hw2
  have hbk2 := Lib.heap_setCell_same (i := 0) hbW (.slice (some ⟨w.heap.size, 0, none⟩) 1 64)
  have hg2 : (W1.setCell ⟨b, 0, none⟩ (.slice (some ⟨w.heap.size, 0, none⟩) 1 64)).heap[w.heap.size]? = some (.cells (Array.replicate 64 (.int .u8 0)) 5 (0, 0)) := by rw [Below.heap_setCell _ _ _ _ hne]; exact hgW
  have hB2 : Below B w (W1.setCell ⟨b, 0, none⟩ (.slice (some ⟨w.heap.size, 0, none⟩) 1 64)) := hBW.setCell (p := ⟨b, 0, none⟩) hB _
  have hsrc1 : ∀ j v, (Lib.byteCells l)[j]? = some v → (W1.setCell ⟨b, 0, none⟩ (.slice (some ⟨w.heap.size, 0, none⟩) 1 64)).cell? (a.add j) = some v := fun j v hj => by
    have hs := HS.out j v hj
    have hbl : (a.add j).block = a.block := Lib.block_add _ _
    have hb2 : b ≠ (a.add j).block := by rw [hbl]; exact Ne.symm hab
    rw [World.cell?_setCell_far _ _ _ _ hb2]
    have hl2 : (a.add j).block < w.heap.size := block_lt_of_cell hs
    have := hoW _ hl2 (Ne.symm hb2)
    rw [← hs]
    unfold World.cell?
    rw [this]
  have d0 : (W1.setCell ⟨b, 0, none⟩ (.slice (some ⟨w.heap.size, 0, none⟩) 1 64)).cell? ⟨b, 0, none⟩ = some (.slice (some ⟨w.heap.size, 0, none⟩) 1 64) := by rw [Lib.cell_of_heap hbk2]; rfl
  have hL : (Lib.byteCells l).length = 1 := by rw [Lib.byteCells_length]; exact HN.out
  have hcp := run_copy_row (P := Tryz.prog) _ 24 24 3 5 w.heap.size 0 1 64 a 1 c (Array.replicate 64 (.int .u8 0)) 5 (Lib.byteCells l) Tryz.underlying24 info5 hg2 (by rw [hL]; rfl) hsrc1 (by rw [hL]; simp) (one_bytes l)
  rw [hL] at hcp
  have HB2 := Aside0.mk hbk2
  have HG2 := Aside0.mk hg2
  have HBB := Aside0.mk hB2
  have HO := Aside0.mk hoW
  have HL := Aside0.mk hL
  clear hbk2 hg2 hB2 hoW hL hsrc1 hbW hgW hBW hz
  go_wp2
  go_ret2
  have hl2 : (Lib.byteCells l).length = 1 := HL.out
  obtain ⟨r1, r2⟩ := Lib.written_end (B := B) (news := Lib.byteCells l) (l := 0) hB (by rw [hl2]; exact HB2.out) hBw HG2.out (by unfold maxLen; omega) (Array.size_replicate ..) hne (by rw [hl2]; omega)
  rw [hl2, List.append_assoc] at r2
  refine ⟨rfl, ⟨hB, hBw, hne, 0, _, ?_, setRow_heap _ w.heap.size _ _ 5 (0, 0) HG2.out, ?_, ?_, ?_⟩, HBB.out.trans r2, fun x hx hxb hxg => ?_⟩
  · rw [setRow_other _ _ _ _ (Ne.symm hne), HN.out]; exact HB2.out
  · rw [HN.out]; omega
  · simp [hl2]
  · rw [HN.out]
    exact List.take_left' hl2
  · rw [setRow_other _ _ _ _ hxg, Below.heap_setCell _ _ _ _ hxb]; exact HO.out x hx hxb
end Go.Proofs.YtldjigfnagfalaaGreatDoor.Given
end
