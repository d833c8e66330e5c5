/- (*encoder).encode of a list of numbers, the first of its encoder. -/
import Derived.Test.YtldjigfnagfalaaGreatDoorGvLx
namespace Go.Proofs.YtldjigfnagfalaaGreatDoor.Given
open Go.RowKit Go.Proofs.YtldjigfnagfalaaGreatDoorW.PrintWords
set_option linter.unusedVariables false
/-- The box of a value's copy, behind whatever leaves it. -/
theorem box_cells {w W : World} {u v : Value} {T : TypeId} (hb : Below (w.alloc (.cells #[u, v] T)).heap.size (w.alloc (.cells #[u, v] T)) W) :
    W.cell? ⟨w.heap.size, 0, none⟩ = some u ∧ W.cell? ⟨w.heap.size, 1, none⟩ = some v := by
  have h := (hb.block w.heap.size (by simp)).trans (heap_alloc_new w _)
  exact ⟨by rw [Lib.cell_of_heap h]; rfl, by rw [Lib.cell_of_heap h]; rfl⟩
theorem old_heap {w W : World} {o : Obj} (hb : Below (w.alloc o).heap.size (w.alloc o) W) {x : Nat} {ob : Obj} (h : w.heap[x]? = some ob) : W.heap[x]? = some ob :=
  (hb.block x (by have := Lib.lt_of_heap h; simp; omega)).trans ((Below.heap_alloc w o x (Lib.lt_of_heap h)).trans h)
theorem old_cell {w W : World} {o : Obj} (hb : Below (w.alloc o).heap.size (w.alloc o) W) {a : Addr} {v : Value} (h : w.cell? a = some v) : W.cell? a = some v := by
  have hl := block_lt_of_cell h
  have : W.heap[a.block]? = w.heap[a.block]? := (hb.block a.block (by simp; omega)).trans (Below.heap_alloc w o a.block hl)
  rw [← h]; unfold World.cell?; rw [this]
theorem En.old {w w' : World} {B e b : Nat} {o : TypeId} {q : Int} {bs : List UInt8} (h : En w B e b o q bs) (hb : Below w.heap.size w w') : En w' B e b o q bs :=
  ⟨(hb.block e (Lib.lt_of_heap h.enc)).trans h.enc, h.buf.old hb, h.lo, Nat.le_trans h.low hb.size⟩
/-- Every old block but e and b stays (rows of bytes aside). -/
def Keeps (e b : Nat) (w w' : World) : Prop := ∀ (x : Nat) (ob : Obj), w.heap[x]? = some ob → x ≠ e → x ≠ b → (∀ c fz, ob ≠ .cells c 5 fz) → w'.heap[x]? = some ob
/-- The bytes of the first elements. -/
def firstBytes (xs : List (Value × List UInt8)) (j : Nat) : List UInt8 := (xs.take j).flatMap (·.2)
theorem firstBytes_succ {xs : List (Value × List UInt8)} {j : Nat} {x : Value × List UInt8} (h : xs[j]? = some x) : firstBytes xs (j + 1) = firstBytes xs j ++ x.2 := by
  unfold firstBytes
  rw [List.take_add_one, h]
  simp
theorem firstBytes_len {xs : List (Value × List UInt8)} {m : Nat} (hx : ∀ (i : Nat) (x : Value × List UInt8), xs[i]? = some x → x.2.length = m) : ∀ j, j ≤ xs.length → (firstBytes xs j).length = j * m
  | 0, _ => by simp [firstBytes]
  | j + 1, hj => by
    have hlt : j < xs.length := by omega
    have he : xs[j]? = some xs[j] := List.getElem?_eq_getElem hlt
    rw [firstBytes_succ he, List.length_append, firstBytes_len hx j (by omega), hx j _ he, Nat.succ_mul]
theorem tmod_place {h0 s : Int} (hs : (s = 8 ∧ h0 = 8) ∨ ((s = 1 ∨ s = 2 ∨ s = 4) ∧ h0 = 4)) (j : Nat) : (h0 + j * s).tmod s = 0 := by
  refine Int.tmod_eq_zero_of_dvd ?_
  rcases hs with ⟨rfl, rfl⟩ | ⟨rfl | rfl | rfl, rfl⟩ <;> omega
set_option maxHeartbeats 16000000 in
set_option maxRecDepth 100000 in
theorem enc_list (c : UInt8) (s h0 : Int) (big : Bool) (B e b p g n k : Nat) (ao : Option Addr) (xs : List (Value × List UInt8)) (w : World)
    (hs : (s = 8 ∧ h0 = 8) ∨ ((s = 1 ∨ s = 2 ∨ s = 4) ∧ h0 = 4)) (hal : ∀ w, Calls Tryz.prog 42 #[.string ⟨#[c]⟩] w fun r w' => r = .returned (.int .i64 s) ∧ w = w')
    (hBe : B ≤ e) (hBb : B ≤ b) (hBw : B ≤ w.heap.size)
    (hE : w.heap[e]? = some (encCells b (ordOf big) 0)) (lr : Int) (hbk : w.heap[b]? = some (.cells #[.slice none 0 0, .int .i64 0, .int .i8 lr] 68 (0, 0)))
    (hP : w.cell? ⟨p, 1, none⟩ = some (.slice ao n k)) (hn : xs.length = n) (hn2 : n ≤ 1000) (hao : 0 < n → ao = some ⟨g, 0, none⟩) (hxs : ∀ i x, xs[i]? = some x → w.cell? ⟨g, i, none⟩ = some x.1 ∧ (∃ T v, x.1 = .iface T v) ∧ Encs c x.1 s (ordOf big) x.2 ∧ x.2.length = s.toNat) :
    Calls Tryz.prog 36 #[.pointer (some ⟨e, 0, none⟩), .agg #[.iface 162 (.pointer (some ⟨p, 0, none⟩)), .string ⟨#[91, c]⟩], .int .i64 0] w fun r w' => r = .returned (.tuple #[]) ∧
      Lib.IsBuffer 68 5 B b (Lib.byteCells (cntBytes big (n * s.toNat) ++ List.replicate (h0 - 4).toNat 0 ++ firstBytes xs n)) w' ∧ Below B w w' ∧ Keeps e b w w' := by
  obtain ⟨o, ho⟩ : ∃ o, ordOf big = o := ⟨_, rfl⟩
  rw [ho] at hE hxs
  have HX := Aside0.mk hxs
  have HAO := Aside0.mk hao
  have HN := Aside0.mk hn
  have HE := Aside0.mk hE
  have HBK := Aside0.mk hbk
  have HP := Aside0.mk hP
  have HAL := Aside0.mk hal
  have HS := Aside0.mk hs
  have hle : e < w.heap.size := Lib.lt_of_heap hE
  have hlb : b < w.heap.size := Lib.lt_of_heap hbk
  have hlp : p < w.heap.size := block_lt_of_cell hP
  clear hxs hao hn hE hbk hP hal hs
  go_enter Tryz.func36, Tryz.ntmps36
  go_wp2_with fail
  refine (zType _ _ _).mono ?_
  rintro r w1 ⟨rfl, hb⟩
  have HB1 := Aside0.mk hb; clear hb
  obtain ⟨x0, x1⟩ := box_cells HB1.out
  obtain ⟨e0, e1, e2, e3, -, -⟩ := enc_cells (old_heap HB1.out HE.out)
  go_wp2_with fail
  refine (align_list c _).mono ?_
  rintro r w2 ⟨rfl, rfl⟩
  go_wp2_with fail
  refine (align0 e 0 4 (by decide) (by decide) (by decide) rfl _ e3).mono ?_
  rintro r w2 ⟨rfl, rfl⟩
  go_wp2_with fail
  refine (zKind_list _ c _).mono ?_
  rintro r w2 ⟨rfl, hb⟩
  have HB2 := Aside0.mk (HB1.out.trans (hb.mono HB1.out.size)); clear hb x0 x1 e0 e1 e2 e3
  obtain ⟨x0, x1⟩ := box_cells HB2.out
  obtain ⟨e0, e1, e2, e3, -, -⟩ := enc_cells (old_heap HB2.out HE.out)
  go_wp2_with fail
  refine (padding0 e 0 4 (by decide) (by decide) (by decide) rfl _ e3).mono ?_
  rintro r w3 ⟨rfl, rfl⟩
  have hh0 : 4 ≤ h0 := by have := HS.out; omega
  have hh1 : h0 ≤ 8 := by have := HS.out; omega
  have hw1 : wrap64 (4 + (h0 - 4)) = h0 := by unfold wrap64; omega
  have hp4 : ∀ W : World, W.cell? ⟨e, 3, none⟩ = some (.int .i64 0) → Calls Tryz.prog 56 #[.pointer (some ⟨e, 0, none⟩), .int .i64 4, .int .i64 s] W fun r w' => r = .returned (.int .i64 (h0 - 4)) ∧ W = w' := fun W hW => by
    rcases HS.out with ⟨rfl, rfl⟩ | ⟨h, rfl⟩
    · exact padding4_8 e W hW
    · exact padding4_s e s h W hW
  have HP4 := Aside0.mk hp4; clear hp4
  go_wp2_with fail
  go_region_held3 (fun w' => w'.cell? ⟨w.heap.size, 0, none⟩ = some (.iface 162 (.pointer (some ⟨p, 0, none⟩))) ∧ w'.cell? ⟨w.heap.size, 1, none⟩ = some (.string ⟨#[91, c]⟩) ∧ w'.cell? ⟨e, 3, none⟩ = some (.int .i64 0))
    (first | exact ⟨y0, y1, y3⟩ | exact ⟨x0, x1, e3⟩)
    (first
      | (go_at_call 43; refine (zType _ _ _).mono ?_; rintro r w3 ⟨rfl, hb⟩; have HB3 := Aside0.mk (HB2.out.drew.trans (hb.mono HB2.out.size)); clear hb; obtain ⟨y0, y1⟩ := box_cells HB3.out; obtain ⟨-, -, -, y3, -, -⟩ := enc_cells (old_heap HB3.out HE.out))
      | (go_at_call 57; refine (elem_list c _).mono ?_; rintro r w4 ⟨rfl, rfl⟩)
      | (go_at_call 42; refine (HAL.out _).mono ?_; rintro r w4 ⟨rfl, rfl⟩)
      | (go_at_call 56; refine (HP4.out _ y3).mono ?_; rintro r w4 ⟨rfl, rfl⟩))
  rw [show IntKind.i64.wrap (IntKind.i64.wrap 4 + (h0 - 4)) = h0 from by rw [show IntKind.i64.wrap 4 = 4 from rfl]; unfold IntKind.wrap; simp [IntKind.signed, IntKind.bits]; omega]
  clear x0 x1 e0 e1 e2 e3 y0 y1 y3
  go_wp2_with fail
  have HB4 := Aside0.mk (HB3.out.alloc HB3.out.size (.cells #[.slice none 0 0, .int .i64 0, .int .i8 0] 68))
  have HI4 := Aside0.mk (Lib.fresh_isBuffer 68 5 w3)
  have hz4 : (w3.alloc (.cells #[.slice none 0 0, .int .i64 0, .int .i8 0] 68)).heap.size = w3.heap.size + 1 := by simp
  have hz3 : w.heap.size < w3.heap.size := by have := HB3.out.size; simp at this; omega
  obtain ⟨b1, hb1⟩ : ∃ b1, w3.heap.size = b1 := ⟨_, rfl⟩
  rw [hb1] at hz4 hz3 HI4 ⊢
  obtain ⟨W4, hW4⟩ : ∃ W4, w3.alloc (.cells #[.slice none 0 0, .int .i64 0, .int .i8 0] 68) = W4 := ⟨_, rfl⟩
  rw [hW4] at hz4 HI4 HB4 ⊢
  clear hW4 hb1 HB3
  obtain ⟨-, e1, e2, -, -, -⟩ := enc_cells (old_heap HB4.out HE.out)
  go_region_held3 (fun w' => w'.cell? ⟨e, 1, none⟩ = some (.slice none 0 0) ∧ w'.cell? ⟨e, 2, none⟩ = some (.iface o (.agg #[])))
    (first | exact ⟨y1, y2⟩ | exact ⟨e1, e2⟩)
    (first
      | (go_at_call 24; refine (newEnc _ _ _ _ _ _ _).mono ?_; rintro r w5 ⟨rfl, rfl⟩; obtain ⟨-, y1, y2, -, -, -⟩ := enc_cells ((Below.heap_alloc W4.drew (encCells b1 o h0) e (Lib.lt_of_heap (old_heap HB4.out HE.out))).trans (old_heap HB4.out HE.out))))
  have hEn : En (W4.alloc (encCells b1 o h0)).drew b1 (b1 + 1) b1 o h0 [] := by
    refine ⟨?_, (HI4.out.alloc _).drew, by omega, by simp; omega⟩
    have := heap_alloc_new W4 (encCells b1 o h0)
    rw [hz4] at this
    exact this
  have hB5 : Below b1 W4 (W4.alloc (encCells b1 o h0)).drew := ((Below.refl b1 W4).alloc (by omega) _).drew
  have hbx4 : W4.heap[w.heap.size]? = some (.cells #[.iface 162 (.pointer (some ⟨p, 0, none⟩)), .string ⟨#[91, c]⟩] 102 (0, 0)) := (HB4.out.block w.heap.size (by simp)).trans (heap_alloc_new w _)
  have hold4 : ∀ x, x < w.heap.size → W4.heap[x]? = w.heap[x]? := fun x hx => (HB4.out.block x (by simp; omega)).trans (Below.heap_alloc w _ x hx)
  have HBX := Aside0.mk hbx4
  have HOLD := Aside0.mk hold4
  clear hbx4 hold4
  have HEN := Aside0.mk hEn
  have HB5 := Aside0.mk hB5
  clear hEn hB5 e1 e2 y1 y2
  go_wp2_with fail
  go_loopw [19] (fun i wr => ∃ j : Nat, j ≤ n ∧ i = .int .i64 j ∧ Aside0 (En wr b1 (b1 + 1) b1 o (h0 + j * s) (firstBytes xs j)) ∧ Aside0 (Below b1 W4 wr)) (fun i _ => n - (intOf i).toNat)
  case atStart => exact ⟨0, Nat.zero_le _, rfl, ⟨by simpa [firstBytes] using HEN.out⟩, HB5⟩
  case round =>
    clear HEN HB5
    obtain ⟨j, hj, rfl, HEn, HBr⟩ := hrel
    have hbx : wr.heap[w.heap.size]? = some (.cells #[.iface 162 (.pointer (some ⟨p, 0, none⟩)), .string ⟨#[91, c]⟩] 102 (0, 0)) := (HBr.out.block _ hz3).trans HBX.out
    have x0 : wr.cell? ⟨w.heap.size, 0, none⟩ = some (.iface 162 (.pointer (some ⟨p, 0, none⟩))) := by rw [Lib.cell_of_heap hbx]; rfl
    have x1 : wr.cell? ⟨w.heap.size, 1, none⟩ = some (.string ⟨#[91, c]⟩) := by rw [Lib.cell_of_heap hbx]; rfl
    have holdr : ∀ x, x < w.heap.size → wr.heap[x]? = w.heap[x]? := fun x hx => (HBr.out.block x (by omega)).trans (HOLD.out x hx)
    have pc := (cell_same (w' := wr) (a := ⟨p, 1, none⟩) (holdr p hlp)).trans HP.out
    have HOR := Aside0.mk holdr
    clear hbx holdr
    by_cases hlt : j < n
    · go_wp2_with fail
      refine (len_list p _ ao n k _ pc).mono ?_
      rintro r w6 ⟨rfl, hb6⟩
      have HEn6 := Aside0.mk (HEn.out.old hb6)
      have y0 := (cell_same (a := ⟨w.heap.size, 0, none⟩) (hb6.block w.heap.size (block_lt_of_cell x0))).trans x0
      have y1 := (cell_same (a := ⟨w.heap.size, 1, none⟩) (hb6.block w.heap.size (block_lt_of_cell x0))).trans x1
      have hj1 : xs[j]? = some (xs[j]'(by rw [HN.out]; exact hlt)) := List.getElem?_eq_getElem _
      obtain ⟨X, hX⟩ : ∃ X, xs[j]? = some X := ⟨_, hj1⟩
      have HXj := Aside0.mk hX
      clear hj1 hX
      obtain ⟨hcx, ⟨T, v, hTv⟩, hEnc, hxl⟩ := HX.out j X HXj.out
      have cx : w6.cell? ⟨g, j, none⟩ = some (.iface T v) := by
        have hg := block_lt_of_cell hcx
        rw [cell_same (w' := w6) (w := wr) (a := ⟨g, j, none⟩) (hb6.block g (by have := HBr.out.size; have := HEn.out.low; have : g < w.heap.size := hg; omega)), cell_same (w' := wr) (w := w) (a := ⟨g, j, none⟩) (HOR.out g hg), hcx, hTv]
      have hao1 : ao = some ⟨g, 0, none⟩ := HAO.out (by omega)
      have pc6 : w6.cell? ⟨p, 1, none⟩ = some (.slice (some ⟨g, 0, none⟩) n k) := by rw [← hao1]; exact (cell_same (a := ⟨p, 1, none⟩) (hb6.block p (block_lt_of_cell pc))).trans pc
      have HB6 := Aside0.mk (HBr.out.trans (hb6.mono (by have := HEn.out.low; omega)))
      have HENC := Aside0.mk hEnc
      have HXL := Aside0.mk hxl
      have HTV := Aside0.mk hTv
      have HCX := Aside0.mk cx
      have HPC := Aside0.mk pc6
      clear hb6 x0 x1 hEnc hxl hcx hTv cx hao1 pc6 pc
      go_wp2_with fail
      refine (index_list p c g n k j T v hlt hn2 _ HPC.out HCX.out).mono ?_
      rintro r w7 ⟨rfl, hb7⟩
      have HEn7 := Aside0.mk (HEn6.out.old hb7)
      have HB7 := Aside0.mk (HB6.out.trans (hb7.mono (by have := HEn6.out.low; omega)))
      clear hb7 y0 y1
      have hE2 : Encs c (.iface T v) s o X.2 := by rw [← HTV.out]; exact HENC.out
      have HS2 := HS.out
      have hfl : (firstBytes xs j).length = j * s.toNat := firstBytes_len (fun i x hx => (HX.out i x hx).2.2.2) j (by rw [HN.out]; omega)
      have hlen : (firstBytes xs j).length + X.2.length ≤ 140737488355328 := by
        rw [hfl, HXL.out]
        have : s.toNat ≤ 8 := by omega
        have : j * s.toNat ≤ 1000 * 8 := Nat.mul_le_mul (by omega) this
        omega
      have hq0 : 0 ≤ h0 + j * s := by
        have : 0 ≤ (j : Int) * s := Int.mul_nonneg (by omega) (by omega)
        omega
      have hq1 : h0 + j * s < 4611686018427387904 := by
        have : (j : Int) * s ≤ 1000 * 8 := Int.mul_le_mul (by omega) (by omega) (by omega) (by omega)
        omega
      have hcall := fun d (h1 : 0 ≤ d) (h2 : d ≤ 64) => hE2 w7 b1 (b1 + 1) b1 (h0 + j * s) d (firstBytes xs j) HEn7.out h1 h2 hq0 hq1 (tmod_place HS2 j) hlen
      have HCALL := Aside0.mk hcall
      clear hcall hE2 HS2 hfl hlen hq0 hq1
      go_wp2_with fail
      refine (HCALL.out 1 (by decide) (by decide)).mono ?_
      rintro r w8 ⟨rfl, hEn8, hb8⟩
      have HEn8 := Aside0.mk hEn8
      have HB8 := Aside0.mk (HB7.out.trans hb8)
      clear hEn8 hb8 HCALL
      go_wp2_with fail
      go_roundw
      case rel => exact ⟨j + 1, by omega, by go_num, ⟨by
        rw [firstBytes_succ HXj.out, show h0 + ((j + 1 : Nat) : Int) * s = h0 + j * s + s by rw [Int.natCast_succ, Int.add_mul]; omega]
        exact HEn8.out⟩, HB8⟩
      case measure => simp [intOf]; omega
    · obtain rfl : j = n := by omega
      go_wp2_with fail
      refine (len_list p _ ao j k _ pc).mono ?_
      rintro r w6 ⟨rfl, hb6⟩
      have HEn6 := Aside0.mk (HEn.out.old hb6)
      have HB6 := Aside0.mk (HBr.out.trans (hb6.mono (by have := HEn.out.low; omega)))
      have hfl : (firstBytes xs j).length = j * s.toNat := firstBytes_len (fun i x hx => (HX.out i x hx).2.2.2) j (by rw [HN.out]; omega)
      have hls : j * s.toNat ≤ 8000 := by
        have := HS.out
        have h1 : s.toNat ≤ 8 := by omega
        have : j * s.toNat ≤ 1000 * 8 := Nat.mul_le_mul (by omega) h1
        omega
      obtain ⟨L, hL⟩ : ∃ L, j * s.toNat = L := ⟨_, rfl⟩
      rw [hL] at hfl hls
      have HL := Aside0.mk hL
      have HFL := Aside0.mk hfl
      clear hL hfl hb6 x0 x1 pc HEn HBr
      go_wp2_with fail
      refine (Tryz.Buffer_Len b1 b1 _ _ HEn6.out.buf).mono ?_
      rintro r W7 ⟨rfl, k7, hW7⟩
      rw [Lib.byteCells_length, HFL.out]
      have HI7 : Aside0 (Lib.IsBuffer 68 5 b1 b1 (Lib.byteCells (firstBytes xs j)) W7) := ⟨hW7 ▸ HEn6.out.buf.drewN k7⟩
      have he17 : W7.heap[b1 + 1]? = some (encCells b1 o (h0 + j * s)) := by rw [hW7]; exact HEn6.out.enc
      have HB7 : Aside0 (Below b1 W4 W7) := ⟨hW7 ▸ below_drewN HB6.out k7⟩
      clear hW7 HB6 HEn6
      have HE7 : Aside0 (W7.heap[e]? = some (encCells b o 0)) := ⟨(HB7.out.block e (by omega)).trans ((HOLD.out e hle).trans HE.out)⟩
      have i1 : W7.cell? ⟨b1 + 1, 1, none⟩ = some (.slice none 0 0) := (enc_cells he17).2.1
      obtain ⟨-, c1, -, -, f1, -⟩ := enc_cells HE7.out
      clear he17
      go_wp2_with fail
      have HE8 : Aside0 ((W7.setCell ⟨e, 1, none⟩ (.slice none 0 0)).heap[e]? = some (encCells b o 0)) := ⟨Lib.heap_setCell_same (i := 1) HE7.out (.slice none 0 0)⟩
      have HI8 : Aside0 (Lib.IsBuffer 68 5 b1 b1 (Lib.byteCells (firstBytes xs j)) (W7.setCell ⟨e, 1, none⟩ (.slice none 0 0))) := ⟨buf_set HI7.out HE7.out _⟩
      have HK8 : Aside0 (∀ x, x < b1 → x ≠ e → (W7.setCell ⟨e, 1, none⟩ (.slice none 0 0)).heap[x]? = W4.heap[x]?) := ⟨fun x hx hxe => (Below.heap_setCell _ _ _ _ hxe).trans (HB7.out.block x hx)⟩
      have HBB4 : Below B w W4 := ((Below.refl B w).alloc hBw _).trans (HB4.out.mono (by simp; omega))
      have HBB8 : Aside0 (Below B w (W7.setCell ⟨e, 1, none⟩ (.slice none 0 0))) := ⟨(HBB4.trans (HB7.out.mono (by omega))).setCell (p := ⟨e, 1, none⟩) hBe _⟩
      obtain ⟨W8, hW8⟩ : ∃ W8, W7.setCell ⟨e, 1, none⟩ (.slice none 0 0) = W8 := ⟨_, rfl⟩
      rw [hW8] at HE8 HI8 HK8 HBB8 ⊢
      clear hW8 HBB4 c1 f1 i1 HI7 HB7 HE7
      refine (Tryz.Buffer_Len b1 b1 _ _ HI8.out).mono ?_
      rintro r W9 ⟨rfl, k9, hW9⟩
      rw [Lib.byteCells_length, HFL.out]
      have HE9 : Aside0 (W9.heap[e]? = some (encCells b o 0)) := ⟨by rw [hW9]; exact HE8.out⟩
      have HI9 : Aside0 (Lib.IsBuffer 68 5 b1 b1 (Lib.byteCells (firstBytes xs j)) W9) := ⟨hW9 ▸ HI8.out.drewN k9⟩
      have HK9 : Aside0 (∀ x, x < b1 → x ≠ e → W9.heap[x]? = W4.heap[x]?) := ⟨by rw [hW9]; exact HK8.out⟩
      have HBB9 : Aside0 (Below B w W9) := ⟨hW9 ▸ below_drewN HBB8.out k9⟩
      clear hW9 HE8 HI8 HK8 HBB8
      have hwL : IntKind.u32.wrap (L : Int) = L := by unfold IntKind.wrap; simp [IntKind.signed, IntKind.bits]; omega
      have heb : e ≠ b := by
        rintro rfl
        have := HE.out.symm.trans HBK.out; simp at this
      go_wp2_with fail
      refine (valueOf_117 (.int .u32 L) _).mono ?_
      rintro r W10 ⟨rfl, hb10⟩
      have hlt9 := HI9.out.lt
      have HE10 : Aside0 (W10.heap[e]? = some (encCells b o 0)) := ⟨(hb10.block e (by omega)).trans HE9.out⟩
      have HI10 : Aside0 (Lib.IsBuffer 68 5 b1 b1 (Lib.byteCells (firstBytes xs j)) W10) := ⟨HI9.out.old hb10⟩
      have HK10 : Aside0 (∀ x, x < b1 → x ≠ e → W10.heap[x]? = W4.heap[x]?) := ⟨fun x hx hxe => (hb10.block x (by omega)).trans (HK9.out x hx hxe)⟩
      have HBB10 : Aside0 (Below B w W10) := ⟨HBB9.out.trans (hb10.mono (by omega))⟩
      have hlt10 := HI10.out.lt
      clear hb10 HE9 HI9 HK9 HBB9 hlt9
      have hbk10 : W10.heap[b]? = some (.cells #[.slice none 0 0, .int .i64 0, .int .i8 lr] 68 (0, 0)) := (HK10.out b (by omega) (Ne.symm heb)).trans ((HOLD.out b hlb).trans HBK.out)
      have hen := en_u32 big e b L (by omega) 0 0 (by decide) (by decide) (by decide) (by decide) rfl (R1 W10 B b (cntBytes big L)) W10 (by rw [ho]; exact HE10.out) (takes_first4 B b lr (cntBytes big L) W10 hBb (by omega) hbk10 (cntBytes_length big L)) (by
        rintro w' ⟨gg, hgg, hS, hk, hb⟩
        have h := (hk e (by omega) heb).trans HE10.out
        obtain ⟨-, -, -, d3, -, g3⟩ := enc_cells h
        exact ⟨d3, g3⟩)
      have HEN10 := Aside0.mk hen
      clear hen hbk10
      go_wp2_with fail
      refine (HEN10.out).mono ?_
      rintro r W12 ⟨rfl, W11, ⟨gg, hgg, hS, hk, hb⟩, hW12⟩
      have he11 : W11.heap[e]? = some (encCells b o 0) := (hk e (by omega) heb).trans HE10.out
      have hegg : e ≠ gg := by omega
      have hbgg : b ≠ gg := by omega
      have HE12 : Aside0 (W12.heap[e]? = some (encCells b o 4)) := ⟨by rw [hW12]; exact Lib.heap_setCell_same (i := 3) he11 (.int .i64 (0 + 4))⟩
      have HK12 : Aside0 (∀ x, x < W10.heap.size → x ≠ b → x ≠ e → W12.heap[x]? = W10.heap[x]?) := ⟨fun x hx hxb hxe => by rw [hW12, Below.heap_setCell _ _ _ _ hxe]; exact hk x hx hxb⟩
      have HS12 : Aside0 (Sm W12 B b gg (cntBytes big L)) := ⟨by rw [hW12]; exact hS.old (Below.heap_setCell _ _ _ _ (Ne.symm heb)) (Below.heap_setCell _ _ _ _ (Ne.symm hegg))⟩
      have HI12 : Aside0 (Lib.IsBuffer 68 5 b1 b1 (Lib.byteCells (firstBytes xs j)) W12) := ⟨buf_above HI10.out (fun x h1 h2 => HK12.out x h2 (by omega) (by omega))⟩
      have HBB12 : Aside0 (Below B w W12) := ⟨by rw [hW12]; exact (HBB10.out.trans hb).setCell (p := ⟨e, 3, none⟩) hBe _⟩
      have hz12 : W10.heap.size ≤ W12.heap.size := by rw [hW12, size_setCell]; exact hb.size
      have hbx12 : Aside0 (W12.heap[w.heap.size]? = some (.cells #[.iface 162 (.pointer (some ⟨p, 0, none⟩)), .string ⟨#[91, c]⟩] 102 (0, 0))) := ⟨(HK12.out w.heap.size (by omega) (by omega) (by omega)).trans ((HK10.out w.heap.size hz3 (by omega)).trans HBX.out)⟩
      clear hW12 he11 hS hk hb HEN10 HE10 HBB10
      go_wp2_with fail
      refine (Tryz.Buffer_Len b1 b1 _ _ HI12.out).mono ?_
      rintro r W13 ⟨rfl, k13, hW13⟩
      rw [Lib.byteCells_length, HFL.out]
      have HE13 : Aside0 (W13.heap[e]? = some (encCells b o 4)) := ⟨by rw [hW13]; exact HE12.out⟩
      have HI13 : Aside0 (Lib.IsBuffer 68 5 b1 b1 (Lib.byteCells (firstBytes xs j)) W13) := ⟨hW13 ▸ HI12.out.drewN k13⟩
      have HS13 : Aside0 (Sm W13 B b gg (cntBytes big L)) := ⟨HS12.out.old (by rw [hW13]; rfl) (by rw [hW13]; rfl)⟩
      have HBB13 : Aside0 (Below B w W13) := ⟨hW13 ▸ below_drewN HBB12.out k13⟩
      have HBX13 : Aside0 (W13.heap[w.heap.size]? = some (.cells #[.iface 162 (.pointer (some ⟨p, 0, none⟩)), .string ⟨#[91, c]⟩] 102 (0, 0))) := ⟨by rw [hW13]; exact hbx12.out⟩
      have hz13 : b1 < W13.heap.size := HI13.out.lt
      have hz13g : gg < W13.heap.size := HS13.out.lt
      have HK13 : Aside0 (∀ x, x < W10.heap.size → x ≠ b → x ≠ e → W13.heap[x]? = W10.heap[x]?) := ⟨by rw [hW13]; exact HK12.out⟩
      have hz13b : W10.heap.size ≤ W13.heap.size := by rw [hW13]; exact hz12
      clear hW13 HE12 HI12 HS12 HBB12 hbx12 HK12
      have x0 : W13.cell? ⟨w.heap.size, 0, none⟩ = some (.iface 162 (.pointer (some ⟨p, 0, none⟩))) := by rw [Lib.cell_of_heap HBX13.out]; rfl
      have x1 : W13.cell? ⟨w.heap.size, 1, none⟩ = some (.string ⟨#[91, c]⟩) := by rw [Lib.cell_of_heap HBX13.out]; rfl
      go_wp2_with fail
      refine (zType _ _ _).mono ?_
      rintro r W14 ⟨rfl, hb14⟩
      have HE14 : Aside0 (W14.heap[e]? = some (encCells b o 4)) := ⟨(hb14.block e (by omega)).trans HE13.out⟩
      have HI14 : Aside0 (Lib.IsBuffer 68 5 b1 b1 (Lib.byteCells (firstBytes xs j)) W14) := ⟨HI13.out.old hb14⟩
      have HS14 : Aside0 (Sm W14 B b gg (cntBytes big L)) := ⟨HS13.out.old (hb14.block b (by omega)) (hb14.block gg hz13g)⟩
      have HBB14 : Aside0 (Below B w W14) := ⟨HBB13.out.trans (hb14.mono (by omega))⟩
      have hz14 : W13.heap.size ≤ W14.heap.size := hb14.size
      have HK14 : Aside0 (∀ x, x < W10.heap.size → x ≠ b → x ≠ e → W14.heap[x]? = W10.heap[x]?) := ⟨fun x hx hxb hxe => (hb14.block x (by omega)).trans (HK13.out x hx hxb hxe)⟩
      clear hb14 HE13 HI13 HS13 HBB13 HBX13 x0 x1 HK13
      go_wp2_with fail
      refine (elem_list c _).mono ?_
      rintro r W15 ⟨rfl, rfl⟩
      go_wp2_with fail
      refine (HAL.out _).mono ?_
      rintro r W15 ⟨rfl, rfl⟩
      have hcl : (cntBytes big L).length + 4 ≤ 64 := by rw [cntBytes_length]; omega
      have HAP := Aside0.mk (align_pad B e b gg o s h0 (cntBytes big L) W14 HS.out HE14.out HS14.out hcl hBe (by omega))
      clear hcl
      go_wp2_with fail
      refine (HAP.out).mono ?_
      rintro r W15 ⟨rfl, hS, hE15, hb15, hk15⟩
      have HS15 := Aside0.mk hS
      have HE15 := Aside0.mk hE15
      have HBB15 := Aside0.mk (HBB14.out.trans hb15)
      have HI15 : Aside0 (Lib.IsBuffer 68 5 b1 b1 (Lib.byteCells (firstBytes xs j)) W15) := ⟨buf_above HI10.out (fun x h1 h2 => (hk15 x (by omega) (by omega) (by omega) (by omega)).trans (HK14.out x h2 (by omega) (by omega)))⟩
      have hz15 : W14.heap.size ≤ W15.heap.size := hb15.size
      have HKP : Aside0 (∀ x, x < w.heap.size → x ≠ e → x ≠ b → W15.heap[x]? = w.heap[x]?) := ⟨fun x hx hxe hxb => (hk15 x (by omega) hxb (by omega) hxe).trans ((HK14.out x (by omega) hxb hxe).trans ((HK10.out x (by omega) hxe).trans (HOLD.out x hx)))⟩
      clear hS hE15 hb15 hk15 HAP HE14 HI14 HS14 HBB14
      obtain ⟨d0, -, -, -, -, -⟩ := enc_cells HE15.out
      have hpl : (cntBytes big L ++ List.replicate (h0 - 4).toNat 0).length ≤ 64 := by rw [List.length_append, cntBytes_length, List.length_replicate]; omega
      have HWT := Aside0.mk (writeTo B b1 b b1 (cntBytes big L ++ List.replicate (h0 - 4).toNat 0) (firstBytes xs j) W15 HS15.out.buf HI15.out (by omega) (by omega) (by omega) (by rw [HFL.out]; omega) (by rw [HFL.out]; omega))
      clear hpl
      go_wp2_with fail
      refine (HWT.out).mono ?_
      rintro r W16 ⟨rfl, hI16, hb16, hk16⟩
      have HE16 := Aside0.mk (hk16 e _ HE15.out heb (by omega) (by intro c fz hc; cases hc))
      have HKQ : Aside0 (Keeps e b w W16) := ⟨fun x ob hx hxe hxb hob => hk16 x ob ((HKP.out x (Lib.lt_of_heap hx) hxe hxb).trans hx) hxb (by have := Lib.lt_of_heap hx; omega) hob⟩
      have HI16 := Aside0.mk hI16
      have HBB16 := Aside0.mk (HBB15.out.trans hb16)
      clear hI16 hb16 hk16 HWT HI15 HE15 HS15 HBB15 d0
      rw [HFL.out]
      obtain ⟨-, -, -, d3, -, f3⟩ := enc_cells HE16.out
      go_wp2_with fail
      refine bodyPost_end (results_none (by rfl) _ _ _) rfl ⟨rfl, ?_, ?_, fun x ob hx hxe hxb hob => by rw [Below.heap_setCell _ _ _ _ hxe]; exact HKQ.out x ob hx hxe hxb hob⟩
      · rw [HL.out]
        exact buf_set HI16.out HE16.out _
      · exact HBB16.out.setCell (p := ⟨e, 3, none⟩) hBe _
end Go.Proofs.YtldjigfnagfalaaGreatDoor.Given
