/- strconv.FormatUint at bases 16 and 8. -/
import Derived.Test.YthjbopjclkbhfaaGreatDoorDg
import Derived.Laws.Bits64b
import Derived.Lib.ItoaMem
import Derived.LoopTactic
import Derived.Deep.QuietTactic
import Derived.BigQuiet
import Derived.Deep.LoopGhost
namespace Go.Proofs.YthjbopjclkbhfaaGreatDoor.Given
open Go.RowKit Go.Lib Go.Proofs.YthjbopjclkbhfaaGreatDoorW.PrintWords

def nv : Value → Nat
  | .int _ z => z.toNat
  | _ => 0
/-- The cells of the table that the logarithms of 8 and 16 stand in. -/
def Tz (w : World) : Prop := w.cell? ⟨3, 7, none⟩ = some (.int .u8 3) ∧ w.cell? ⟨3, 15, none⟩ = some (.int .u8 4)
theorem Tz.below {w w' : World} {n : Nat} (h : Tz w) (hb : Below n w w') (hn : w.heap.size ≤ n) : Tz w' :=
  ⟨(hb.cell (p := ⟨3, 7, none⟩) (Nat.lt_of_lt_of_le (block_lt_of_cell h.1) hn)).trans h.1, (hb.cell (p := ⟨3, 15, none⟩) (Nat.lt_of_lt_of_le (block_lt_of_cell h.2) hn)).trans h.2⟩

def dtext : ByteArray := ⟨#[48, 49, 50, 51, 52, 53, 54, 55, 56, 57, 97, 98, 99, 100, 101, 102, 103, 104, 105, 106, 107, 108, 109, 110, 111, 112, 113, 114, 115, 116, 117, 118, 119, 120, 121, 122]⟩
theorem dtext_at : ∀ d : Fin 16, bt dtext (d.val : Int) = ((dch d.val).toNat : Int) := by decide
theorem dtext_at' {d : Nat} (h : d < 16) : bt dtext (d : Int) = ((dch d).toNat : Int) := dtext_at ⟨d, h⟩
/-- The row so far: from place i on the digits D stand. -/
structure Rw (w wr : World) (R : Array Value) (i : Nat) (D : List UInt8) : Prop where
  here : wr.heap[w.heap.size]? = some (.cells R 59 (0, 0))
  size : R.size = 65
  tail : R.toList.drop i = Lib.byteCells D
  bel : Below w.heap.size w wr
theorem Rw.put {w wr : World} {R : Array Value} {i : Nat} {D : List UInt8} (h : Rw w wr R (i + 1) D) (hi : i < 65) (c : UInt8) : Rw w (wr.setCell ⟨w.heap.size, i, none⟩ (.int .u8 c.toNat)) (R.setIfInBounds i (.int .u8 c.toNat)) i (c :: D) := by
  refine ⟨heap_setCell_same wr w.heap.size i R 59 _ h.here, by simp [h.size], ?_, h.bel.setCell (p := ⟨w.heap.size, i, none⟩) (Nat.le_refl _) _⟩
  have hl : i < R.toList.length := by rw [Array.length_toList, h.size]; exact hi
  rw [Array.toList_setIfInBounds, List.drop_set, if_neg (Nat.lt_irrefl _), Nat.sub_self, List.drop_eq_getElem_cons hl, List.set_cons_zero, h.tail]
  rfl
theorem Rw.cell {w wr : World} {R : Array Value} {i : Nat} {D : List UInt8} (h : Rw w wr R i D) (k : Nat) (hk : k < 65) : wr.cell? ⟨w.heap.size, k, none⟩ = some (R[k]'(by rw [h.size]; exact hk)) ∧ wr.frozen? ⟨w.heap.size, k, none⟩ = false := by
  refine ⟨?_, frozen_of_row wr w.heap.size k _ _ h.here⟩
  rw [cell_of_row wr w.heap.size k _ _ _ h.here, Array.getElem?_eq_getElem (by rw [h.size]; exact hk)]
theorem Rw.read {w wr : World} {R : Array Value} {i : Nat} {D : List UInt8} (h : Rw w wr R i D) (hi : i ≤ 65) (hD : D.length = 65 - i) : ∀ W, W = wr → (convert 43 9 (.slice (some ⟨w.heap.size, i, none⟩) (65 - i) (65 - i))).run Tryz.prog W = .ok (.string ⟨D.toArray⟩) W := by
  rintro W rfl
  have hr := run_convert_bytes_back (P := Tryz.prog) W 43 9 5 ⟨w.heap.size, i, none⟩ (65 - i) D Tryz.underlying43 Tryz.underlying5 Tryz.underlying9 (fun j hj => by
    have hk : i + j < 65 := by omega
    rw [Lib.add_plain, (h.cell (i + j) hk).1]
    have h1 := congrArg (fun l => l[j]?) h.tail
    simp only [List.getElem?_drop] at h1
    rw [Array.getElem?_toList, Array.getElem?_eq_getElem (by rw [h.size]; exact hk)] at h1
    rw [h1]
    simp [Lib.byteCells, List.getElem?_eq_getElem hj])
  rw [hD] at hr
  exact hr

/-- What stands behind so many digits. -/
structure Fs (B : Nat) (w : World) (n u : Nat) (z : Int) (wr : World) : Prop where
  ex : ∃ (R : Array Value) (f : Nat) (D : List UInt8), Rw w wr R (65 - D.length) D ∧ f + D.length = 64 ∧ z = ((65 - D.length : Nat) : Int) ∧ u < B ^ f ∧ dgs B 64 n = dgs B f u ++ D
theorem Fs.start {B : Nat} {w : World} {n : Nat} (h : n < B ^ 64) : Fs B w n n 65 (w.alloc (.cells (Array.replicate 65 (.int .u8 0)) 59)) :=
  ⟨Array.replicate 65 (.int .u8 0), 64, [], ⟨heap_alloc_new w _, by simp, by rw [List.drop_eq_nil_of_le (by simp)]; rfl, (Below.refl _ _).alloc (Nat.le_refl _) _⟩, rfl, rfl, h, by simp⟩
theorem Fs.place {B : Nat} {w : World} {n u : Nat} {z : Int} {wr : World} (h : Fs B w n u z wr) (hu : 1 ≤ u) : ∃ (q : Nat) (old : Value), z - 1 = (q : Int) ∧ q < 65 ∧ z = ((q + 1 : Nat) : Int) ∧ wr.cell? ⟨w.heap.size, q, none⟩ = some old ∧ wr.frozen? ⟨w.heap.size, q, none⟩ = false := by
  obtain ⟨R, f, D, hr, hf, hz, hu', _⟩ := h.ex
  have hf1 : 1 ≤ f := by
    rcases Nat.eq_zero_or_pos f with h0 | h0
    · subst h0; simp at hu'; omega
    · exact h0
  have hq : 64 - D.length < 65 := by omega
  exact ⟨64 - D.length, _, by omega, hq, by omega, (hr.cell _ hq).1, (hr.cell _ hq).2⟩
theorem Fs.put {B : Nat} (hB : 2 ≤ B) {w : World} {n u : Nat} {z : Int} {wr : World} {q : Nat} (h : Fs B w n u z wr) (hu : B ≤ u) (hq : z = ((q + 1 : Nat) : Int)) : Fs B w n (u / B) (q : Int) (wr.setCell ⟨w.heap.size, q, none⟩ (.int .u8 (dch (u % B)).toNat)) := by
  obtain ⟨R, f, D, hr, hf, hz, hu', he⟩ := h.ex
  have hf1 : 1 ≤ f := by
    rcases Nat.eq_zero_or_pos f with h0 | h0
    · subst h0; simp at hu'; omega
    · exact h0
  obtain ⟨f, rfl⟩ : ∃ m, f = m + 1 := ⟨f - 1, by omega⟩
  have hqq : 65 - D.length = q + 1 := by omega
  rw [hqq] at hr
  have hr' := hr.put (by omega) (dch (u % B))
  refine ⟨⟨R.setIfInBounds q (.int .u8 (dch (u % B)).toNat), f, dch (u % B) :: D, ?_, by simp; omega, by simp; omega, Nat.div_lt_of_lt_mul (by rw [Nat.mul_comm, ← Nat.pow_succ]; exact hu'), ?_⟩⟩
  · rw [show 65 - (dch (u % B) :: D).length = q by simp; omega]; exact hr'
  · rw [he, dgs, if_neg (by omega)]; simp
theorem Fs.last {B : Nat} {w : World} {n u : Nat} {z : Int} {wr : World} {q : Nat} (h : Fs B w n u z wr) (hu : u < B) (hu1 : 1 ≤ u) (hq : z = ((q + 1 : Nat) : Int)) : ∃ R, Rw w (wr.setCell ⟨w.heap.size, q, none⟩ (.int .u8 (dch u).toNat)) R q (dgs B 64 n) ∧ (dgs B 64 n).length = 65 - q := by
  obtain ⟨R, f, D, hr, hf, hz, hu', he⟩ := h.ex
  have hf1 : 1 ≤ f := by
    rcases Nat.eq_zero_or_pos f with h0 | h0
    · subst h0; simp at hu'; omega
    · exact h0
  obtain ⟨f, rfl⟩ : ∃ m, f = m + 1 := ⟨f - 1, by omega⟩
  have hqq : 65 - D.length = q + 1 := by omega
  rw [hqq] at hr
  have hr' := hr.put (by omega) (dch u)
  have he' : dgs B 64 n = dch u :: D := by rw [he, dgs, if_pos hu]; rfl
  rw [he']
  exact ⟨_, hr', by simp; omega⟩
theorem lit_at {d : Nat} (h : d < 16) : ∀ hh : d < (⟨#[48, 49, 50, 51, 52, 53, 54, 55, 56, 57, 97, 98, 99, 100, 101, 102, 103, 104, 105, 106, 107, 108, 109, 110, 111, 112, 113, 114, 115, 116, 117, 118, 119, 120, 121, 122]⟩ : ByteArray).size, (((⟨#[48, 49, 50, 51, 52, 53, 54, 55, 56, 57, 97, 98, 99, 100, 101, 102, 103, 104, 105, 106, 107, 108, 109, 110, 111, 112, 113, 114, 115, 116, 117, 118, 119, 120, 121, 122]⟩ : ByteArray)[d]'hh).toNat : Int) = ((dch d).toNat : Int) := fun hh => by
  have := dtext_at' h
  rw [← this]
  have hb := bt_at dtext (d : Int) (by simpa [dtext] using hh)
  simpa [dtext] using hb

set_option maxHeartbeats 1000000 in
theorem pow2_16.calls (w : World) : Calls Tryz.prog 21 #[.int .i64 16] w fun e w' => e = .returned (.bool true) ∧ w = w' := by
  have hb : (bits .and .i64 16 (16 - 1) == 0) = true := by decide
  have hb2 : bits .and .i64 16 15 = 0 := by decide
  go_enter Tryz.func21, Tryz.ntmps21
  go_wp2
  go_ret
  exact ⟨rfl, rfl⟩
set_option maxHeartbeats 1000000 in
theorem tz64_16.calls (w : World) (hT : Tz w) : Calls Tryz.prog 34 #[.int .u64 16] w fun e w' => e = .returned (.int .i64 4) ∧ w = w' := by
  have c := hT.2
  have e1 : bits .and .u64 16 (IntKind.u64.wrap (-16)) = 16 := by decide
  have e2 : bits .and .u64 16 18446744073709551600 = 16 := by decide
  have e3 : IntKind.u64.wrap (16 * 285870213051353865) = 4573923408821661840 := by decide
  go_enter Tryz.func34, Tryz.ntmps34
  go_wp2
  go_ret
  exact ⟨rfl, rfl⟩
set_option maxHeartbeats 1000000 in
theorem tz_16.calls (w : World) (hT : Tz w) : Calls Tryz.prog 22 #[.int .u64 16] w fun e w' => e = .returned (.int .i64 4) ∧ w = w' := by
  have HT := Aside0.mk hT
  clear hT
  go_enter Tryz.func22, Tryz.ntmps22
  go_wp2_with (go_at_call 34; refine (tz64_16.calls _ HT.out).mono ?_; rintro e w' ⟨rfl, rfl⟩)
  go_ret
  exact ⟨rfl, rfl⟩

set_option maxHeartbeats 8000000 in
set_option maxRecDepth 100000 in
theorem fb_16.calls (n : Nat) (hn1 : 1 ≤ n) (hn : n < 18446744073709551616) (w : World) (hT : Tz w) :
    Calls Tryz.prog 15 #[.slice none 0 0, .int .u64 n, .int .i64 16, .bool false, .bool false] w fun e w' => e = .returned (.tuple #[.slice none 0 0, .string ⟨(dgs 16 64 n).toArray⟩]) ∧ Below w.heap.size w w' := by
  have HT := Aside0.mk hT
  clear hT
  have hal : Tryz.prog.arrayLen 59 = 65 := by kernel_rfl
  have hel : Tryz.prog.elem 59 = 5 := by kernel_rfl
  have hsl : ∀ (i : Nat) (W : World), i < 65 → (Instr.sliceAt 59 (.pointer (some ⟨w.heap.size, 0, none⟩)) (some (.int .i64 (i : Int))) none none).run Tryz.prog W = .ok (.slice (some ⟨w.heap.size, i, none⟩) (65 - i) (65 - i)) W := fun i W hi => by
    rw [run_sliceAt_array_l W 59 ⟨w.heap.size, 0, none⟩ (by simp [Program.arrayLen, Program.elem, Tryz.underlying59]) .i64 (i : Int) (by omega) (by rw [hal]; omega), hal, hel]
    go_simp
    omega
  have HSL := Aside0.mk hsl
  have hstart : Aside0 (Fs 16 w n n 65 (w.alloc (.cells (Array.replicate 65 (.int .u8 0)) 59))) := ⟨Fs.start (Nat.lt_of_lt_of_le hn (by decide))⟩
  clear hsl hal hel
  go_enter Tryz.func15, Tryz.ntmps15
  go_wp2_with (first
    | (go_at_call 21; refine (pow2_16.calls _).mono ?_; rintro e w' ⟨rfl, rfl⟩)
    | (go_at_call 22; refine (tz_16.calls _ (HT.out.below ((Below.refl _ _).alloc (Nat.le_refl _) _) (Nat.le_refl _))).mono ?_; rintro e w' ⟨rfl, rfl⟩))
  go_loopw [1, 13] (fun vu vi wr => ∃ (u : Nat) (z : Int), vu = .int .u64 u ∧ vi = .int .i64 z ∧ Aside0 (Fs 16 w n u z wr) ∧ 1 ≤ u ∧ u < 18446744073709551616)
    (fun vu _ _ => nv vu)
  case atStart => exact ⟨n, 65, rfl, rfl, hstart, hn1, hn⟩
  case round =>
    obtain ⟨u, z, rfl, rfl, hst, hu1, hu2⟩ := hrel
    clear hstart
    obtain ⟨q, old, hzq, hq65, hzq1, hcell, hfr⟩ := hst.out.place hu1
    have HQ1 := Aside0.mk hzq1
    have hqq : 0 ≤ (q : Int) := by omega
    have hq65' : (q : Int) < 65 := by omega
    clear hzq1
    by_cases hge : 16 ≤ u
    · have hge' : (16 : Int) ≤ (u : Int) := by omega
      obtain ⟨d, hd⟩ : ∃ d, u % 16 = d := ⟨_, rfl⟩
      have hd16 : d < 16 := by rw [← hd]; exact Nat.mod_lt _ (by decide)
      have hand : bits .and .u64 (u : Int) 15 = (d : Int) := by
        have h1 := bits_and_u64_nat u 15 hu2 (by decide)
        have h2 : u &&& 15 = u % 16 := Nat.and_two_pow_sub_one_eq_mod u 4
        rw [h2, hd] at h1
        exact h1
      have HST := Aside0.mk (hst.out.put (by decide) hge HQ1.out)
      rw [hd] at HST
      have hx := lit_at (show d < 16 by omega)
      have hd0 : 0 ≤ (d : Int) := by omega
      have hd36 : (d : Int) < 36 := by omega
      clear hst hd hge
      go_wp2
      go_roundw
      case rel => exact ⟨u / 16, (q : Int), (by first | rfl | (congr 1; omega)), (by first | rfl | (congr 1; omega)), HST, by omega, by omega⟩
      case measure => simp only [nv]; omega
    · have hlt : (u : Int) < 16 := by omega
      obtain ⟨R, hR, hlen⟩ := hst.out.last (show u < 16 by omega) hu1 HQ1.out
      have hx := lit_at (show u < 16 by omega)
      have hu36 : (u : Int) < 36 := by omega
      have hcv := hR.read (by omega) hlen _ rfl
      have hsl := fun W => HSL.out q W hq65
      have HB := Aside0.mk hR.bel
      clear hst hR hlen hge
      go_wp2
      go_ret2
      exact ⟨by first | rfl | trace_state, HB.out⟩

set_option maxHeartbeats 1000000 in
theorem pow2_8.calls (w : World) : Calls Tryz.prog 21 #[.int .i64 8] w fun e w' => e = .returned (.bool true) ∧ w = w' := by
  have hb : (bits .and .i64 8 (8 - 1) == 0) = true := by decide
  have hb2 : bits .and .i64 8 7 = 0 := by decide
  go_enter Tryz.func21, Tryz.ntmps21
  go_wp2
  go_ret
  exact ⟨rfl, rfl⟩
set_option maxHeartbeats 1000000 in
theorem tz64_8.calls (w : World) (hT : Tz w) : Calls Tryz.prog 34 #[.int .u64 8] w fun e w' => e = .returned (.int .i64 3) ∧ w = w' := by
  have c := hT.1
  have e1 : bits .and .u64 8 (IntKind.u64.wrap (-8)) = 8 := by decide
  have e2 : bits .and .u64 8 18446744073709551608 = 8 := by decide
  have e3 : IntKind.u64.wrap (8 * 285870213051353865) = 2286961704410830920 := by decide
  go_enter Tryz.func34, Tryz.ntmps34
  go_wp2
  go_ret
  exact ⟨rfl, rfl⟩
set_option maxHeartbeats 1000000 in
theorem tz_8.calls (w : World) (hT : Tz w) : Calls Tryz.prog 22 #[.int .u64 8] w fun e w' => e = .returned (.int .i64 3) ∧ w = w' := by
  have HT := Aside0.mk hT
  clear hT
  go_enter Tryz.func22, Tryz.ntmps22
  go_wp2_with (go_at_call 34; refine (tz64_8.calls _ HT.out).mono ?_; rintro e w' ⟨rfl, rfl⟩)
  go_ret
  exact ⟨rfl, rfl⟩

set_option maxHeartbeats 8000000 in
set_option maxRecDepth 100000 in
theorem fb_8.calls (n : Nat) (hn1 : 1 ≤ n) (hn : n < 18446744073709551616) (w : World) (hT : Tz w) :
    Calls Tryz.prog 15 #[.slice none 0 0, .int .u64 n, .int .i64 8, .bool false, .bool false] w fun e w' => e = .returned (.tuple #[.slice none 0 0, .string ⟨(dgs 8 64 n).toArray⟩]) ∧ Below w.heap.size w w' := by
  have HT := Aside0.mk hT
  clear hT
  have hal : Tryz.prog.arrayLen 59 = 65 := by kernel_rfl
  have hel : Tryz.prog.elem 59 = 5 := by kernel_rfl
  have hsl : ∀ (i : Nat) (W : World), i < 65 → (Instr.sliceAt 59 (.pointer (some ⟨w.heap.size, 0, none⟩)) (some (.int .i64 (i : Int))) none none).run Tryz.prog W = .ok (.slice (some ⟨w.heap.size, i, none⟩) (65 - i) (65 - i)) W := fun i W hi => by
    rw [run_sliceAt_array_l W 59 ⟨w.heap.size, 0, none⟩ (by simp [Program.arrayLen, Program.elem, Tryz.underlying59]) .i64 (i : Int) (by omega) (by rw [hal]; omega), hal, hel]
    go_simp
    omega
  have HSL := Aside0.mk hsl
  have hstart : Aside0 (Fs 8 w n n 65 (w.alloc (.cells (Array.replicate 65 (.int .u8 0)) 59))) := ⟨Fs.start (Nat.lt_of_lt_of_le hn (by decide))⟩
  clear hsl hal hel
  go_enter Tryz.func15, Tryz.ntmps15
  go_wp2_with (first
    | (go_at_call 21; refine (pow2_8.calls _).mono ?_; rintro e w' ⟨rfl, rfl⟩)
    | (go_at_call 22; refine (tz_8.calls _ (HT.out.below ((Below.refl _ _).alloc (Nat.le_refl _) _) (Nat.le_refl _))).mono ?_; rintro e w' ⟨rfl, rfl⟩))
  go_loopw [1, 13] (fun vu vi wr => ∃ (u : Nat) (z : Int), vu = .int .u64 u ∧ vi = .int .i64 z ∧ Aside0 (Fs 8 w n u z wr) ∧ 1 ≤ u ∧ u < 18446744073709551616)
    (fun vu _ _ => nv vu)
  case atStart => exact ⟨n, 65, rfl, rfl, hstart, hn1, hn⟩
  case round =>
    obtain ⟨u, z, rfl, rfl, hst, hu1, hu2⟩ := hrel
    clear hstart
    obtain ⟨q, old, hzq, hq65, hzq1, hcell, hfr⟩ := hst.out.place hu1
    have HQ1 := Aside0.mk hzq1
    have hqq : 0 ≤ (q : Int) := by omega
    have hq65' : (q : Int) < 65 := by omega
    clear hzq1
    by_cases hge : 8 ≤ u
    · have hge' : (8 : Int) ≤ (u : Int) := by omega
      obtain ⟨d, hd⟩ : ∃ d, u % 8 = d := ⟨_, rfl⟩
      have hd16 : d < 8 := by rw [← hd]; exact Nat.mod_lt _ (by decide)
      have hand : bits .and .u64 (u : Int) 7 = (d : Int) := by
        have h1 := bits_and_u64_nat u 7 hu2 (by decide)
        have h2 : u &&& 7 = u % 8 := Nat.and_two_pow_sub_one_eq_mod u 3
        rw [h2, hd] at h1
        exact h1
      have HST := Aside0.mk (hst.out.put (by decide) hge HQ1.out)
      rw [hd] at HST
      have hx := lit_at (show d < 16 by omega)
      have hd0 : 0 ≤ (d : Int) := by omega
      have hd36 : (d : Int) < 36 := by omega
      clear hst hd hge
      go_wp2
      go_roundw
      case rel => exact ⟨u / 8, (q : Int), (by first | rfl | (congr 1; omega)), (by first | rfl | (congr 1; omega)), HST, by omega, by omega⟩
      case measure => simp only [nv]; omega
    · have hlt : (u : Int) < 8 := by omega
      obtain ⟨R, hR, hlen⟩ := hst.out.last (show u < 8 by omega) hu1 HQ1.out
      have hx := lit_at (show u < 16 by omega)
      have hu36 : (u : Int) < 36 := by omega
      have hcv := hR.read (by omega) hlen _ rfl
      have hsl := fun W => HSL.out q W hq65
      have HB := Aside0.mk hR.bel
      clear hst hR hlen hge
      go_wp2
      go_ret2
      exact ⟨by first | rfl | trace_state, HB.out⟩
end Go.Proofs.YthjbopjclkbhfaaGreatDoor.Given
