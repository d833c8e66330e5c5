/- Several texts of this claim in one. -/
import Derived.Test.YtldjigfnagfalaaGreatDoorGvWb
import Derived.Deep.RegionHeld3
/- Rows of numbers as the law holds them, and how WrEncode reads them. -/
namespace Go.Proofs.YtldjigfnagfalaaGreatDoor.Given
open Go.RowKit Go.Proofs.YtldjigfnagfalaaGreatDoorW.PrintWords Go.Proofs.YtldjigfnagfalaaGreatDoorW.PrintMore Go.Proofs.YtldjigfnagfalaaGreatDoor.PWi
set_option linter.unusedVariables false
/-- A number's four cells. -/
def NK.cells (k : NK) (v : Nat) : List Value := [.int .u8 (k.code.toNat : Int), .int .u64 (k.wide v : Int), .string ⟨#[]⟩, .slice none 0 0]
def kF (k : NK) : Kd Nat where
  sz := 4
  E := []
  K := fun _ v cs => cs = k.cells v
  M := fun _ _ _ v cs => cs = k.cells v
  K_len := fun h => by rw [h]; rfl
  K_one := fun h u hu => by
    rw [h] at hu
    simp only [NK.cells, List.mem_cons, List.not_mem_nil, or_false] at hu
    rcases hu with rfl | rfl | rfl | rfl <;> rfl
  K_below := fun _ h => h
  K_of_M := fun h => h
  M_mono := fun _ h => h
  M_bound := fun h => h
  M_move := fun _ h => h
  M_lower := fun _ h => h
theorem kF_C (k : NK) {w : World} {A : Option Addr} {n : Nat} {vs : List Nat} (h : (kF k).C w A n vs) : k27.C w A n (vs.map k.el) := by
  obtain ⟨h1, h2, h3⟩ := h
  refine ⟨by simpa using h1, h2, fun hn => ?_⟩
  obtain ⟨ad, hA, hc⟩ := h3 hn
  refine ⟨ad, hA, fun j p hp => ?_⟩
  rw [List.getElem?_map] at hp
  obtain ⟨v, hv, rfl⟩ := Option.map_eq_some_iff.1 hp
  obtain ⟨c, hl, hk, hcells⟩ := hc j v hv
  refine ⟨c, hl, ?_, hcells⟩
  obtain rfl : c = k.cells v := hk
  exact k27_mk w (k.el v) (A3 := none) (c3 := 0) (Nat.le_refl _) ⟨rfl, by simp [NK.el], fun h => absurd h (by simp [NK.el])⟩
/-- The one value that is handed to WrEncode. -/
theorem one_C (k : NK) {w : World} {g : Nat} {A : Option Addr} {vs : List Nat} {m : Nat} (hm : vs.length ≤ m) (hg : w.heap[g]? = some (.cells #[.int .u8 97, .int .u64 0, .string ⟨#[k.code]⟩, .slice A vs.length m] 27 (0, 0))) (hC : (kF k).C w A vs.length vs) :
    k27.C w (some ⟨g, 0, none⟩) 1 [⟨97, 0, ⟨#[k.code]⟩, vs.map k.el⟩] := by
  refine ⟨rfl, by decide, fun _ => ⟨_, rfl, fun j p hp => ?_⟩⟩
  obtain ⟨hj, hp⟩ := List.getElem?_eq_some_iff.1 hp
  obtain rfl : j = 0 := by simpa using hj
  obtain rfl : (⟨97, 0, ⟨#[k.code]⟩, vs.map k.el⟩ : S27) = p := hp
  have hl : (vs.map k.el).length = vs.length := List.length_map ..
  refine ⟨[.int .u8 97, .int .u64 0, .string ⟨#[k.code]⟩, .slice A (vs.map k.el).length m], rfl, k27_mk w ⟨97, 0, ⟨#[k.code]⟩, vs.map k.el⟩ (by rw [hl]; exact hm) (by rw [hl]; exact kF_C k hC), fun i u hu => ?_⟩
  rw [hl] at hu
  rw [Lib.addr_add, Lib.cell_of_heap hg]
  rcases i with _ | _ | _ | _ | i <;> simp_all
end Go.Proofs.YtldjigfnagfalaaGreatDoor.Given
/- The law on arrays of numbers, walked. -/
namespace Go.Proofs.YtldjigfnagfalaaGreatDoor.Given
open Go.RowKit Go.Proofs.YtldjigfnagfalaaGreatDoorW.PrintWords Go.Proofs.YtldjigfnagfalaaGreatDoorW.PrintLast Go.Proofs.YtldjigfnagfalaaGreatDoorW.PrintMore Go.Proofs.YtldjigfnagfalaaGreatDoor.PWi
set_option linter.unusedVariables false
theorem rd_cast' (vs : List Nat) (j : Nat) (hj : j < vs.length) : rd (vs.map fun n : Nat => (n : Int)) (j : Int) = ((vs.getD j 0 : Nat) : Int) := by
  unfold rd
  rw [Int.toNat_natCast, List.getD_eq_getElem?_getD, List.getElem?_eq_getElem (by simpa using hj), List.getD_eq_getElem?_getD, List.getElem?_eq_getElem hj]
  simp
theorem take_succ_getD' {ns : List Nat} {j : Nat} (h : j < ns.length) : ns.take (j + 1) = ns.take j ++ [ns.getD j 0] := by
  rw [List.take_succ_eq_append_getElem h, List.getD_eq_getElem?_getD, List.getElem?_eq_getElem h]
  rfl
theorem info27' : (Tryz.prog.info? 27).map (fun i => (i.zero, i.size, i.bytes)) = some (some (.agg #[.int .u8 0, .int .u64 0, .string ⟨#[]⟩, .slice none 0 0]), 4, 56) := by kernel_rfl
def f3_16.T : Bool × List (List Nat × List Nat) := (true, [([], []), ([0], [0]), ([], []), ([2], [2]), ([], []), ([3, 4], [3, 4]), ([1, 5], [1, 5]), ([], []), ([7], [7]), ([6, 8, 6], [6, 8]), ([], []), ([10], [10]), ([], []), ([11, 12], [11, 12]), ([9, 13, 9], [9, 13]), ([0, 1, 2, 3, 4, 5, 6, 7, 8, 9, 10, 11, 12, 13, 14], []), ([15, 14, 14, 0, 1, 2, 3, 4, 5, 6, 7, 8, 9, 10, 11, 12, 13, 14], [14, 15])])
def f3_16.B : List Nat := [0, 1, 0, 4, 0, 28, 63, 0, 128, 511, 0, 1024, 0, 7168, 16383, 32767, 65535]
theorem f3_16.tab : rtab .any (opsOf Tryz.f3 16) = f3_16.T := by kernel_rfl
theorem f3_16.bits : waitsOk f3_16.T.2 f3_16.B = true := by kernel_rfl
def f3_21.T : Bool × List (List Nat × List Nat) := (true, [([], []), ([0], [0]), ([1], [1]), ([1, 2], [1, 2]), ([3, 1], [3]), ([4], [4]), ([5, 4], [4, 5]), ([4], [4]), ([6, 7, 4], [4, 6, 7]), ([4, 8], [4, 8]), ([9, 4], [9]), ([10], [10]), ([10], [10]), ([12, 10], [10, 12]), ([13, 10], [10, 13]), ([10], [10]), ([15, 10], [10, 15]), ([14, 16, 10], [10, 14, 16]), ([10], [10]), ([17, 18, 10, 10], [10, 17, 18]), ([10], [10]), ([10], [10]), ([20, 21, 10], [10, 20, 21]), ([19, 22, 10], [10, 19, 22]), ([10], [10]), ([23, 24, 10], [10, 23, 24]), ([10], [10]), ([10], [10]), ([26, 27, 10], [10, 26, 27]), ([25, 28, 10], [10, 25, 28]), ([11, 29, 10], [10, 11, 29]), ([10, 30], [10, 30]), ([31, 19], [31]), ([32], [32]), ([33, 32], [32, 33]), ([32], [32]), ([35, 32], [32, 35]), ([32], [32]), ([37, 32], [32, 37]), ([36, 38, 32], [32, 36, 38]), ([32], [32]), ([39, 40, 32, 32], [32, 39, 40]), ([34, 41, 32], [32, 34, 41]), ([32, 42], [32, 42]), ([43, 41, 0, 1, 2, 3, 4, 5, 6, 7, 8, 9, 10, 11, 12, 13, 14, 15, 16, 17, 18, 19, 20, 21, 22, 23, 24, 25, 26, 27, 28, 29, 30, 31, 32, 33, 34, 35, 36, 37, 38, 39, 40, 41, 42, 43], [43])])
def f3_21.B : List Nat := [0, 1, 3, 7, 15, 31, 63, 31, 255, 511, 1023, 2047, 2047, 6143, 14335, 2047, 34815, 129023, 2047, 522239, 2047, 2047, 3147775, 8386559, 2047, 33552383, 2047, 2047, 201328639, 536868863, 1073741823, 2147483647, 4294967295, 8589934591, 17179869183, 8589934591, 42949672959, 8589934591, 146028888063, 523986010111, 8589934591, 2173253451775, 4398046511103, 8796093022207, 17592186044415]
theorem f3_21.tab : rtab .any (opsOf Tryz.f3 21) = f3_21.T := by kernel_rfl
theorem f3_21.bits : waitsOk f3_21.T.2 f3_21.B = true := by kernel_rfl
theorem law_nums (z js ns sz al m ns1 : Nat) (hz4 : z ≤ 4) (hjn : js ≤ ns) (hnl : ns ≤ 1600) (hs8 : sz ≤ 8) (ha1 : 4 + z + ns = al) (hm : 4 + z + js = m) (hn1 : ns1 = ns + sz) :
    wrap64 (4 + (z : Int)) = ((4 + z : Nat) : Int) ∧ wrap64 (((4 + z : Nat) : Int) + (js : Int)) = (m : Int) ∧ (m : Int) ≤ (al : Int) ∧ (4 : Int) ≤ (m : Int) ∧ (4 : Int) ≤ (al : Int) ∧ ns1 < 4294967296 ∧ ns < 4294967296 ∧ ns1 ≤ 1608 := by
  unfold wrap64
  refine ⟨?_, ?_, ?_, ?_, ?_, ?_, ?_, ?_⟩ <;> omega
theorem count_bs (n : Nat) (hn : n < 4294967296) (big : Bool) (w : World) :
    Calls Tryz.prog 8 #[.int .i64 n, .bool big] w fun e w' => e = .returned (.string (bsOf (cntBytes big n))) ∧ Below w.heap.size w w' := wrCount_calls n hn big w
theorem cat_bs (a b c : List UInt8) (h : a.length + b.length ≤ 9223372036854775807) (hc : a ++ b = c) (W : World) : (binOp BinOp.add 9 (.string (bsOf a)) (.string (bsOf b))).run Tryz.prog W = .ok (.string (bsOf c)) W := by
  have h1 : (Op.stringOp .add (bsOf a) (bsOf b)).run Tryz.prog W = .ok (.string (bsOf a ++ bsOf b)) W := run_string_add_sum W _ _ h
  rw [bsOf_append, hc] at h1
  exact h1
theorem law_lens (x1 x2 bl x4 y1 y2 al ns z sz : Nat) (h1 : x1 = 4) (h2 : x2 ≤ al) (h4 : x4 ≤ al) (e1 : y1 = x1 + x2) (e2 : y2 = y1 + bl) (hb : bl = sz) (hs : sz ≤ 8) (hn : ns ≤ 1600) (hz : z ≤ 4) (ha : 4 + z + ns = al) :
    x1 + x2 ≤ 9223372036854775807 ∧ y1 + bl ≤ 9223372036854775807 ∧ y2 + x4 ≤ 9223372036854775807 := by omega
theorem wrap_small (n : Nat) (h : n ≤ 200) : wrap64 ((n : Int) + 1) = (n : Int) + 1 := by unfold wrap64; omega
theorem wrap_num (n : Nat) (h : n < 4294967296) : wrap64 (n : Int) = (n : Int) := by unfold wrap64; omega
theorem sl_mid (al : List UInt8) (m : Nat) (h4 : (4 : Int) ≤ (m : Int)) (hm : (m : Int) ≤ (al.length : Int)) (W : World) :
    (Instr.slice 9 (.string (bsOf al)) (some (.int .i64 4)) (some (.int .i64 (m : Int))) none).run Tryz.prog W = .ok (.string (bsOf ((al.drop 4).take (m - 4)))) W := by
  have h := run_slice_string (P := Tryz.prog) W 9 (bsOf al) .i64 .i64 4 (m : Int) Tryz.underlying9 (by decide) h4 (by rw [bsOf_size]; exact hm)
  rw [h, bsOf_extract, Int.toNat_natCast]
  rfl
theorem sl_from (al : List UInt8) (m : Nat) (hm : (m : Int) ≤ (al.length : Int)) (W : World) :
    (Instr.slice 9 (.string (bsOf al)) (some (.int .i64 (m : Int))) none none).run Tryz.prog W = .ok (.string (bsOf (al.drop m))) W := by
  have h := run_slice_string_l (P := Tryz.prog) W 9 (bsOf al) Tryz.underlying9 .i64 (m : Int) (Int.natCast_nonneg m) (by rw [bsOf_size]; exact hm)
  rw [h, bsOf_extract, Int.toNat_natCast, bsOf_size, List.take_of_length_le (by simp)]
theorem sl_to (al c : List UInt8) (hc : al.take 4 = c) (hm : (4 : Int) ≤ (al.length : Int)) (W : World) :
    (Instr.slice 9 (.string (bsOf al)) none (some (.int .i64 4)) none).run Tryz.prog W = .ok (.string (bsOf c)) W := by
  have h := run_slice_string_h (P := Tryz.prog) W 9 (bsOf al) Tryz.underlying9 .i64 4 (by decide) (by rw [bsOf_size]; exact hm)
  rw [h, bsOf_extract, ← hc]
  rfl
theorem row_take (k : NK) {W : World} {base : Nat} {ok : Nat → Prop} {A : Option Addr} {n m j : Nat} {vs : List Nat} (h : (kF k).R 27 W base ok (.slice A n m) vs) (hj : j ≤ vs.length) : ReadsRow ((kF k).K W) 4 W A j (vs.take j) := by
  have h1 := Kd.C_take (Kd.R_reads' h).2.2 hj
  have e : (vs.take j).length = j := by simp; omega
  rw [e] at h1
  exact h1
theorem row_drop (k : NK) {W : World} {base : Nat} {ok : Nat → Prop} {A : Option Addr} {n m j : Nat} {vs : List Nat} (h : (kF k).R 27 W base ok (.slice A n m) vs) (hj : j ≤ vs.length) : ReadsRow ((kF k).K W) 4 W (if m = j then A else A.map (·.add (j * 4))) (vs.length - j) (vs.drop j) := by
  have h0 := Kd.R_reads' h
  have h1 := Kd.C_drop (c := m) h0.2.2 hj (by have := h0.1; have := h0.2.1; omega)
  rw [List.length_drop] at h1
  exact h1
set_option maxHeartbeats 16000000 in
set_option maxRecDepth 100000 in
theorem law_walk (k : NK) (big : Bool) (vs : List Nat) (hv : ∀ v ∈ vs, v < 18446744073709551616) (hl : vs.length ≤ 200) (v : Nat) (hv1 : v < 18446744073709551616) (a2 a3 : Nat) (h2 : a2 < 256) (h3 : a3 < 256)
    (hk : bt (⟨#[121, 110, 113, 105, 117, 120, 116, 100, 104]⟩ : ByteArray) ((a2 % 9 : Nat) : Int) = (k.code.toNat : Int)) (A0 : Option Addr) (c0 : Nat) (hc0 : vs.length ≤ c0) (w : World) (hC : Kd.C (Kd.int .u64) w A0 vs.length (vs.map fun n : Nat => (n : Int))) :
    Calls Tryz.prog 3 #[.slice A0 vs.length c0, .int .u64 v, .int .u8 a2, .int .u8 a3, .bool big] w fun e w' => e = .returned (.bool true) ∧ Below w.heap.size w w' := by
  have HC := Aside0.mk hC
  have HV := Aside0.mk hv
  have HK := Aside0.mk hk
  clear hC hv hk
  obtain ⟨i9, hi9⟩ : ∃ i9 : Int, ((a2 % 9 : Nat) : Int) = i9 := ⟨_, rfl⟩
  have hm9 : Int.tmod (a2 : Int) 9 = i9 := by rw [Int.tmod_eq_emod_of_nonneg (by omega), ← hi9]; rfl
  have p11 := eq_true (show 0 ≤ i9 by omega)
  have q11 := eq_true (show i9 < (9 : Int) by omega)
  have hx11 := bt_at (⟨#[121, 110, 113, 105, 117, 120, 116, 100, 104]⟩ : ByteArray) i9
  rw [hi9] at HK
  clear hi9
  have hcv : (convert 24 9 (.slice (some ⟨w.heap.size, 0, none⟩) 1 1)).run Tryz.prog (w.alloc (.cells #[.int .u8 (bt (⟨#[121, 110, 113, 105, 117, 120, 116, 100, 104]⟩ : ByteArray) i9)] 5)) = .ok (.string ⟨#[k.code]⟩) (w.alloc (.cells #[.int .u8 (bt (⟨#[121, 110, 113, 105, 117, 120, 116, 100, 104]⟩ : ByteArray) i9)] 5)) := by
    rw [HK.out, ← one_str k]
    exact own_string (xs := [(k.code.toNat : Int)]) (base := 0) (n := 1) (e' := 5) Tryz.underlying24 Tryz.underlying5 Tryz.underlying9 ⟨rfl, .inr ⟨w.heap.size, 1, _, rfl, Nat.zero_le _, heap_alloc_new w _, by decide, by unfold maxLen; decide, rfl, rfl⟩⟩
  go_enter Tryz.func3, Tryz.ntmps3
  go_wp2_with fail
  rw [HK.out]
  clear hcv hm9 p11 q11 hx11
  obtain ⟨g, hg⟩ : ∃ g, w.heap.size + 1 = g := ⟨_, rfl⟩
  have hBK0 : ((w.alloc (.cells #[.int .u8 (k.code.toNat : Int)] 5)).alloc (.cells #[.int .u8 97, .int .u64 0, .string ⟨#[k.code]⟩, .slice none 0 0] 27)).heap[w.heap.size + 1]? = some (.cells #[.int .u8 97, .int .u64 0, .string ⟨#[k.code]⟩, .slice none 0 0] 27 (0, 0)) := by
    have := heap_alloc_new (w.alloc (.cells #[.int .u8 (k.code.toNat : Int)] 5)) (.cells #[.int .u8 97, .int .u64 0, .string ⟨#[k.code]⟩, .slice none 0 0] 27)
    simpa using this
  have BK0 := Aside0.mk hBK0
  have HB0 := Aside0.mk (below_alloc (below_alloc (Below.refl _ w) (.cells #[.int .u8 (k.code.toNat : Int)] 5)) (.cells #[.int .u8 97, .int .u64 0, .string ⟨#[k.code]⟩, .slice none 0 0] 27))
  clear hBK0
  rw [hg] at BK0 ⊢
  go_loopw [42] (fun i wr => ∃ j : Nat, j ≤ vs.length ∧ i = .int .i64 j ∧ ∃ u, Aside0 (wr.heap[g]? = some (.cells #[.int .u8 97, .int .u64 0, .string ⟨#[k.code]⟩, u] 27 (0, 0))) ∧ Aside0 ((kF k).R 27 wr w.heap.size (fun k_ => k_ ≠ g) u (vs.take j)) ∧ Aside0 (Below w.heap.size w wr)) (fun i _ => vs.length - (intOf i).toNat)
  case atStart => exact ⟨0, Nat.zero_le _, rfl, .slice none 0 0, BK0, ⟨Kd.R_nil _ _ _ _ _⟩, HB0⟩
  case round =>
    clear BK0 HB0
    obtain ⟨j, hj, rfl, u, BK, HO, HB⟩ := hrel
    have hgw : g < wr.heap.size := Lib.lt_of_heap BK.out
    by_cases hlt : j < vs.length
    · have hvj : vs.getD j 0 < 18446744073709551616 := by
        rw [List.getD_eq_getElem?_getD, List.getElem?_eq_getElem hlt]
        exact HV.out _ (List.getElem_mem hlt)
      obtain ⟨ad, hA, d0⟩ := Kd.at_int (Kd.C_below HC.out HB.out) (j : Int) (by omega) (by omega)
      rw [rd_cast' vs j hlt] at d0
      simp only [Int.toNat_natCast] at d0
      cases hA
      obtain ⟨vj, hvj2⟩ : ∃ x, vs.getD j 0 = x := ⟨_, rfl⟩
      rw [hvj2] at d0 hvj
      have HVJ := Aside0.mk hvj2
      clear hvj2
      go_wp2_with fail
      clear d0
      refine (wrNumber_calls k vj hvj big _).mono ?_
      rintro r W1 ⟨rfl, hb⟩
      have hgW1 : g < W1.heap.size := Nat.lt_of_lt_of_le hgw hb.size
      have BK1 := Aside0.mk (blk_alloc (blk_below BK.out hb) (.cells #[.int .u8 (k.code.toNat : Int), .int .u64 (k.wide vj : Int), .string ⟨#[]⟩, .slice none 0 0] 27))
      have HO1 := Aside0.mk (Kd.R_alloc (Kd.R_below HO.out hb) (.cells #[.int .u8 (k.code.toNat : Int), .int .u64 (k.wide vj : Int), .string ⟨#[]⟩, .slice none 0 0] 27))
      have HB1 := Aside0.mk (below_alloc (below_step HB.out hb) (.cells #[.int .u8 (k.code.toNat : Int), .int .u64 (k.wide vj : Int), .string ⟨#[]⟩, .slice none 0 0] 27))
      have c3 : W1.cell? ⟨g, 3, none⟩ = some u := (blk_cell (blk_below BK.out hb) 3).trans rfl
      clear hb BK HO HB
      have hng : g ≠ W1.heap.size := by omega
      go_wp2_with ((with_reducible refine gate_builtin (b := .append) (xs := #[.tmp 54, .tmp 56]) rfl ?_); at_builtin; have hz2 : W1.heap.size + 1 = (W1.alloc (.cells #[.int .u8 (k.code.toNat : Int), .int .u64 (k.wide vj : Int), .string ⟨#[]⟩, .slice none 0 0] 27)).heap.size := (by simp); rw [hz2]; generalize W1.alloc (.cells #[.int .u8 (k.code.toNat : Int), .int .u64 (k.wide vj : Int), .string ⟨#[]⟩, .slice none 0 0] 27) = W2 at HO1 BK1 HB1 hz2 ⊢; refine Kd.R_append (kF k) (w0 := w) w.heap.size rfl (.tmp 54) (.tmp 56) 25 27 (.agg #[.int .u8 0, .int .u64 0, .string ⟨#[]⟩, .slice none 0 0]) 56 rfl Tryz.underlying25 info27' rfl (show 0 < 4 by decide) (by omega) u (vs.take j) vj [.int .u8 (k.code.toNat : Int), .int .u64 (k.wide vj : Int), .string ⟨#[]⟩, .slice none 0 0] (fun k_ => k_ ≠ g) (fun k_ => k_ ≠ g ∧ some k_ ≠ (u : Value).ownBlock) rfl rfl rfl (fun _ hk => hk) ?aF HO1.out HB1.out HB1.out.size ?aL ?_; (case aF => intro k_ hk_; omega); (case aL => have := List.length_take_le j vs; omega); intro v4 w4 ho hb4 hg4 hat; have HO4 := Aside0.mk ho; have HB4 := Aside0.mk hb4; have BK4 := Aside0.mk (blk_grown BK1.out hg4 (Kd.R_away HO1.out (fun _ hk => hk))); clear ho hb4 hg4 hat; obtain ⟨Ao4, co4, eo4⟩ := Kd.R_slice HO4.out; obtain ⟨ln4, hln4⟩ : ∃ x, (vs.take j ++ [vj]).length = x := ⟨_, rfl⟩; rw [hln4] at eo4; subst eo4; have hs4 : w4.cell? ⟨g, 3, none⟩ = some u := (blk_cell BK4.out 3).trans rfl; have hf4 := blk_frozen BK4.out 3)
      have HB5 := Aside0.mk (HB4.out.setCell (p := ⟨g, 3, none⟩) (show w.heap.size ≤ g by omega) (.slice Ao4 ln4 co4))
      have BK5 := Aside0.mk (Lib.heap_setCell_same (i := 3) BK4.out (.slice Ao4 ln4 co4))
      have HO5 := Aside0.mk (Kd.R_far (p := ⟨g, 3, none⟩) HO4.out (fun _ hk => hk) (.slice Ao4 ln4 co4))
      clear hs4 hf4 HB4 BK4 HO4 HO1 BK1 HB1
      go_wp2_with fail
      go_roundw
      case rel => exact ⟨j + 1, by omega, by go_num, .slice Ao4 ln4 co4, BK5, ⟨by rw [take_succ_getD' hlt, HVJ.out]; exact HO5.out⟩, HB5⟩
      case measure => simp [intOf]; omega
    · obtain rfl : j = vs.length := by omega
      have HO0 : Aside0 ((kF k).R 27 wr w.heap.size (fun k_ => k_ ≠ g) u vs) := ⟨by have := HO.out; rwa [List.take_length] at this⟩
      clear HO
      obtain ⟨A1, m1, hu, hm1, -⟩ := Kd.R_reads HO0.out
      subst hu
      obtain ⟨jj, hjj⟩ : ∃ jj : Nat, a3 % (vs.length + 1) = jj := ⟨_, rfl⟩
      have hjl : jj ≤ vs.length := by have := Nat.mod_lt a3 (show 0 < vs.length + 1 by omega); omega
      have hm3 : Int.tmod (a3 : Int) ((vs.length : Int) + 1) = (jj : Int) := by
        rw [Int.tmod_eq_emod_of_nonneg (by omega), ← hjj]; rfl
      have hne : ((vs.length : Int) + 1 == 0) = false := by
        rw [beq_eq_false_iff_ne]; omega
      clear hjj
      go_wp2_with fail
      refine (wrNumber_calls k v hv1 big _).mono ?_
      rintro r W5 ⟨rfl, hb⟩
      have hgW5 : g < W5.heap.size := Nat.lt_of_lt_of_le hgw hb.size
      have BK5 := Aside0.mk (blk_below BK.out hb)
      have HO5 := Aside0.mk (Kd.R_below HO0.out hb)
      have HB5 := Aside0.mk (below_step HB.out hb)
      have c2 : W5.cell? ⟨g, 2, none⟩ = some (.string ⟨#[k.code]⟩) := (blk_cell BK5.out 2).trans rfl
      have hng : W5.heap.size ≠ g := by omega
      clear hb BK HO0 HB
      go_upto_region 16 with (fail)
      obtain ⟨q, hq⟩ : ∃ q, W5.heap.size = q := ⟨_, rfl⟩
      have hz6 : ((W5.alloc (.cells #[.int .u8 (k.code.toNat : Int), .int .u64 (k.wide v : Int), .string ⟨#[]⟩, .slice none 0 0] 27)).alloc (.cells #[.int .u8 97, .int .u64 0, .string ⟨#[k.code]⟩, .slice none 0 0] 27)).heap.size = q + 2 := by simp; omega
      have BQ : ((W5.alloc (.cells #[.int .u8 (k.code.toNat : Int), .int .u64 (k.wide v : Int), .string ⟨#[]⟩, .slice none 0 0] 27)).alloc (.cells #[.int .u8 97, .int .u64 0, .string ⟨#[k.code]⟩, .slice none 0 0] 27)).heap[q]? = some (.cells #[.int .u8 (k.code.toNat : Int), .int .u64 (k.wide v : Int), .string ⟨#[]⟩, .slice none 0 0] 27 (0, 0)) := by
        rw [Below.heap_alloc _ _ _ (by simp; omega), ← hq]; exact heap_alloc_new _ _
      have BH : ((W5.alloc (.cells #[.int .u8 (k.code.toNat : Int), .int .u64 (k.wide v : Int), .string ⟨#[]⟩, .slice none 0 0] 27)).alloc (.cells #[.int .u8 97, .int .u64 0, .string ⟨#[k.code]⟩, .slice none 0 0] 27)).heap[q + 1]? = some (.cells #[.int .u8 97, .int .u64 0, .string ⟨#[k.code]⟩, .slice none 0 0] 27 (0, 0)) := by
        have := heap_alloc_new (W5.alloc (.cells #[.int .u8 (k.code.toNat : Int), .int .u64 (k.wide v : Int), .string ⟨#[]⟩, .slice none 0 0] 27)) (.cells #[.int .u8 97, .int .u64 0, .string ⟨#[k.code]⟩, .slice none 0 0] 27)
        rw [show (W5.alloc (.cells #[.int .u8 (k.code.toNat : Int), .int .u64 (k.wide v : Int), .string ⟨#[]⟩, .slice none 0 0] 27)).heap.size = q + 1 by simp; omega] at this
        exact this
      have BG := blk_alloc (blk_alloc BK5.out (.cells #[.int .u8 (k.code.toNat : Int), .int .u64 (k.wide v : Int), .string ⟨#[]⟩, .slice none 0 0] 27)) (.cells #[.int .u8 97, .int .u64 0, .string ⟨#[k.code]⟩, .slice none 0 0] 27)
      have HR : (kF k).R 27 ((W5.alloc (.cells #[.int .u8 (k.code.toNat : Int), .int .u64 (k.wide v : Int), .string ⟨#[]⟩, .slice none 0 0] 27)).alloc (.cells #[.int .u8 97, .int .u64 0, .string ⟨#[k.code]⟩, .slice none 0 0] 27)) w.heap.size (fun k_ => k_ < q ∧ k_ ≠ g) (.slice A1 vs.length m1) vs :=
        Kd.R_alloc (Kd.R_alloc (Kd.R_mono (Kd.R_bound HO5.out) (fun k_ hk_ => ⟨by have := hk_.2.2.1; omega, hk_.1⟩)) (.cells #[.int .u8 (k.code.toNat : Int), .int .u64 (k.wide v : Int), .string ⟨#[]⟩, .slice none 0 0] 27)) (.cells #[.int .u8 97, .int .u64 0, .string ⟨#[k.code]⟩, .slice none 0 0] 27)
      have HB6 := below_alloc (below_alloc HB5.out (.cells #[.int .u8 (k.code.toNat : Int), .int .u64 (k.wide v : Int), .string ⟨#[]⟩, .slice none 0 0] 27)) (.cells #[.int .u8 97, .int .u64 0, .string ⟨#[k.code]⟩, .slice none 0 0] 27)
      rw [hq]
      obtain ⟨W6, hW6⟩ : ∃ W6, (W5.alloc (.cells #[.int .u8 (k.code.toNat : Int), .int .u64 (k.wide v : Int), .string ⟨#[]⟩, .slice none 0 0] 27)).alloc (.cells #[.int .u8 97, .int .u64 0, .string ⟨#[k.code]⟩, .slice none 0 0] 27) = W6 := ⟨_, rfl⟩
      have hqg : g < q := by omega
      rw [hW6] at hz6 BQ BH BG HR HB6 ⊢
      clear hW6 hq c2 hng
      have BQ := Aside0.mk BQ
      have BH := Aside0.mk BH
      have BG := Aside0.mk BG
      have HR := Aside0.mk HR
      have HB6 := Aside0.mk HB6
      clear BK5 HO5 HB5
      refine start_ (n := 17) (S := fun w' => w'.cell? ⟨g, 3, none⟩ = some (.slice A1 vs.length m1) ∧ w'.cell? ⟨q, 0, none⟩ = some (.int .u8 (k.code.toNat : Int)) ∧ w'.cell? ⟨q, 1, none⟩ = some (.int .u64 (k.wide v : Int)) ∧ w'.cell? ⟨q, 2, none⟩ = some (.string ⟨#[]⟩) ∧ w'.cell? ⟨q, 3, none⟩ = some (.slice none 0 0) ∧ w'.cell? ⟨q + 1, 3, none⟩ = some (.slice none 0 0)) (ds := [16]) #[false, false, false, false, false, false, false, false, false, false, false, false, false, false, false, false, false] (by kernel_rfl) rfl rfl ⟨(blk_cell BG.out 3).trans rfl, (blk_cell BQ.out 0).trans rfl, (blk_cell BQ.out 1).trans rfl, (blk_cell BQ.out 2).trans rfl, (blk_cell BQ.out 3).trans rfl, (blk_cell BH.out 3).trans rfl⟩ (fun hHeld => ?_)
      refine with_tabW f3_16.tab f3_16.bits (fun HT_ HW_ => ?_)
      have BG := Aside0.mk (blk_drew BG.out)
      have BQ := Aside0.mk (blk_drew BQ.out)
      have BH := Aside0.mk (blk_drew BH.out)
      have HR := Aside0.mk (Kd.R_drew HR.out)
      have HB6 := Aside0.mk HB6.out.drew
      have hz7 : q + 2 ≤ W6.drew.heap.size := (by have : W6.drew.heap.size = W6.heap.size := rfl; omega)
      generalize W6.drew = W7 at BG BQ BH HR HB6 hz7 hHeld ⊢
      refine pure_ (i := 0) (N := some 76) (v := ?_) (a' := ?_) #[true, false, false, false, false, false, false, false, false, false, false, false, false, false, false, false, false] rfl rfl (any_of HT_.out (by kernel_rfl)) (fun _ _ _ h => h) (Or.inl ⟨by rfl, ?_⟩) ?_ ?_
      rotate_left
      · intro w'
        go_simp
        with_reducible rfl
      rotate_left
      · simp only [Act.put, List.setIfInBounds_toArray, List.set_cons_zero, List.set_cons_succ]
        rfl
      refine pure_ (i := 2) (N := some 78) (v := ?_) (a' := ?_) #[true, false, true, false, false, false, false, false, false, false, false, false, false, false, false, false, false] rfl rfl (any_of HT_.out (by kernel_rfl)) (fun _ _ _ h => h) (Or.inl ⟨by rfl, ?_⟩) ?_ ?_
      rotate_left
      · intro w'
        go_simp
        with_reducible rfl
      rotate_left
      · simp only [Act.put, List.setIfInBounds_toArray, List.set_cons_zero, List.set_cons_succ]
        rfl
      refine pure_ (i := 4) (N := some 80) (v := ?_) (a' := ?_) #[true, false, true, false, true, false, false, false, false, false, false, false, false, false, false, false, false] rfl rfl (any_of HT_.out (by kernel_rfl)) (fun _ _ _ h => h) (Or.inl ⟨by rfl, ?_⟩) ?_ ?_
      rotate_left
      · intro w'
        go_simp
        with_reducible rfl
      rotate_left
      · simp only [Act.put, List.setIfInBounds_toArray, List.set_cons_zero, List.set_cons_succ]
        rfl
      refine pure_ (i := 10) (N := some 86) (v := ?_) (a' := ?_) #[true, false, true, false, true, false, false, false, false, false, true, false, false, false, false, false, false] rfl rfl (any_of HT_.out (by kernel_rfl)) (fun _ _ _ h => h) (Or.inl ⟨by rfl, ?_⟩) ?_ ?_
      rotate_left
      · intro w'
        go_simp
        with_reducible rfl
      rotate_left
      · simp only [Act.put, List.setIfInBounds_toArray, List.set_cons_zero, List.set_cons_succ]
        rfl
      refine pure_ (i := 12) (N := some 88) (v := ?_) (a' := ?_) #[true, false, true, false, true, false, false, false, false, false, true, false, true, false, false, false, false] rfl rfl (any_of HT_.out (by kernel_rfl)) (fun _ _ _ h => h) (Or.inl ⟨by rfl, ?_⟩) ?_ ?_
      rotate_left
      · intro w'
        go_simp
        with_reducible rfl
      rotate_left
      · simp only [Act.put, List.setIfInBounds_toArray, List.set_cons_zero, List.set_cons_succ]
        rfl
      refine take_ (i := 1) (N := some 77) (v := ?_) (a' := ?_) #[true, true, true, false, true, false, false, false, false, false, true, false, true, false, false, false, false] rfl rfl (take_ofW HT_.out HW_.out (by kernel_rfl)) (fun _ _ _ h => h) (Or.inl ⟨by rfl, ?_⟩) hHeld ?_ ?_
      rotate_left
      · rintro w' ⟨s0, s1, s2, s3, s4, s5⟩
        go_simp
        with_reducible rfl
      rotate_left
      · simp only [Act.put, List.setIfInBounds_toArray, List.set_cons_zero, List.set_cons_succ]
        rfl
      refine take_ (i := 3) (N := some 79) (v := ?_) (a' := ?_) #[true, true, true, true, true, false, false, false, false, false, true, false, true, false, false, false, false] rfl rfl (take_ofW HT_.out HW_.out (by kernel_rfl)) (fun _ _ _ h => h) (Or.inl ⟨by rfl, ?_⟩) hHeld ?_ ?_
      rotate_left
      · rintro w' ⟨s0, s1, s2, s3, s4, s5⟩
        go_simp
        with_reducible rfl
      rotate_left
      · simp only [Act.put, List.setIfInBounds_toArray, List.set_cons_zero, List.set_cons_succ]
        rfl
      obtain ⟨i27, hi27, _, hsz27, _⟩ := info_parts info27'
      have hcut5 := cut_to (P := Tryz.prog) 25 27 .i64 Tryz.underlying25 hi27 A1 vs.length m1 (jj : Int) (by omega) (by omega) hm1
      have hcut13 := cut_from (P := Tryz.prog) 25 27 .i64 Tryz.underlying25 hi27 4 hsz27 A1 vs.length m1 (jj : Int) (by omega) (by omega)
      simp only [Int.toNat_natCast] at hcut5 hcut13
      obtain ⟨A13, hA13⟩ : ∃ x, x = (if m1 = jj then A1 else A1.map (·.add (jj * 4))) := ⟨_, rfl⟩
      obtain ⟨c13, hc13⟩ : ∃ x, x = m1 - jj := ⟨_, rfl⟩
      rw [← hA13, ← hc13] at hcut13
      have HA13 := Aside0.mk hA13
      clear hA13 hc13 hi27 hsz27
      refine pure_ (i := 5) (N := some 81) (v := ?_) (a' := ?_) #[true, true, true, true, true, true, false, false, false, false, true, false, true, false, false, false, false] rfl rfl (any_of HT_.out (by kernel_rfl)) (fun _ _ _ h => h) (Or.inl ⟨by rfl, ?_⟩) ?_ ?_
      rotate_left
      · intro w'
        go_simp
        with_reducible rfl
      rotate_left
      · simp only [Act.put, List.setIfInBounds_toArray, List.set_cons_zero, List.set_cons_succ]
        rfl
      refine take_ (i := 7) (N := some 83) (v := ?_) (a' := ?_) #[true, true, true, true, true, true, false, true, false, false, true, false, true, false, false, false, false] rfl rfl (take_ofW HT_.out HW_.out (by kernel_rfl)) (fun _ _ _ h => h) (Or.inl ⟨by rfl, ?_⟩) hHeld ?_ ?_
      rotate_left
      · rintro w' ⟨s0, s1, s2, s3, s4, s5⟩
        go_simp
        with_reducible rfl
      rotate_left
      · simp only [Act.put, List.setIfInBounds_toArray, List.set_cons_zero, List.set_cons_succ]
        rfl
      refine take_ (i := 11) (N := some 87) (v := ?_) (a' := ?_) #[true, true, true, true, true, true, false, true, false, false, true, true, true, false, false, false, false] rfl rfl (take_ofW HT_.out HW_.out (by kernel_rfl)) (fun _ _ _ h => h) (Or.inl ⟨by rfl, ?_⟩) hHeld ?_ ?_
      rotate_left
      · rintro w' ⟨s0, s1, s2, s3, s4, s5⟩
        go_simp
        with_reducible rfl
      rotate_left
      · simp only [Act.put, List.setIfInBounds_toArray, List.set_cons_zero, List.set_cons_succ]
        rfl
      refine pure_ (i := 13) (N := some 89) (v := ?_) (a' := ?_) #[true, true, true, true, true, true, false, true, false, false, true, true, true, true, false, false, false] rfl rfl (any_of HT_.out (by kernel_rfl)) (fun _ _ _ h => h) (Or.inl ⟨by rfl, ?_⟩) ?_ ?_
      rotate_left
      · intro w'
        go_simp
        with_reducible rfl
      rotate_left
      · simp only [Act.put, List.setIfInBounds_toArray, List.set_cons_zero, List.set_cons_succ]
        rfl
      refine join_ (σ := Value × Value) 4 #[true, true, true, true, true, true, true, true, true, false, true, true, true, true, false, false, false] (fun s_ => [(82, s_.1), (84, s_.2)]) (fun s_ w' => (w'.cell? ⟨g, 3, none⟩ = some (.slice A1 vs.length m1) ∧ w'.cell? ⟨q, 0, none⟩ = some (.int .u8 (k.code.toNat : Int)) ∧ w'.cell? ⟨q, 1, none⟩ = some (.int .u64 (k.wide v : Int)) ∧ w'.cell? ⟨q, 2, none⟩ = some (.string ⟨#[]⟩) ∧ w'.cell? ⟨q, 3, none⟩ = some (.slice none 0 0) ∧ w'.cell? ⟨q + 1, 3, none⟩ = some (.slice none 0 0)) ∧ w'.heap[g]? = some (.cells #[.int .u8 97, .int .u64 0, .string ⟨#[k.code]⟩, .slice A1 vs.length m1] 27 (0, 0)) ∧ w'.heap[q + 1]? = some (.cells #[.int .u8 97, .int .u64 0, .string ⟨#[k.code]⟩, .slice none 0 0] 27 (0, 0)) ∧ w'.heap[q]? = some (.cells #[.int .u8 (k.code.toNat : Int), .int .u64 (k.wide v : Int), .string ⟨#[]⟩, .slice none 0 0] 27 (0, 0)) ∧ (kF k).R 27 w' w.heap.size (fun k_ => k_ < q ∧ k_ ≠ g) (.slice A1 vs.length m1) vs ∧ (kF k).R 27 w' w.heap.size (fun k_ => q + 2 ≤ k_) s_.1 (vs.take jj) ∧ (kF k).R 27 w' w.heap.size (fun k_ => q + 2 ≤ k_) s_.2 [v] ∧ Below w.heap.size w w' ∧ q + 2 ≤ w'.heap.size) ?cont_ ?_
      rotate_left
      · intro hCont
        refine two_ (i := 6) (j := 8) (Ni := some 82) (Nj := some 84) #[true, true, true, true, true, true, true, true, false, false, true, true, true, true, false, false, false] #[true, true, true, true, true, true, false, true, true, false, true, true, true, true, false, false, false] rfl rfl rfl rfl (two_of HT_.out (by kernel_rfl)) (by decide) (by decide) (fun K hK => ?_) (fun K hK => ?_)
        · refine Kd.R_append_rows_step (kF k) (w0 := w) w.heap.size (by rfl) (.tmp 77) (.tmp 81) 25 27 (.agg #[.int .u8 0, .int .u64 0, .string ⟨#[]⟩, .slice none 0 0]) 56 rfl Tryz.underlying25 info27' rfl (show 0 < 4 by decide) (by omega) (.slice none 0 0) ([] : List Nat) (vs.take jj) A1 jj m1 (fun k_ => q + 2 ≤ k_) (fun k_ => q + 2 ≤ k_) rfl rfl (Kd.R_nil _ _ _ _ _) (row_take k HR.out (by omega)) (fun _ _ h => h) (fun _ h => ⟨h, by simp [Value.ownBlock]⟩) (fun _ h => by omega) HB6.out HB6.out.size (by simp; omega) ?_
          intro v82 W8 ho hb hg hat
          have BG := Aside0.mk (blk_grown BG.out hg (by simp [Value.ownBlock]))
          have BQ := Aside0.mk (blk_grown BQ.out hg (by simp [Value.ownBlock]))
          have BH := Aside0.mk (blk_grown BH.out hg (by simp [Value.ownBlock]))
          have HR := Aside0.mk (Kd.R_grown2 HR.out rfl hg (by simp [Value.ownBlock]))
          have HB6 := Aside0.mk hb
          have hz7 : q + 2 ≤ W8.heap.size := Nat.le_trans hz7 hg.size
          have HP := Aside0.mk ho
          clear ho hb hg hat
          refine hK.out _ _ ⟨(blk_cell BG.out 3).trans rfl, (blk_cell BQ.out 0).trans rfl, (blk_cell BQ.out 1).trans rfl, (blk_cell BQ.out 2).trans rfl, (blk_cell BQ.out 3).trans rfl, (blk_cell BH.out 3).trans rfl⟩ (fun hHeld => ?_)
          clear hK K
          refine norm_ (a' := ?_) ?_ ?_
          rotate_left
          · show Act.put _ (some 82) _ = _
            simp only [Act.put, List.setIfInBounds_toArray, List.set_cons_zero, List.set_cons_succ]
            rfl
          refine one_ (i := 8) (N := some 84) #[true, true, true, true, true, true, true, true, true, false, true, true, true, true, false, false, false] rfl rfl (one_of HT_.out (by kernel_rfl)) (by decide) (fun K hK => ?_)
          refine Kd.R_lit_step (kF k) w.heap.size 27 (by rfl) (N := 84) rfl (xs := [v]) (inner := k.cells v) (okp := fun k_ => q + 2 ≤ k_) (ok := fun k_ => q + 2 ≤ k_) ?hr ⟨rfl, ?hp⟩ (fun _ h => h) (by show q + 2 ≤ _; omega) HB6.out HB6.out.size (by simp) ?_
          (case hr => go_simp; constructor <;> rfl)
          (case hp => intro i x hx; obtain ⟨hi, hx⟩ := List.getElem?_eq_some_iff.1 hx; obtain rfl : i = 0 := (by simpa using hi); obtain rfl : v = x := hx; rfl)
          intro v84 W9 ho hb hg hat
          have BG := Aside0.mk (blk_grown BG.out hg (by simp))
          have BQ := Aside0.mk (blk_grown BQ.out hg (by simp))
          have BH := Aside0.mk (blk_grown BH.out hg (by simp))
          have HR := Aside0.mk (Kd.R_grown2 HR.out rfl hg (by simp))
          have HB6 := Aside0.mk hb
          have hz7 : q + 2 ≤ W9.heap.size := Nat.le_trans hz7 hg.size
          have HP := Aside0.mk (Kd.R_grown2 HP.out rfl hg (by simp))
          have HL := Aside0.mk ho
          clear ho hb hg hat
          refine hK.out _ _ ⟨(blk_cell BG.out 3).trans rfl, (blk_cell BQ.out 0).trans rfl, (blk_cell BQ.out 1).trans rfl, (blk_cell BQ.out 2).trans rfl, (blk_cell BQ.out 3).trans rfl, (blk_cell BH.out 3).trans rfl⟩ (fun hHeld => ?_)
          clear hK K
          refine norm_ (a' := ?_) ?_ ?_
          rotate_left
          · show Act.put _ (some 84) _ = _
            simp only [Act.put, List.setIfInBounds_toArray, List.set_cons_zero, List.set_cons_succ]
            rfl
          exact norm_ (by simp only [putAll, Act.put, List.setIfInBounds_toArray, List.set_cons_zero, List.set_cons_succ]) (hCont (v82, v84) _ ⟨hHeld, BG.out, BH.out, BQ.out, HR.out, HP.out, HL.out, HB6.out, hz7⟩)
        · refine Kd.R_lit_step (kF k) w.heap.size 27 (by rfl) (N := 84) rfl (xs := [v]) (inner := k.cells v) (okp := fun k_ => q + 2 ≤ k_) (ok := fun k_ => q + 2 ≤ k_) ?hr ⟨rfl, ?hp⟩ (fun _ h => h) (by show q + 2 ≤ _; omega) HB6.out HB6.out.size (by simp) ?_
          (case hr => go_simp; constructor <;> rfl)
          (case hp => intro i x hx; obtain ⟨hi, hx⟩ := List.getElem?_eq_some_iff.1 hx; obtain rfl : i = 0 := (by simpa using hi); obtain rfl : v = x := hx; rfl)
          intro v84 W8 ho hb hg hat
          have BG := Aside0.mk (blk_grown BG.out hg (by simp))
          have BQ := Aside0.mk (blk_grown BQ.out hg (by simp))
          have BH := Aside0.mk (blk_grown BH.out hg (by simp))
          have HR := Aside0.mk (Kd.R_grown2 HR.out rfl hg (by simp))
          have HB6 := Aside0.mk hb
          have hz7 : q + 2 ≤ W8.heap.size := Nat.le_trans hz7 hg.size
          have HL := Aside0.mk ho
          clear ho hb hg hat
          refine hK.out _ _ ⟨(blk_cell BG.out 3).trans rfl, (blk_cell BQ.out 0).trans rfl, (blk_cell BQ.out 1).trans rfl, (blk_cell BQ.out 2).trans rfl, (blk_cell BQ.out 3).trans rfl, (blk_cell BH.out 3).trans rfl⟩ (fun hHeld => ?_)
          clear hK K
          refine norm_ (a' := ?_) ?_ ?_
          rotate_left
          · show Act.put _ (some 84) _ = _
            simp only [Act.put, List.setIfInBounds_toArray, List.set_cons_zero, List.set_cons_succ]
            rfl
          refine one_ (i := 6) (N := some 82) #[true, true, true, true, true, true, true, true, true, false, true, true, true, true, false, false, false] rfl rfl (one_of HT_.out (by kernel_rfl)) (by decide) (fun K hK => ?_)
          refine Kd.R_append_rows_step (kF k) (w0 := w) w.heap.size (by rfl) (.tmp 77) (.tmp 81) 25 27 (.agg #[.int .u8 0, .int .u64 0, .string ⟨#[]⟩, .slice none 0 0]) 56 rfl Tryz.underlying25 info27' rfl (show 0 < 4 by decide) (by omega) (.slice none 0 0) ([] : List Nat) (vs.take jj) A1 jj m1 (fun k_ => q + 2 ≤ k_) (fun k_ => q + 2 ≤ k_) rfl rfl (Kd.R_nil _ _ _ _ _) (row_take k HR.out (by omega)) (fun _ _ h => h) (fun _ h => ⟨h, by simp [Value.ownBlock]⟩) (fun _ h => by omega) HB6.out HB6.out.size (by simp; omega) ?_
          intro v82 W9 ho hb hg hat
          have BG := Aside0.mk (blk_grown BG.out hg (by simp [Value.ownBlock]))
          have BQ := Aside0.mk (blk_grown BQ.out hg (by simp [Value.ownBlock]))
          have BH := Aside0.mk (blk_grown BH.out hg (by simp [Value.ownBlock]))
          have HR := Aside0.mk (Kd.R_grown2 HR.out rfl hg (by simp [Value.ownBlock]))
          have HB6 := Aside0.mk hb
          have hz7 : q + 2 ≤ W9.heap.size := Nat.le_trans hz7 hg.size
          have HL := Aside0.mk (Kd.R_grown2 HL.out rfl hg (by simp [Value.ownBlock]))
          have HP := Aside0.mk ho
          clear ho hb hg hat
          refine hK.out _ _ ⟨(blk_cell BG.out 3).trans rfl, (blk_cell BQ.out 0).trans rfl, (blk_cell BQ.out 1).trans rfl, (blk_cell BQ.out 2).trans rfl, (blk_cell BQ.out 3).trans rfl, (blk_cell BH.out 3).trans rfl⟩ (fun hHeld => ?_)
          clear hK K
          refine norm_ (a' := ?_) ?_ ?_
          rotate_left
          · show Act.put _ (some 82) _ = _
            simp only [Act.put, List.setIfInBounds_toArray, List.set_cons_zero, List.set_cons_succ]
            rfl
          exact norm_ (by simp only [putAll, Act.put, List.setIfInBounds_toArray, List.set_cons_zero, List.set_cons_succ]) (hCont (v82, v84) _ ⟨hHeld, BG.out, BH.out, BQ.out, HR.out, HP.out, HL.out, HB6.out, hz7⟩)
      clear BG BQ BH HR HB6 hz7 hHeld
      rintro ⟨v82, v84⟩ W9 ⟨hHeld, hBG, hBH, hBQ, hHR, hHP, hHL, hHB, hz7⟩
      have BG := Aside0.mk hBG
      have BH := Aside0.mk hBH
      have BQ := Aside0.mk hBQ
      have HR := Aside0.mk hHR
      have HP := Aside0.mk (show (kF k).R 27 W9 w.heap.size (fun k_ => q + 2 ≤ k_) v82 (vs.take jj) from hHP)
      have HL := Aside0.mk (show (kF k).R 27 W9 w.heap.size (fun k_ => q + 2 ≤ k_) v84 [v] from hHL)
      have HB6 := Aside0.mk hHB
      clear hBG hBH hBQ hHR hHP hHL hHB
      refine norm_ (a' := ?_) ?_ ?_
      rotate_left
      · show putAll _ [(82, v82), (84, v84)] = _
        simp only [putAll, Act.put, List.setIfInBounds_toArray, List.set_cons_zero, List.set_cons_succ]
        rfl
      obtain ⟨A8, m8, hu8, hm8, hC8⟩ := Kd.R_reads HL.out
      subst hu8
      refine one_ (i := 9) (N := some 85) #[true, true, true, true, true, true, true, true, true, true, true, true, true, true, false, false, false] rfl rfl (one_of HT_.out (by kernel_rfl)) (by decide) (fun K hK => ?_)
      refine Kd.R_append_rows_step (kF k) (w0 := w) w.heap.size (by rfl) (.tmp 82) (.tmp 84) 25 27 (.agg #[.int .u8 0, .int .u64 0, .string ⟨#[]⟩, .slice none 0 0]) 56 rfl Tryz.underlying25 info27' rfl (show 0 < 4 by decide) (by omega) v82 (vs.take jj) [v] A8 1 m8 (fun k_ => q + 2 ≤ k_) (fun k_ => q + 2 ≤ k_ ∧ some k_ ≠ (v82 : Value).ownBlock) rfl rfl HP.out hC8 (fun _ _ h => h) (fun _ h => h) (fun _ h => by omega) HB6.out HB6.out.size (by simp; omega) ?_
      intro v85 W10 ho hb hg hat
      have BG := Aside0.mk (blk_grown BG.out hg (Kd.R_away HP.out (fun _ h => by omega)))
      have BQ := Aside0.mk (blk_grown BQ.out hg (Kd.R_away HP.out (fun _ h => by omega)))
      have BH := Aside0.mk (blk_grown BH.out hg (Kd.R_away HP.out (fun _ h => by omega)))
      have HR := Aside0.mk (Kd.R_grown2 HR.out rfl hg (fun k_ hk_ h' => by have h1 := HP.out.1 k_ hk_; have h2 := (HR.out.1 k_ h'.symm).1; omega))
      have HB6 := Aside0.mk hb
      have hz7 : q + 2 ≤ W10.heap.size := Nat.le_trans hz7 hg.size
      have HP2 := Aside0.mk ho
      clear ho hb hg hat hC8 HL HP
      refine hK.out _ _ ⟨(blk_cell BG.out 3).trans rfl, (blk_cell BQ.out 0).trans rfl, (blk_cell BQ.out 1).trans rfl, (blk_cell BQ.out 2).trans rfl, (blk_cell BQ.out 3).trans rfl, (blk_cell BH.out 3).trans rfl⟩ (fun hHeld => ?_)
      clear hK K
      refine norm_ (a' := ?_) ?_ ?_
      rotate_left
      · show Act.put _ (some 85) _ = _
        simp only [Act.put, List.setIfInBounds_toArray, List.set_cons_zero, List.set_cons_succ]
        rfl
      refine one_ (i := 14) (N := some 90) #[true, true, true, true, true, true, true, true, true, true, true, true, true, true, true, false, false] rfl rfl (one_of HT_.out (by kernel_rfl)) (by decide) (fun K hK => ?_)
      refine Kd.R_append_rows_step (kF k) (w0 := w) w.heap.size (by rfl) (.tmp 85) (.tmp 89) 25 27 (.agg #[.int .u8 0, .int .u64 0, .string ⟨#[]⟩, .slice none 0 0]) 56 rfl Tryz.underlying25 info27' rfl (show 0 < 4 by decide) (by omega) v85 (vs.take jj ++ [v]) (vs.drop jj) A13 (vs.length - jj) c13 (fun k_ => q + 2 ≤ k_) (fun k_ => q + 2 ≤ k_ ∧ some k_ ≠ (v85 : Value).ownBlock) rfl rfl HP2.out (by rw [HA13.out]; exact row_drop k HR.out hjl) (fun _ _ h => h) (fun _ h => h) (fun _ h => by omega) HB6.out HB6.out.size (by simp; omega) ?_
      intro v90 W11 ho hb hg hat
      have BG := Aside0.mk (blk_grown BG.out hg (Kd.R_away HP2.out (fun _ h => by omega)))
      have BQ := Aside0.mk (blk_grown BQ.out hg (Kd.R_away HP2.out (fun _ h => by omega)))
      have BH := Aside0.mk (blk_grown BH.out hg (Kd.R_away HP2.out (fun _ h => by omega)))
      have HR := Aside0.mk (Kd.R_grown2 HR.out rfl hg (fun k_ hk_ h' => by have h1 := HP2.out.1 k_ hk_; have h2 := (HR.out.1 k_ h'.symm).1; omega))
      have HB6 := Aside0.mk hb
      have hz7 : q + 2 ≤ W11.heap.size := Nat.le_trans hz7 hg.size
      have HP3 := Aside0.mk ho
      clear ho hb hg hat HP2
      obtain ⟨Ao, co, eo⟩ := Kd.R_slice HP3.out
      have hln : (vs.take jj ++ [v] ++ vs.drop jj).length = vs.length + 1 := (by simp; omega)
      rw [hln] at eo
      subst eo
      refine hK.out _ _ ⟨(blk_cell BG.out 3).trans rfl, (blk_cell BQ.out 0).trans rfl, (blk_cell BQ.out 1).trans rfl, (blk_cell BQ.out 2).trans rfl, (blk_cell BQ.out 3).trans rfl, (blk_cell BH.out 3).trans rfl⟩ (fun hHeld => ?_)
      clear hK K
      refine norm_ (a' := ?_) ?_ ?_
      rotate_left
      · show Act.put _ (some 90) _ = _
        simp only [Act.put, List.setIfInBounds_toArray, List.set_cons_zero, List.set_cons_succ]
        rfl
      refine pure_ (i := 15) (N := some 91) (v := ?_) (a' := ?_) #[true, true, true, true, true, true, true, true, true, true, true, true, true, true, true, true, false] rfl rfl (any_of HT_.out (by kernel_rfl)) (fun _ _ _ h => h) (Or.inl ⟨by rfl, ?_⟩) ?_ ?_
      rotate_left
      · intro w'
        go_simp
        with_reducible rfl
      rotate_left
      · simp only [Act.put, List.setIfInBounds_toArray, List.set_cons_zero, List.set_cons_succ]
        rfl
      refine last_ (i := 16) (N := none) #[true, true, true, true, true, true, true, true, true, true, true, true, true, true, true, true, true] rfl rfl (one_of HT_.out (by kernel_rfl)) (by decide) (fun K hK => ?_)
      have hs4 : W11.cell? ⟨q + 1, 3, none⟩ = some (.slice none 0 0) := (blk_cell BH.out 3).trans rfl
      have hf4 := blk_frozen BH.out 3
      refine skip_ (w1 := ?_) (by rfl) rfl ?_ ?_
      rotate_left
      · go_simp
        rfl
      refine hK.out _ _ ?_
      clear hK K
      refine done_ (done_of HT_.out (by kernel_rfl)) ?_
      have BH := Aside0.mk (Lib.heap_setCell_same (i := 3) BH.out (.slice Ao (vs.length + 1) co))
      have BG := Aside0.mk ((Below.heap_setCell W11 ⟨q + 1, 3, none⟩ (.slice Ao (vs.length + 1) co) g (show g ≠ q + 1 by omega)).trans BG.out)
      have HR := Aside0.mk (Kd.R_far (p := ⟨q + 1, 3, none⟩) HR.out (fun _ hk => by show _ ≠ q + 1; omega) (.slice Ao (vs.length + 1) co))
      have HP := Aside0.mk (Kd.R_far (p := ⟨q + 1, 3, none⟩) HP3.out (fun _ hk => by show _ ≠ q + 1; omega) (.slice Ao (vs.length + 1) co))
      have HB6 := Aside0.mk (HB6.out.setCell (p := ⟨q + 1, 3, none⟩) (show w.heap.size ≤ q + 1 by omega) (.slice Ao (vs.length + 1) co))
      clear hs4 hf4 BQ HP3
      generalize W11.setCell ⟨q + 1, 3, none⟩ (.slice Ao (vs.length + 1) co) = W12 at BH BG HR HP HB6 ⊢
      obtain ⟨vs', hvs'⟩ : ∃ x, vs.take jj ++ [v] ++ vs.drop jj = x := ⟨_, rfl⟩
      rw [hvs'] at hln HP
      have hv' : ∀ y ∈ vs', y < 18446744073709551616 := by
        intro y hy
        rw [← hvs'] at hy
        simp only [List.mem_append, List.mem_singleton] at hy
        rcases hy with (hy | hy) | hy
        · exact HV.out y (List.mem_of_mem_take hy)
        · omega
        · exact HV.out y (List.mem_of_mem_drop hy)
      have HV' := Aside0.mk hv'
      have HVS := Aside0.mk hvs'
      clear hv' hvs'
      have g0 : W12.cell? ⟨g, 0, none⟩ = some (.int .u8 97) := (blk_cell BG.out 0).trans rfl
      have g1 : W12.cell? ⟨g, 1, none⟩ = some (.int .u64 0) := (blk_cell BG.out 1).trans rfl
      have g2 : W12.cell? ⟨g, 2, none⟩ = some (.string ⟨#[k.code]⟩) := (blk_cell BG.out 2).trans rfl
      have g3 : W12.cell? ⟨g, 3, none⟩ = some (.slice A1 vs.length m1) := (blk_cell BG.out 3).trans rfl
      go_wp2_with fail
      clear g0 g1 g2 g3
      refine (WrEncode.calls (some ⟨W12.heap.size, 0, none⟩) 1 [⟨97, 0, ⟨#[k.code]⟩, vs.map k.el⟩] big 0 _ true _ (one_C k hm1 (heap_alloc_new W12 _) (Kd.R_reads' (Kd.R_alloc HR.out _)).2.2) (Nat.le_refl 1) (enc_arr k big vs HV.out (by omega) 0)).mono ?_
      rintro r W13 ⟨rfl, hb⟩
      have BH := Aside0.mk (blk_below (blk_alloc BH.out _) hb)
      have HP := Aside0.mk (Kd.R_below (Kd.R_alloc HP.out _) hb)
      have HB6 := Aside0.mk (below_step (below_alloc HB6.out _) hb)
      clear hb BG HR
      have g0 : W13.cell? ⟨q + 1, 0, none⟩ = some (.int .u8 97) := (blk_cell BH.out 0).trans rfl
      have g1 : W13.cell? ⟨q + 1, 1, none⟩ = some (.int .u64 0) := (blk_cell BH.out 1).trans rfl
      have g2 : W13.cell? ⟨q + 1, 2, none⟩ = some (.string ⟨#[k.code]⟩) := (blk_cell BH.out 2).trans rfl
      have g3 : W13.cell? ⟨q + 1, 3, none⟩ = some (.slice Ao (vs.length + 1) co) := (blk_cell BH.out 3).trans rfl
      go_wp2_with fail
      clear g0 g1 g2 g3
      refine (WrEncode.calls (some ⟨W13.heap.size, 0, none⟩) 1 [⟨97, 0, ⟨#[k.code]⟩, vs'.map k.el⟩] big 0 _ true _ (one_C k (m := co) (by rw [hln]; have := (Kd.R_reads' HP.out).2.1; omega) (by rw [hln]; exact heap_alloc_new W13 _) (Kd.R_reads' (Kd.R_alloc HP.out _)).2.2) (Nat.le_refl 1) (enc_arr k big vs' HV'.out (by omega) 0)).mono ?_
      rintro r W14 ⟨rfl, hb⟩
      have HB6 := Aside0.mk (below_step (below_alloc HB6.out _) hb)
      clear hb BH HP
      go_wp2_with fail
      obtain ⟨bl, hbl⟩ : ∃ x, k.bytes big v = x := ⟨_, rfl⟩
      obtain ⟨sz, hsz⟩ : ∃ x, k.size = x := ⟨_, rfl⟩
      obtain ⟨zl, hzl⟩ : ∃ x, k.zeros = x := ⟨_, rfl⟩
      obtain ⟨al, hal⟩ : ∃ x, k.arr big vs = x := ⟨_, rfl⟩
      obtain ⟨al', hal'⟩ : ∃ x, k.arr big vs' = x := ⟨_, rfl⟩
      have hbs : bl.length = sz := by rw [← hbl, ← hsz]; exact k.bytes_length big v
      have hs8 : sz ≤ 8 := by rw [← hsz]; cases k <;> decide
      have hs1 : 1 ≤ sz := by rw [← hsz]; cases k <;> decide
      have hz4 : zl.length ≤ 4 := by rw [← hzl]; cases k <;> decide
      have hlaw := insert_law k big vs v jj hjl
      have ha1 : 4 + zl.length + vs.length * sz = al.length := by rw [← hzl, ← hsz, ← hal]; simp [NK.arr, cntBytes_length, k.flat_length]; omega
      have HC4 := Aside0.mk (show al.take 4 = cntBytes big (vs.length * sz) by rw [← hal, ← hsz]; unfold NK.arr; rw [List.take_append_of_le_length (by rw [cntBytes_length]; exact Nat.le_refl 4), List.take_of_length_le (by rw [cntBytes_length]; exact Nat.le_refl 4)])
      rw [← List.append_assoc, HVS.out, hbl, hsz, hzl, hal, hal'] at hlaw
      rw [hbl, hal, hal', hbs]
      have HZ := zeros_up k 6 (Nat.le_refl 6)
      rw [hsz, hzl] at HZ
      have HLAW := Aside0.mk hlaw
      obtain ⟨js, hjs⟩ : ∃ x, jj * sz = x := ⟨_, rfl⟩
      obtain ⟨ns, hns⟩ : ∃ x, vs.length * sz = x := ⟨_, rfl⟩
      have hjn : js ≤ ns := by rw [← hjs, ← hns]; exact Nat.mul_le_mul_right _ hjl
      have hnl : ns ≤ 1600 := by rw [← hns]; exact Nat.mul_le_mul hl hs8
      have hmul : (jj : Int) * (sz : Int) = (js : Int) := by rw [← hjs]; push_cast; rfl
      rw [hns] at ha1
      clear hlaw hbl hsz hzl hal hal'
      refine (laws_wrZeros.calls 6 4 sz _ W14 HZ).mono ?_
      clear HZ
      rintro r W15 ⟨rfl, hd⟩
      have HB6 := Aside0.mk (below_step HB6.out hd.below)
      clear hd
      go_upto_region 21 with (fail)
      obtain ⟨m, hm⟩ : ∃ x, 4 + zl.length + js = x := ⟨_, rfl⟩
      obtain ⟨ns1, hns1⟩ : ∃ x, (vs.length + 1) * sz = x := ⟨_, rfl⟩
      have hn1 : ns1 = ns + sz := by rw [← hns1, ← hns, Nat.succ_mul]
      have hmul1 : ((vs.length : Int) + 1) * (sz : Int) = (ns1 : Int) := by rw [← hns1]; push_cast; rfl
      have hmul0 : (vs.length : Int) * (sz : Int) = (ns : Int) := by rw [← hns]; push_cast; rfl
      obtain ⟨hw1, hw2, hal, hm4, hal4, hb_ns1, hb_ns, hws1⟩ := law_nums zl.length js ns sz al.length m ns1 hz4 hjn hnl hs8 ha1 hm hn1
      rw [show (bsOf zl).size = zl.length from rfl, hw1, hw2, show (⟨bl.toArray⟩ : ByteArray) = bsOf bl from rfl]
      have hl1 := HLAW.out
      rw [hns1, hjs, hm] at hl1
      obtain ⟨x1, hx1⟩ : ∃ x, cntBytes big ns1 = x := ⟨_, rfl⟩
      obtain ⟨x0, hx0⟩ : ∃ x, cntBytes big ns = x := ⟨_, rfl⟩
      obtain ⟨x2, hx2⟩ : ∃ x, (al.drop 4).take (m - 4) = x := ⟨_, rfl⟩
      obtain ⟨x4, hx4⟩ : ∃ x, al.drop m = x := ⟨_, rfl⟩
      have hl_1 : x1.length = 4 := by rw [← hx1]; exact cntBytes_length big ns1
      have hl_2 : x2.length ≤ al.length := by rw [← hx2, List.length_take, List.length_drop]; exact Nat.le_trans (Nat.min_le_right _ _) (Nat.sub_le _ _)
      have hl_4 : x4.length ≤ al.length := by rw [← hx4, List.length_drop]; exact Nat.sub_le _ _
      have hsl1 := sl_mid al m hm4 hal
      have hsl2 := sl_from al m hal
      have hsl3 := sl_to al x0 (HC4.out.trans (by rw [hns]; exact hx0)) hal4
      rw [hx2] at hsl1 hl1
      rw [hx4] at hsl2 hl1
      rw [hx1] at hl1
      have hcb1 : ∀ W, Calls Tryz.prog 8 #[.int .i64 ns1, .bool big] W fun e w' => e = .returned (.string (bsOf x1)) ∧ Below W.heap.size W w' := by rw [← hx1]; exact count_bs ns1 hb_ns1 big
      have hcb0 : ∀ W, Calls Tryz.prog 8 #[.int .i64 ns, .bool big] W fun e w' => e = .returned (.string (bsOf x0)) ∧ Below W.heap.size W w' := by rw [← hx0]; exact count_bs ns hb_ns big
      have C_ns1 := Aside0.mk hcb1
      have C_ns := Aside0.mk hcb0
      obtain ⟨y1, hy1⟩ : ∃ y, x1 ++ x2 = y := ⟨_, rfl⟩
      obtain ⟨y2, hy2⟩ : ∃ y, y1 ++ bl = y := ⟨_, rfl⟩
      rw [hy1, hy2] at hl1
      obtain ⟨hb1, hb2, hb3⟩ : x1.length + x2.length ≤ 9223372036854775807 ∧ y1.length + bl.length ≤ 9223372036854775807 ∧ y2.length + x4.length ≤ 9223372036854775807 := by
        have e1 : y1.length = x1.length + x2.length := by rw [← hy1, List.length_append]
        have e2 : y2.length = y1.length + bl.length := by rw [← hy2, List.length_append]
        exact law_lens x1.length x2.length bl.length x4.length y1.length y2.length al.length ns zl.length sz hl_1 hl_2 hl_4 e1 e2 hbs hs8 hnl hz4 ha1
      have hf1 : ¬ 9223372036854775807 < (bsOf x1).size + (bsOf x2).size := Nat.not_lt.2 hb1
      have hf2 : ¬ 9223372036854775807 < (bsOf y1).size + (bsOf bl).size := Nat.not_lt.2 hb2
      have hf3 : ¬ 9223372036854775807 < (bsOf y2).size + (bsOf x4).size := Nat.not_lt.2 hb3
      have hcat1 : bsOf x1 ++ bsOf x2 = bsOf y1 := by rw [bsOf_append, hy1]
      have hcat2 : bsOf y1 ++ bsOf bl = bsOf y2 := by rw [bsOf_append, hy2]
      have hcat3 : bsOf y2 ++ bsOf x4 = bsOf al' := by rw [bsOf_append, hl1]
      have hwv : wrap64 ((vs.length : Int) + 1) = (vs.length : Int) + 1 := wrap_small vs.length hl
      have hwn1 : wrap64 (ns1 : Int) = (ns1 : Int) := wrap_num ns1 hb_ns1
      have hwn0 : wrap64 (ns : Int) = (ns : Int) := wrap_num ns hb_ns
      rw [← i64_w] at hwv hwn1 hwn0
      clear HLAW hl1 hx1 hx2 hx4 hx0 hy1 hy2 hcb1 hcb0 hb1 hb2 hb3 hl_1 hl_2 hl_4
      clear hw1 hw2 hns hns1 hjs ha1 hm3 hmul hz4 hn1 hm hjn hjl HR HP HV HV' HVS hcut5 hcut13
      refine start_ (n := 45) (S := fun _ => True) (ds := []) #[false, false, false, false, false, false, false, false, false, false, false, false, false, false, false, false, false, false, false, false, false, false, false, false, false, false, false, false, false, false, false, false, false, false, false, false, false, false, false, false, false, false, false, false, false] (by kernel_rfl) rfl rfl trivial (fun hHeld => ?_)
      refine with_tabW f3_21.tab f3_21.bits (fun HT_ HW_ => ?_)
      have HB6 := Aside0.mk HB6.out.drew
      generalize W15.drew = W16 at HB6 hHeld ⊢
      refine pure_ (i := 0) (N := some 117) (v := ?_) (a' := ?_) #[true, false, false, false, false, false, false, false, false, false, false, false, false, false, false, false, false, false, false, false, false, false, false, false, false, false, false, false, false, false, false, false, false, false, false, false, false, false, false, false, false, false, false, false, false] rfl rfl (any_of HT_.out (by kernel_rfl)) (fun _ _ _ h => h) (Or.inl ⟨by rfl, ?_⟩) ?_ ?_
      rotate_left
      · intro w'
        go_simp
        with_reducible rfl
      rotate_left
      · simp only [Act.put, List.setIfInBounds_toArray, List.set_cons_zero, List.set_cons_succ]
        rfl
      refine pure_ (i := 1) (N := some 118) (v := ?_) (a' := ?_) #[true, true, false, false, false, false, false, false, false, false, false, false, false, false, false, false, false, false, false, false, false, false, false, false, false, false, false, false, false, false, false, false, false, false, false, false, false, false, false, false, false, false, false, false, false] rfl rfl (any_of HT_.out (by kernel_rfl)) (fun _ _ _ h => h) (Or.inl ⟨by rfl, ?_⟩) ?_ ?_
      rotate_left
      · intro w'
        go_simp
        with_reducible rfl
      rotate_left
      · simp only [Act.put, List.setIfInBounds_toArray, List.set_cons_zero, List.set_cons_succ]
        rfl
      refine pure_ (i := 2) (N := some 119) (v := ?_) (a' := ?_) #[true, true, true, false, false, false, false, false, false, false, false, false, false, false, false, false, false, false, false, false, false, false, false, false, false, false, false, false, false, false, false, false, false, false, false, false, false, false, false, false, false, false, false, false, false] rfl rfl (any_of HT_.out (by kernel_rfl)) (fun _ _ _ h => h) (Or.inl ⟨by rfl, ?_⟩) ?_ ?_
      rotate_left
      · intro w'
        go_simp
        with_reducible rfl
      rotate_left
      · simp only [Act.put, List.setIfInBounds_toArray, List.set_cons_zero, List.set_cons_succ]
        rfl
      refine pure_ (i := 3) (N := some 120) (v := ?_) (a' := ?_) #[true, true, true, true, false, false, false, false, false, false, false, false, false, false, false, false, false, false, false, false, false, false, false, false, false, false, false, false, false, false, false, false, false, false, false, false, false, false, false, false, false, false, false, false, false] rfl rfl (any_of HT_.out (by kernel_rfl)) (fun _ _ _ h => h) (Or.inl ⟨by rfl, ?_⟩) ?_ ?_
      rotate_left
      · intro w'
        go_simp
        with_reducible rfl
      rotate_left
      · simp only [Act.put, List.setIfInBounds_toArray, List.set_cons_zero, List.set_cons_succ]
        rfl
      refine pure_ (i := 4) (N := some 121) (v := ?_) (a' := ?_) #[true, true, true, true, true, false, false, false, false, false, false, false, false, false, false, false, false, false, false, false, false, false, false, false, false, false, false, false, false, false, false, false, false, false, false, false, false, false, false, false, false, false, false, false, false] rfl rfl (any_of HT_.out (by kernel_rfl)) (fun _ _ _ h => h) (Or.inl ⟨by rfl, ?_⟩) ?_ ?_
      rotate_left
      · intro w'
        go_simp
        with_reducible rfl
      rotate_left
      · simp only [Act.put, List.setIfInBounds_toArray, List.set_cons_zero, List.set_cons_succ]
        rfl
      refine pure_ (i := 5) (N := some 122) (v := ?_) (a' := ?_) #[true, true, true, true, true, true, false, false, false, false, false, false, false, false, false, false, false, false, false, false, false, false, false, false, false, false, false, false, false, false, false, false, false, false, false, false, false, false, false, false, false, false, false, false, false] rfl rfl (any_of HT_.out (by kernel_rfl)) (fun _ _ _ h => h) (Or.inl ⟨by rfl, ?_⟩) ?_ ?_
      rotate_left
      · intro w'
        go_simp
        with_reducible rfl
      rotate_left
      · simp only [Act.put, List.setIfInBounds_toArray, List.set_cons_zero, List.set_cons_succ]
        rfl
      refine pure_ (i := 6) (N := some 123) (v := ?_) (a' := ?_) #[true, true, true, true, true, true, true, false, false, false, false, false, false, false, false, false, false, false, false, false, false, false, false, false, false, false, false, false, false, false, false, false, false, false, false, false, false, false, false, false, false, false, false, false, false] rfl rfl (any_of HT_.out (by kernel_rfl)) (fun _ _ _ h => h) (Or.inl ⟨by rfl, ?_⟩) ?_ ?_
      rotate_left
      · intro w'
        go_simp
        (try simp only [bsOf_size])
        with_reducible rfl
      rotate_left
      · simp only [Act.put, List.setIfInBounds_toArray, List.set_cons_zero, List.set_cons_succ]
        rfl
      refine pure_ (i := 7) (N := some 124) (v := ?_) (a' := ?_) #[true, true, true, true, true, true, true, true, false, false, false, false, false, false, false, false, false, false, false, false, false, false, false, false, false, false, false, false, false, false, false, false, false, false, false, false, false, false, false, false, false, false, false, false, false] rfl rfl (any_of HT_.out (by kernel_rfl)) (fun _ _ _ h => h) (Or.inl ⟨by rfl, ?_⟩) ?_ ?_
      rotate_left
      · intro w'
        go_simp
        with_reducible rfl
      rotate_left
      · simp only [Act.put, List.setIfInBounds_toArray, List.set_cons_zero, List.set_cons_succ]
        rfl
      refine pure_ (i := 8) (N := some 125) (v := ?_) (a' := ?_) #[true, true, true, true, true, true, true, true, true, false, false, false, false, false, false, false, false, false, false, false, false, false, false, false, false, false, false, false, false, false, false, false, false, false, false, false, false, false, false, false, false, false, false, false, false] rfl rfl (any_of HT_.out (by kernel_rfl)) (fun _ _ _ h => h) (Or.inl ⟨by rfl, ?_⟩) ?_ ?_
      rotate_left
      · intro w'
        go_simp
        (try simp only [bsOf_size, hal, decide_true])
        with_reducible rfl
      rotate_left
      · simp only [Act.put, List.setIfInBounds_toArray, List.set_cons_zero, List.set_cons_succ]
        rfl
      refine pure_ (i := 9) (N := some 126) (v := ?_) (a' := ?_) #[true, true, true, true, true, true, true, true, true, true, false, false, false, false, false, false, false, false, false, false, false, false, false, false, false, false, false, false, false, false, false, false, false, false, false, false, false, false, false, false, false, false, false, false, false] rfl rfl (any_of HT_.out (by kernel_rfl)) (fun _ _ _ h => h) (Or.inl ⟨by rfl, ?_⟩) ?_ ?_
      rotate_left
      · intro w'
        go_simp
        with_reducible rfl
      rotate_left
      · simp only [Act.put, List.setIfInBounds_toArray, List.set_cons_zero, List.set_cons_succ]
        rfl
      refine pure_ (i := 10) (N := some 127) (v := ?_) (a' := ?_) #[true, true, true, true, true, true, true, true, true, true, true, false, false, false, false, false, false, false, false, false, false, false, false, false, false, false, false, false, false, false, false, false, false, false, false, false, false, false, false, false, false, false, false, false, false] rfl rfl (any_of HT_.out (by kernel_rfl)) (fun _ _ _ h => h) (Or.inl ⟨by rfl, ?_⟩) ?_ ?_
      rotate_left
      · intro w'
        go_simp
        with_reducible rfl
      rotate_left
      · simp only [Act.put, List.setIfInBounds_toArray, List.set_cons_zero, List.set_cons_succ]
        rfl
      refine pure_ (i := 11) (N := some 128) (v := ?_) (a' := ?_) #[true, true, true, true, true, true, true, true, true, true, true, true, false, false, false, false, false, false, false, false, false, false, false, false, false, false, false, false, false, false, false, false, false, false, false, false, false, false, false, false, false, false, false, false, false] rfl rfl (any_of HT_.out (by kernel_rfl)) (fun _ _ _ h => h) (Or.inl ⟨by rfl, ?_⟩) ?_ ?_
      rotate_left
      · intro w'
        go_simp
        with_reducible rfl
      rotate_left
      · simp only [Act.put, List.setIfInBounds_toArray, List.set_cons_zero, List.set_cons_succ]
        rfl
      refine pure_ (i := 12) (N := some 129) (v := ?_) (a' := ?_) #[true, true, true, true, true, true, true, true, true, true, true, true, true, false, false, false, false, false, false, false, false, false, false, false, false, false, false, false, false, false, false, false, false, false, false, false, false, false, false, false, false, false, false, false, false] rfl rfl (any_of HT_.out (by kernel_rfl)) (fun _ _ _ h => h) (Or.inl ⟨by rfl, ?_⟩) ?_ ?_
      rotate_left
      · intro w'
        go_simp
        with_reducible rfl
      rotate_left
      · simp only [Act.put, List.setIfInBounds_toArray, List.set_cons_zero, List.set_cons_succ]
        rfl
      refine pure_ (i := 13) (N := some 130) (v := ?_) (a' := ?_) #[true, true, true, true, true, true, true, true, true, true, true, true, true, true, false, false, false, false, false, false, false, false, false, false, false, false, false, false, false, false, false, false, false, false, false, false, false, false, false, false, false, false, false, false, false] rfl rfl (any_of HT_.out (by kernel_rfl)) (fun _ _ _ h => h) (Or.inl ⟨by rfl, ?_⟩) ?_ ?_
      rotate_left
      · intro w'
        go_simp
        with_reducible rfl
      rotate_left
      · simp only [Act.put, List.setIfInBounds_toArray, List.set_cons_zero, List.set_cons_succ]
        rfl
      refine pure_ (i := 14) (N := some 131) (v := ?_) (a' := ?_) #[true, true, true, true, true, true, true, true, true, true, true, true, true, true, true, false, false, false, false, false, false, false, false, false, false, false, false, false, false, false, false, false, false, false, false, false, false, false, false, false, false, false, false, false, false] rfl rfl (any_of HT_.out (by kernel_rfl)) (fun _ _ _ h => h) (Or.inl ⟨by rfl, ?_⟩) ?_ ?_
      rotate_left
      · intro w'
        go_simp
        (try simp only [hwv])
        with_reducible rfl
      rotate_left
      · simp only [Act.put, List.setIfInBounds_toArray, List.set_cons_zero, List.set_cons_succ]
        rfl
      refine pure_ (i := 15) (N := some 132) (v := ?_) (a' := ?_) #[true, true, true, true, true, true, true, true, true, true, true, true, true, true, true, true, false, false, false, false, false, false, false, false, false, false, false, false, false, false, false, false, false, false, false, false, false, false, false, false, false, false, false, false, false] rfl rfl (any_of HT_.out (by kernel_rfl)) (fun _ _ _ h => h) (Or.inl ⟨by rfl, ?_⟩) ?_ ?_
      rotate_left
      · intro w'
        go_simp
        with_reducible rfl
      rotate_left
      · simp only [Act.put, List.setIfInBounds_toArray, List.set_cons_zero, List.set_cons_succ]
        rfl
      refine pure_ (i := 16) (N := some 133) (v := ?_) (a' := ?_) #[true, true, true, true, true, true, true, true, true, true, true, true, true, true, true, true, true, false, false, false, false, false, false, false, false, false, false, false, false, false, false, false, false, false, false, false, false, false, false, false, false, false, false, false, false] rfl rfl (any_of HT_.out (by kernel_rfl)) (fun _ _ _ h => h) (Or.inl ⟨by rfl, ?_⟩) ?_ ?_
      rotate_left
      · intro w'
        go_simp
        (try simp only [bsOf_size, hbs])
        with_reducible rfl
      rotate_left
      · simp only [Act.put, List.setIfInBounds_toArray, List.set_cons_zero, List.set_cons_succ]
        rfl
      refine pure_ (i := 17) (N := some 134) (v := ?_) (a' := ?_) #[true, true, true, true, true, true, true, true, true, true, true, true, true, true, true, true, true, true, false, false, false, false, false, false, false, false, false, false, false, false, false, false, false, false, false, false, false, false, false, false, false, false, false, false, false] rfl rfl (any_of HT_.out (by kernel_rfl)) (fun _ _ _ h => h) (Or.inl ⟨by rfl, ?_⟩) ?_ ?_
      rotate_left
      · intro w'
        go_simp
        (try simp only [hwv, hmul1, hwn1])
        with_reducible rfl
      rotate_left
      · simp only [Act.put, List.setIfInBounds_toArray, List.set_cons_zero, List.set_cons_succ]
        rfl
      refine pure_ (i := 18) (N := some 135) (v := ?_) (a' := ?_) #[true, true, true, true, true, true, true, true, true, true, true, true, true, true, true, true, true, true, true, false, false, false, false, false, false, false, false, false, false, false, false, false, false, false, false, false, false, false, false, false, false, false, false, false, false] rfl rfl (any_of HT_.out (by kernel_rfl)) (fun _ _ _ h => h) (Or.inl ⟨by rfl, ?_⟩) ?_ ?_
      rotate_left
      · intro w'
        go_simp
        with_reducible rfl
      rotate_left
      · simp only [Act.put, List.setIfInBounds_toArray, List.set_cons_zero, List.set_cons_succ]
        rfl
      refine pure_ (i := 20) (N := some 137) (v := ?_) (a' := ?_) #[true, true, true, true, true, true, true, true, true, true, true, true, true, true, true, true, true, true, true, false, true, false, false, false, false, false, false, false, false, false, false, false, false, false, false, false, false, false, false, false, false, false, false, false, false] rfl rfl (any_of HT_.out (by kernel_rfl)) (fun _ _ _ h => h) (Or.inl ⟨by rfl, ?_⟩) ?_ ?_
      rotate_left
      · intro w'
        go_simp
        with_reducible rfl
      rotate_left
      · simp only [Act.put, List.setIfInBounds_toArray, List.set_cons_zero, List.set_cons_succ]
        rfl
      refine pure_ (i := 21) (N := some 138) (v := ?_) (a' := ?_) #[true, true, true, true, true, true, true, true, true, true, true, true, true, true, true, true, true, true, true, false, true, true, false, false, false, false, false, false, false, false, false, false, false, false, false, false, false, false, false, false, false, false, false, false, false] rfl rfl (any_of HT_.out (by kernel_rfl)) (fun _ _ _ h => h) (Or.inl ⟨by rfl, ?_⟩) ?_ ?_
      rotate_left
      · intro w'
        go_simp
        with_reducible rfl
      rotate_left
      · simp only [Act.put, List.setIfInBounds_toArray, List.set_cons_zero, List.set_cons_succ]
        rfl
      refine pure_ (i := 22) (N := some 139) (v := ?_) (a' := ?_) #[true, true, true, true, true, true, true, true, true, true, true, true, true, true, true, true, true, true, true, false, true, true, true, false, false, false, false, false, false, false, false, false, false, false, false, false, false, false, false, false, false, false, false, false, false] rfl rfl (any_of HT_.out (by kernel_rfl)) (fun _ _ _ h => h) (Or.inl ⟨by rfl, ?_⟩) ?_ ?_
      rotate_left
      · intro w'
        go_simp
        with_reducible rfl
      rotate_left
      · simp only [Act.put, List.setIfInBounds_toArray, List.set_cons_zero, List.set_cons_succ]
        rfl
      refine pure_ (i := 24) (N := some 141) (v := ?_) (a' := ?_) #[true, true, true, true, true, true, true, true, true, true, true, true, true, true, true, true, true, true, true, false, true, true, true, false, true, false, false, false, false, false, false, false, false, false, false, false, false, false, false, false, false, false, false, false, false] rfl rfl (any_of HT_.out (by kernel_rfl)) (fun _ _ _ h => h) (Or.inl ⟨by rfl, ?_⟩) ?_ ?_
      rotate_left
      · intro w'
        go_simp
        with_reducible rfl
      rotate_left
      · simp only [Act.put, List.setIfInBounds_toArray, List.set_cons_zero, List.set_cons_succ]
        rfl
      refine pure_ (i := 26) (N := some 143) (v := ?_) (a' := ?_) #[true, true, true, true, true, true, true, true, true, true, true, true, true, true, true, true, true, true, true, false, true, true, true, false, true, false, true, false, false, false, false, false, false, false, false, false, false, false, false, false, false, false, false, false, false] rfl rfl (any_of HT_.out (by kernel_rfl)) (fun _ _ _ h => h) (Or.inl ⟨by rfl, ?_⟩) ?_ ?_
      rotate_left
      · intro w'
        go_simp
        with_reducible rfl
      rotate_left
      · simp only [Act.put, List.setIfInBounds_toArray, List.set_cons_zero, List.set_cons_succ]
        rfl
      refine pure_ (i := 27) (N := some 144) (v := ?_) (a' := ?_) #[true, true, true, true, true, true, true, true, true, true, true, true, true, true, true, true, true, true, true, false, true, true, true, false, true, false, true, true, false, false, false, false, false, false, false, false, false, false, false, false, false, false, false, false, false] rfl rfl (any_of HT_.out (by kernel_rfl)) (fun _ _ _ h => h) (Or.inl ⟨by rfl, ?_⟩) ?_ ?_
      rotate_left
      · intro w'
        go_simp
        with_reducible rfl
      rotate_left
      · simp only [Act.put, List.setIfInBounds_toArray, List.set_cons_zero, List.set_cons_succ]
        rfl
      refine pure_ (i := 28) (N := some 145) (v := ?_) (a' := ?_) #[true, true, true, true, true, true, true, true, true, true, true, true, true, true, true, true, true, true, true, false, true, true, true, false, true, false, true, true, true, false, false, false, false, false, false, false, false, false, false, false, false, false, false, false, false] rfl rfl (any_of HT_.out (by kernel_rfl)) (fun _ _ _ h => h) (Or.inl ⟨by rfl, ?_⟩) ?_ ?_
      rotate_left
      · intro w'
        go_simp
        with_reducible rfl
      rotate_left
      · simp only [Act.put, List.setIfInBounds_toArray, List.set_cons_zero, List.set_cons_succ]
        rfl
      refine one_ (i := 19) (N := some 136) #[true, true, true, true, true, true, true, true, true, true, true, true, true, true, true, true, true, true, true, true, true, true, true, false, true, false, true, true, true, false, false, false, false, false, false, false, false, false, false, false, false, false, false, false, false] rfl rfl (one_of HT_.out (by kernel_rfl)) (by decide) (fun K hK => ?_)
      refine goes_ Tryz.func8 (by kernel_rfl) rfl #[.int .i64 (ns1 : Int), .bool big] (by rfl) rfl rfl (by (try simp only [List.map_toArray, List.map_cons, List.map_nil]); first | done | rfl) ?_
      refine (C_ns1.out _).mono ?_
      rintro e W17 ⟨rfl, hb⟩
      refine ⟨_, rfl, ?_⟩
      have HB6 := Aside0.mk (below_step HB6.out hb)
      clear hb
      refine hK.out _ _ trivial (fun hHeld => ?_)
      clear hK K
      refine norm_ (a' := ?_) ?_ ?_
      rotate_left
      · show Act.put _ (some 136) _ = _
        simp only [Act.put, List.setIfInBounds_toArray, List.set_cons_zero, List.set_cons_succ]
        rfl
      refine pure_ (i := 23) (N := some 140) (v := ?_) (a' := ?_) #[true, true, true, true, true, true, true, true, true, true, true, true, true, true, true, true, true, true, true, true, true, true, true, true, true, false, true, true, true, false, false, false, false, false, false, false, false, false, false, false, false, false, false, false, false] rfl rfl (any_of HT_.out (by kernel_rfl)) (fun _ _ _ h => h) (Or.inl ⟨by rfl, ?_⟩) ?_ ?_
      rotate_left
      · intro w'
        go_simp
        with_reducible rfl
      rotate_left
      · simp only [Act.put, List.setIfInBounds_toArray, List.set_cons_zero, List.set_cons_succ]
        rfl
      refine pure_ (i := 25) (N := some 142) (v := ?_) (a' := ?_) #[true, true, true, true, true, true, true, true, true, true, true, true, true, true, true, true, true, true, true, true, true, true, true, true, true, true, true, true, true, false, false, false, false, false, false, false, false, false, false, false, false, false, false, false, false] rfl rfl (any_of HT_.out (by kernel_rfl)) (fun _ _ _ h => h) (Or.inl ⟨by rfl, ?_⟩) ?_ ?_
      rotate_left
      · intro w'
        go_simp
        with_reducible rfl
      rotate_left
      · simp only [Act.put, List.setIfInBounds_toArray, List.set_cons_zero, List.set_cons_succ]
        rfl
      refine pure_ (i := 29) (N := some 146) (v := ?_) (a' := ?_) #[true, true, true, true, true, true, true, true, true, true, true, true, true, true, true, true, true, true, true, true, true, true, true, true, true, true, true, true, true, true, false, false, false, false, false, false, false, false, false, false, false, false, false, false, false] rfl rfl (any_of HT_.out (by kernel_rfl)) (fun _ _ _ h => h) (Or.inl ⟨by rfl, ?_⟩) ?_ ?_
      rotate_left
      · intro w'
        go_simp
        with_reducible rfl
      rotate_left
      · simp only [Act.put, List.setIfInBounds_toArray, List.set_cons_zero, List.set_cons_succ]
        rfl
      refine pure_ (i := 30) (N := some 147) (v := ?_) (a' := ?_) #[true, true, true, true, true, true, true, true, true, true, true, true, true, true, true, true, true, true, true, true, true, true, true, true, true, true, true, true, true, true, true, false, false, false, false, false, false, false, false, false, false, false, false, false, false] rfl rfl (any_of HT_.out (by kernel_rfl)) (fun _ _ _ h => h) (Or.inl ⟨by rfl, ?_⟩) ?_ ?_
      rotate_left
      · intro w'
        go_simp
        (try simp only [decide_true, beq_self_eq_true])
        with_reducible rfl
      rotate_left
      · simp only [Act.put, List.setIfInBounds_toArray, List.set_cons_zero, List.set_cons_succ]
        rfl
      refine pure_ (i := 31) (N := some 148) (v := ?_) (a' := ?_) #[true, true, true, true, true, true, true, true, true, true, true, true, true, true, true, true, true, true, true, true, true, true, true, true, true, true, true, true, true, true, true, true, false, false, false, false, false, false, false, false, false, false, false, false, false] rfl rfl (any_of HT_.out (by kernel_rfl)) (fun _ _ _ h => h) (Or.inl ⟨by rfl, ?_⟩) ?_ ?_
      rotate_left
      · intro w'
        go_simp
        with_reducible rfl
      rotate_left
      · simp only [Act.put, List.setIfInBounds_toArray, List.set_cons_zero, List.set_cons_succ]
        rfl
      refine pure_ (i := 32) (N := some 149) (v := ?_) (a' := ?_) #[true, true, true, true, true, true, true, true, true, true, true, true, true, true, true, true, true, true, true, true, true, true, true, true, true, true, true, true, true, true, true, true, true, false, false, false, false, false, false, false, false, false, false, false, false] rfl rfl (any_of HT_.out (by kernel_rfl)) (fun _ _ _ h => h) (Or.inl ⟨by rfl, ?_⟩) ?_ ?_
      rotate_left
      · intro w'
        go_simp
        with_reducible rfl
      rotate_left
      · simp only [Act.put, List.setIfInBounds_toArray, List.set_cons_zero, List.set_cons_succ]
        rfl
      refine pure_ (i := 33) (N := some 150) (v := ?_) (a' := ?_) #[true, true, true, true, true, true, true, true, true, true, true, true, true, true, true, true, true, true, true, true, true, true, true, true, true, true, true, true, true, true, true, true, true, true, false, false, false, false, false, false, false, false, false, false, false] rfl rfl (any_of HT_.out (by kernel_rfl)) (fun _ _ _ h => h) (Or.inl ⟨by rfl, ?_⟩) ?_ ?_
      rotate_left
      · intro w'
        go_simp
        with_reducible rfl
      rotate_left
      · simp only [Act.put, List.setIfInBounds_toArray, List.set_cons_zero, List.set_cons_succ]
        rfl
      refine pure_ (i := 34) (N := some 151) (v := ?_) (a' := ?_) #[true, true, true, true, true, true, true, true, true, true, true, true, true, true, true, true, true, true, true, true, true, true, true, true, true, true, true, true, true, true, true, true, true, true, true, false, false, false, false, false, false, false, false, false, false] rfl rfl (any_of HT_.out (by kernel_rfl)) (fun _ _ _ h => h) (Or.inl ⟨by rfl, ?_⟩) ?_ ?_
      rotate_left
      · intro w'
        go_simp
        with_reducible rfl
      rotate_left
      · simp only [Act.put, List.setIfInBounds_toArray, List.set_cons_zero, List.set_cons_succ]
        rfl
      refine pure_ (i := 35) (N := some 152) (v := ?_) (a' := ?_) #[true, true, true, true, true, true, true, true, true, true, true, true, true, true, true, true, true, true, true, true, true, true, true, true, true, true, true, true, true, true, true, true, true, true, true, true, false, false, false, false, false, false, false, false, false] rfl rfl (any_of HT_.out (by kernel_rfl)) (fun _ _ _ h => h) (Or.inl ⟨by rfl, ?_⟩) ?_ ?_
      rotate_left
      · intro w'
        go_simp
        with_reducible rfl
      rotate_left
      · simp only [Act.put, List.setIfInBounds_toArray, List.set_cons_zero, List.set_cons_succ]
        rfl
      refine pure_ (i := 36) (N := some 153) (v := ?_) (a' := ?_) #[true, true, true, true, true, true, true, true, true, true, true, true, true, true, true, true, true, true, true, true, true, true, true, true, true, true, true, true, true, true, true, true, true, true, true, true, true, false, false, false, false, false, false, false, false] rfl rfl (any_of HT_.out (by kernel_rfl)) (fun _ _ _ h => h) (Or.inl ⟨by rfl, ?_⟩) ?_ ?_
      rotate_left
      · intro w'
        go_simp
        with_reducible rfl
      rotate_left
      · simp only [Act.put, List.setIfInBounds_toArray, List.set_cons_zero, List.set_cons_succ]
        rfl
      refine pure_ (i := 37) (N := some 154) (v := ?_) (a' := ?_) #[true, true, true, true, true, true, true, true, true, true, true, true, true, true, true, true, true, true, true, true, true, true, true, true, true, true, true, true, true, true, true, true, true, true, true, true, true, true, false, false, false, false, false, false, false] rfl rfl (any_of HT_.out (by kernel_rfl)) (fun _ _ _ h => h) (Or.inl ⟨by rfl, ?_⟩) ?_ ?_
      rotate_left
      · intro w'
        go_simp
        with_reducible rfl
      rotate_left
      · simp only [Act.put, List.setIfInBounds_toArray, List.set_cons_zero, List.set_cons_succ]
        rfl
      refine pure_ (i := 38) (N := some 155) (v := ?_) (a' := ?_) #[true, true, true, true, true, true, true, true, true, true, true, true, true, true, true, true, true, true, true, true, true, true, true, true, true, true, true, true, true, true, true, true, true, true, true, true, true, true, true, false, false, false, false, false, false] rfl rfl (any_of HT_.out (by kernel_rfl)) (fun _ _ _ h => h) (Or.inl ⟨by rfl, ?_⟩) ?_ ?_
      rotate_left
      · intro w'
        go_simp
        (try simp only [bsOf_size, hbs])
        with_reducible rfl
      rotate_left
      · simp only [Act.put, List.setIfInBounds_toArray, List.set_cons_zero, List.set_cons_succ]
        rfl
      refine pure_ (i := 39) (N := some 156) (v := ?_) (a' := ?_) #[true, true, true, true, true, true, true, true, true, true, true, true, true, true, true, true, true, true, true, true, true, true, true, true, true, true, true, true, true, true, true, true, true, true, true, true, true, true, true, true, false, false, false, false, false] rfl rfl (any_of HT_.out (by kernel_rfl)) (fun _ _ _ h => h) (Or.inl ⟨by rfl, ?_⟩) ?_ ?_
      rotate_left
      · intro w'
        go_simp
        (try simp only [hmul0, hwn0])
        with_reducible rfl
      rotate_left
      · simp only [Act.put, List.setIfInBounds_toArray, List.set_cons_zero, List.set_cons_succ]
        rfl
      refine pure_ (i := 40) (N := some 157) (v := ?_) (a' := ?_) #[true, true, true, true, true, true, true, true, true, true, true, true, true, true, true, true, true, true, true, true, true, true, true, true, true, true, true, true, true, true, true, true, true, true, true, true, true, true, true, true, true, false, false, false, false] rfl rfl (any_of HT_.out (by kernel_rfl)) (fun _ _ _ h => h) (Or.inl ⟨by rfl, ?_⟩) ?_ ?_
      rotate_left
      · intro w'
        go_simp
        with_reducible rfl
      rotate_left
      · simp only [Act.put, List.setIfInBounds_toArray, List.set_cons_zero, List.set_cons_succ]
        rfl
      refine one_ (i := 41) (N := some 158) #[true, true, true, true, true, true, true, true, true, true, true, true, true, true, true, true, true, true, true, true, true, true, true, true, true, true, true, true, true, true, true, true, true, true, true, true, true, true, true, true, true, true, false, false, false] rfl rfl (one_of HT_.out (by kernel_rfl)) (by decide) (fun K hK => ?_)
      refine goes_ Tryz.func8 (by kernel_rfl) rfl #[.int .i64 (ns : Int), .bool big] (by rfl) rfl rfl (by (try simp only [List.map_toArray, List.map_cons, List.map_nil]); first | done | rfl) ?_
      refine (C_ns.out _).mono ?_
      rintro e W18 ⟨rfl, hb⟩
      refine ⟨_, rfl, ?_⟩
      have HB6 := Aside0.mk (below_step HB6.out hb)
      clear hb
      refine hK.out _ _ trivial (fun hHeld => ?_)
      clear hK K
      refine norm_ (a' := ?_) ?_ ?_
      rotate_left
      · show Act.put _ (some 158) _ = _
        simp only [Act.put, List.setIfInBounds_toArray, List.set_cons_zero, List.set_cons_succ]
        rfl
      refine pure_ (i := 42) (N := some 159) (v := ?_) (a' := ?_) #[true, true, true, true, true, true, true, true, true, true, true, true, true, true, true, true, true, true, true, true, true, true, true, true, true, true, true, true, true, true, true, true, true, true, true, true, true, true, true, true, true, true, true, false, false] rfl rfl (any_of HT_.out (by kernel_rfl)) (fun _ _ _ h => h) (Or.inl ⟨by rfl, ?_⟩) ?_ ?_
      rotate_left
      · intro w'
        go_simp
        (try simp only [decide_true, beq_self_eq_true])
        with_reducible rfl
      rotate_left
      · simp only [Act.put, List.setIfInBounds_toArray, List.set_cons_zero, List.set_cons_succ]
        rfl
      refine pure_ (i := 43) (N := some 160) (v := ?_) (a' := ?_) #[true, true, true, true, true, true, true, true, true, true, true, true, true, true, true, true, true, true, true, true, true, true, true, true, true, true, true, true, true, true, true, true, true, true, true, true, true, true, true, true, true, true, true, true, false] rfl rfl (any_of HT_.out (by kernel_rfl)) (fun _ _ _ h => h) (Or.inl ⟨by rfl, ?_⟩) ?_ ?_
      rotate_left
      · intro w'
        go_simp
        with_reducible rfl
      rotate_left
      · simp only [Act.put, List.setIfInBounds_toArray, List.set_cons_zero, List.set_cons_succ]
        rfl
      refine pure_ (i := 44) (N := some 10) (v := ?_) (a' := ?_) #[true, true, true, true, true, true, true, true, true, true, true, true, true, true, true, true, true, true, true, true, true, true, true, true, true, true, true, true, true, true, true, true, true, true, true, true, true, true, true, true, true, true, true, true, true] rfl rfl (any_of HT_.out (by kernel_rfl)) (fun _ _ _ h => h) (Or.inl ⟨by rfl, ?_⟩) ?_ ?_
      rotate_left
      · intro w'
        go_simp
        with_reducible rfl
      rotate_left
      · simp only [Act.put, List.setIfInBounds_toArray, List.set_cons_zero, List.set_cons_succ]
        rfl
      refine done_ (done_of HT_.out (by kernel_rfl)) ?_
      go_wp2_with fail
      refine ⟨rfl, .bool true, ?_, rfl, HB6.out⟩
      simp [results, Tryz.results3, go_sem]
end Go.Proofs.YtldjigfnagfalaaGreatDoor.Given
/- The law on arrays of numbers over whatever may come in. -/
namespace Go.Proofs.YtldjigfnagfalaaGreatDoor.Given
open Go.RowKit Go.Proofs.YtldjigfnagfalaaGreatDoorW.PrintWords Go.Proofs.YtldjigfnagfalaaGreatDoorW.PrintLast Go.Proofs.YtldjigfnagfalaaGreatDoorW.PrintMore Go.Proofs.YtldjigfnagfalaaGreatDoor.PWi
set_option linter.unusedVariables false
set_option maxHeartbeats 4000000 in
set_option maxRecDepth 100000 in
theorem law_big (n : Nat) (hn : 200 < n) (v a2 a3 : Int) (big : Bool) (A0 : Option Addr) (c0 : Nat) (w : World) :
    Calls Tryz.prog 3 #[.slice A0 n c0, .int .u64 v, .int .u8 a2, .int .u8 a3, .bool big] w fun e w' => e = .returned (.bool true) ∧ Below w.heap.size w w' := by
  by_cases h : 2147483647 < n
  · have h1 : (2147483647 : Int) < (n : Int) := by omega
    go_enter Tryz.func3, Tryz.ntmps3
    go_wp2_with fail
    refine ⟨rfl, .bool true, ?_, rfl, Below.refl _ _⟩
    simp [results, Tryz.results3, go_sem]
  · have h1 : ¬ (2147483647 : Int) < (n : Int) := by omega
    have h2 : (200 : Int) < (n : Int) := by omega
    go_enter Tryz.func3, Tryz.ntmps3
    go_wp2_with fail
    refine ⟨rfl, .bool true, ?_, rfl, Below.refl _ _⟩
    simp [results, Tryz.results3, go_sem]
theorem nat_of_u64 {x : Int} (h : (Lit.int .u64 x).wf = true) : ∃ n : Nat, x = (n : Int) ∧ n < 18446744073709551616 := by
  simp [Lit.wf, IntKind.min, IntKind.max, IntKind.signed, IntKind.bits] at h
  exact ⟨x.toNat, by omega, by omega⟩
theorem nat_of_u8 {x : Int} (h : (Lit.int .u8 x).wf = true) : ∃ n : Nat, x = (n : Int) ∧ n < 256 := by
  simp [Lit.wf, IntKind.min, IntKind.max, IntKind.signed, IntKind.bits] at h
  exact ⟨x.toNat, by omega, by omega⟩
theorem nats_of : ∀ l : List Int, (∀ x ∈ l, (Lit.int .u64 x).wf = true) → ∃ vs : List Nat, l = vs.map (fun n : Nat => (n : Int)) ∧ ∀ v ∈ vs, v < 18446744073709551616
  | [], _ => ⟨[], rfl, fun _ h => nomatch h⟩
  | x :: l, h => by
    obtain ⟨n, hn, hlt⟩ := nat_of_u64 (h x (List.mem_cons_self ..))
    obtain ⟨vs, hvs, hv⟩ := nats_of l (fun y hy => h y (List.mem_cons_of_mem _ hy))
    refine ⟨n :: vs, by rw [hn, hvs]; rfl, fun v hm => ?_⟩
    rcases List.mem_cons.1 hm with rfl | hm
    · exact hlt
    · exact hv v hm
theorem C_of_reads {w : World} {A : Option Addr} {l : List Int} (h : ReadsInt w .u64 A l.length l) : Kd.C (Kd.int .u64) w A l.length l := by
  refine ⟨rfl, h.2.1, fun hp => ?_⟩
  obtain ⟨ad, hA, hc⟩ := h.2.2 hp
  refine ⟨ad, hA, fun j p hj => ⟨[.int .u64 p], rfl, rfl, fun i u hu => ?_⟩⟩
  obtain ⟨hjl, hjp⟩ := List.getElem?_eq_some_iff.1 hj
  obtain ⟨hi, hu⟩ := List.getElem?_eq_some_iff.1 hu
  obtain rfl : i = 0 := by simpa using hi
  obtain rfl : Value.int .u64 p = u := hu
  have := hc j hjl
  rw [List.getD_eq_getElem?_getD, List.getElem?_eq_getElem hjl] at this
  rw [show j * (Kd.int .u64).sz + 0 = j from Nat.mul_one j, this, Option.getD_some, hjp]
theorem law_row (A0 : Option Addr) (len0 cap0 : Nat) (zs : List Int) (a1 a2 a3 : Int) (a4 : Bool) (w : World)
    (w0 : (A0 = none ∧ len0 = 0 ∧ cap0 = 0 ∧ zs = []) ∨ ∃ x, A0 = some x ∧ len0 ≤ cap0 ∧ cap0 ≤ maxLen ∧ zs.length = cap0 ∧ (∀ i, i < zs.length → w.cell? (x.add i) = some (.int .u64 (zs.getD i 0))) ∧ ∀ n ∈ zs, (Lit.int .u64 n).wf = true)
    (w1 : (Lit.int .u64 a1).wf = true) (w2 : (Lit.int .u8 a2).wf = true) (w3 : (Lit.int .u8 a3).wf = true) :
    Calls Tryz.prog 3 #[.slice A0 len0 cap0, .int .u64 a1, .int .u8 a2, .int .u8 a3, .bool a4] w fun e w' => e = .returned (.bool true) ∧ Below w.heap.size w w' := by
  obtain ⟨l0, rfl, hr0, hm0, hw0, hc0⟩ := ReadsInt.ofRowC w0
  by_cases h : 200 < l0.length
  · exact law_big l0.length h a1 a2 a3 a4 A0 cap0 w
  · obtain ⟨vs, rfl, hv⟩ := nats_of l0 hw0
    obtain ⟨v, rfl, hv1⟩ := nat_of_u64 w1
    obtain ⟨b2, rfl, h2⟩ := nat_of_u8 w2
    obtain ⟨b3, rfl, h3⟩ := nat_of_u8 w3
    obtain ⟨k, hk⟩ := kind_at (b2 % 9) (Nat.mod_lt _ (by decide))
    have hC := C_of_reads hr0
    have hlen : (vs.map fun n : Nat => (n : Int)).length = vs.length := List.length_map ..
    rw [hlen] at hC hc0 h ⊢
    exact law_walk k a4 vs hv (Nat.not_lt.1 h) v hv1 b2 b3 h2 h3 hk A0 cap0 hc0 w hC
end Go.Proofs.YtldjigfnagfalaaGreatDoor.Given
