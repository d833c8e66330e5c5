import Derived.Test.YthkmgbfobobpdaaEscPl
import Derived.Deep.Cut
import Derived.Deep.DeepCutAuto
import Derived.Laws.MakeOwn
import Derived.Laws.NewBlocks
import Derived.Outline
namespace Go.Proofs.Ythkmgbfobobpdaa.Given
open Go.RowKit Go.Proofs.YthkmgbfobobpdaaW.PrintWords Go.Proofs.Ythkmgbfobobpdaa.PAe Go.Proofs.Ythkmgbfobobpdaa.Pl

/-- Bytes that lie in a block from its begin on and may be written. -/
def Buf (w : World) (g : Nat) (xs : List Int) : Prop := ∃ cs t, w.heap[g]? = some (.cells cs t (0, 0)) ∧ ∀ i, i < xs.length → cs[i]? = some (.int .u8 (xs.getD i 0))
theorem Buf.cell {w : World} {g : Nat} {xs : List Int} (h : Buf w g xs) (i : Nat) (hi : i < xs.length) : w.cell? ⟨g, i, none⟩ = some (.int .u8 (xs.getD i 0)) := by
  obtain ⟨cs, t, h1, h2⟩ := h
  exact (blk_cell h1 i).trans (h2 i hi)
theorem Buf.frozen {w : World} {g : Nat} {xs : List Int} (h : Buf w g xs) (i : Nat) : w.frozen? ⟨g, i, none⟩ = false := by
  obtain ⟨cs, t, h1, h2⟩ := h
  exact blk_frozen h1 i
theorem Buf.set {w : World} {g : Nat} {xs : List Int} (h : Buf w g xs) (j : Nat) (v : Int) : Buf (w.setCell ⟨g, j, none⟩ (.int .u8 v)) g (xs.set j v) := by
  obtain ⟨cs, t, h1, h2⟩ := h
  refine ⟨_, t, blk_set h1 j _, fun i hi => ?_⟩
  rw [List.length_set] at hi
  have := h2 i hi
  have hsz : i < cs.size := (Array.getElem?_eq_some_iff.1 this).1
  rw [Array.getElem?_setIfInBounds]
  by_cases e : j = i
  · subst e
    rw [if_pos rfl, if_pos hsz]
    simp [List.getD_eq_getElem?_getD, hi]
  · rw [if_neg e, this]
    simp [List.getD_eq_getElem?_getD, e]
theorem Buf.drewN {w : World} {g : Nat} {xs : List Int} (h : Buf w g xs) (m : Nat) : Buf (w.drewN m) g xs := h
theorem Buf.drawn {w w' : World} {g : Nat} {xs : List Int} (h : Buf w g xs) (hd : Drawn0 w w') : Buf w' g xs := by
  obtain ⟨⟨m, rfl⟩⟩ := hd
  exact h
theorem below_drawn {B : Nat} {w w1 w' : World} (h : Below B w w1) (hd : Drawn0 w1 w') : Below B w w' := by
  obtain ⟨⟨m, rfl⟩⟩ := hd
  exact pw_below_drewN h m
theorem Buf.new (w : World) (cs : Array Value) (t : TypeId) (n : Nat) (h : ∀ i, i < n → cs[i]? = some (.int .u8 0)) : Buf (w.alloc (.cells cs t)) w.heap.size (List.replicate n 0) := by
  refine ⟨cs, t, blk_new w _, fun i hi => ?_⟩
  rw [List.length_replicate] at hi
  rw [h i hi, List.getD_eq_getElem?_getD, List.getElem?_replicate, if_pos hi]; rfl
theorem Buf.newAt (w : World) (cs : Array Value) (t : TypeId) (n g : Nat) (hg : g = w.heap.size) (h : ∀ i, i < n → cs[i]? = some (.int .u8 0)) : Buf (w.alloc (.cells cs t)) g (List.replicate n 0) := by
  subst hg; exact Buf.new w cs t n h
theorem lit64 (i : Nat) (h : i < 64) : (Array.replicate 64 (Value.int .u8 0))[i]? = some (.int .u8 0) := by
  simp [h]
theorem made_at (n i : Nat) (h : i < n) : (madeCells (Value.cells (.int .u8 0)) n)[i]? = some (.int .u8 0) := by
  have hc : Value.cells (.int .u8 0) = #[.int .u8 0] := rfl
  simp [madeCells, hc, h, Nat.mod_one]

/-- The buffer's row when so many bytes are done. -/
def Row (s : ByteArray) (i T J : Nat) (xs : List Int) : Prop := (J = (escB s i).length ∧ xs = escB s i ++ List.replicate (T - J) 0 ∧ (escB s s.size).length = T) ∧ xs.length = T
theorem Row.zero (s : ByteArray) (T : Nat) (h : (escB s s.size).length = T) : Row s 0 T 0 (List.replicate T 0) := ⟨⟨rfl, rfl, h⟩, by simp⟩
theorem Row.room {s : ByteArray} {i T J : Nat} {xs : List Int} (h : Row s i T J xs) (hlt : i < s.size) : J + (esc1 (bt s (i : Int))).length ≤ T := by
  obtain ⟨⟨h1, h2, h3⟩, h4⟩ := h
  have := escB_mono s (show i + 1 ≤ s.size by omega)
  rw [escB, List.length_append] at this
  omega
theorem Row.room3 {s : ByteArray} {i T J : Nat} {xs : List Int} (h : Row s i T J xs) (hlt : i < s.size) (hne : ne (bt s (i : Int)) = true) : J + 2 < T := by
  have := h.room hlt
  rw [esc1_len, if_pos hne] at this
  omega
theorem Row.room1 {s : ByteArray} {i T J : Nat} {xs : List Int} (h : Row s i T J xs) (hlt : i < s.size) : J < T := by
  have := h.room hlt
  rw [esc1_len] at this
  omega
theorem Row.full {s : ByteArray} {T J : Nat} {xs : List Int} (h : Row s s.size T J xs) : xs = escB s s.size := by
  obtain ⟨⟨h1, h2, h3⟩, h4⟩ := h
  rw [h2, h1, h3, Nat.sub_self]; simp
theorem Row.step {s : ByteArray} {i T J : Nat} {xs : List Int} (h : Row s i T J xs) (hlt : i < s.size) (ys : List Int) (hy : esc1 (bt s (i : Int)) = ys) (xs' : List Int) (hx : xs' = (xs.take J ++ ys) ++ xs.drop (J + ys.length)) : Row s (i + 1) T (J + ys.length) xs' := by
  have hr := h.room hlt
  obtain ⟨⟨h1, h2, h3⟩, h4⟩ := h
  rw [hy] at hr
  have e1 : xs.take J = escB s i := by rw [h2, h1, List.take_left]
  have e2 : xs.drop (J + ys.length) = List.replicate (T - (J + ys.length)) 0 := by
    rw [h2, List.drop_append, h1, List.drop_eq_nil_of_le (by omega), List.nil_append, List.drop_replicate]
    congr 1
    omega
  have e3 : escB s (i + 1) = escB s i ++ ys := by rw [escB, hy]
  refine ⟨⟨by rw [e3, List.length_append, h1], by rw [hx, e1, e2, e3], h3⟩, ?_⟩
  rw [hx, e1, e2, List.length_append, List.length_append, List.length_replicate]
  omega
theorem and15 (x : Int) (h0 : 0 ≤ x) (h1 : x < 256) : Go.bits .and .u8 x 15 = x % 16 := by
  have := bits_mask .u8 8 (by decide) wraps_u8 4 (by decide) x h0 h1
  simpa using this
theorem three_set (xs : List Int) (J : Nat) (a b c : Int) (h : J + 2 < xs.length) : ((xs.set J a).set (J + 1) b).set (J + 2) c = (xs.take J ++ [a, b, c]) ++ xs.drop (J + 3) := by
  apply List.ext_getElem?
  intro k
  simp only [List.getElem?_set, List.length_set, List.append_assoc]
  by_cases k0 : k < J
  · rw [if_neg (by omega), if_neg (by omega), if_neg (by omega), List.getElem?_append_left (by simp; omega), List.getElem?_take_of_lt k0]
  · rw [List.getElem?_append_right (by simp; omega), List.length_take, Nat.min_eq_left (by omega)]
    by_cases k1 : k = J
    · subst k1; simp; omega
    by_cases k2 : k = J + 1
    · subst k2; simp; omega
    by_cases k3 : k = J + 2
    · subst k3; simp; omega
    · rw [if_neg (by omega), if_neg (by omega), if_neg (by omega), List.getElem?_append_right (by simp; omega), List.getElem?_drop]
      congr 1; simp; omega
theorem one_set (xs : List Int) (J : Nat) (a : Int) (h : J < xs.length) : xs.set J a = (xs.take J ++ [a]) ++ xs.drop (J + 1) := by
  rw [List.set_eq_take_append_cons_drop, if_pos h]; simp
theorem size5 (W : World) : (sizeOf 5).run Try.prog W = .ok 1 W := by kernel_rfl
theorem slice64 (g m : Nat) (q : Int) (hq : q = (m : Int)) (h : m ≤ 64) (W : World) : (Instr.sliceAt 68 (.pointer (some ⟨g, 0, none⟩)) none (some (.int .i64 q)) none).run Try.prog W = .ok (.slice (some ⟨g, 0, none⟩) m 64) W := by
  have hlen : Try.prog.arrayLen 68 = 64 := by kernel_rfl
  have hel : Try.prog.elem 68 = 5 := by kernel_rfl
  have hu : Try.prog.underlying 68 = some (.array (Try.prog.arrayLen 68) (Try.prog.elem 68)) := by kernel_rfl
  subst hq
  rw [run_sliceAt_array_h W 68 _ hu .i64 (m : Int) (by omega) (by rw [hlen]; omega), hel, size5]
  simp [Result.andThen, slicedAt, hlen, Addr.add]
theorem info5' : ∃ i, Try.prog.info? 5 = some i ∧ i.zero = some (.int .u8 0) ∧ i.size = 1 ∧ i.bytes = 1 := by
  have h : (Try.prog.info? 5).map (fun i => (i.zero, i.size, i.bytes)) = some (some (.int .u8 0), 1, 1) := by kernel_rfl
  obtain ⟨i, hi, hz⟩ := Option.map_eq_some_iff.1 h
  simp only [Prod.mk.injEq] at hz
  exact ⟨i, hi, hz.1, hz.2.1, hz.2.2⟩
theorem make35 (m : Nat) (q : Int) (hq : q = (m : Int)) (h : m ≤ 281474976710656) (W : World) : (Instr.makeSlice 35 (.int .i64 q) (.int .i64 q)).run Try.prog W = .ok (.slice (some ⟨W.heap.size, 0, none⟩) m m) (W.alloc (.cells (madeCells (Value.cells (.int .u8 0)) m) 5)) := by
  obtain ⟨i, hi, hz, h1, h2⟩ := info5'
  subst hq
  rw [run_make W 35 5 i (.int .u8 0) Try.underlying35 hi hz .i64 .i64 (m : Int) (m : Int) (by omega) (by omega) (by rw [h2]; omega) (by omega), h1]
  simp

set_option maxRecDepth 100000 in
set_option maxHeartbeats 2000000 in
theorem EscapeBus.calls (s : ByteArray) (r : ByteArray) (w : World) (h : EscapeBus.f s = some r) :
    Calls Try.prog 38 #[.string s] w fun e w' => e = .returned (.string r) ∧ Below w.heap.size w w' := by
  unfold EscapeBus.f at h
  by_cases hs : s.size ≤ 1099511627776
  case neg => rw [if_neg hs] at h; cases h
  rw [if_pos hs] at h
  have hr := Aside0.mk (Option.some.inj h)
  clear h
  obtain ⟨k, hk⟩ := needs_f s (by omega)
  have HK := Aside0.mk hk
  clear hk
  have hle := nEsc_le s s.size
  by_cases h0 : nEsc s s.size = 0
  · replace HK : Aside0 (dbus_strNeedsEscape.f k s = some 0) := Aside0.mk (by have := HK.out; rw [h0] at this; exact this)
    have hp := esc_plain s h0
    rw [hr.out] at hp
    have hp' := hp.symm
    subst hp'
    clear h0 hr hle
    go_enter Try.func38, Try.ntmps38
    go_wp2_with (go_at_call 51; refine (dbus_strNeedsEscape.calls k s _ _ HK.out).mono ?_; rintro e w' ⟨rfl, hd⟩)
    go_ret
    exact ⟨rfl, hd.below⟩
  · obtain ⟨n, hn⟩ : ∃ n, nEsc s s.size = n := ⟨_, rfl⟩
    rw [hn] at HK h0 hle
    have hlen := Aside0.mk (escB_len s s.size)
    have hn0 : ((n : Int) == 0) = false := by simpa using h0
    have hn1 : 1 ≤ n := by omega
    have HN := Aside0.mk hn
    clear hn h0
    go_enter Try.func38, Try.ntmps38
    go_upto_if 21 with (go_at_call 51; refine (dbus_strNeedsEscape.calls k s _ _ HK.out).mono ?_; rintro e w1 ⟨rfl, hd⟩)
    go_cut [5] (fun v5 wc => ∃ g c : Nat, v5 = .slice (some ⟨g, 0, none⟩) (s.size + 2 * n) c ∧ Aside0 (w.heap.size ≤ g) ∧ Aside0 (Buf wc g (List.replicate (s.size + 2 * n) 0)) ∧ Aside0 (Below w.heap.size w wc))
    case first =>
      have hb1 := Aside0.mk hd.below
      clear hd
      by_cases c : s.size + 2 * n ≤ 64
      · have c1 : decide ((s.size : Int) + 2 * (n : Int) ≤ 64) = true := decide_eq_true (by omega)
        have hsl := fun g W => slice64 g (s.size + 2 * n) ((s.size : Int) + 2 * (n : Int)) (by omega) c W
        go_wp2_with (fail)
        go_meet
        case rel => exact ⟨_, _, rfl, Aside0.mk hb1.out.size, Aside0.mk (Buf.new w1 _ _ _ (fun i hi => lit64 i (by omega))), Aside0.mk (below_alloc hb1.out _)⟩
      · have c1 : decide ((s.size : Int) + 2 * (n : Int) ≤ 64) = false := decide_eq_false (by omega)
        have hsl := fun W => make35 (s.size + 2 * n) ((s.size : Int) + 2 * (n : Int)) (by omega) (by omega) W
        go_wp2_with (fail)
        go_meet
        case rel => exact ⟨_, _, rfl, Aside0.mk (by have := (below_alloc hb1.out (.cells #[] 68)).size; simp; simp at this; omega), Aside0.mk (Buf.newAt _ _ _ _ _ (by simp) (fun i hi => made_at _ i hi)), Aside0.mk (below_alloc (below_alloc hb1.out _) _)⟩
    case rest =>
      obtain ⟨g, c, rfl, hg, hB, hbel⟩ := hcut
      clear hd
      have HL := hlen.out
      rw [HN.out] at HL
      have HLe := Aside0.mk HL
      clear HL hlen
      go_wp2
      go_loopw [7, 8] (fun v7 v8 w' => ∃ (i J : Nat) (xs : List Int), i ≤ s.size ∧ v8 = .int .i64 (i : Int) ∧ v7 = .int .i64 (J : Int) ∧ Aside0 (Row s i (s.size + 2 * n) J xs) ∧ Aside0 (Buf w' g xs) ∧ Aside0 (Below w.heap.size w w')) (fun _ v8 _ => s.size - (intOf v8).toNat)
      case atStart => exact ⟨0, 0, _, by omega, rfl, rfl, Aside0.mk (Row.zero s _ HLe.out), hB, hbel⟩
      case round =>
        obtain ⟨i, J, xs, hi, rfl, rfl, hrow, hb, hbel⟩ := hrel
        by_cases hlt : i < s.size
        · by_cases hne : ne (bt s (i : Int)) = true
          · have hne' : ne ((s[i]'hlt).toNat : Int) = true := by rw [← bt_at s (i : Int) hlt] at hne; exact hne
            have hJ : J + 2 < s.size + 2 * n := hrow.out.room3 hlt hne
            have hl : xs.length = s.size + 2 * n := hrow.out.2
            have HX := Aside0.mk hl
            clear hl
            have hJ1 : J < s.size + 2 * n := by omega
            have hJ2 : J + 1 < s.size + 2 * n := by omega
            go_wp2_with (fail)
            refine (dbus_needsEscape.calls 1 _ _ _ (ne_f 0 _)).mono ?_
            rintro e w2 ⟨rfl, hd2⟩
            have hb2 := Aside0.mk (hb.out.drawn hd2)
            have hbel2 := Aside0.mk (below_drawn hbel.out hd2)
            clear hd2
            have hcell := hb2.out.cell J (by rw [HX.out]; omega)
            have hfr := hb2.out.frozen J
            have hby : 0 ≤ ((s[i]'hlt).toNat : Int) / 16 ∧ ((s[i]'hlt).toNat : Int) / 16 < 16 := by have := (s[i]'hlt).toNat_lt; omega
            have HBY := Aside0.mk hby
            have hbz : 0 ≤ ((s[i]'hlt).toNat : Int) ∧ ((s[i]'hlt).toNat : Int) < 256 := by have := (s[i]'hlt).toNat_lt; omega
            have HBZ := Aside0.mk hbz
            clear hby hbz
            go_wp2_with (fail)
            refine (dbus_hexchar.calls _ _ _ (hex_f _ HBY.out)).mono ?_
            rintro e w3 ⟨rfl, hd3⟩
            have hb3 := Aside0.mk ((hb2.out.set J 37).drawn hd3)
            have hbel3 := Aside0.mk (below_drawn (below_set hbel2.out hg.out) hd3)
            clear hd3 hcell hfr
            have hcell := hb3.out.cell (J + 1) (by rw [List.length_set, HX.out]; omega)
            have hfr := hb3.out.frozen (J + 1)
            go_wp2_with (fail)
            refine (dbus_hexchar.calls _ _ _ (by rw [and15 _ HBZ.out.1 HBZ.out.2]; exact hex_f _ ⟨Int.emod_nonneg _ (by omega), Int.emod_lt_of_pos _ (by omega)⟩)).mono ?_
            rintro e w4 ⟨rfl, hd4⟩
            have hb4 := Aside0.mk ((hb3.out.set (J + 1) _).drawn hd4)
            have hbel4 := Aside0.mk (below_drawn (below_set hbel3.out hg.out) hd4)
            clear hd4 hcell hfr
            have hcell := hb4.out.cell (J + 2) (by rw [List.length_set, List.length_set, HX.out]; omega)
            have hfr := hb4.out.frozen (J + 2)
            go_wp2_with (fail)
            go_roundw
            case rel => exact ⟨i + 1, J + 3, _, by omega, by go_num, by go_num, Aside0.mk (hrow.out.step hlt [37, hx ((s[i]'hlt).toNat / 16), hx ((s[i]'hlt).toNat % 16)] (by rw [esc1, if_pos hne, ← bt_at s (i : Int) hlt]; rfl) _ (three_set _ _ _ _ _ (by rw [HX.out]; omega))), Aside0.mk (hb4.out.set (J + 2) _), Aside0.mk (below_set hbel4.out hg.out)⟩
            case measure => simp [intOf]; omega
          · have hne' : ne ((s[i]'hlt).toNat : Int) = false := by rw [← bt_at s (i : Int) hlt] at hne; simpa using hne
            have hJ : J < s.size + 2 * n := hrow.out.room1 hlt
            have hl : xs.length = s.size + 2 * n := hrow.out.2
            have HX := Aside0.mk hl
            clear hl
            go_wp2_with (fail)
            refine (dbus_needsEscape.calls 1 _ _ _ (ne_f 0 _)).mono ?_
            rintro e w2 ⟨rfl, hd2⟩
            have hb2 := Aside0.mk (hb.out.drawn hd2)
            have hbel2 := Aside0.mk (below_drawn hbel.out hd2)
            clear hd2
            have hcell := hb2.out.cell J (by rw [HX.out]; omega)
            have hfr := hb2.out.frozen J
            go_wp2_with (fail)
            go_roundw
            case rel => exact ⟨i + 1, J + 1, _, by omega, by go_num, by go_num, Aside0.mk (hrow.out.step hlt [((s[i]'hlt).toNat : Int)] (by rw [esc1, if_neg hne, ← bt_at s (i : Int) hlt]; rfl) _ (one_set _ _ _ (by rw [HX.out]; omega))), Aside0.mk (hb2.out.set J _), Aside0.mk (below_set hbel2.out hg.out)⟩
            case measure => simp [intOf]; omega
        · obtain rfl : i = s.size := by omega
          have hx := hrow.out.full
          have hl : xs.length = s.size + 2 * n := hrow.out.2
          have hcv := run_convert_bytes_arg (P := Try.prog) wr 35 5 Try.underlying35 Try.underlying5 g 0 (s.size + 2 * n) c xs hl (fun q hq => by rw [Nat.zero_add]; exact hb.out.cell q (by omega)) 9 Try.underlying9
          have HX := Aside0.mk hx
          clear hx hl
          go_wp2
          go_ret
          exact ⟨by rw [HX.out, hr.out]; rfl, hbel.out⟩
end Go.Proofs.Ythkmgbfobobpdaa.Given
