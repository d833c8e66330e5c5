import Derived.Test.YthkmgbfobobpdaaPAe2x1
import Derived.Test.YthkmgbfobobpdaaAdPl
import Derived.Test.YthkmgbfobobpdaaGvEsc
import Derived.Lib.ConvBytes
namespace Go.Proofs.Ythkmgbfobobpdaa.AdBytes
open Go.RowKit Go.Proofs.YthkmgbfobobpdaaW.PrintWords Go.Proofs.Ythkmgbfobobpdaa.PAe2 Go.Proofs.Ythkmgbfobobpdaa.Pl Go.Proofs.Ythkmgbfobobpdaa.Given Go.Proofs.Ythkmgbfobobpdaa.AdPl

/-- Bytes that lie in a block from its begin on and may be written; what is marked lies behind them. -/
def BufM (w : World) (g : Nat) (xs : List Int) : Prop := ∃ cs t lo hi, w.heap[g]? = some (.cells cs t (lo, hi)) ∧ xs.length ≤ lo ∧ ∀ i, i < xs.length → cs[i]? = some (.int .u8 (xs.getD i 0))
theorem BufM.cell {w : World} {g : Nat} {xs : List Int} (h : BufM w g xs) (i : Nat) (hi : i < xs.length) : w.cell? ⟨g, i, none⟩ = some (.int .u8 (xs.getD i 0)) := by
  obtain ⟨cs, t, lo, hi', h1, _, h2⟩ := h
  exact (cell_of_row w g i cs t _ h1).trans (h2 i hi)
theorem BufM.frozen {w : World} {g : Nat} {xs : List Int} (h : BufM w g xs) (i : Nat) (hi : i < xs.length) : w.frozen? ⟨g, i, none⟩ = false := by
  obtain ⟨cs, t, lo, hi', h1, h3, h2⟩ := h
  have : ¬ lo ≤ i := by omega
  simp [World.frozen?, h1, this]
theorem BufM.set {w : World} {g : Nat} {xs : List Int} (h : BufM w g xs) (j : Nat) (v : Int) : BufM (w.setCell ⟨g, j, none⟩ (.int .u8 v)) g (xs.set j v) := by
  obtain ⟨cs, t, lo, hi', h1, h3, h2⟩ := h
  refine ⟨cs.setIfInBounds j (.int .u8 v), t, lo, hi', by simp [World.setCell, Array.getElem?_modify, h1], by rw [List.length_set]; exact h3, fun i hi => ?_⟩
  rw [List.length_set] at hi
  have := h2 i hi
  have hsz : i < cs.size := (Array.getElem?_eq_some_iff.1 this).1
  rw [Array.getElem?_setIfInBounds]
  by_cases e : j = i
  · subst e
    rw [if_pos rfl, if_pos hsz]
    simp [List.getD_eq_getElem?_getD, hi]
  · rw [if_neg e, this]
    simp [List.getD_eq_getElem?_getD, e]
theorem BufM.below {w w1 : World} {g : Nat} {xs : List Int} (h : BufM w g xs) (hb : Below w.heap.size w w1) : BufM w1 g xs := by
  obtain ⟨cs, t, lo, hi', h1, h3, h2⟩ := h
  exact ⟨cs, t, lo, hi', blk_below h1 hb, h3, h2⟩
theorem BufM.new (W : World) (s : ByteArray) : BufM (Lib.bytesWorld W 5 s) W.heap.size (bytesOf s) := by
  refine ⟨_, _, _, _, Lib.bytesWorld_at_new W 5 s, ?_, fun i hi => ?_⟩
  · rw [bytesOf_length]; unfold Lib.bytesCells; simp
  · rw [bytesOf_length] at hi
    have h := Lib.bytesWorld_cell W 5 s i hi
    rw [cell_of_row _ _ i _ _ _ (Lib.bytesWorld_at_new W 5 s)] at h
    rw [h]
    have hl : i < s.data.toList.length := by rw [data_length]; exact hi
    simp [bytesOf, List.getD_eq_getElem?_getD, List.getElem?_eq_getElem hl]

def up (v : Int) : Int := if 97 ≤ v ∧ v ≤ 102 then v - 32 else v
theorem up_hx : ∀ n : Nat, n < 16 → hv (up (hx (n : Int))) = some (n : Int) := by decide
def one (c : Int) : ByteArray := strOfNums [c]
theorem one_bytes (c : Int) (h : 0 ≤ c ∧ c ≤ 255) : bytesOf (one c) = [c] := bytesOf_strOfNums [c] (fun x hx => by simp only [List.mem_cons, List.not_mem_nil, or_false] at hx; subst hx; exact h)
theorem one_bt (c : Int) (h : 0 ≤ c ∧ c ≤ 255) : bt (one c) 0 = c := by
  have := rd_bytesOf (one c) 0
  rw [one_bytes c h] at this
  exact this.symm
theorem one_size (c : Int) : (one c).size = 1 := strOfNums_size [c]
theorem esc_one (c : Int) (h : 0 ≤ c ∧ c ≤ 255) : EscapeBus.f (one c) = some (strOfNums (esc1 c)) := by
  unfold EscapeBus.f
  rw [one_size, if_pos (by decide)]
  show some (strOfNums ([] ++ esc1 (bt (one c) ((0 : Nat) : Int)))) = _
  rw [show ((0 : Nat) : Int) = 0 from rfl, one_bt c h]; rfl
theorem ad_one (c : Int) (h : 0 ≤ c ∧ c ≤ 255) : impl_AdEscape.f (one c) = some (strOfNums (esc1 c)) := by
  simp only [impl_AdEscape.f, esc_one c h]; rfl
theorem esc1_bytes (c : Int) (h : 0 ≤ c ∧ c ≤ 255) : bytesL (esc1 c) := by
  have := escB_bytes (one c) 1
  have e : escB (one c) 1 = esc1 c := by
    show [] ++ esc1 (bt (one c) ((0 : Nat) : Int)) = _
    rw [show ((0 : Nat) : Int) = 0 from rfl, one_bt c h]; rfl
  rw [e] at this; exact this
/-- Three bytes that are read as one. -/
theorem un3 (c a b : Int) (_h : 0 ≤ c ∧ c ≤ 255) (ha : 0 ≤ a ∧ a ≤ 255) (hb : 0 ≤ b ∧ b ≤ 255) (h1 : hv a = some (c / 16)) (h2 : hv b = some (c % 16)) : ∃ k, AdUnescape.f k (strOfNums [37, a, b]) = some (one c, true) := by
  have hu := unescape (strOfNums [37, a, b]) (by rw [strOfNums_size]; simp)
  rw [bytesOf_strOfNums _ (fun x hx => by
    simp only [List.mem_cons, List.not_mem_nil, or_false] at hx
    rcases hx with rfl | rfl | rfl
    · decide
    · exact ha
    · exact hb), un_esc a b _ _ [] h1 h2, un_nil] at hu
  simp only [Option.map_some, show c / 16 * 16 + c % 16 = c by omega] at hu
  exact Ev.rounds hu
theorem hexes (c : Int) (h : 0 ≤ c ∧ c ≤ 255) : (hv (hx (c / 16)) = some (c / 16) ∧ 0 ≤ hx (c / 16) ∧ hx (c / 16) ≤ 255) ∧ (hv (hx (c % 16)) = some (c % 16) ∧ 0 ≤ hx (c % 16) ∧ hx (c % 16) ≤ 255) :=
  ⟨hv_hx _ (by omega), hv_hx _ (by omega)⟩
theorem up_rng (v : Int) (h : 0 ≤ v ∧ v ≤ 255) : 0 ≤ up v ∧ up v ≤ 255 := by unfold up; split <;> omega
theorem ups (c : Int) (h : 0 ≤ c ∧ c < 16) : hv (up (hx c)) = some c := by
  obtain ⟨n, rfl⟩ : ∃ n : Nat, c = (n : Int) := ⟨c.toNat, by omega⟩
  exact up_hx n (by omega)
theorem plain_nat : ∀ n : Nat, n < 256 → spec_plainByte.f (n : Int) = some (!ne (n : Int)) := by decide +kernel
/-- A byte that stands for itself. -/
theorem escaped_one (c : Int) (h : 0 ≤ c ∧ c ≤ 255) (hn : ne c = false) : ∃ k, spec_EscapedAddress.f k (one c) = some true := by
  refine Ev.rounds ?_
  have hp : spec_plainByte.f c = some true := by
    obtain ⟨n, rfl⟩ : ∃ n : Nat, c = (n : Int) := ⟨c.toNat, by omega⟩
    rw [plain_nat n (by omega), hn]; rfl
  have hc : c ≠ 37 := by rintro rfl; exact absurd hn (by decide)
  have e1 : wrap64 ((0 : Int) + 1) = 1 := w64 (by omega) (by omega)
  have hb := one_bt c h
  have hz : ((one c).size : Int) = 1 := by rw [one_size]; rfl
  unfold spec_EscapedAddress.f
  refine Ev_up ?_
  simp only [spec_EscapedAddress.l0, hz, if_pos (show (0 : Int) < 1 by omega), if_pos (show (0 : Int) ≤ 0 by omega), hb, hp, Option.bind_some, if_true, e1]
  refine Ev_up ?_
  simp only [spec_EscapedAddress.l0, hz, if_neg (show ¬ (1 : Int) < 1 by omega)]
  refine Ev.bind (a := (one c, true)) ?_ (Ev.now _)
  unfold spec_UnescapeAddress.f
  refine Ev_up ?_
  simp only [spec_UnescapeAddress.l0, hz, if_pos (show (0 : Int) < 1 by omega), if_pos (show (0 : Int) ≤ 0 by omega), hb, if_neg hc, List.length_nil, if_pos (show 0 < 140737488355328 by decide), e1, List.nil_append]
  refine Ev_up ?_
  simp only [spec_UnescapeAddress.l0, hz, if_neg (show ¬ (1 : Int) < 1 by omega)]
  exact Ev.now _

/-- The loop's row. -/
def RowU (l xs : List Int) (i : Nat) : Prop := xs = (l.take i).map up ++ l.drop i
theorem RowU.len {l xs : List Int} {i : Nat} (h : RowU l xs i) (hi : i ≤ l.length) : xs.length = l.length := by
  rw [h]; simp; omega
theorem RowU.get {l xs : List Int} {i : Nat} (h : RowU l xs i) (hi : i < l.length) : xs.getD i 0 = l.getD i 0 := by
  rw [h, List.getD_eq_getElem?_getD, List.getD_eq_getElem?_getD, List.getElem?_append_right (by simp; omega), List.length_map, List.length_take, Nat.min_eq_left (by omega), Nat.sub_self, List.getElem?_drop, Nat.add_zero]
theorem RowU.next {l xs : List Int} {i : Nat} (h : RowU l xs i) (hi : i < l.length) : RowU l (xs.set i (up (l.getD i 0))) (i + 1) := by
  unfold RowU at h ⊢
  rw [h]
  have e1 : ((l.take i).map up).length = i := by simp; omega
  have e2 : l.drop i = l.getD i 0 :: l.drop (i + 1) := by
    rw [List.drop_eq_getElem_cons hi, List.getD_eq_getElem?_getD, List.getElem?_eq_getElem hi]; rfl
  have e3 : l.take (i + 1) = l.take i ++ [l.getD i 0] := by
    rw [List.take_add_one, List.getD_eq_getElem?_getD, List.getElem?_eq_getElem hi]; rfl
  rw [List.set_append_right _ _ (by omega), e1, Nat.sub_self, e2, e3, List.set_cons_zero, List.map_append, List.append_assoc]; rfl
theorem RowU.stay {l xs : List Int} {i : Nat} (h : RowU l xs i) (hi : i < l.length) (hu : up (l.getD i 0) = l.getD i 0) : RowU l xs (i + 1) := by
  have hn := h.next hi
  have e : xs.set i (up (l.getD i 0)) = xs := by
    rw [hu, ← h.get hi]
    apply List.ext_getElem?
    intro k
    rw [List.getElem?_set]
    by_cases e : i = k
    · subst e
      have hl := h.len (by omega)
      rw [if_pos rfl, if_pos (by omega), List.getD_eq_getElem?_getD, List.getElem?_eq_getElem (by omega)]; rfl
    · rw [if_neg e]
  rw [e] at hn; exact hn

theorem conv_one (c : Int) (w : World) : (convert 35 9 (.slice (some ⟨w.heap.size, 0, none⟩) 1 1)).run Try.prog (w.alloc (.cells #[.int .u8 c] 5)) = .ok (.string (one c)) (w.alloc (.cells #[.int .u8 c] 5)) :=
  run_convert_bytes_arg _ 35 5 Try.underlying35 Try.underlying5 w.heap.size 0 1 1 [c] rfl (fun i hi => by
    obtain rfl : i = 0 := by omega
    simp) 9 Try.underlying9
set_option maxRecDepth 100000 in
set_option maxHeartbeats 2000000 in
theorem walk_plain (c : Int) (w : World) (h : 0 ≤ c ∧ c ≤ 255) (hn : ne c = false) :
    Calls Try.prog 9 #[.int .u8 c] w fun e w' => e = .returned (.bool true) ∧ Below w.heap.size w w' := by
  have h1 := ad_one c h
  have e1 : esc1 c = [c] := by unfold esc1; rw [if_neg (by rw [hn]; decide)]
  rw [e1] at h1
  obtain ⟨k, hk⟩ := escaped_one c h hn
  have H1 := Aside0.mk h1
  have HK := Aside0.mk hk
  have hcv := conv_one c w
  clear h1 hk e1 hn
  have q1 : (strOfNums [c]).size = 1 := strOfNums_size [c]
  have q2 : ((strOfNums [c]).toList == (one c).toList) = true := beq_self_eq_true _
  obtain ⟨h0, h255⟩ := h
  go_enter Try.func9, Try.ntmps9
  go_wp2_with (first | (go_at_call 22; refine (impl_AdEscape.calls _ _ _ H1.out).mono ?_; rintro e w1 ⟨rfl, hb⟩; have HB := Aside0.mk hb; clear hb) | (go_at_call 23; refine (spec_EscapedAddress.calls k _ _ _ HK.out).mono ?_; rintro e w2 ⟨rfl, hb⟩; have HB2 := Aside0.mk hb; clear hb))
  go_ret
  exact ⟨rfl, (below_alloc (Below.refl _ _) _).trans (Below.mono HB.out (by simp)) |>.trans (Below.mono HB2.out (by have := HB.out.size; simp at this ⊢; omega))⟩
theorem conv_all (W : World) (g cap n : Nat) (xs : List Int) (hn : xs.length = n) (h : BufM W g xs) : (convert 35 9 (.slice (some ⟨g, 0, none⟩) n cap)).run Try.prog W = .ok (.string (strOfNums xs)) W :=
  run_convert_bytes_arg W 35 5 Try.underlying35 Try.underlying5 g 0 n cap xs hn (fun i hi => by rw [Nat.zero_add]; exact h.cell i (by omega)) 9 Try.underlying9
theorem up_yes {v : Int} (h1 : 97 ≤ v) (h2 : v ≤ 102) : v - 32 = up v := by unfold up; rw [if_pos ⟨h1, h2⟩]
theorem up_no {v : Int} (h : ¬ (97 ≤ v ∧ v ≤ 102)) : up v = v := by unfold up; rw [if_neg h]

set_option maxRecDepth 100000 in
set_option maxHeartbeats 4000000 in
theorem walk_esc (c a b : Int) (w : World) (h : 0 ≤ c ∧ c ≤ 255) (ha : 0 ≤ a ∧ a ≤ 255) (hb : 0 ≤ b ∧ b ≤ 255) (h1 : impl_AdEscape.f (one c) = some (strOfNums [37, a, b])) (k1 k2 : Nat) (hk1 : AdUnescape.f k1 (strOfNums [37, a, b]) = some (one c, true)) (hk2 : AdUnescape.f k2 (strOfNums [37, up a, up b]) = some (one c, true)) :
    Calls Try.prog 9 #[.int .u8 c] w fun e w' => e = .returned (.bool true) ∧ Below w.heap.size w w' := by
  have H1 := Aside0.mk h1
  have HK1 := Aside0.mk hk1
  have HK2 := Aside0.mk hk2
  have HA := Aside0.mk ha
  have HBb := Aside0.mk hb
  have hcv := conv_one c w
  have kb := fun W => print_bytes (P := Try.prog) 9 35 5 Try.underlying9 Try.underlying35 Try.underlying5 (strOfNums [37, a, b]) W
  have hbytes := Aside0.mk (bytesOf_strOfNums [37, a, b] (fun x hx => by
    simp only [List.mem_cons, List.not_mem_nil, or_false] at hx
    rcases hx with rfl | rfl | rfl
    · omega
    · exact ha
    · exact hb))
  have q1 : (strOfNums [37, a, b]).size = 3 := strOfNums_size _
  have q2 : ((one c).toList == (one c).toList) = true := beq_self_eq_true _
  clear h1 hk1 hk2 ha hb
  obtain ⟨h0, h255⟩ := h
  go_enter Try.func9, Try.ntmps9
  go_wp2_with (go_at_call 22; refine (impl_AdEscape.calls _ _ _ H1.out).mono ?_; rintro e w1 ⟨rfl, hb⟩; have HB := Aside0.mk ((below_alloc (Below.refl w.heap.size w) (.cells #[.int .u8 c] 5)).trans (Below.mono hb (by simp))); clear hb)
  have hg := HB.out.size
  go_loopw [30] (fun v30 w' => ∃ (i : Nat) (xs : List Int), v30 = .int .i64 (i : Int) ∧ i ≤ 3 ∧ Aside0 (RowU [37, a, b] xs i) ∧ Aside0 (BufM w' w1.heap.size xs) ∧ Aside0 (Below w.heap.size w w')) (fun v30 _ => 3 - (intOf v30).toNat)
  case atStart => exact ⟨0, [37, a, b], rfl, by omega, Aside0.mk rfl, Aside0.mk (by have := BufM.new w1 (strOfNums [37, a, b]); rw [hbytes.out] at this; exact this), Aside0.mk (bytes_below HB.out hg 5 _)⟩
  case round =>
    obtain ⟨i, xs, rfl, hi, hrow, hbuf, hbel⟩ := hrel
    by_cases hlt : i < 3
    · have hl3 : xs.length = 3 := hrow.out.len (by simp; omega)
      have hcell := hbuf.out.cell i (by omega)
      have hfr := hbuf.out.frozen i (by omega)
      have hget := hrow.out.get (by simp; omega)
      obtain ⟨v, hv⟩ : ∃ v, ([37, a, b] : List Int).getD i 0 = v := ⟨_, rfl⟩
      rw [hget, hv] at hcell
      have HV := Aside0.mk hv
      have hvr : 0 ≤ v ∧ v ≤ 255 := by
        obtain rfl | rfl | rfl : i = 0 ∨ i = 1 ∨ i = 2 := by omega
        · have : (37 : Int) = v := hv
          omega
        · have : a = v := hv
          rw [← this]; exact HA.out
        · have : b = v := hv
          rw [← this]; exact HBb.out
      have hnext := Aside0.mk (hrow.out.next (i := i) (by simp; omega))
      clear hv hget hl3 kb hcv
      obtain ⟨v0, v255⟩ := hvr
      by_cases hu : 97 ≤ v ∧ v ≤ 102
      · obtain ⟨u1, u2⟩ := hu
        have d1 : decide (97 ≤ v) = true := decide_eq_true u1
        have d2 : decide (v ≤ 102) = true := decide_eq_true u2
        go_wp2
        go_roundw
        case rel => exact ⟨i + 1, _, by go_num, by omega, Aside0.mk (by have := hnext.out; rw [HV.out, ← up_yes u1 u2] at this; exact this), Aside0.mk (hbuf.out.set i _), Aside0.mk (below_set hbel.out hg)⟩
        case measure => simp [intOf]; omega
      · have hstay := Aside0.mk (hrow.out.stay (i := i) (by simp; omega) (by rw [HV.out]; exact up_no hu))
        have two : (decide (97 ≤ v) = true ∧ decide (v ≤ 102) = false) ∨ decide (97 ≤ v) = false := by
          by_cases z : 97 ≤ v
          · exact .inl ⟨decide_eq_true z, decide_eq_false (by omega)⟩
          · exact .inr (decide_eq_false z)
        clear hu
        rcases two with ⟨d1, d2⟩ | d1
        all_goals
          go_wp2
          go_roundw
          case rel => exact ⟨i + 1, _, by go_num, by omega, hstay, hbuf, hbel⟩
          case measure => simp [intOf]; omega
    · obtain rfl : i = 3 := by omega
      have hxs : xs = [37, up a, up b] := by
        have := hrow.out
        unfold RowU at this
        rw [this]; rfl
      subst hxs
      have hbt : ∀ h : 0 < (strOfNums [37, a, b]).size, (((strOfNums [37, a, b])[0]'h).toNat : Int) = 37 := by
        intro h
        have e1 := bt_at (strOfNums [37, a, b]) 0 h
        have e2 := rd_bytesOf (strOfNums [37, a, b]) 0
        rw [hbytes.out] at e2
        exact e1.trans e2.symm
      have qp : (0 < (strOfNums [37, a, b]).size) = True := by rw [q1]; simp
      clear kb hcv
      go_wp2_with (fail)
      refine (AdUnescape.calls k1 _ _ _ _ HK1.out).mono ?_
      rintro e w3 ⟨rfl, hb3⟩
      have hbuf3 := hbuf.out.below hb3
      have hcv2 := conv_all w3 w1.heap.size (grownCap w1 3 0 5) 3 [37, up a, up b] rfl hbuf3
      have hbel3 := Aside0.mk (hbel.out.trans (Below.mono hb3 hbel.out.size))
      clear hb3 hbuf3
      go_wp2_with (fail)
      refine (AdUnescape.calls k2 _ _ _ _ HK2.out).mono ?_
      rintro e w4 ⟨rfl, hb4⟩
      have hbel4 := Aside0.mk (hbel3.out.trans (Below.mono hb4 hbel3.out.size))
      clear hb4 hcv2
      go_wp2
      go_ret
      exact ⟨rfl, hbel4.out⟩
theorem walk (c : Int) (w : World) (h : 0 ≤ c ∧ c ≤ 255) : Calls Try.prog 9 #[.int .u8 c] w fun e w' => e = .returned (.bool true) ∧ Below w.heap.size w w' := by
  cases hn : ne c with
  | false => exact walk_plain c w h hn
  | true =>
    obtain ⟨⟨a1, a2⟩, b1, b2⟩ := hexes c h
    have h1 := ad_one c h
    have e1 : esc1 c = [37, hx (c / 16), hx (c % 16)] := by unfold esc1; rw [if_pos hn]
    rw [e1] at h1
    obtain ⟨k1, hk1⟩ := un3 c _ _ h a2 b2 a1 b1
    obtain ⟨k2, hk2⟩ := un3 c _ _ h (up_rng _ a2) (up_rng _ b2) (ups _ (by omega)) (ups _ (by omega))
    exact walk_esc c _ _ w h a2 b2 h1 k1 k2 hk1 hk2
end Go.Proofs.Ythkmgbfobobpdaa.AdBytes
