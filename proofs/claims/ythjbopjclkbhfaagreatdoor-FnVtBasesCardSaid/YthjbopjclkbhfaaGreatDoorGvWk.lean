/- The law: the walk, for each of the seven kinds: number in range, out of range, 0. -/
import Derived.Test.YthjbopjclkbhfaaGreatDoorGvVk
import Derived.Test.YthjbopjclkbhfaaGreatDoorGvUp
namespace Go.Proofs.YthjbopjclkbhfaaGreatDoor.Given
open Go.RowKit Go.Proofs.YthjbopjclkbhfaaGreatDoorW.PrintWords
set_option linter.unusedVariables false

theorem below_step {w W w' : World} (h : Below w.heap.size w W) (hb : Below W.heap.size W w') : Below w.heap.size w w' := h.trans (hb.mono h.size)
theorem below_alloc {w W : World} (h : Below w.heap.size w W) (o : Obj) : Below w.heap.size w (W.alloc o) := h.alloc h.size o
theorem below_drew {w W : World} (h : Below w.heap.size w W) : Below w.heap.size w W.drew := h.drew

/-- What the package variables hold, here and behind. -/
def Gd (w : World) : Prop := ∀ W, Below w.heap.size w W → Glob W ∧ Tz W ∧ Lib.TabIs Tryz.prog W "internal/strconv.uint64pow10" .u64 Lib.pow10Tab

/-- What holds in the loop over the texts. -/
structure Lp (w wr : World) (Bw Bt : Nat) (c n : Int) (x0 x1 x2 : ByteArray) : Prop where
  t0 : wr.cell? ⟨Bt, 0, none⟩ = some (.string x0)
  t1 : wr.cell? ⟨Bt, 1, none⟩ = some (.string x1)
  t2 : wr.cell? ⟨Bt, 2, none⟩ = some (.string x2)
  q0 : wr.cell? ⟨Bw, 0, none⟩ = some (.int .u8 c)
  q1 : wr.cell? ⟨Bw, 1, none⟩ = some (.int .u64 n)
  q2 : wr.cell? ⟨Bw, 2, none⟩ = some (.string ⟨#[]⟩)
  q3 : wr.cell? ⟨Bw, 3, none⟩ = some (.slice none 0 0)
  bel : Below w.heap.size w wr
theorem Lp.step {w wr wr' : World} {Bw Bt : Nat} {c n : Int} {x0 x1 x2 : ByteArray} (h : Lp w wr Bw Bt c n x0 x1 x2) (hb : Below wr.heap.size wr wr') : Lp w wr' Bw Bt c n x0 x1 x2 :=
  ⟨(hb.cell (p := ⟨Bt, 0, none⟩) (block_lt_of_cell h.t0)).trans h.t0, (hb.cell (p := ⟨Bt, 1, none⟩) (block_lt_of_cell h.t1)).trans h.t1, (hb.cell (p := ⟨Bt, 2, none⟩) (block_lt_of_cell h.t2)).trans h.t2,
    (hb.cell (p := ⟨Bw, 0, none⟩) (block_lt_of_cell h.q0)).trans h.q0, (hb.cell (p := ⟨Bw, 1, none⟩) (block_lt_of_cell h.q1)).trans h.q1, (hb.cell (p := ⟨Bw, 2, none⟩) (block_lt_of_cell h.q2)).trans h.q2, (hb.cell (p := ⟨Bw, 3, none⟩) (block_lt_of_cell h.q3)).trans h.q3, below_step h.bel hb⟩

set_option maxHeartbeats 2000000 in
set_option maxRecDepth 100000 in
theorem law_121_ok (n : Int) (which : Int) (hk : which.tmod 7 = 0) (hn1 : 1 ≤ n) (hn : n ≤ 255) (h g t10 o8 : ByteArray) (hsh : h.size ≤ 64) (hsg : g.size ≤ 64) (hso : o8.size ≤ 64)
    (H16 : ∀ W, Tz W → Calls Tryz.prog 4 #[.int .u64 n, .int .i64 16] W fun e w' => e = .returned (.string h) ∧ Below W.heap.size W w')
    (H8 : ∀ W, Tz W → Calls Tryz.prog 4 #[.int .u64 n, .int .i64 8] W fun e w' => e = .returned (.string o8) ∧ Below W.heap.size W w')
    (H10 : ∀ W, Lib.TabIs Tryz.prog W "internal/strconv.uint64pow10" .u64 Lib.pow10Tab → Calls Tryz.prog 4 #[.int .u64 n, .int .i64 10] W fun e w' => e = .returned (.string t10) ∧ Below W.heap.size W w')
    (HU : ∀ W, Calls Tryz.prog 6 #[.string h] W fun e w' => e = .returned (.string g) ∧ Below W.heap.size W w')
    (HV : ∀ s, TextOf s n → ∀ W, Glob W → Calls Tryz.prog 5 #[.string s, .string ⟨#[121]⟩] W fun e w' => e = .returned (.tuple #[.agg #[.int .u8 121, .int .u64 n, .string ⟨#[]⟩, .slice none 0 0], .bool true]) ∧ Below W.heap.size W w')
    (hT10 : TextOf t10 n) (hX0 : TextOf (⟨#[48]⟩ ++ o8) n) (hX1 : TextOf (⟨#[48, 120]⟩ ++ h) n) (hX2 : TextOf (⟨#[48, 120]⟩ ++ g) n)
    (HS : ∀ W, Calls Tryz.prog 7 #[.agg #[.int .u8 121, .int .u64 n, .string ⟨#[]⟩, .slice none 0 0], .agg #[.int .u8 121, .int .u64 n, .string ⟨#[]⟩, .slice none 0 0]] W fun e w' => e = .returned (.bool true) ∧ Below W.heap.size W w')
    (HB : ∀ W, Calls Tryz.prog 8 #[.int .u8 121] W fun e w' => e = .returned (.tuple #[.int .i64 (0), .int .u64 255]) ∧ W = w')
    (w : World) (hG : Gd w) :
    Calls Tryz.prog 3 #[.int .u64 n, .int .u8 which] w fun e w' => e = .returned (.bool true) ∧ Below w.heap.size w w' := by
  have hsig : (⟨#[121, 110, 113, 105, 117, 120, 116]⟩ : ByteArray).extract 0 7 = ⟨#[121, 110, 113, 105, 117, 120, 116]⟩ := rfl
  have hsig2 : (⟨#[121, 110, 113, 105, 117, 120, 116]⟩ : ByteArray).extract 0 1 = ⟨#[121]⟩ := rfl
  have hn0 : (n == 0) = false := by rw [beq_eq_false_iff_ne]; omega
  have HH16 := Aside0.mk H16
  have HH8 := Aside0.mk H8
  have HH10 := Aside0.mk H10
  have HHU := Aside0.mk HU
  have HHV := Aside0.mk HV
  have HHT := Aside0.mk hT10
  have HX0 := Aside0.mk hX0
  have HX1 := Aside0.mk hX1
  have HX2 := Aside0.mk hX2
  have HHS := Aside0.mk HS
  have HHB := Aside0.mk HB
  have HHG := Aside0.mk hG
  clear H16 H8 H10 HU HV hT10 hX0 hX1 hX2 HS HB hG
  go_enter Tryz.func3, Tryz.ntmps3
  go_wp2_with (first
    | (go_at_call_of 4 (Value.int IntKind.i64 16); refine (HH16.out _ (HHG.out _ (by repeat (first | assumption | exact Below.refl _ _ | apply below_alloc | apply below_drew))).2.1).mono ?_; rintro e w1 ⟨rfl, hb⟩; obtain ⟨hc, hf⟩ := bcell hb; have B1 := below_step (w := w) (by repeat (first | assumption | exact Below.refl _ _ | apply below_alloc | apply below_drew)) hb)
    | (go_at_call_of 4 (Value.int IntKind.i64 10); refine (HH10.out _ (HHG.out _ (by repeat (first | assumption | exact Below.refl _ _ | apply below_alloc | apply below_drew))).2.2).mono ?_; rintro e w2 ⟨rfl, hb2⟩; obtain ⟨hc2, hf2⟩ := bcell hb2; have B2 := below_step B1 hb2)
    | (go_at_call 5; refine (HHV.out _ HHT.out _ (HHG.out _ (by repeat (first | assumption | exact Below.refl _ _ | apply below_alloc | apply below_drew))).1).mono ?_; rintro e w3 ⟨rfl, hb3⟩; obtain ⟨hc3, hf3⟩ := bcell hb3; have B3 := below_step B2 hb3)
    | (go_at_call_of 4 (Value.int IntKind.i64 8); refine (HH8.out _ (HHG.out _ (by repeat (first | assumption | exact Below.refl _ _ | apply below_alloc | apply below_drew))).2.1).mono ?_; rintro e w4 ⟨rfl, hb4⟩; obtain ⟨hc4, hf4⟩ := bcell hb4; have B4 := below_step (w := w) (by repeat (first | assumption | exact Below.refl _ _ | apply below_alloc | apply below_drew)) hb4)
    | (go_at_call 6; refine (HHU.out _).mono ?_; rintro e w5 ⟨rfl, hb5⟩; obtain ⟨hc5, hf5⟩ := bcell hb5; have B5 := below_step B4 hb5))
  have hL : Lp w (w5.alloc (.cells #[.string (⟨#[48]⟩ ++ o8), .string (⟨#[48, 120]⟩ ++ h), .string (⟨#[48, 120]⟩ ++ g)] 9)) w3.heap.size w5.heap.size 121 n (⟨#[48]⟩ ++ o8) (⟨#[48, 120]⟩ ++ h) (⟨#[48, 120]⟩ ++ g) := by
    have hz := hb4.size
    have hz5 := hb5.size
    simp at hz
    have key : ∀ o x, (w5.alloc x).cell? ⟨w3.heap.size, o, none⟩ = (w3.alloc (.cells #[.int .u8 121, .int .u64 n, .string ⟨#[]⟩, .slice none 0 0] 26)).cell? ⟨w3.heap.size, o, none⟩ := fun o x => by rw [(below_alloc (Below.refl _ w5) x).cell (p := ⟨w3.heap.size, o, none⟩) (show w3.heap.size < w5.heap.size by omega), hc5 _ _ (by omega), hc4 _ _ (by simp)]
    refine ⟨by simp, by simp, by simp, ?_, ?_, ?_, ?_, below_alloc B5 _⟩
    all_goals (rw [key]; simp)
  have HL := Aside0.mk hL
  generalize w5.alloc (.cells #[.string (⟨#[48]⟩ ++ o8), .string (⟨#[48, 120]⟩ ++ h), .string (⟨#[48, 120]⟩ ++ g)] 9) = wl at HL ⊢
  generalize w5.heap.size = Bt at HL ⊢
  generalize w3.heap.size = Bw at HL ⊢
  clear hL hb hb2 hb3 hb4 hb5 hc hc2 hc3 hc4 hc5 hf hf2 hf3 hf4 hf5 B1 B2 B3 B4 B5
  go_loopw [40] (fun vi wr => ∃ (i : Nat), vi = .int .i64 i ∧ i ≤ 3 ∧ Aside0 (Lp w wr Bw Bt 121 n (⟨#[48]⟩ ++ o8) (⟨#[48, 120]⟩ ++ h) (⟨#[48, 120]⟩ ++ g)))
    (fun vi _ => 3 - (intOf vi).toNat)
  case atStart => exact ⟨0, rfl, by omega, HL⟩
  case round =>
    obtain ⟨i, rfl, hi, hr⟩ := hrel
    clear HL
    have hq0 := hr.out.q0
    have hq1 := hr.out.q1
    have hq2 := hr.out.q2
    have hq3 := hr.out.q3
    have ht0 := hr.out.t0
    have ht1 := hr.out.t1
    have ht2 := hr.out.t2
    have hBw : Bw < wr.heap.size := block_lt_of_cell hq0
    obtain rfl | rfl | rfl | rfl : i = 0 ∨ i = 1 ∨ i = 2 ∨ i = 3 := by omega
    · go_wp2_with (first
        | (go_at_call 5; refine (HHV.out _ HX0.out _ (HHG.out _ hr.out.bel).1).mono ?_; rintro e w6 ⟨rfl, hb6⟩; obtain ⟨hc6, hf6⟩ := bcell hb6; have hz6 : Bw < w6.heap.size := Nat.lt_of_lt_of_le hBw hb6.size; have hz7 : w6.heap.size ≠ Bw := Nat.ne_of_gt hz6)
        | (go_at_call 7; refine (HHS.out _).mono ?_; rintro e w7 ⟨rfl, hb7⟩))
      exact ⟨⟨1, rfl, by omega, ⟨hr.out.step (below_step (below_alloc hb6 _) hb7)⟩⟩, by simp [intOf]⟩
    · go_wp2_with (first
        | (go_at_call 5; refine (HHV.out _ HX1.out _ (HHG.out _ hr.out.bel).1).mono ?_; rintro e w6 ⟨rfl, hb6⟩; obtain ⟨hc6, hf6⟩ := bcell hb6; have hz6 : Bw < w6.heap.size := Nat.lt_of_lt_of_le hBw hb6.size; have hz7 : w6.heap.size ≠ Bw := Nat.ne_of_gt hz6)
        | (go_at_call 7; refine (HHS.out _).mono ?_; rintro e w7 ⟨rfl, hb7⟩))
      exact ⟨⟨2, rfl, by omega, ⟨hr.out.step (below_step (below_alloc hb6 _) hb7)⟩⟩, by simp [intOf]⟩
    · go_wp2_with (first
        | (go_at_call 5; refine (HHV.out _ HX2.out _ (HHG.out _ hr.out.bel).1).mono ?_; rintro e w6 ⟨rfl, hb6⟩; obtain ⟨hc6, hf6⟩ := bcell hb6; have hz6 : Bw < w6.heap.size := Nat.lt_of_lt_of_le hBw hb6.size; have hz7 : w6.heap.size ≠ Bw := Nat.ne_of_gt hz6)
        | (go_at_call 7; refine (HHS.out _).mono ?_; rintro e w7 ⟨rfl, hb7⟩))
      exact ⟨⟨3, rfl, by omega, ⟨hr.out.step (below_step (below_alloc hb6 _) hb7)⟩⟩, by simp [intOf]⟩
    · go_wp2_with (go_at_call 8; refine (HHB.out _).mono ?_; rintro e w8 ⟨rfl, rfl⟩)
      go_ret
      exact ⟨rfl, hr.out.bel⟩

set_option maxHeartbeats 2000000 in
set_option maxRecDepth 100000 in
theorem law_121_bad (n : Int) (which : Int) (hk : which.tmod 7 = 0) (hn1 : 1 ≤ n) (hn : 255 < n) (h g t10 o8 : ByteArray) (hsh : h.size ≤ 64) (hsg : g.size ≤ 64) (hso : o8.size ≤ 64)
    (H16 : ∀ W, Tz W → Calls Tryz.prog 4 #[.int .u64 n, .int .i64 16] W fun e w' => e = .returned (.string h) ∧ Below W.heap.size W w')
    (H8 : ∀ W, Tz W → Calls Tryz.prog 4 #[.int .u64 n, .int .i64 8] W fun e w' => e = .returned (.string o8) ∧ Below W.heap.size W w')
    (H10 : ∀ W, Lib.TabIs Tryz.prog W "internal/strconv.uint64pow10" .u64 Lib.pow10Tab → Calls Tryz.prog 4 #[.int .u64 n, .int .i64 10] W fun e w' => e = .returned (.string t10) ∧ Below W.heap.size W w')
    (HU : ∀ W, Calls Tryz.prog 6 #[.string h] W fun e w' => e = .returned (.string g) ∧ Below W.heap.size W w')
    (HV : ∀ s, TextOf s n → ∀ W, Glob W → Calls Tryz.prog 5 #[.string s, .string ⟨#[121]⟩] W fun e w' => e = .returned (.tuple #[.agg #[.int .u8 0, .int .u64 0, .string ⟨#[]⟩, .slice none 0 0], .bool false]) ∧ Below W.heap.size W w')
    (hT10 : TextOf t10 n) (hX0 : TextOf (⟨#[48]⟩ ++ o8) n) (hX1 : TextOf (⟨#[48, 120]⟩ ++ h) n) (hX2 : TextOf (⟨#[48, 120]⟩ ++ g) n)
    (HB : ∀ W, Calls Tryz.prog 8 #[.int .u8 121] W fun e w' => e = .returned (.tuple #[.int .i64 (0), .int .u64 255]) ∧ W = w')
    (w : World) (hG : Gd w) :
    Calls Tryz.prog 3 #[.int .u64 n, .int .u8 which] w fun e w' => e = .returned (.bool true) ∧ Below w.heap.size w w' := by
  have hsig : (⟨#[121, 110, 113, 105, 117, 120, 116]⟩ : ByteArray).extract 0 7 = ⟨#[121, 110, 113, 105, 117, 120, 116]⟩ := rfl
  have hsig2 : (⟨#[121, 110, 113, 105, 117, 120, 116]⟩ : ByteArray).extract 0 1 = ⟨#[121]⟩ := rfl
  have hn0 : (n == 0) = false := by rw [beq_eq_false_iff_ne]; omega
  have hd : decide (n ≤ 255) = false := decide_eq_false (by omega)
  have HH16 := Aside0.mk H16
  have HH8 := Aside0.mk H8
  have HH10 := Aside0.mk H10
  have HHU := Aside0.mk HU
  have HHV := Aside0.mk HV
  have HHT := Aside0.mk hT10
  have HX0 := Aside0.mk hX0
  have HX1 := Aside0.mk hX1
  have HX2 := Aside0.mk hX2
  have HHB := Aside0.mk HB
  have HHG := Aside0.mk hG
  clear H16 H8 H10 HU HV hT10 hX0 hX1 hX2 HB hG
  go_enter Tryz.func3, Tryz.ntmps3
  go_wp2_with (first
    | (go_at_call_of 4 (Value.int IntKind.i64 16); refine (HH16.out _ (HHG.out _ (by repeat (first | assumption | exact Below.refl _ _ | apply below_alloc | apply below_drew))).2.1).mono ?_; rintro e w1 ⟨rfl, hb⟩; obtain ⟨hc, hf⟩ := bcell hb; have B1 := below_step (w := w) (by repeat (first | assumption | exact Below.refl _ _ | apply below_alloc | apply below_drew)) hb)
    | (go_at_call_of 4 (Value.int IntKind.i64 10); refine (HH10.out _ (HHG.out _ (by repeat (first | assumption | exact Below.refl _ _ | apply below_alloc | apply below_drew))).2.2).mono ?_; rintro e w2 ⟨rfl, hb2⟩; obtain ⟨hc2, hf2⟩ := bcell hb2; have B2 := below_step B1 hb2)
    | (go_at_call 5; refine (HHV.out _ HHT.out _ (HHG.out _ (by repeat (first | assumption | exact Below.refl _ _ | apply below_alloc | apply below_drew))).1).mono ?_; rintro e w3 ⟨rfl, hb3⟩; obtain ⟨hc3, hf3⟩ := bcell hb3; have B3 := below_step B2 hb3)
    | (go_at_call_of 4 (Value.int IntKind.i64 8); refine (HH8.out _ (HHG.out _ (by repeat (first | assumption | exact Below.refl _ _ | apply below_alloc | apply below_drew))).2.1).mono ?_; rintro e w4 ⟨rfl, hb4⟩; obtain ⟨hc4, hf4⟩ := bcell hb4; have B4 := below_step (w := w) (by repeat (first | assumption | exact Below.refl _ _ | apply below_alloc | apply below_drew)) hb4)
    | (go_at_call 6; refine (HHU.out _).mono ?_; rintro e w5 ⟨rfl, hb5⟩; obtain ⟨hc5, hf5⟩ := bcell hb5; have B5 := below_step B4 hb5))
  have hL : Lp w (w5.alloc (.cells #[.string (⟨#[48]⟩ ++ o8), .string (⟨#[48, 120]⟩ ++ h), .string (⟨#[48, 120]⟩ ++ g)] 9)) w3.heap.size w5.heap.size 0 0 (⟨#[48]⟩ ++ o8) (⟨#[48, 120]⟩ ++ h) (⟨#[48, 120]⟩ ++ g) := by
    have hz := hb4.size
    have hz5 := hb5.size
    simp at hz
    have key : ∀ o x, (w5.alloc x).cell? ⟨w3.heap.size, o, none⟩ = (w3.alloc (.cells #[.int .u8 0, .int .u64 0, .string ⟨#[]⟩, .slice none 0 0] 26)).cell? ⟨w3.heap.size, o, none⟩ := fun o x => by rw [(below_alloc (Below.refl _ w5) x).cell (p := ⟨w3.heap.size, o, none⟩) (show w3.heap.size < w5.heap.size by omega), hc5 _ _ (by omega), hc4 _ _ (by simp)]
    refine ⟨by simp, by simp, by simp, ?_, ?_, ?_, ?_, below_alloc B5 _⟩
    all_goals (rw [key]; simp)
  have HL := Aside0.mk hL
  generalize w5.alloc (.cells #[.string (⟨#[48]⟩ ++ o8), .string (⟨#[48, 120]⟩ ++ h), .string (⟨#[48, 120]⟩ ++ g)] 9) = wl at HL ⊢
  generalize w5.heap.size = Bt at HL ⊢
  generalize w3.heap.size = Bw at HL ⊢
  clear hL hb hb2 hb3 hb4 hb5 hc hc2 hc3 hc4 hc5 hf hf2 hf3 hf4 hf5 B1 B2 B3 B4 B5
  go_loopw [40] (fun vi wr => ∃ (i : Nat), vi = .int .i64 i ∧ i ≤ 3 ∧ Aside0 (Lp w wr Bw Bt 0 0 (⟨#[48]⟩ ++ o8) (⟨#[48, 120]⟩ ++ h) (⟨#[48, 120]⟩ ++ g)))
    (fun vi _ => 3 - (intOf vi).toNat)
  case atStart => exact ⟨0, rfl, by omega, HL⟩
  case round =>
    obtain ⟨i, rfl, hi, hr⟩ := hrel
    clear HL
    have hq0 := hr.out.q0
    have hq1 := hr.out.q1
    have hq2 := hr.out.q2
    have hq3 := hr.out.q3
    have ht0 := hr.out.t0
    have ht1 := hr.out.t1
    have ht2 := hr.out.t2
    have hBw : Bw < wr.heap.size := block_lt_of_cell hq0
    obtain rfl | rfl | rfl | rfl : i = 0 ∨ i = 1 ∨ i = 2 ∨ i = 3 := by omega
    · go_wp2_with (first
        | (go_at_call 5; refine (HHV.out _ HX0.out _ (HHG.out _ hr.out.bel).1).mono ?_; rintro e w6 ⟨rfl, hb6⟩; obtain ⟨hc6, hf6⟩ := bcell hb6; have hz6 : Bw < w6.heap.size := Nat.lt_of_lt_of_le hBw hb6.size; have hz7 : w6.heap.size ≠ Bw := Nat.ne_of_gt hz6))
      exact ⟨⟨1, rfl, by omega, ⟨hr.out.step (below_alloc hb6 _)⟩⟩, by simp [intOf]⟩
    · go_wp2_with (first
        | (go_at_call 5; refine (HHV.out _ HX1.out _ (HHG.out _ hr.out.bel).1).mono ?_; rintro e w6 ⟨rfl, hb6⟩; obtain ⟨hc6, hf6⟩ := bcell hb6; have hz6 : Bw < w6.heap.size := Nat.lt_of_lt_of_le hBw hb6.size; have hz7 : w6.heap.size ≠ Bw := Nat.ne_of_gt hz6))
      exact ⟨⟨2, rfl, by omega, ⟨hr.out.step (below_alloc hb6 _)⟩⟩, by simp [intOf]⟩
    · go_wp2_with (first
        | (go_at_call 5; refine (HHV.out _ HX2.out _ (HHG.out _ hr.out.bel).1).mono ?_; rintro e w6 ⟨rfl, hb6⟩; obtain ⟨hc6, hf6⟩ := bcell hb6; have hz6 : Bw < w6.heap.size := Nat.lt_of_lt_of_le hBw hb6.size; have hz7 : w6.heap.size ≠ Bw := Nat.ne_of_gt hz6))
      exact ⟨⟨3, rfl, by omega, ⟨hr.out.step (below_alloc hb6 _)⟩⟩, by simp [intOf]⟩
    · go_wp2_with (go_at_call 8; refine (HHB.out _).mono ?_; rintro e w8 ⟨rfl, rfl⟩)
      go_ret
      exact ⟨rfl, hr.out.bel⟩

set_option maxHeartbeats 2000000 in
set_option maxRecDepth 100000 in
theorem law_121_zero (which : Int) (hk : which.tmod 7 = 0)  (h g t10 o8 : ByteArray) (hsh : h.size ≤ 64) (hsg : g.size ≤ 64) (hso : o8.size ≤ 64)
    (H16 : ∀ W, Tz W → Calls Tryz.prog 4 #[.int .u64 1, .int .i64 16] W fun e w' => e = .returned (.string h) ∧ Below W.heap.size W w')
    (H8 : ∀ W, Tz W → Calls Tryz.prog 4 #[.int .u64 1, .int .i64 8] W fun e w' => e = .returned (.string o8) ∧ Below W.heap.size W w')
    (H10 : ∀ W, Lib.TabIs Tryz.prog W "internal/strconv.uint64pow10" .u64 Lib.pow10Tab → Calls Tryz.prog 4 #[.int .u64 1, .int .i64 10] W fun e w' => e = .returned (.string t10) ∧ Below W.heap.size W w')
    (HU : ∀ W, Calls Tryz.prog 6 #[.string h] W fun e w' => e = .returned (.string g) ∧ Below W.heap.size W w')
    (HV : ∀ s, TextOf s 1 → ∀ W, Glob W → Calls Tryz.prog 5 #[.string s, .string ⟨#[121]⟩] W fun e w' => e = .returned (.tuple #[.agg #[.int .u8 121, .int .u64 1, .string ⟨#[]⟩, .slice none 0 0], .bool true]) ∧ Below W.heap.size W w')
    (hT10 : TextOf t10 1) (hX0 : TextOf (⟨#[48]⟩ ++ o8) 1) (hX1 : TextOf (⟨#[48, 120]⟩ ++ h) 1) (hX2 : TextOf (⟨#[48, 120]⟩ ++ g) 1)
    (HS : ∀ W, Calls Tryz.prog 7 #[.agg #[.int .u8 121, .int .u64 1, .string ⟨#[]⟩, .slice none 0 0], .agg #[.int .u8 121, .int .u64 1, .string ⟨#[]⟩, .slice none 0 0]] W fun e w' => e = .returned (.bool true) ∧ Below W.heap.size W w')
    (HB : ∀ W, Calls Tryz.prog 8 #[.int .u8 121] W fun e w' => e = .returned (.tuple #[.int .i64 (0), .int .u64 255]) ∧ W = w')
    (w : World) (hG : Gd w) :
    Calls Tryz.prog 3 #[.int .u64 0, .int .u8 which] w fun e w' => e = .returned (.bool true) ∧ Below w.heap.size w w' := by
  have hsig : (⟨#[121, 110, 113, 105, 117, 120, 116]⟩ : ByteArray).extract 0 7 = ⟨#[121, 110, 113, 105, 117, 120, 116]⟩ := rfl
  have hsig2 : (⟨#[121, 110, 113, 105, 117, 120, 116]⟩ : ByteArray).extract 0 1 = ⟨#[121]⟩ := rfl
  have HH16 := Aside0.mk H16
  have HH8 := Aside0.mk H8
  have HH10 := Aside0.mk H10
  have HHU := Aside0.mk HU
  have HHV := Aside0.mk HV
  have HHT := Aside0.mk hT10
  have HX0 := Aside0.mk hX0
  have HX1 := Aside0.mk hX1
  have HX2 := Aside0.mk hX2
  have HHS := Aside0.mk HS
  have HHB := Aside0.mk HB
  have HHG := Aside0.mk hG
  clear H16 H8 H10 HU HV hT10 hX0 hX1 hX2 HS HB hG
  go_enter Tryz.func3, Tryz.ntmps3
  go_wp2_with (first
    | (go_at_call_of 4 (Value.int IntKind.i64 16); refine (HH16.out _ (HHG.out _ (by repeat (first | assumption | exact Below.refl _ _ | apply below_alloc | apply below_drew))).2.1).mono ?_; rintro e w1 ⟨rfl, hb⟩; obtain ⟨hc, hf⟩ := bcell hb; have B1 := below_step (w := w) (by repeat (first | assumption | exact Below.refl _ _ | apply below_alloc | apply below_drew)) hb)
    | (go_at_call_of 4 (Value.int IntKind.i64 10); refine (HH10.out _ (HHG.out _ (by repeat (first | assumption | exact Below.refl _ _ | apply below_alloc | apply below_drew))).2.2).mono ?_; rintro e w2 ⟨rfl, hb2⟩; obtain ⟨hc2, hf2⟩ := bcell hb2; have B2 := below_step B1 hb2)
    | (go_at_call 5; refine (HHV.out _ HHT.out _ (HHG.out _ (by repeat (first | assumption | exact Below.refl _ _ | apply below_alloc | apply below_drew))).1).mono ?_; rintro e w3 ⟨rfl, hb3⟩; obtain ⟨hc3, hf3⟩ := bcell hb3; have B3 := below_step B2 hb3)
    | (go_at_call_of 4 (Value.int IntKind.i64 8); refine (HH8.out _ (HHG.out _ (by repeat (first | assumption | exact Below.refl _ _ | apply below_alloc | apply below_drew))).2.1).mono ?_; rintro e w4 ⟨rfl, hb4⟩; obtain ⟨hc4, hf4⟩ := bcell hb4; have B4 := below_step (w := w) (by repeat (first | assumption | exact Below.refl _ _ | apply below_alloc | apply below_drew)) hb4)
    | (go_at_call 6; refine (HHU.out _).mono ?_; rintro e w5 ⟨rfl, hb5⟩; obtain ⟨hc5, hf5⟩ := bcell hb5; have B5 := below_step B4 hb5))
  have hL : Lp w (w5.alloc (.cells #[.string (⟨#[48]⟩ ++ o8), .string (⟨#[48, 120]⟩ ++ h), .string (⟨#[48, 120]⟩ ++ g)] 9)) w3.heap.size w5.heap.size 121 1 (⟨#[48]⟩ ++ o8) (⟨#[48, 120]⟩ ++ h) (⟨#[48, 120]⟩ ++ g) := by
    have hz := hb4.size
    have hz5 := hb5.size
    simp at hz
    have key : ∀ o x, (w5.alloc x).cell? ⟨w3.heap.size, o, none⟩ = (w3.alloc (.cells #[.int .u8 121, .int .u64 1, .string ⟨#[]⟩, .slice none 0 0] 26)).cell? ⟨w3.heap.size, o, none⟩ := fun o x => by rw [(below_alloc (Below.refl _ w5) x).cell (p := ⟨w3.heap.size, o, none⟩) (show w3.heap.size < w5.heap.size by omega), hc5 _ _ (by omega), hc4 _ _ (by simp)]
    refine ⟨by simp, by simp, by simp, ?_, ?_, ?_, ?_, below_alloc B5 _⟩
    all_goals (rw [key]; simp)
  have HL := Aside0.mk hL
  generalize w5.alloc (.cells #[.string (⟨#[48]⟩ ++ o8), .string (⟨#[48, 120]⟩ ++ h), .string (⟨#[48, 120]⟩ ++ g)] 9) = wl at HL ⊢
  generalize w5.heap.size = Bt at HL ⊢
  generalize w3.heap.size = Bw at HL ⊢
  clear hL hb hb2 hb3 hb4 hb5 hc hc2 hc3 hc4 hc5 hf hf2 hf3 hf4 hf5 B1 B2 B3 B4 B5
  go_loopw [40] (fun vi wr => ∃ (i : Nat), vi = .int .i64 i ∧ i ≤ 3 ∧ Aside0 (Lp w wr Bw Bt 121 1 (⟨#[48]⟩ ++ o8) (⟨#[48, 120]⟩ ++ h) (⟨#[48, 120]⟩ ++ g)))
    (fun vi _ => 3 - (intOf vi).toNat)
  case atStart => exact ⟨0, rfl, by omega, HL⟩
  case round =>
    obtain ⟨i, rfl, hi, hr⟩ := hrel
    clear HL
    have hq0 := hr.out.q0
    have hq1 := hr.out.q1
    have hq2 := hr.out.q2
    have hq3 := hr.out.q3
    have ht0 := hr.out.t0
    have ht1 := hr.out.t1
    have ht2 := hr.out.t2
    have hBw : Bw < wr.heap.size := block_lt_of_cell hq0
    obtain rfl | rfl | rfl | rfl : i = 0 ∨ i = 1 ∨ i = 2 ∨ i = 3 := by omega
    · go_wp2_with (first
        | (go_at_call 5; refine (HHV.out _ HX0.out _ (HHG.out _ hr.out.bel).1).mono ?_; rintro e w6 ⟨rfl, hb6⟩; obtain ⟨hc6, hf6⟩ := bcell hb6; have hz6 : Bw < w6.heap.size := Nat.lt_of_lt_of_le hBw hb6.size; have hz7 : w6.heap.size ≠ Bw := Nat.ne_of_gt hz6)
        | (go_at_call 7; refine (HHS.out _).mono ?_; rintro e w7 ⟨rfl, hb7⟩))
      exact ⟨⟨1, rfl, by omega, ⟨hr.out.step (below_step (below_alloc hb6 _) hb7)⟩⟩, by simp [intOf]⟩
    · go_wp2_with (first
        | (go_at_call 5; refine (HHV.out _ HX1.out _ (HHG.out _ hr.out.bel).1).mono ?_; rintro e w6 ⟨rfl, hb6⟩; obtain ⟨hc6, hf6⟩ := bcell hb6; have hz6 : Bw < w6.heap.size := Nat.lt_of_lt_of_le hBw hb6.size; have hz7 : w6.heap.size ≠ Bw := Nat.ne_of_gt hz6)
        | (go_at_call 7; refine (HHS.out _).mono ?_; rintro e w7 ⟨rfl, hb7⟩))
      exact ⟨⟨2, rfl, by omega, ⟨hr.out.step (below_step (below_alloc hb6 _) hb7)⟩⟩, by simp [intOf]⟩
    · go_wp2_with (first
        | (go_at_call 5; refine (HHV.out _ HX2.out _ (HHG.out _ hr.out.bel).1).mono ?_; rintro e w6 ⟨rfl, hb6⟩; obtain ⟨hc6, hf6⟩ := bcell hb6; have hz6 : Bw < w6.heap.size := Nat.lt_of_lt_of_le hBw hb6.size; have hz7 : w6.heap.size ≠ Bw := Nat.ne_of_gt hz6)
        | (go_at_call 7; refine (HHS.out _).mono ?_; rintro e w7 ⟨rfl, hb7⟩))
      exact ⟨⟨3, rfl, by omega, ⟨hr.out.step (below_step (below_alloc hb6 _) hb7)⟩⟩, by simp [intOf]⟩
    · go_wp2_with (go_at_call 8; refine (HHB.out _).mono ?_; rintro e w8 ⟨rfl, rfl⟩)
      go_ret
      exact ⟨rfl, hr.out.bel⟩

set_option maxHeartbeats 2000000 in
set_option maxRecDepth 100000 in
theorem law_110_ok (n : Int) (which : Int) (hk : which.tmod 7 = 1) (hn1 : 1 ≤ n) (hn : n ≤ 32767) (h g t10 o8 : ByteArray) (hsh : h.size ≤ 64) (hsg : g.size ≤ 64) (hso : o8.size ≤ 64)
    (H16 : ∀ W, Tz W → Calls Tryz.prog 4 #[.int .u64 n, .int .i64 16] W fun e w' => e = .returned (.string h) ∧ Below W.heap.size W w')
    (H8 : ∀ W, Tz W → Calls Tryz.prog 4 #[.int .u64 n, .int .i64 8] W fun e w' => e = .returned (.string o8) ∧ Below W.heap.size W w')
    (H10 : ∀ W, Lib.TabIs Tryz.prog W "internal/strconv.uint64pow10" .u64 Lib.pow10Tab → Calls Tryz.prog 4 #[.int .u64 n, .int .i64 10] W fun e w' => e = .returned (.string t10) ∧ Below W.heap.size W w')
    (HU : ∀ W, Calls Tryz.prog 6 #[.string h] W fun e w' => e = .returned (.string g) ∧ Below W.heap.size W w')
    (HV : ∀ s, TextOf s n → ∀ W, Glob W → Calls Tryz.prog 5 #[.string s, .string ⟨#[110]⟩] W fun e w' => e = .returned (.tuple #[.agg #[.int .u8 110, .int .u64 n, .string ⟨#[]⟩, .slice none 0 0], .bool true]) ∧ Below W.heap.size W w')
    (hT10 : TextOf t10 n) (hX0 : TextOf (⟨#[48]⟩ ++ o8) n) (hX1 : TextOf (⟨#[48, 120]⟩ ++ h) n) (hX2 : TextOf (⟨#[48, 120]⟩ ++ g) n)
    (HS : ∀ W, Calls Tryz.prog 7 #[.agg #[.int .u8 110, .int .u64 n, .string ⟨#[]⟩, .slice none 0 0], .agg #[.int .u8 110, .int .u64 n, .string ⟨#[]⟩, .slice none 0 0]] W fun e w' => e = .returned (.bool true) ∧ Below W.heap.size W w')
    (HB : ∀ W, Calls Tryz.prog 8 #[.int .u8 110] W fun e w' => e = .returned (.tuple #[.int .i64 (-32768), .int .u64 32767]) ∧ W = w')
    (w : World) (hG : Gd w) :
    Calls Tryz.prog 3 #[.int .u64 n, .int .u8 which] w fun e w' => e = .returned (.bool true) ∧ Below w.heap.size w w' := by
  have hsig : (⟨#[121, 110, 113, 105, 117, 120, 116]⟩ : ByteArray).extract 1 7 = ⟨#[110, 113, 105, 117, 120, 116]⟩ := rfl
  have hsig2 : (⟨#[110, 113, 105, 117, 120, 116]⟩ : ByteArray).extract 0 1 = ⟨#[110]⟩ := rfl
  have hn0 : (n == 0) = false := by rw [beq_eq_false_iff_ne]; omega
  have HH16 := Aside0.mk H16
  have HH8 := Aside0.mk H8
  have HH10 := Aside0.mk H10
  have HHU := Aside0.mk HU
  have HHV := Aside0.mk HV
  have HHT := Aside0.mk hT10
  have HX0 := Aside0.mk hX0
  have HX1 := Aside0.mk hX1
  have HX2 := Aside0.mk hX2
  have HHS := Aside0.mk HS
  have HHB := Aside0.mk HB
  have HHG := Aside0.mk hG
  clear H16 H8 H10 HU HV hT10 hX0 hX1 hX2 HS HB hG
  go_enter Tryz.func3, Tryz.ntmps3
  go_wp2_with (first
    | (go_at_call_of 4 (Value.int IntKind.i64 16); refine (HH16.out _ (HHG.out _ (by repeat (first | assumption | exact Below.refl _ _ | apply below_alloc | apply below_drew))).2.1).mono ?_; rintro e w1 ⟨rfl, hb⟩; obtain ⟨hc, hf⟩ := bcell hb; have B1 := below_step (w := w) (by repeat (first | assumption | exact Below.refl _ _ | apply below_alloc | apply below_drew)) hb)
    | (go_at_call_of 4 (Value.int IntKind.i64 10); refine (HH10.out _ (HHG.out _ (by repeat (first | assumption | exact Below.refl _ _ | apply below_alloc | apply below_drew))).2.2).mono ?_; rintro e w2 ⟨rfl, hb2⟩; obtain ⟨hc2, hf2⟩ := bcell hb2; have B2 := below_step B1 hb2)
    | (go_at_call 5; refine (HHV.out _ HHT.out _ (HHG.out _ (by repeat (first | assumption | exact Below.refl _ _ | apply below_alloc | apply below_drew))).1).mono ?_; rintro e w3 ⟨rfl, hb3⟩; obtain ⟨hc3, hf3⟩ := bcell hb3; have B3 := below_step B2 hb3)
    | (go_at_call_of 4 (Value.int IntKind.i64 8); refine (HH8.out _ (HHG.out _ (by repeat (first | assumption | exact Below.refl _ _ | apply below_alloc | apply below_drew))).2.1).mono ?_; rintro e w4 ⟨rfl, hb4⟩; obtain ⟨hc4, hf4⟩ := bcell hb4; have B4 := below_step (w := w) (by repeat (first | assumption | exact Below.refl _ _ | apply below_alloc | apply below_drew)) hb4)
    | (go_at_call 6; refine (HHU.out _).mono ?_; rintro e w5 ⟨rfl, hb5⟩; obtain ⟨hc5, hf5⟩ := bcell hb5; have B5 := below_step B4 hb5))
  have hL : Lp w (w5.alloc (.cells #[.string (⟨#[48]⟩ ++ o8), .string (⟨#[48, 120]⟩ ++ h), .string (⟨#[48, 120]⟩ ++ g)] 9)) w3.heap.size w5.heap.size 110 n (⟨#[48]⟩ ++ o8) (⟨#[48, 120]⟩ ++ h) (⟨#[48, 120]⟩ ++ g) := by
    have hz := hb4.size
    have hz5 := hb5.size
    simp at hz
    have key : ∀ o x, (w5.alloc x).cell? ⟨w3.heap.size, o, none⟩ = (w3.alloc (.cells #[.int .u8 110, .int .u64 n, .string ⟨#[]⟩, .slice none 0 0] 26)).cell? ⟨w3.heap.size, o, none⟩ := fun o x => by rw [(below_alloc (Below.refl _ w5) x).cell (p := ⟨w3.heap.size, o, none⟩) (show w3.heap.size < w5.heap.size by omega), hc5 _ _ (by omega), hc4 _ _ (by simp)]
    refine ⟨by simp, by simp, by simp, ?_, ?_, ?_, ?_, below_alloc B5 _⟩
    all_goals (rw [key]; simp)
  have HL := Aside0.mk hL
  generalize w5.alloc (.cells #[.string (⟨#[48]⟩ ++ o8), .string (⟨#[48, 120]⟩ ++ h), .string (⟨#[48, 120]⟩ ++ g)] 9) = wl at HL ⊢
  generalize w5.heap.size = Bt at HL ⊢
  generalize w3.heap.size = Bw at HL ⊢
  clear hL hb hb2 hb3 hb4 hb5 hc hc2 hc3 hc4 hc5 hf hf2 hf3 hf4 hf5 B1 B2 B3 B4 B5
  go_loopw [40] (fun vi wr => ∃ (i : Nat), vi = .int .i64 i ∧ i ≤ 3 ∧ Aside0 (Lp w wr Bw Bt 110 n (⟨#[48]⟩ ++ o8) (⟨#[48, 120]⟩ ++ h) (⟨#[48, 120]⟩ ++ g)))
    (fun vi _ => 3 - (intOf vi).toNat)
  case atStart => exact ⟨0, rfl, by omega, HL⟩
  case round =>
    obtain ⟨i, rfl, hi, hr⟩ := hrel
    clear HL
    have hq0 := hr.out.q0
    have hq1 := hr.out.q1
    have hq2 := hr.out.q2
    have hq3 := hr.out.q3
    have ht0 := hr.out.t0
    have ht1 := hr.out.t1
    have ht2 := hr.out.t2
    have hBw : Bw < wr.heap.size := block_lt_of_cell hq0
    obtain rfl | rfl | rfl | rfl : i = 0 ∨ i = 1 ∨ i = 2 ∨ i = 3 := by omega
    · go_wp2_with (first
        | (go_at_call 5; refine (HHV.out _ HX0.out _ (HHG.out _ hr.out.bel).1).mono ?_; rintro e w6 ⟨rfl, hb6⟩; obtain ⟨hc6, hf6⟩ := bcell hb6; have hz6 : Bw < w6.heap.size := Nat.lt_of_lt_of_le hBw hb6.size; have hz7 : w6.heap.size ≠ Bw := Nat.ne_of_gt hz6)
        | (go_at_call 7; refine (HHS.out _).mono ?_; rintro e w7 ⟨rfl, hb7⟩))
      exact ⟨⟨1, rfl, by omega, ⟨hr.out.step (below_step (below_alloc hb6 _) hb7)⟩⟩, by simp [intOf]⟩
    · go_wp2_with (first
        | (go_at_call 5; refine (HHV.out _ HX1.out _ (HHG.out _ hr.out.bel).1).mono ?_; rintro e w6 ⟨rfl, hb6⟩; obtain ⟨hc6, hf6⟩ := bcell hb6; have hz6 : Bw < w6.heap.size := Nat.lt_of_lt_of_le hBw hb6.size; have hz7 : w6.heap.size ≠ Bw := Nat.ne_of_gt hz6)
        | (go_at_call 7; refine (HHS.out _).mono ?_; rintro e w7 ⟨rfl, hb7⟩))
      exact ⟨⟨2, rfl, by omega, ⟨hr.out.step (below_step (below_alloc hb6 _) hb7)⟩⟩, by simp [intOf]⟩
    · go_wp2_with (first
        | (go_at_call 5; refine (HHV.out _ HX2.out _ (HHG.out _ hr.out.bel).1).mono ?_; rintro e w6 ⟨rfl, hb6⟩; obtain ⟨hc6, hf6⟩ := bcell hb6; have hz6 : Bw < w6.heap.size := Nat.lt_of_lt_of_le hBw hb6.size; have hz7 : w6.heap.size ≠ Bw := Nat.ne_of_gt hz6)
        | (go_at_call 7; refine (HHS.out _).mono ?_; rintro e w7 ⟨rfl, hb7⟩))
      exact ⟨⟨3, rfl, by omega, ⟨hr.out.step (below_step (below_alloc hb6 _) hb7)⟩⟩, by simp [intOf]⟩
    · go_wp2_with (go_at_call 8; refine (HHB.out _).mono ?_; rintro e w8 ⟨rfl, rfl⟩)
      go_ret
      exact ⟨rfl, hr.out.bel⟩

set_option maxHeartbeats 2000000 in
set_option maxRecDepth 100000 in
theorem law_110_bad (n : Int) (which : Int) (hk : which.tmod 7 = 1) (hn1 : 1 ≤ n) (hn : 32767 < n) (h g t10 o8 : ByteArray) (hsh : h.size ≤ 64) (hsg : g.size ≤ 64) (hso : o8.size ≤ 64)
    (H16 : ∀ W, Tz W → Calls Tryz.prog 4 #[.int .u64 n, .int .i64 16] W fun e w' => e = .returned (.string h) ∧ Below W.heap.size W w')
    (H8 : ∀ W, Tz W → Calls Tryz.prog 4 #[.int .u64 n, .int .i64 8] W fun e w' => e = .returned (.string o8) ∧ Below W.heap.size W w')
    (H10 : ∀ W, Lib.TabIs Tryz.prog W "internal/strconv.uint64pow10" .u64 Lib.pow10Tab → Calls Tryz.prog 4 #[.int .u64 n, .int .i64 10] W fun e w' => e = .returned (.string t10) ∧ Below W.heap.size W w')
    (HU : ∀ W, Calls Tryz.prog 6 #[.string h] W fun e w' => e = .returned (.string g) ∧ Below W.heap.size W w')
    (HV : ∀ s, TextOf s n → ∀ W, Glob W → Calls Tryz.prog 5 #[.string s, .string ⟨#[110]⟩] W fun e w' => e = .returned (.tuple #[.agg #[.int .u8 0, .int .u64 0, .string ⟨#[]⟩, .slice none 0 0], .bool false]) ∧ Below W.heap.size W w')
    (hT10 : TextOf t10 n) (hX0 : TextOf (⟨#[48]⟩ ++ o8) n) (hX1 : TextOf (⟨#[48, 120]⟩ ++ h) n) (hX2 : TextOf (⟨#[48, 120]⟩ ++ g) n)
    (HB : ∀ W, Calls Tryz.prog 8 #[.int .u8 110] W fun e w' => e = .returned (.tuple #[.int .i64 (-32768), .int .u64 32767]) ∧ W = w')
    (w : World) (hG : Gd w) :
    Calls Tryz.prog 3 #[.int .u64 n, .int .u8 which] w fun e w' => e = .returned (.bool true) ∧ Below w.heap.size w w' := by
  have hsig : (⟨#[121, 110, 113, 105, 117, 120, 116]⟩ : ByteArray).extract 1 7 = ⟨#[110, 113, 105, 117, 120, 116]⟩ := rfl
  have hsig2 : (⟨#[110, 113, 105, 117, 120, 116]⟩ : ByteArray).extract 0 1 = ⟨#[110]⟩ := rfl
  have hn0 : (n == 0) = false := by rw [beq_eq_false_iff_ne]; omega
  have hd : decide (n ≤ 32767) = false := decide_eq_false (by omega)
  have HH16 := Aside0.mk H16
  have HH8 := Aside0.mk H8
  have HH10 := Aside0.mk H10
  have HHU := Aside0.mk HU
  have HHV := Aside0.mk HV
  have HHT := Aside0.mk hT10
  have HX0 := Aside0.mk hX0
  have HX1 := Aside0.mk hX1
  have HX2 := Aside0.mk hX2
  have HHB := Aside0.mk HB
  have HHG := Aside0.mk hG
  clear H16 H8 H10 HU HV hT10 hX0 hX1 hX2 HB hG
  go_enter Tryz.func3, Tryz.ntmps3
  go_wp2_with (first
    | (go_at_call_of 4 (Value.int IntKind.i64 16); refine (HH16.out _ (HHG.out _ (by repeat (first | assumption | exact Below.refl _ _ | apply below_alloc | apply below_drew))).2.1).mono ?_; rintro e w1 ⟨rfl, hb⟩; obtain ⟨hc, hf⟩ := bcell hb; have B1 := below_step (w := w) (by repeat (first | assumption | exact Below.refl _ _ | apply below_alloc | apply below_drew)) hb)
    | (go_at_call_of 4 (Value.int IntKind.i64 10); refine (HH10.out _ (HHG.out _ (by repeat (first | assumption | exact Below.refl _ _ | apply below_alloc | apply below_drew))).2.2).mono ?_; rintro e w2 ⟨rfl, hb2⟩; obtain ⟨hc2, hf2⟩ := bcell hb2; have B2 := below_step B1 hb2)
    | (go_at_call 5; refine (HHV.out _ HHT.out _ (HHG.out _ (by repeat (first | assumption | exact Below.refl _ _ | apply below_alloc | apply below_drew))).1).mono ?_; rintro e w3 ⟨rfl, hb3⟩; obtain ⟨hc3, hf3⟩ := bcell hb3; have B3 := below_step B2 hb3)
    | (go_at_call_of 4 (Value.int IntKind.i64 8); refine (HH8.out _ (HHG.out _ (by repeat (first | assumption | exact Below.refl _ _ | apply below_alloc | apply below_drew))).2.1).mono ?_; rintro e w4 ⟨rfl, hb4⟩; obtain ⟨hc4, hf4⟩ := bcell hb4; have B4 := below_step (w := w) (by repeat (first | assumption | exact Below.refl _ _ | apply below_alloc | apply below_drew)) hb4)
    | (go_at_call 6; refine (HHU.out _).mono ?_; rintro e w5 ⟨rfl, hb5⟩; obtain ⟨hc5, hf5⟩ := bcell hb5; have B5 := below_step B4 hb5))
  have hL : Lp w (w5.alloc (.cells #[.string (⟨#[48]⟩ ++ o8), .string (⟨#[48, 120]⟩ ++ h), .string (⟨#[48, 120]⟩ ++ g)] 9)) w3.heap.size w5.heap.size 0 0 (⟨#[48]⟩ ++ o8) (⟨#[48, 120]⟩ ++ h) (⟨#[48, 120]⟩ ++ g) := by
    have hz := hb4.size
    have hz5 := hb5.size
    simp at hz
    have key : ∀ o x, (w5.alloc x).cell? ⟨w3.heap.size, o, none⟩ = (w3.alloc (.cells #[.int .u8 0, .int .u64 0, .string ⟨#[]⟩, .slice none 0 0] 26)).cell? ⟨w3.heap.size, o, none⟩ := fun o x => by rw [(below_alloc (Below.refl _ w5) x).cell (p := ⟨w3.heap.size, o, none⟩) (show w3.heap.size < w5.heap.size by omega), hc5 _ _ (by omega), hc4 _ _ (by simp)]
    refine ⟨by simp, by simp, by simp, ?_, ?_, ?_, ?_, below_alloc B5 _⟩
    all_goals (rw [key]; simp)
  have HL := Aside0.mk hL
  generalize w5.alloc (.cells #[.string (⟨#[48]⟩ ++ o8), .string (⟨#[48, 120]⟩ ++ h), .string (⟨#[48, 120]⟩ ++ g)] 9) = wl at HL ⊢
  generalize w5.heap.size = Bt at HL ⊢
  generalize w3.heap.size = Bw at HL ⊢
  clear hL hb hb2 hb3 hb4 hb5 hc hc2 hc3 hc4 hc5 hf hf2 hf3 hf4 hf5 B1 B2 B3 B4 B5
  go_loopw [40] (fun vi wr => ∃ (i : Nat), vi = .int .i64 i ∧ i ≤ 3 ∧ Aside0 (Lp w wr Bw Bt 0 0 (⟨#[48]⟩ ++ o8) (⟨#[48, 120]⟩ ++ h) (⟨#[48, 120]⟩ ++ g)))
    (fun vi _ => 3 - (intOf vi).toNat)
  case atStart => exact ⟨0, rfl, by omega, HL⟩
  case round =>
    obtain ⟨i, rfl, hi, hr⟩ := hrel
    clear HL
    have hq0 := hr.out.q0
    have hq1 := hr.out.q1
    have hq2 := hr.out.q2
    have hq3 := hr.out.q3
    have ht0 := hr.out.t0
    have ht1 := hr.out.t1
    have ht2 := hr.out.t2
    have hBw : Bw < wr.heap.size := block_lt_of_cell hq0
    obtain rfl | rfl | rfl | rfl : i = 0 ∨ i = 1 ∨ i = 2 ∨ i = 3 := by omega
    · go_wp2_with (first
        | (go_at_call 5; refine (HHV.out _ HX0.out _ (HHG.out _ hr.out.bel).1).mono ?_; rintro e w6 ⟨rfl, hb6⟩; obtain ⟨hc6, hf6⟩ := bcell hb6; have hz6 : Bw < w6.heap.size := Nat.lt_of_lt_of_le hBw hb6.size; have hz7 : w6.heap.size ≠ Bw := Nat.ne_of_gt hz6))
      exact ⟨⟨1, rfl, by omega, ⟨hr.out.step (below_alloc hb6 _)⟩⟩, by simp [intOf]⟩
    · go_wp2_with (first
        | (go_at_call 5; refine (HHV.out _ HX1.out _ (HHG.out _ hr.out.bel).1).mono ?_; rintro e w6 ⟨rfl, hb6⟩; obtain ⟨hc6, hf6⟩ := bcell hb6; have hz6 : Bw < w6.heap.size := Nat.lt_of_lt_of_le hBw hb6.size; have hz7 : w6.heap.size ≠ Bw := Nat.ne_of_gt hz6))
      exact ⟨⟨2, rfl, by omega, ⟨hr.out.step (below_alloc hb6 _)⟩⟩, by simp [intOf]⟩
    · go_wp2_with (first
        | (go_at_call 5; refine (HHV.out _ HX2.out _ (HHG.out _ hr.out.bel).1).mono ?_; rintro e w6 ⟨rfl, hb6⟩; obtain ⟨hc6, hf6⟩ := bcell hb6; have hz6 : Bw < w6.heap.size := Nat.lt_of_lt_of_le hBw hb6.size; have hz7 : w6.heap.size ≠ Bw := Nat.ne_of_gt hz6))
      exact ⟨⟨3, rfl, by omega, ⟨hr.out.step (below_alloc hb6 _)⟩⟩, by simp [intOf]⟩
    · go_wp2_with (go_at_call 8; refine (HHB.out _).mono ?_; rintro e w8 ⟨rfl, rfl⟩)
      go_ret
      exact ⟨rfl, hr.out.bel⟩

set_option maxHeartbeats 2000000 in
set_option maxRecDepth 100000 in
theorem law_110_zero (which : Int) (hk : which.tmod 7 = 1)  (h g t10 o8 : ByteArray) (hsh : h.size ≤ 64) (hsg : g.size ≤ 64) (hso : o8.size ≤ 64)
    (H16 : ∀ W, Tz W → Calls Tryz.prog 4 #[.int .u64 1, .int .i64 16] W fun e w' => e = .returned (.string h) ∧ Below W.heap.size W w')
    (H8 : ∀ W, Tz W → Calls Tryz.prog 4 #[.int .u64 1, .int .i64 8] W fun e w' => e = .returned (.string o8) ∧ Below W.heap.size W w')
    (H10 : ∀ W, Lib.TabIs Tryz.prog W "internal/strconv.uint64pow10" .u64 Lib.pow10Tab → Calls Tryz.prog 4 #[.int .u64 1, .int .i64 10] W fun e w' => e = .returned (.string t10) ∧ Below W.heap.size W w')
    (HU : ∀ W, Calls Tryz.prog 6 #[.string h] W fun e w' => e = .returned (.string g) ∧ Below W.heap.size W w')
    (HV : ∀ s, TextOf s 1 → ∀ W, Glob W → Calls Tryz.prog 5 #[.string s, .string ⟨#[110]⟩] W fun e w' => e = .returned (.tuple #[.agg #[.int .u8 110, .int .u64 1, .string ⟨#[]⟩, .slice none 0 0], .bool true]) ∧ Below W.heap.size W w')
    (hT10 : TextOf t10 1) (hX0 : TextOf (⟨#[48]⟩ ++ o8) 1) (hX1 : TextOf (⟨#[48, 120]⟩ ++ h) 1) (hX2 : TextOf (⟨#[48, 120]⟩ ++ g) 1)
    (HS : ∀ W, Calls Tryz.prog 7 #[.agg #[.int .u8 110, .int .u64 1, .string ⟨#[]⟩, .slice none 0 0], .agg #[.int .u8 110, .int .u64 1, .string ⟨#[]⟩, .slice none 0 0]] W fun e w' => e = .returned (.bool true) ∧ Below W.heap.size W w')
    (HB : ∀ W, Calls Tryz.prog 8 #[.int .u8 110] W fun e w' => e = .returned (.tuple #[.int .i64 (-32768), .int .u64 32767]) ∧ W = w')
    (w : World) (hG : Gd w) :
    Calls Tryz.prog 3 #[.int .u64 0, .int .u8 which] w fun e w' => e = .returned (.bool true) ∧ Below w.heap.size w w' := by
  have hsig : (⟨#[121, 110, 113, 105, 117, 120, 116]⟩ : ByteArray).extract 1 7 = ⟨#[110, 113, 105, 117, 120, 116]⟩ := rfl
  have hsig2 : (⟨#[110, 113, 105, 117, 120, 116]⟩ : ByteArray).extract 0 1 = ⟨#[110]⟩ := rfl
  have HH16 := Aside0.mk H16
  have HH8 := Aside0.mk H8
  have HH10 := Aside0.mk H10
  have HHU := Aside0.mk HU
  have HHV := Aside0.mk HV
  have HHT := Aside0.mk hT10
  have HX0 := Aside0.mk hX0
  have HX1 := Aside0.mk hX1
  have HX2 := Aside0.mk hX2
  have HHS := Aside0.mk HS
  have HHB := Aside0.mk HB
  have HHG := Aside0.mk hG
  clear H16 H8 H10 HU HV hT10 hX0 hX1 hX2 HS HB hG
  go_enter Tryz.func3, Tryz.ntmps3
  go_wp2_with (first
    | (go_at_call_of 4 (Value.int IntKind.i64 16); refine (HH16.out _ (HHG.out _ (by repeat (first | assumption | exact Below.refl _ _ | apply below_alloc | apply below_drew))).2.1).mono ?_; rintro e w1 ⟨rfl, hb⟩; obtain ⟨hc, hf⟩ := bcell hb; have B1 := below_step (w := w) (by repeat (first | assumption | exact Below.refl _ _ | apply below_alloc | apply below_drew)) hb)
    | (go_at_call_of 4 (Value.int IntKind.i64 10); refine (HH10.out _ (HHG.out _ (by repeat (first | assumption | exact Below.refl _ _ | apply below_alloc | apply below_drew))).2.2).mono ?_; rintro e w2 ⟨rfl, hb2⟩; obtain ⟨hc2, hf2⟩ := bcell hb2; have B2 := below_step B1 hb2)
    | (go_at_call 5; refine (HHV.out _ HHT.out _ (HHG.out _ (by repeat (first | assumption | exact Below.refl _ _ | apply below_alloc | apply below_drew))).1).mono ?_; rintro e w3 ⟨rfl, hb3⟩; obtain ⟨hc3, hf3⟩ := bcell hb3; have B3 := below_step B2 hb3)
    | (go_at_call_of 4 (Value.int IntKind.i64 8); refine (HH8.out _ (HHG.out _ (by repeat (first | assumption | exact Below.refl _ _ | apply below_alloc | apply below_drew))).2.1).mono ?_; rintro e w4 ⟨rfl, hb4⟩; obtain ⟨hc4, hf4⟩ := bcell hb4; have B4 := below_step (w := w) (by repeat (first | assumption | exact Below.refl _ _ | apply below_alloc | apply below_drew)) hb4)
    | (go_at_call 6; refine (HHU.out _).mono ?_; rintro e w5 ⟨rfl, hb5⟩; obtain ⟨hc5, hf5⟩ := bcell hb5; have B5 := below_step B4 hb5))
  have hL : Lp w (w5.alloc (.cells #[.string (⟨#[48]⟩ ++ o8), .string (⟨#[48, 120]⟩ ++ h), .string (⟨#[48, 120]⟩ ++ g)] 9)) w3.heap.size w5.heap.size 110 1 (⟨#[48]⟩ ++ o8) (⟨#[48, 120]⟩ ++ h) (⟨#[48, 120]⟩ ++ g) := by
    have hz := hb4.size
    have hz5 := hb5.size
    simp at hz
    have key : ∀ o x, (w5.alloc x).cell? ⟨w3.heap.size, o, none⟩ = (w3.alloc (.cells #[.int .u8 110, .int .u64 1, .string ⟨#[]⟩, .slice none 0 0] 26)).cell? ⟨w3.heap.size, o, none⟩ := fun o x => by rw [(below_alloc (Below.refl _ w5) x).cell (p := ⟨w3.heap.size, o, none⟩) (show w3.heap.size < w5.heap.size by omega), hc5 _ _ (by omega), hc4 _ _ (by simp)]
    refine ⟨by simp, by simp, by simp, ?_, ?_, ?_, ?_, below_alloc B5 _⟩
    all_goals (rw [key]; simp)
  have HL := Aside0.mk hL
  generalize w5.alloc (.cells #[.string (⟨#[48]⟩ ++ o8), .string (⟨#[48, 120]⟩ ++ h), .string (⟨#[48, 120]⟩ ++ g)] 9) = wl at HL ⊢
  generalize w5.heap.size = Bt at HL ⊢
  generalize w3.heap.size = Bw at HL ⊢
  clear hL hb hb2 hb3 hb4 hb5 hc hc2 hc3 hc4 hc5 hf hf2 hf3 hf4 hf5 B1 B2 B3 B4 B5
  go_loopw [40] (fun vi wr => ∃ (i : Nat), vi = .int .i64 i ∧ i ≤ 3 ∧ Aside0 (Lp w wr Bw Bt 110 1 (⟨#[48]⟩ ++ o8) (⟨#[48, 120]⟩ ++ h) (⟨#[48, 120]⟩ ++ g)))
    (fun vi _ => 3 - (intOf vi).toNat)
  case atStart => exact ⟨0, rfl, by omega, HL⟩
  case round =>
    obtain ⟨i, rfl, hi, hr⟩ := hrel
    clear HL
    have hq0 := hr.out.q0
    have hq1 := hr.out.q1
    have hq2 := hr.out.q2
    have hq3 := hr.out.q3
    have ht0 := hr.out.t0
    have ht1 := hr.out.t1
    have ht2 := hr.out.t2
    have hBw : Bw < wr.heap.size := block_lt_of_cell hq0
    obtain rfl | rfl | rfl | rfl : i = 0 ∨ i = 1 ∨ i = 2 ∨ i = 3 := by omega
    · go_wp2_with (first
        | (go_at_call 5; refine (HHV.out _ HX0.out _ (HHG.out _ hr.out.bel).1).mono ?_; rintro e w6 ⟨rfl, hb6⟩; obtain ⟨hc6, hf6⟩ := bcell hb6; have hz6 : Bw < w6.heap.size := Nat.lt_of_lt_of_le hBw hb6.size; have hz7 : w6.heap.size ≠ Bw := Nat.ne_of_gt hz6)
        | (go_at_call 7; refine (HHS.out _).mono ?_; rintro e w7 ⟨rfl, hb7⟩))
      exact ⟨⟨1, rfl, by omega, ⟨hr.out.step (below_step (below_alloc hb6 _) hb7)⟩⟩, by simp [intOf]⟩
    · go_wp2_with (first
        | (go_at_call 5; refine (HHV.out _ HX1.out _ (HHG.out _ hr.out.bel).1).mono ?_; rintro e w6 ⟨rfl, hb6⟩; obtain ⟨hc6, hf6⟩ := bcell hb6; have hz6 : Bw < w6.heap.size := Nat.lt_of_lt_of_le hBw hb6.size; have hz7 : w6.heap.size ≠ Bw := Nat.ne_of_gt hz6)
        | (go_at_call 7; refine (HHS.out _).mono ?_; rintro e w7 ⟨rfl, hb7⟩))
      exact ⟨⟨2, rfl, by omega, ⟨hr.out.step (below_step (below_alloc hb6 _) hb7)⟩⟩, by simp [intOf]⟩
    · go_wp2_with (first
        | (go_at_call 5; refine (HHV.out _ HX2.out _ (HHG.out _ hr.out.bel).1).mono ?_; rintro e w6 ⟨rfl, hb6⟩; obtain ⟨hc6, hf6⟩ := bcell hb6; have hz6 : Bw < w6.heap.size := Nat.lt_of_lt_of_le hBw hb6.size; have hz7 : w6.heap.size ≠ Bw := Nat.ne_of_gt hz6)
        | (go_at_call 7; refine (HHS.out _).mono ?_; rintro e w7 ⟨rfl, hb7⟩))
      exact ⟨⟨3, rfl, by omega, ⟨hr.out.step (below_step (below_alloc hb6 _) hb7)⟩⟩, by simp [intOf]⟩
    · go_wp2_with (go_at_call 8; refine (HHB.out _).mono ?_; rintro e w8 ⟨rfl, rfl⟩)
      go_ret
      exact ⟨rfl, hr.out.bel⟩

set_option maxHeartbeats 2000000 in
set_option maxRecDepth 100000 in
theorem law_113_ok (n : Int) (which : Int) (hk : which.tmod 7 = 2) (hn1 : 1 ≤ n) (hn : n ≤ 65535) (h g t10 o8 : ByteArray) (hsh : h.size ≤ 64) (hsg : g.size ≤ 64) (hso : o8.size ≤ 64)
    (H16 : ∀ W, Tz W → Calls Tryz.prog 4 #[.int .u64 n, .int .i64 16] W fun e w' => e = .returned (.string h) ∧ Below W.heap.size W w')
    (H8 : ∀ W, Tz W → Calls Tryz.prog 4 #[.int .u64 n, .int .i64 8] W fun e w' => e = .returned (.string o8) ∧ Below W.heap.size W w')
    (H10 : ∀ W, Lib.TabIs Tryz.prog W "internal/strconv.uint64pow10" .u64 Lib.pow10Tab → Calls Tryz.prog 4 #[.int .u64 n, .int .i64 10] W fun e w' => e = .returned (.string t10) ∧ Below W.heap.size W w')
    (HU : ∀ W, Calls Tryz.prog 6 #[.string h] W fun e w' => e = .returned (.string g) ∧ Below W.heap.size W w')
    (HV : ∀ s, TextOf s n → ∀ W, Glob W → Calls Tryz.prog 5 #[.string s, .string ⟨#[113]⟩] W fun e w' => e = .returned (.tuple #[.agg #[.int .u8 113, .int .u64 n, .string ⟨#[]⟩, .slice none 0 0], .bool true]) ∧ Below W.heap.size W w')
    (hT10 : TextOf t10 n) (hX0 : TextOf (⟨#[48]⟩ ++ o8) n) (hX1 : TextOf (⟨#[48, 120]⟩ ++ h) n) (hX2 : TextOf (⟨#[48, 120]⟩ ++ g) n)
    (HS : ∀ W, Calls Tryz.prog 7 #[.agg #[.int .u8 113, .int .u64 n, .string ⟨#[]⟩, .slice none 0 0], .agg #[.int .u8 113, .int .u64 n, .string ⟨#[]⟩, .slice none 0 0]] W fun e w' => e = .returned (.bool true) ∧ Below W.heap.size W w')
    (HB : ∀ W, Calls Tryz.prog 8 #[.int .u8 113] W fun e w' => e = .returned (.tuple #[.int .i64 (0), .int .u64 65535]) ∧ W = w')
    (w : World) (hG : Gd w) :
    Calls Tryz.prog 3 #[.int .u64 n, .int .u8 which] w fun e w' => e = .returned (.bool true) ∧ Below w.heap.size w w' := by
  have hsig : (⟨#[121, 110, 113, 105, 117, 120, 116]⟩ : ByteArray).extract 2 7 = ⟨#[113, 105, 117, 120, 116]⟩ := rfl
  have hsig2 : (⟨#[113, 105, 117, 120, 116]⟩ : ByteArray).extract 0 1 = ⟨#[113]⟩ := rfl
  have hn0 : (n == 0) = false := by rw [beq_eq_false_iff_ne]; omega
  have HH16 := Aside0.mk H16
  have HH8 := Aside0.mk H8
  have HH10 := Aside0.mk H10
  have HHU := Aside0.mk HU
  have HHV := Aside0.mk HV
  have HHT := Aside0.mk hT10
  have HX0 := Aside0.mk hX0
  have HX1 := Aside0.mk hX1
  have HX2 := Aside0.mk hX2
  have HHS := Aside0.mk HS
  have HHB := Aside0.mk HB
  have HHG := Aside0.mk hG
  clear H16 H8 H10 HU HV hT10 hX0 hX1 hX2 HS HB hG
  go_enter Tryz.func3, Tryz.ntmps3
  go_wp2_with (first
    | (go_at_call_of 4 (Value.int IntKind.i64 16); refine (HH16.out _ (HHG.out _ (by repeat (first | assumption | exact Below.refl _ _ | apply below_alloc | apply below_drew))).2.1).mono ?_; rintro e w1 ⟨rfl, hb⟩; obtain ⟨hc, hf⟩ := bcell hb; have B1 := below_step (w := w) (by repeat (first | assumption | exact Below.refl _ _ | apply below_alloc | apply below_drew)) hb)
    | (go_at_call_of 4 (Value.int IntKind.i64 10); refine (HH10.out _ (HHG.out _ (by repeat (first | assumption | exact Below.refl _ _ | apply below_alloc | apply below_drew))).2.2).mono ?_; rintro e w2 ⟨rfl, hb2⟩; obtain ⟨hc2, hf2⟩ := bcell hb2; have B2 := below_step B1 hb2)
    | (go_at_call 5; refine (HHV.out _ HHT.out _ (HHG.out _ (by repeat (first | assumption | exact Below.refl _ _ | apply below_alloc | apply below_drew))).1).mono ?_; rintro e w3 ⟨rfl, hb3⟩; obtain ⟨hc3, hf3⟩ := bcell hb3; have B3 := below_step B2 hb3)
    | (go_at_call_of 4 (Value.int IntKind.i64 8); refine (HH8.out _ (HHG.out _ (by repeat (first | assumption | exact Below.refl _ _ | apply below_alloc | apply below_drew))).2.1).mono ?_; rintro e w4 ⟨rfl, hb4⟩; obtain ⟨hc4, hf4⟩ := bcell hb4; have B4 := below_step (w := w) (by repeat (first | assumption | exact Below.refl _ _ | apply below_alloc | apply below_drew)) hb4)
    | (go_at_call 6; refine (HHU.out _).mono ?_; rintro e w5 ⟨rfl, hb5⟩; obtain ⟨hc5, hf5⟩ := bcell hb5; have B5 := below_step B4 hb5))
  have hL : Lp w (w5.alloc (.cells #[.string (⟨#[48]⟩ ++ o8), .string (⟨#[48, 120]⟩ ++ h), .string (⟨#[48, 120]⟩ ++ g)] 9)) w3.heap.size w5.heap.size 113 n (⟨#[48]⟩ ++ o8) (⟨#[48, 120]⟩ ++ h) (⟨#[48, 120]⟩ ++ g) := by
    have hz := hb4.size
    have hz5 := hb5.size
    simp at hz
    have key : ∀ o x, (w5.alloc x).cell? ⟨w3.heap.size, o, none⟩ = (w3.alloc (.cells #[.int .u8 113, .int .u64 n, .string ⟨#[]⟩, .slice none 0 0] 26)).cell? ⟨w3.heap.size, o, none⟩ := fun o x => by rw [(below_alloc (Below.refl _ w5) x).cell (p := ⟨w3.heap.size, o, none⟩) (show w3.heap.size < w5.heap.size by omega), hc5 _ _ (by omega), hc4 _ _ (by simp)]
    refine ⟨by simp, by simp, by simp, ?_, ?_, ?_, ?_, below_alloc B5 _⟩
    all_goals (rw [key]; simp)
  have HL := Aside0.mk hL
  generalize w5.alloc (.cells #[.string (⟨#[48]⟩ ++ o8), .string (⟨#[48, 120]⟩ ++ h), .string (⟨#[48, 120]⟩ ++ g)] 9) = wl at HL ⊢
  generalize w5.heap.size = Bt at HL ⊢
  generalize w3.heap.size = Bw at HL ⊢
  clear hL hb hb2 hb3 hb4 hb5 hc hc2 hc3 hc4 hc5 hf hf2 hf3 hf4 hf5 B1 B2 B3 B4 B5
  go_loopw [40] (fun vi wr => ∃ (i : Nat), vi = .int .i64 i ∧ i ≤ 3 ∧ Aside0 (Lp w wr Bw Bt 113 n (⟨#[48]⟩ ++ o8) (⟨#[48, 120]⟩ ++ h) (⟨#[48, 120]⟩ ++ g)))
    (fun vi _ => 3 - (intOf vi).toNat)
  case atStart => exact ⟨0, rfl, by omega, HL⟩
  case round =>
    obtain ⟨i, rfl, hi, hr⟩ := hrel
    clear HL
    have hq0 := hr.out.q0
    have hq1 := hr.out.q1
    have hq2 := hr.out.q2
    have hq3 := hr.out.q3
    have ht0 := hr.out.t0
    have ht1 := hr.out.t1
    have ht2 := hr.out.t2
    have hBw : Bw < wr.heap.size := block_lt_of_cell hq0
    obtain rfl | rfl | rfl | rfl : i = 0 ∨ i = 1 ∨ i = 2 ∨ i = 3 := by omega
    · go_wp2_with (first
        | (go_at_call 5; refine (HHV.out _ HX0.out _ (HHG.out _ hr.out.bel).1).mono ?_; rintro e w6 ⟨rfl, hb6⟩; obtain ⟨hc6, hf6⟩ := bcell hb6; have hz6 : Bw < w6.heap.size := Nat.lt_of_lt_of_le hBw hb6.size; have hz7 : w6.heap.size ≠ Bw := Nat.ne_of_gt hz6)
        | (go_at_call 7; refine (HHS.out _).mono ?_; rintro e w7 ⟨rfl, hb7⟩))
      exact ⟨⟨1, rfl, by omega, ⟨hr.out.step (below_step (below_alloc hb6 _) hb7)⟩⟩, by simp [intOf]⟩
    · go_wp2_with (first
        | (go_at_call 5; refine (HHV.out _ HX1.out _ (HHG.out _ hr.out.bel).1).mono ?_; rintro e w6 ⟨rfl, hb6⟩; obtain ⟨hc6, hf6⟩ := bcell hb6; have hz6 : Bw < w6.heap.size := Nat.lt_of_lt_of_le hBw hb6.size; have hz7 : w6.heap.size ≠ Bw := Nat.ne_of_gt hz6)
        | (go_at_call 7; refine (HHS.out _).mono ?_; rintro e w7 ⟨rfl, hb7⟩))
      exact ⟨⟨2, rfl, by omega, ⟨hr.out.step (below_step (below_alloc hb6 _) hb7)⟩⟩, by simp [intOf]⟩
    · go_wp2_with (first
        | (go_at_call 5; refine (HHV.out _ HX2.out _ (HHG.out _ hr.out.bel).1).mono ?_; rintro e w6 ⟨rfl, hb6⟩; obtain ⟨hc6, hf6⟩ := bcell hb6; have hz6 : Bw < w6.heap.size := Nat.lt_of_lt_of_le hBw hb6.size; have hz7 : w6.heap.size ≠ Bw := Nat.ne_of_gt hz6)
        | (go_at_call 7; refine (HHS.out _).mono ?_; rintro e w7 ⟨rfl, hb7⟩))
      exact ⟨⟨3, rfl, by omega, ⟨hr.out.step (below_step (below_alloc hb6 _) hb7)⟩⟩, by simp [intOf]⟩
    · go_wp2_with (go_at_call 8; refine (HHB.out _).mono ?_; rintro e w8 ⟨rfl, rfl⟩)
      go_ret
      exact ⟨rfl, hr.out.bel⟩

set_option maxHeartbeats 2000000 in
set_option maxRecDepth 100000 in
theorem law_113_bad (n : Int) (which : Int) (hk : which.tmod 7 = 2) (hn1 : 1 ≤ n) (hn : 65535 < n) (h g t10 o8 : ByteArray) (hsh : h.size ≤ 64) (hsg : g.size ≤ 64) (hso : o8.size ≤ 64)
    (H16 : ∀ W, Tz W → Calls Tryz.prog 4 #[.int .u64 n, .int .i64 16] W fun e w' => e = .returned (.string h) ∧ Below W.heap.size W w')
    (H8 : ∀ W, Tz W → Calls Tryz.prog 4 #[.int .u64 n, .int .i64 8] W fun e w' => e = .returned (.string o8) ∧ Below W.heap.size W w')
    (H10 : ∀ W, Lib.TabIs Tryz.prog W "internal/strconv.uint64pow10" .u64 Lib.pow10Tab → Calls Tryz.prog 4 #[.int .u64 n, .int .i64 10] W fun e w' => e = .returned (.string t10) ∧ Below W.heap.size W w')
    (HU : ∀ W, Calls Tryz.prog 6 #[.string h] W fun e w' => e = .returned (.string g) ∧ Below W.heap.size W w')
    (HV : ∀ s, TextOf s n → ∀ W, Glob W → Calls Tryz.prog 5 #[.string s, .string ⟨#[113]⟩] W fun e w' => e = .returned (.tuple #[.agg #[.int .u8 0, .int .u64 0, .string ⟨#[]⟩, .slice none 0 0], .bool false]) ∧ Below W.heap.size W w')
    (hT10 : TextOf t10 n) (hX0 : TextOf (⟨#[48]⟩ ++ o8) n) (hX1 : TextOf (⟨#[48, 120]⟩ ++ h) n) (hX2 : TextOf (⟨#[48, 120]⟩ ++ g) n)
    (HB : ∀ W, Calls Tryz.prog 8 #[.int .u8 113] W fun e w' => e = .returned (.tuple #[.int .i64 (0), .int .u64 65535]) ∧ W = w')
    (w : World) (hG : Gd w) :
    Calls Tryz.prog 3 #[.int .u64 n, .int .u8 which] w fun e w' => e = .returned (.bool true) ∧ Below w.heap.size w w' := by
  have hsig : (⟨#[121, 110, 113, 105, 117, 120, 116]⟩ : ByteArray).extract 2 7 = ⟨#[113, 105, 117, 120, 116]⟩ := rfl
  have hsig2 : (⟨#[113, 105, 117, 120, 116]⟩ : ByteArray).extract 0 1 = ⟨#[113]⟩ := rfl
  have hn0 : (n == 0) = false := by rw [beq_eq_false_iff_ne]; omega
  have hd : decide (n ≤ 65535) = false := decide_eq_false (by omega)
  have HH16 := Aside0.mk H16
  have HH8 := Aside0.mk H8
  have HH10 := Aside0.mk H10
  have HHU := Aside0.mk HU
  have HHV := Aside0.mk HV
  have HHT := Aside0.mk hT10
  have HX0 := Aside0.mk hX0
  have HX1 := Aside0.mk hX1
  have HX2 := Aside0.mk hX2
  have HHB := Aside0.mk HB
  have HHG := Aside0.mk hG
  clear H16 H8 H10 HU HV hT10 hX0 hX1 hX2 HB hG
  go_enter Tryz.func3, Tryz.ntmps3
  go_wp2_with (first
    | (go_at_call_of 4 (Value.int IntKind.i64 16); refine (HH16.out _ (HHG.out _ (by repeat (first | assumption | exact Below.refl _ _ | apply below_alloc | apply below_drew))).2.1).mono ?_; rintro e w1 ⟨rfl, hb⟩; obtain ⟨hc, hf⟩ := bcell hb; have B1 := below_step (w := w) (by repeat (first | assumption | exact Below.refl _ _ | apply below_alloc | apply below_drew)) hb)
    | (go_at_call_of 4 (Value.int IntKind.i64 10); refine (HH10.out _ (HHG.out _ (by repeat (first | assumption | exact Below.refl _ _ | apply below_alloc | apply below_drew))).2.2).mono ?_; rintro e w2 ⟨rfl, hb2⟩; obtain ⟨hc2, hf2⟩ := bcell hb2; have B2 := below_step B1 hb2)
    | (go_at_call 5; refine (HHV.out _ HHT.out _ (HHG.out _ (by repeat (first | assumption | exact Below.refl _ _ | apply below_alloc | apply below_drew))).1).mono ?_; rintro e w3 ⟨rfl, hb3⟩; obtain ⟨hc3, hf3⟩ := bcell hb3; have B3 := below_step B2 hb3)
    | (go_at_call_of 4 (Value.int IntKind.i64 8); refine (HH8.out _ (HHG.out _ (by repeat (first | assumption | exact Below.refl _ _ | apply below_alloc | apply below_drew))).2.1).mono ?_; rintro e w4 ⟨rfl, hb4⟩; obtain ⟨hc4, hf4⟩ := bcell hb4; have B4 := below_step (w := w) (by repeat (first | assumption | exact Below.refl _ _ | apply below_alloc | apply below_drew)) hb4)
    | (go_at_call 6; refine (HHU.out _).mono ?_; rintro e w5 ⟨rfl, hb5⟩; obtain ⟨hc5, hf5⟩ := bcell hb5; have B5 := below_step B4 hb5))
  have hL : Lp w (w5.alloc (.cells #[.string (⟨#[48]⟩ ++ o8), .string (⟨#[48, 120]⟩ ++ h), .string (⟨#[48, 120]⟩ ++ g)] 9)) w3.heap.size w5.heap.size 0 0 (⟨#[48]⟩ ++ o8) (⟨#[48, 120]⟩ ++ h) (⟨#[48, 120]⟩ ++ g) := by
    have hz := hb4.size
    have hz5 := hb5.size
    simp at hz
    have key : ∀ o x, (w5.alloc x).cell? ⟨w3.heap.size, o, none⟩ = (w3.alloc (.cells #[.int .u8 0, .int .u64 0, .string ⟨#[]⟩, .slice none 0 0] 26)).cell? ⟨w3.heap.size, o, none⟩ := fun o x => by rw [(below_alloc (Below.refl _ w5) x).cell (p := ⟨w3.heap.size, o, none⟩) (show w3.heap.size < w5.heap.size by omega), hc5 _ _ (by omega), hc4 _ _ (by simp)]
    refine ⟨by simp, by simp, by simp, ?_, ?_, ?_, ?_, below_alloc B5 _⟩
    all_goals (rw [key]; simp)
  have HL := Aside0.mk hL
  generalize w5.alloc (.cells #[.string (⟨#[48]⟩ ++ o8), .string (⟨#[48, 120]⟩ ++ h), .string (⟨#[48, 120]⟩ ++ g)] 9) = wl at HL ⊢
  generalize w5.heap.size = Bt at HL ⊢
  generalize w3.heap.size = Bw at HL ⊢
  clear hL hb hb2 hb3 hb4 hb5 hc hc2 hc3 hc4 hc5 hf hf2 hf3 hf4 hf5 B1 B2 B3 B4 B5
  go_loopw [40] (fun vi wr => ∃ (i : Nat), vi = .int .i64 i ∧ i ≤ 3 ∧ Aside0 (Lp w wr Bw Bt 0 0 (⟨#[48]⟩ ++ o8) (⟨#[48, 120]⟩ ++ h) (⟨#[48, 120]⟩ ++ g)))
    (fun vi _ => 3 - (intOf vi).toNat)
  case atStart => exact ⟨0, rfl, by omega, HL⟩
  case round =>
    obtain ⟨i, rfl, hi, hr⟩ := hrel
    clear HL
    have hq0 := hr.out.q0
    have hq1 := hr.out.q1
    have hq2 := hr.out.q2
    have hq3 := hr.out.q3
    have ht0 := hr.out.t0
    have ht1 := hr.out.t1
    have ht2 := hr.out.t2
    have hBw : Bw < wr.heap.size := block_lt_of_cell hq0
    obtain rfl | rfl | rfl | rfl : i = 0 ∨ i = 1 ∨ i = 2 ∨ i = 3 := by omega
    · go_wp2_with (first
        | (go_at_call 5; refine (HHV.out _ HX0.out _ (HHG.out _ hr.out.bel).1).mono ?_; rintro e w6 ⟨rfl, hb6⟩; obtain ⟨hc6, hf6⟩ := bcell hb6; have hz6 : Bw < w6.heap.size := Nat.lt_of_lt_of_le hBw hb6.size; have hz7 : w6.heap.size ≠ Bw := Nat.ne_of_gt hz6))
      exact ⟨⟨1, rfl, by omega, ⟨hr.out.step (below_alloc hb6 _)⟩⟩, by simp [intOf]⟩
    · go_wp2_with (first
        | (go_at_call 5; refine (HHV.out _ HX1.out _ (HHG.out _ hr.out.bel).1).mono ?_; rintro e w6 ⟨rfl, hb6⟩; obtain ⟨hc6, hf6⟩ := bcell hb6; have hz6 : Bw < w6.heap.size := Nat.lt_of_lt_of_le hBw hb6.size; have hz7 : w6.heap.size ≠ Bw := Nat.ne_of_gt hz6))
      exact ⟨⟨2, rfl, by omega, ⟨hr.out.step (below_alloc hb6 _)⟩⟩, by simp [intOf]⟩
    · go_wp2_with (first
        | (go_at_call 5; refine (HHV.out _ HX2.out _ (HHG.out _ hr.out.bel).1).mono ?_; rintro e w6 ⟨rfl, hb6⟩; obtain ⟨hc6, hf6⟩ := bcell hb6; have hz6 : Bw < w6.heap.size := Nat.lt_of_lt_of_le hBw hb6.size; have hz7 : w6.heap.size ≠ Bw := Nat.ne_of_gt hz6))
      exact ⟨⟨3, rfl, by omega, ⟨hr.out.step (below_alloc hb6 _)⟩⟩, by simp [intOf]⟩
    · go_wp2_with (go_at_call 8; refine (HHB.out _).mono ?_; rintro e w8 ⟨rfl, rfl⟩)
      go_ret
      exact ⟨rfl, hr.out.bel⟩

set_option maxHeartbeats 2000000 in
set_option maxRecDepth 100000 in
theorem law_113_zero (which : Int) (hk : which.tmod 7 = 2)  (h g t10 o8 : ByteArray) (hsh : h.size ≤ 64) (hsg : g.size ≤ 64) (hso : o8.size ≤ 64)
    (H16 : ∀ W, Tz W → Calls Tryz.prog 4 #[.int .u64 1, .int .i64 16] W fun e w' => e = .returned (.string h) ∧ Below W.heap.size W w')
    (H8 : ∀ W, Tz W → Calls Tryz.prog 4 #[.int .u64 1, .int .i64 8] W fun e w' => e = .returned (.string o8) ∧ Below W.heap.size W w')
    (H10 : ∀ W, Lib.TabIs Tryz.prog W "internal/strconv.uint64pow10" .u64 Lib.pow10Tab → Calls Tryz.prog 4 #[.int .u64 1, .int .i64 10] W fun e w' => e = .returned (.string t10) ∧ Below W.heap.size W w')
    (HU : ∀ W, Calls Tryz.prog 6 #[.string h] W fun e w' => e = .returned (.string g) ∧ Below W.heap.size W w')
    (HV : ∀ s, TextOf s 1 → ∀ W, Glob W → Calls Tryz.prog 5 #[.string s, .string ⟨#[113]⟩] W fun e w' => e = .returned (.tuple #[.agg #[.int .u8 113, .int .u64 1, .string ⟨#[]⟩, .slice none 0 0], .bool true]) ∧ Below W.heap.size W w')
    (hT10 : TextOf t10 1) (hX0 : TextOf (⟨#[48]⟩ ++ o8) 1) (hX1 : TextOf (⟨#[48, 120]⟩ ++ h) 1) (hX2 : TextOf (⟨#[48, 120]⟩ ++ g) 1)
    (HS : ∀ W, Calls Tryz.prog 7 #[.agg #[.int .u8 113, .int .u64 1, .string ⟨#[]⟩, .slice none 0 0], .agg #[.int .u8 113, .int .u64 1, .string ⟨#[]⟩, .slice none 0 0]] W fun e w' => e = .returned (.bool true) ∧ Below W.heap.size W w')
    (HB : ∀ W, Calls Tryz.prog 8 #[.int .u8 113] W fun e w' => e = .returned (.tuple #[.int .i64 (0), .int .u64 65535]) ∧ W = w')
    (w : World) (hG : Gd w) :
    Calls Tryz.prog 3 #[.int .u64 0, .int .u8 which] w fun e w' => e = .returned (.bool true) ∧ Below w.heap.size w w' := by
  have hsig : (⟨#[121, 110, 113, 105, 117, 120, 116]⟩ : ByteArray).extract 2 7 = ⟨#[113, 105, 117, 120, 116]⟩ := rfl
  have hsig2 : (⟨#[113, 105, 117, 120, 116]⟩ : ByteArray).extract 0 1 = ⟨#[113]⟩ := rfl
  have HH16 := Aside0.mk H16
  have HH8 := Aside0.mk H8
  have HH10 := Aside0.mk H10
  have HHU := Aside0.mk HU
  have HHV := Aside0.mk HV
  have HHT := Aside0.mk hT10
  have HX0 := Aside0.mk hX0
  have HX1 := Aside0.mk hX1
  have HX2 := Aside0.mk hX2
  have HHS := Aside0.mk HS
  have HHB := Aside0.mk HB
  have HHG := Aside0.mk hG
  clear H16 H8 H10 HU HV hT10 hX0 hX1 hX2 HS HB hG
  go_enter Tryz.func3, Tryz.ntmps3
  go_wp2_with (first
    | (go_at_call_of 4 (Value.int IntKind.i64 16); refine (HH16.out _ (HHG.out _ (by repeat (first | assumption | exact Below.refl _ _ | apply below_alloc | apply below_drew))).2.1).mono ?_; rintro e w1 ⟨rfl, hb⟩; obtain ⟨hc, hf⟩ := bcell hb; have B1 := below_step (w := w) (by repeat (first | assumption | exact Below.refl _ _ | apply below_alloc | apply below_drew)) hb)
    | (go_at_call_of 4 (Value.int IntKind.i64 10); refine (HH10.out _ (HHG.out _ (by repeat (first | assumption | exact Below.refl _ _ | apply below_alloc | apply below_drew))).2.2).mono ?_; rintro e w2 ⟨rfl, hb2⟩; obtain ⟨hc2, hf2⟩ := bcell hb2; have B2 := below_step B1 hb2)
    | (go_at_call 5; refine (HHV.out _ HHT.out _ (HHG.out _ (by repeat (first | assumption | exact Below.refl _ _ | apply below_alloc | apply below_drew))).1).mono ?_; rintro e w3 ⟨rfl, hb3⟩; obtain ⟨hc3, hf3⟩ := bcell hb3; have B3 := below_step B2 hb3)
    | (go_at_call_of 4 (Value.int IntKind.i64 8); refine (HH8.out _ (HHG.out _ (by repeat (first | assumption | exact Below.refl _ _ | apply below_alloc | apply below_drew))).2.1).mono ?_; rintro e w4 ⟨rfl, hb4⟩; obtain ⟨hc4, hf4⟩ := bcell hb4; have B4 := below_step (w := w) (by repeat (first | assumption | exact Below.refl _ _ | apply below_alloc | apply below_drew)) hb4)
    | (go_at_call 6; refine (HHU.out _).mono ?_; rintro e w5 ⟨rfl, hb5⟩; obtain ⟨hc5, hf5⟩ := bcell hb5; have B5 := below_step B4 hb5))
  have hL : Lp w (w5.alloc (.cells #[.string (⟨#[48]⟩ ++ o8), .string (⟨#[48, 120]⟩ ++ h), .string (⟨#[48, 120]⟩ ++ g)] 9)) w3.heap.size w5.heap.size 113 1 (⟨#[48]⟩ ++ o8) (⟨#[48, 120]⟩ ++ h) (⟨#[48, 120]⟩ ++ g) := by
    have hz := hb4.size
    have hz5 := hb5.size
    simp at hz
    have key : ∀ o x, (w5.alloc x).cell? ⟨w3.heap.size, o, none⟩ = (w3.alloc (.cells #[.int .u8 113, .int .u64 1, .string ⟨#[]⟩, .slice none 0 0] 26)).cell? ⟨w3.heap.size, o, none⟩ := fun o x => by rw [(below_alloc (Below.refl _ w5) x).cell (p := ⟨w3.heap.size, o, none⟩) (show w3.heap.size < w5.heap.size by omega), hc5 _ _ (by omega), hc4 _ _ (by simp)]
    refine ⟨by simp, by simp, by simp, ?_, ?_, ?_, ?_, below_alloc B5 _⟩
    all_goals (rw [key]; simp)
  have HL := Aside0.mk hL
  generalize w5.alloc (.cells #[.string (⟨#[48]⟩ ++ o8), .string (⟨#[48, 120]⟩ ++ h), .string (⟨#[48, 120]⟩ ++ g)] 9) = wl at HL ⊢
  generalize w5.heap.size = Bt at HL ⊢
  generalize w3.heap.size = Bw at HL ⊢
  clear hL hb hb2 hb3 hb4 hb5 hc hc2 hc3 hc4 hc5 hf hf2 hf3 hf4 hf5 B1 B2 B3 B4 B5
  go_loopw [40] (fun vi wr => ∃ (i : Nat), vi = .int .i64 i ∧ i ≤ 3 ∧ Aside0 (Lp w wr Bw Bt 113 1 (⟨#[48]⟩ ++ o8) (⟨#[48, 120]⟩ ++ h) (⟨#[48, 120]⟩ ++ g)))
    (fun vi _ => 3 - (intOf vi).toNat)
  case atStart => exact ⟨0, rfl, by omega, HL⟩
  case round =>
    obtain ⟨i, rfl, hi, hr⟩ := hrel
    clear HL
    have hq0 := hr.out.q0
    have hq1 := hr.out.q1
    have hq2 := hr.out.q2
    have hq3 := hr.out.q3
    have ht0 := hr.out.t0
    have ht1 := hr.out.t1
    have ht2 := hr.out.t2
    have hBw : Bw < wr.heap.size := block_lt_of_cell hq0
    obtain rfl | rfl | rfl | rfl : i = 0 ∨ i = 1 ∨ i = 2 ∨ i = 3 := by omega
    · go_wp2_with (first
        | (go_at_call 5; refine (HHV.out _ HX0.out _ (HHG.out _ hr.out.bel).1).mono ?_; rintro e w6 ⟨rfl, hb6⟩; obtain ⟨hc6, hf6⟩ := bcell hb6; have hz6 : Bw < w6.heap.size := Nat.lt_of_lt_of_le hBw hb6.size; have hz7 : w6.heap.size ≠ Bw := Nat.ne_of_gt hz6)
        | (go_at_call 7; refine (HHS.out _).mono ?_; rintro e w7 ⟨rfl, hb7⟩))
      exact ⟨⟨1, rfl, by omega, ⟨hr.out.step (below_step (below_alloc hb6 _) hb7)⟩⟩, by simp [intOf]⟩
    · go_wp2_with (first
        | (go_at_call 5; refine (HHV.out _ HX1.out _ (HHG.out _ hr.out.bel).1).mono ?_; rintro e w6 ⟨rfl, hb6⟩; obtain ⟨hc6, hf6⟩ := bcell hb6; have hz6 : Bw < w6.heap.size := Nat.lt_of_lt_of_le hBw hb6.size; have hz7 : w6.heap.size ≠ Bw := Nat.ne_of_gt hz6)
        | (go_at_call 7; refine (HHS.out _).mono ?_; rintro e w7 ⟨rfl, hb7⟩))
      exact ⟨⟨2, rfl, by omega, ⟨hr.out.step (below_step (below_alloc hb6 _) hb7)⟩⟩, by simp [intOf]⟩
    · go_wp2_with (first
        | (go_at_call 5; refine (HHV.out _ HX2.out _ (HHG.out _ hr.out.bel).1).mono ?_; rintro e w6 ⟨rfl, hb6⟩; obtain ⟨hc6, hf6⟩ := bcell hb6; have hz6 : Bw < w6.heap.size := Nat.lt_of_lt_of_le hBw hb6.size; have hz7 : w6.heap.size ≠ Bw := Nat.ne_of_gt hz6)
        | (go_at_call 7; refine (HHS.out _).mono ?_; rintro e w7 ⟨rfl, hb7⟩))
      exact ⟨⟨3, rfl, by omega, ⟨hr.out.step (below_step (below_alloc hb6 _) hb7)⟩⟩, by simp [intOf]⟩
    · go_wp2_with (go_at_call 8; refine (HHB.out _).mono ?_; rintro e w8 ⟨rfl, rfl⟩)
      go_ret
      exact ⟨rfl, hr.out.bel⟩

set_option maxHeartbeats 2000000 in
set_option maxRecDepth 100000 in
theorem law_105_ok (n : Int) (which : Int) (hk : which.tmod 7 = 3) (hn1 : 1 ≤ n) (hn : n ≤ 2147483647) (h g t10 o8 : ByteArray) (hsh : h.size ≤ 64) (hsg : g.size ≤ 64) (hso : o8.size ≤ 64)
    (H16 : ∀ W, Tz W → Calls Tryz.prog 4 #[.int .u64 n, .int .i64 16] W fun e w' => e = .returned (.string h) ∧ Below W.heap.size W w')
    (H8 : ∀ W, Tz W → Calls Tryz.prog 4 #[.int .u64 n, .int .i64 8] W fun e w' => e = .returned (.string o8) ∧ Below W.heap.size W w')
    (H10 : ∀ W, Lib.TabIs Tryz.prog W "internal/strconv.uint64pow10" .u64 Lib.pow10Tab → Calls Tryz.prog 4 #[.int .u64 n, .int .i64 10] W fun e w' => e = .returned (.string t10) ∧ Below W.heap.size W w')
    (HU : ∀ W, Calls Tryz.prog 6 #[.string h] W fun e w' => e = .returned (.string g) ∧ Below W.heap.size W w')
    (HV : ∀ s, TextOf s n → ∀ W, Glob W → Calls Tryz.prog 5 #[.string s, .string ⟨#[105]⟩] W fun e w' => e = .returned (.tuple #[.agg #[.int .u8 105, .int .u64 n, .string ⟨#[]⟩, .slice none 0 0], .bool true]) ∧ Below W.heap.size W w')
    (hT10 : TextOf t10 n) (hX0 : TextOf (⟨#[48]⟩ ++ o8) n) (hX1 : TextOf (⟨#[48, 120]⟩ ++ h) n) (hX2 : TextOf (⟨#[48, 120]⟩ ++ g) n)
    (HS : ∀ W, Calls Tryz.prog 7 #[.agg #[.int .u8 105, .int .u64 n, .string ⟨#[]⟩, .slice none 0 0], .agg #[.int .u8 105, .int .u64 n, .string ⟨#[]⟩, .slice none 0 0]] W fun e w' => e = .returned (.bool true) ∧ Below W.heap.size W w')
    (HB : ∀ W, Calls Tryz.prog 8 #[.int .u8 105] W fun e w' => e = .returned (.tuple #[.int .i64 (-2147483648), .int .u64 2147483647]) ∧ W = w')
    (w : World) (hG : Gd w) :
    Calls Tryz.prog 3 #[.int .u64 n, .int .u8 which] w fun e w' => e = .returned (.bool true) ∧ Below w.heap.size w w' := by
  have hsig : (⟨#[121, 110, 113, 105, 117, 120, 116]⟩ : ByteArray).extract 3 7 = ⟨#[105, 117, 120, 116]⟩ := rfl
  have hsig2 : (⟨#[105, 117, 120, 116]⟩ : ByteArray).extract 0 1 = ⟨#[105]⟩ := rfl
  have hn0 : (n == 0) = false := by rw [beq_eq_false_iff_ne]; omega
  have HH16 := Aside0.mk H16
  have HH8 := Aside0.mk H8
  have HH10 := Aside0.mk H10
  have HHU := Aside0.mk HU
  have HHV := Aside0.mk HV
  have HHT := Aside0.mk hT10
  have HX0 := Aside0.mk hX0
  have HX1 := Aside0.mk hX1
  have HX2 := Aside0.mk hX2
  have HHS := Aside0.mk HS
  have HHB := Aside0.mk HB
  have HHG := Aside0.mk hG
  clear H16 H8 H10 HU HV hT10 hX0 hX1 hX2 HS HB hG
  go_enter Tryz.func3, Tryz.ntmps3
  go_wp2_with (first
    | (go_at_call_of 4 (Value.int IntKind.i64 16); refine (HH16.out _ (HHG.out _ (by repeat (first | assumption | exact Below.refl _ _ | apply below_alloc | apply below_drew))).2.1).mono ?_; rintro e w1 ⟨rfl, hb⟩; obtain ⟨hc, hf⟩ := bcell hb; have B1 := below_step (w := w) (by repeat (first | assumption | exact Below.refl _ _ | apply below_alloc | apply below_drew)) hb)
    | (go_at_call_of 4 (Value.int IntKind.i64 10); refine (HH10.out _ (HHG.out _ (by repeat (first | assumption | exact Below.refl _ _ | apply below_alloc | apply below_drew))).2.2).mono ?_; rintro e w2 ⟨rfl, hb2⟩; obtain ⟨hc2, hf2⟩ := bcell hb2; have B2 := below_step B1 hb2)
    | (go_at_call 5; refine (HHV.out _ HHT.out _ (HHG.out _ (by repeat (first | assumption | exact Below.refl _ _ | apply below_alloc | apply below_drew))).1).mono ?_; rintro e w3 ⟨rfl, hb3⟩; obtain ⟨hc3, hf3⟩ := bcell hb3; have B3 := below_step B2 hb3)
    | (go_at_call_of 4 (Value.int IntKind.i64 8); refine (HH8.out _ (HHG.out _ (by repeat (first | assumption | exact Below.refl _ _ | apply below_alloc | apply below_drew))).2.1).mono ?_; rintro e w4 ⟨rfl, hb4⟩; obtain ⟨hc4, hf4⟩ := bcell hb4; have B4 := below_step (w := w) (by repeat (first | assumption | exact Below.refl _ _ | apply below_alloc | apply below_drew)) hb4)
    | (go_at_call 6; refine (HHU.out _).mono ?_; rintro e w5 ⟨rfl, hb5⟩; obtain ⟨hc5, hf5⟩ := bcell hb5; have B5 := below_step B4 hb5))
  have hL : Lp w (w5.alloc (.cells #[.string (⟨#[48]⟩ ++ o8), .string (⟨#[48, 120]⟩ ++ h), .string (⟨#[48, 120]⟩ ++ g)] 9)) w3.heap.size w5.heap.size 105 n (⟨#[48]⟩ ++ o8) (⟨#[48, 120]⟩ ++ h) (⟨#[48, 120]⟩ ++ g) := by
    have hz := hb4.size
    have hz5 := hb5.size
    simp at hz
    have key : ∀ o x, (w5.alloc x).cell? ⟨w3.heap.size, o, none⟩ = (w3.alloc (.cells #[.int .u8 105, .int .u64 n, .string ⟨#[]⟩, .slice none 0 0] 26)).cell? ⟨w3.heap.size, o, none⟩ := fun o x => by rw [(below_alloc (Below.refl _ w5) x).cell (p := ⟨w3.heap.size, o, none⟩) (show w3.heap.size < w5.heap.size by omega), hc5 _ _ (by omega), hc4 _ _ (by simp)]
    refine ⟨by simp, by simp, by simp, ?_, ?_, ?_, ?_, below_alloc B5 _⟩
    all_goals (rw [key]; simp)
  have HL := Aside0.mk hL
  generalize w5.alloc (.cells #[.string (⟨#[48]⟩ ++ o8), .string (⟨#[48, 120]⟩ ++ h), .string (⟨#[48, 120]⟩ ++ g)] 9) = wl at HL ⊢
  generalize w5.heap.size = Bt at HL ⊢
  generalize w3.heap.size = Bw at HL ⊢
  clear hL hb hb2 hb3 hb4 hb5 hc hc2 hc3 hc4 hc5 hf hf2 hf3 hf4 hf5 B1 B2 B3 B4 B5
  go_loopw [40] (fun vi wr => ∃ (i : Nat), vi = .int .i64 i ∧ i ≤ 3 ∧ Aside0 (Lp w wr Bw Bt 105 n (⟨#[48]⟩ ++ o8) (⟨#[48, 120]⟩ ++ h) (⟨#[48, 120]⟩ ++ g)))
    (fun vi _ => 3 - (intOf vi).toNat)
  case atStart => exact ⟨0, rfl, by omega, HL⟩
  case round =>
    obtain ⟨i, rfl, hi, hr⟩ := hrel
    clear HL
    have hq0 := hr.out.q0
    have hq1 := hr.out.q1
    have hq2 := hr.out.q2
    have hq3 := hr.out.q3
    have ht0 := hr.out.t0
    have ht1 := hr.out.t1
    have ht2 := hr.out.t2
    have hBw : Bw < wr.heap.size := block_lt_of_cell hq0
    obtain rfl | rfl | rfl | rfl : i = 0 ∨ i = 1 ∨ i = 2 ∨ i = 3 := by omega
    · go_wp2_with (first
        | (go_at_call 5; refine (HHV.out _ HX0.out _ (HHG.out _ hr.out.bel).1).mono ?_; rintro e w6 ⟨rfl, hb6⟩; obtain ⟨hc6, hf6⟩ := bcell hb6; have hz6 : Bw < w6.heap.size := Nat.lt_of_lt_of_le hBw hb6.size; have hz7 : w6.heap.size ≠ Bw := Nat.ne_of_gt hz6)
        | (go_at_call 7; refine (HHS.out _).mono ?_; rintro e w7 ⟨rfl, hb7⟩))
      exact ⟨⟨1, rfl, by omega, ⟨hr.out.step (below_step (below_alloc hb6 _) hb7)⟩⟩, by simp [intOf]⟩
    · go_wp2_with (first
        | (go_at_call 5; refine (HHV.out _ HX1.out _ (HHG.out _ hr.out.bel).1).mono ?_; rintro e w6 ⟨rfl, hb6⟩; obtain ⟨hc6, hf6⟩ := bcell hb6; have hz6 : Bw < w6.heap.size := Nat.lt_of_lt_of_le hBw hb6.size; have hz7 : w6.heap.size ≠ Bw := Nat.ne_of_gt hz6)
        | (go_at_call 7; refine (HHS.out _).mono ?_; rintro e w7 ⟨rfl, hb7⟩))
      exact ⟨⟨2, rfl, by omega, ⟨hr.out.step (below_step (below_alloc hb6 _) hb7)⟩⟩, by simp [intOf]⟩
    · go_wp2_with (first
        | (go_at_call 5; refine (HHV.out _ HX2.out _ (HHG.out _ hr.out.bel).1).mono ?_; rintro e w6 ⟨rfl, hb6⟩; obtain ⟨hc6, hf6⟩ := bcell hb6; have hz6 : Bw < w6.heap.size := Nat.lt_of_lt_of_le hBw hb6.size; have hz7 : w6.heap.size ≠ Bw := Nat.ne_of_gt hz6)
        | (go_at_call 7; refine (HHS.out _).mono ?_; rintro e w7 ⟨rfl, hb7⟩))
      exact ⟨⟨3, rfl, by omega, ⟨hr.out.step (below_step (below_alloc hb6 _) hb7)⟩⟩, by simp [intOf]⟩
    · go_wp2_with (go_at_call 8; refine (HHB.out _).mono ?_; rintro e w8 ⟨rfl, rfl⟩)
      go_ret
      exact ⟨rfl, hr.out.bel⟩

set_option maxHeartbeats 2000000 in
set_option maxRecDepth 100000 in
theorem law_105_bad (n : Int) (which : Int) (hk : which.tmod 7 = 3) (hn1 : 1 ≤ n) (hn : 2147483647 < n) (h g t10 o8 : ByteArray) (hsh : h.size ≤ 64) (hsg : g.size ≤ 64) (hso : o8.size ≤ 64)
    (H16 : ∀ W, Tz W → Calls Tryz.prog 4 #[.int .u64 n, .int .i64 16] W fun e w' => e = .returned (.string h) ∧ Below W.heap.size W w')
    (H8 : ∀ W, Tz W → Calls Tryz.prog 4 #[.int .u64 n, .int .i64 8] W fun e w' => e = .returned (.string o8) ∧ Below W.heap.size W w')
    (H10 : ∀ W, Lib.TabIs Tryz.prog W "internal/strconv.uint64pow10" .u64 Lib.pow10Tab → Calls Tryz.prog 4 #[.int .u64 n, .int .i64 10] W fun e w' => e = .returned (.string t10) ∧ Below W.heap.size W w')
    (HU : ∀ W, Calls Tryz.prog 6 #[.string h] W fun e w' => e = .returned (.string g) ∧ Below W.heap.size W w')
    (HV : ∀ s, TextOf s n → ∀ W, Glob W → Calls Tryz.prog 5 #[.string s, .string ⟨#[105]⟩] W fun e w' => e = .returned (.tuple #[.agg #[.int .u8 0, .int .u64 0, .string ⟨#[]⟩, .slice none 0 0], .bool false]) ∧ Below W.heap.size W w')
    (hT10 : TextOf t10 n) (hX0 : TextOf (⟨#[48]⟩ ++ o8) n) (hX1 : TextOf (⟨#[48, 120]⟩ ++ h) n) (hX2 : TextOf (⟨#[48, 120]⟩ ++ g) n)
    (HB : ∀ W, Calls Tryz.prog 8 #[.int .u8 105] W fun e w' => e = .returned (.tuple #[.int .i64 (-2147483648), .int .u64 2147483647]) ∧ W = w')
    (w : World) (hG : Gd w) :
    Calls Tryz.prog 3 #[.int .u64 n, .int .u8 which] w fun e w' => e = .returned (.bool true) ∧ Below w.heap.size w w' := by
  have hsig : (⟨#[121, 110, 113, 105, 117, 120, 116]⟩ : ByteArray).extract 3 7 = ⟨#[105, 117, 120, 116]⟩ := rfl
  have hsig2 : (⟨#[105, 117, 120, 116]⟩ : ByteArray).extract 0 1 = ⟨#[105]⟩ := rfl
  have hn0 : (n == 0) = false := by rw [beq_eq_false_iff_ne]; omega
  have hd : decide (n ≤ 2147483647) = false := decide_eq_false (by omega)
  have HH16 := Aside0.mk H16
  have HH8 := Aside0.mk H8
  have HH10 := Aside0.mk H10
  have HHU := Aside0.mk HU
  have HHV := Aside0.mk HV
  have HHT := Aside0.mk hT10
  have HX0 := Aside0.mk hX0
  have HX1 := Aside0.mk hX1
  have HX2 := Aside0.mk hX2
  have HHB := Aside0.mk HB
  have HHG := Aside0.mk hG
  clear H16 H8 H10 HU HV hT10 hX0 hX1 hX2 HB hG
  go_enter Tryz.func3, Tryz.ntmps3
  go_wp2_with (first
    | (go_at_call_of 4 (Value.int IntKind.i64 16); refine (HH16.out _ (HHG.out _ (by repeat (first | assumption | exact Below.refl _ _ | apply below_alloc | apply below_drew))).2.1).mono ?_; rintro e w1 ⟨rfl, hb⟩; obtain ⟨hc, hf⟩ := bcell hb; have B1 := below_step (w := w) (by repeat (first | assumption | exact Below.refl _ _ | apply below_alloc | apply below_drew)) hb)
    | (go_at_call_of 4 (Value.int IntKind.i64 10); refine (HH10.out _ (HHG.out _ (by repeat (first | assumption | exact Below.refl _ _ | apply below_alloc | apply below_drew))).2.2).mono ?_; rintro e w2 ⟨rfl, hb2⟩; obtain ⟨hc2, hf2⟩ := bcell hb2; have B2 := below_step B1 hb2)
    | (go_at_call 5; refine (HHV.out _ HHT.out _ (HHG.out _ (by repeat (first | assumption | exact Below.refl _ _ | apply below_alloc | apply below_drew))).1).mono ?_; rintro e w3 ⟨rfl, hb3⟩; obtain ⟨hc3, hf3⟩ := bcell hb3; have B3 := below_step B2 hb3)
    | (go_at_call_of 4 (Value.int IntKind.i64 8); refine (HH8.out _ (HHG.out _ (by repeat (first | assumption | exact Below.refl _ _ | apply below_alloc | apply below_drew))).2.1).mono ?_; rintro e w4 ⟨rfl, hb4⟩; obtain ⟨hc4, hf4⟩ := bcell hb4; have B4 := below_step (w := w) (by repeat (first | assumption | exact Below.refl _ _ | apply below_alloc | apply below_drew)) hb4)
    | (go_at_call 6; refine (HHU.out _).mono ?_; rintro e w5 ⟨rfl, hb5⟩; obtain ⟨hc5, hf5⟩ := bcell hb5; have B5 := below_step B4 hb5))
  have hL : Lp w (w5.alloc (.cells #[.string (⟨#[48]⟩ ++ o8), .string (⟨#[48, 120]⟩ ++ h), .string (⟨#[48, 120]⟩ ++ g)] 9)) w3.heap.size w5.heap.size 0 0 (⟨#[48]⟩ ++ o8) (⟨#[48, 120]⟩ ++ h) (⟨#[48, 120]⟩ ++ g) := by
    have hz := hb4.size
    have hz5 := hb5.size
    simp at hz
    have key : ∀ o x, (w5.alloc x).cell? ⟨w3.heap.size, o, none⟩ = (w3.alloc (.cells #[.int .u8 0, .int .u64 0, .string ⟨#[]⟩, .slice none 0 0] 26)).cell? ⟨w3.heap.size, o, none⟩ := fun o x => by rw [(below_alloc (Below.refl _ w5) x).cell (p := ⟨w3.heap.size, o, none⟩) (show w3.heap.size < w5.heap.size by omega), hc5 _ _ (by omega), hc4 _ _ (by simp)]
    refine ⟨by simp, by simp, by simp, ?_, ?_, ?_, ?_, below_alloc B5 _⟩
    all_goals (rw [key]; simp)
  have HL := Aside0.mk hL
  generalize w5.alloc (.cells #[.string (⟨#[48]⟩ ++ o8), .string (⟨#[48, 120]⟩ ++ h), .string (⟨#[48, 120]⟩ ++ g)] 9) = wl at HL ⊢
  generalize w5.heap.size = Bt at HL ⊢
  generalize w3.heap.size = Bw at HL ⊢
  clear hL hb hb2 hb3 hb4 hb5 hc hc2 hc3 hc4 hc5 hf hf2 hf3 hf4 hf5 B1 B2 B3 B4 B5
  go_loopw [40] (fun vi wr => ∃ (i : Nat), vi = .int .i64 i ∧ i ≤ 3 ∧ Aside0 (Lp w wr Bw Bt 0 0 (⟨#[48]⟩ ++ o8) (⟨#[48, 120]⟩ ++ h) (⟨#[48, 120]⟩ ++ g)))
    (fun vi _ => 3 - (intOf vi).toNat)
  case atStart => exact ⟨0, rfl, by omega, HL⟩
  case round =>
    obtain ⟨i, rfl, hi, hr⟩ := hrel
    clear HL
    have hq0 := hr.out.q0
    have hq1 := hr.out.q1
    have hq2 := hr.out.q2
    have hq3 := hr.out.q3
    have ht0 := hr.out.t0
    have ht1 := hr.out.t1
    have ht2 := hr.out.t2
    have hBw : Bw < wr.heap.size := block_lt_of_cell hq0
    obtain rfl | rfl | rfl | rfl : i = 0 ∨ i = 1 ∨ i = 2 ∨ i = 3 := by omega
    · go_wp2_with (first
        | (go_at_call 5; refine (HHV.out _ HX0.out _ (HHG.out _ hr.out.bel).1).mono ?_; rintro e w6 ⟨rfl, hb6⟩; obtain ⟨hc6, hf6⟩ := bcell hb6; have hz6 : Bw < w6.heap.size := Nat.lt_of_lt_of_le hBw hb6.size; have hz7 : w6.heap.size ≠ Bw := Nat.ne_of_gt hz6))
      exact ⟨⟨1, rfl, by omega, ⟨hr.out.step (below_alloc hb6 _)⟩⟩, by simp [intOf]⟩
    · go_wp2_with (first
        | (go_at_call 5; refine (HHV.out _ HX1.out _ (HHG.out _ hr.out.bel).1).mono ?_; rintro e w6 ⟨rfl, hb6⟩; obtain ⟨hc6, hf6⟩ := bcell hb6; have hz6 : Bw < w6.heap.size := Nat.lt_of_lt_of_le hBw hb6.size; have hz7 : w6.heap.size ≠ Bw := Nat.ne_of_gt hz6))
      exact ⟨⟨2, rfl, by omega, ⟨hr.out.step (below_alloc hb6 _)⟩⟩, by simp [intOf]⟩
    · go_wp2_with (first
        | (go_at_call 5; refine (HHV.out _ HX2.out _ (HHG.out _ hr.out.bel).1).mono ?_; rintro e w6 ⟨rfl, hb6⟩; obtain ⟨hc6, hf6⟩ := bcell hb6; have hz6 : Bw < w6.heap.size := Nat.lt_of_lt_of_le hBw hb6.size; have hz7 : w6.heap.size ≠ Bw := Nat.ne_of_gt hz6))
      exact ⟨⟨3, rfl, by omega, ⟨hr.out.step (below_alloc hb6 _)⟩⟩, by simp [intOf]⟩
    · go_wp2_with (go_at_call 8; refine (HHB.out _).mono ?_; rintro e w8 ⟨rfl, rfl⟩)
      go_ret
      exact ⟨rfl, hr.out.bel⟩

set_option maxHeartbeats 2000000 in
set_option maxRecDepth 100000 in
theorem law_105_zero (which : Int) (hk : which.tmod 7 = 3)  (h g t10 o8 : ByteArray) (hsh : h.size ≤ 64) (hsg : g.size ≤ 64) (hso : o8.size ≤ 64)
    (H16 : ∀ W, Tz W → Calls Tryz.prog 4 #[.int .u64 1, .int .i64 16] W fun e w' => e = .returned (.string h) ∧ Below W.heap.size W w')
    (H8 : ∀ W, Tz W → Calls Tryz.prog 4 #[.int .u64 1, .int .i64 8] W fun e w' => e = .returned (.string o8) ∧ Below W.heap.size W w')
    (H10 : ∀ W, Lib.TabIs Tryz.prog W "internal/strconv.uint64pow10" .u64 Lib.pow10Tab → Calls Tryz.prog 4 #[.int .u64 1, .int .i64 10] W fun e w' => e = .returned (.string t10) ∧ Below W.heap.size W w')
    (HU : ∀ W, Calls Tryz.prog 6 #[.string h] W fun e w' => e = .returned (.string g) ∧ Below W.heap.size W w')
    (HV : ∀ s, TextOf s 1 → ∀ W, Glob W → Calls Tryz.prog 5 #[.string s, .string ⟨#[105]⟩] W fun e w' => e = .returned (.tuple #[.agg #[.int .u8 105, .int .u64 1, .string ⟨#[]⟩, .slice none 0 0], .bool true]) ∧ Below W.heap.size W w')
    (hT10 : TextOf t10 1) (hX0 : TextOf (⟨#[48]⟩ ++ o8) 1) (hX1 : TextOf (⟨#[48, 120]⟩ ++ h) 1) (hX2 : TextOf (⟨#[48, 120]⟩ ++ g) 1)
    (HS : ∀ W, Calls Tryz.prog 7 #[.agg #[.int .u8 105, .int .u64 1, .string ⟨#[]⟩, .slice none 0 0], .agg #[.int .u8 105, .int .u64 1, .string ⟨#[]⟩, .slice none 0 0]] W fun e w' => e = .returned (.bool true) ∧ Below W.heap.size W w')
    (HB : ∀ W, Calls Tryz.prog 8 #[.int .u8 105] W fun e w' => e = .returned (.tuple #[.int .i64 (-2147483648), .int .u64 2147483647]) ∧ W = w')
    (w : World) (hG : Gd w) :
    Calls Tryz.prog 3 #[.int .u64 0, .int .u8 which] w fun e w' => e = .returned (.bool true) ∧ Below w.heap.size w w' := by
  have hsig : (⟨#[121, 110, 113, 105, 117, 120, 116]⟩ : ByteArray).extract 3 7 = ⟨#[105, 117, 120, 116]⟩ := rfl
  have hsig2 : (⟨#[105, 117, 120, 116]⟩ : ByteArray).extract 0 1 = ⟨#[105]⟩ := rfl
  have HH16 := Aside0.mk H16
  have HH8 := Aside0.mk H8
  have HH10 := Aside0.mk H10
  have HHU := Aside0.mk HU
  have HHV := Aside0.mk HV
  have HHT := Aside0.mk hT10
  have HX0 := Aside0.mk hX0
  have HX1 := Aside0.mk hX1
  have HX2 := Aside0.mk hX2
  have HHS := Aside0.mk HS
  have HHB := Aside0.mk HB
  have HHG := Aside0.mk hG
  clear H16 H8 H10 HU HV hT10 hX0 hX1 hX2 HS HB hG
  go_enter Tryz.func3, Tryz.ntmps3
  go_wp2_with (first
    | (go_at_call_of 4 (Value.int IntKind.i64 16); refine (HH16.out _ (HHG.out _ (by repeat (first | assumption | exact Below.refl _ _ | apply below_alloc | apply below_drew))).2.1).mono ?_; rintro e w1 ⟨rfl, hb⟩; obtain ⟨hc, hf⟩ := bcell hb; have B1 := below_step (w := w) (by repeat (first | assumption | exact Below.refl _ _ | apply below_alloc | apply below_drew)) hb)
    | (go_at_call_of 4 (Value.int IntKind.i64 10); refine (HH10.out _ (HHG.out _ (by repeat (first | assumption | exact Below.refl _ _ | apply below_alloc | apply below_drew))).2.2).mono ?_; rintro e w2 ⟨rfl, hb2⟩; obtain ⟨hc2, hf2⟩ := bcell hb2; have B2 := below_step B1 hb2)
    | (go_at_call 5; refine (HHV.out _ HHT.out _ (HHG.out _ (by repeat (first | assumption | exact Below.refl _ _ | apply below_alloc | apply below_drew))).1).mono ?_; rintro e w3 ⟨rfl, hb3⟩; obtain ⟨hc3, hf3⟩ := bcell hb3; have B3 := below_step B2 hb3)
    | (go_at_call_of 4 (Value.int IntKind.i64 8); refine (HH8.out _ (HHG.out _ (by repeat (first | assumption | exact Below.refl _ _ | apply below_alloc | apply below_drew))).2.1).mono ?_; rintro e w4 ⟨rfl, hb4⟩; obtain ⟨hc4, hf4⟩ := bcell hb4; have B4 := below_step (w := w) (by repeat (first | assumption | exact Below.refl _ _ | apply below_alloc | apply below_drew)) hb4)
    | (go_at_call 6; refine (HHU.out _).mono ?_; rintro e w5 ⟨rfl, hb5⟩; obtain ⟨hc5, hf5⟩ := bcell hb5; have B5 := below_step B4 hb5))
  have hL : Lp w (w5.alloc (.cells #[.string (⟨#[48]⟩ ++ o8), .string (⟨#[48, 120]⟩ ++ h), .string (⟨#[48, 120]⟩ ++ g)] 9)) w3.heap.size w5.heap.size 105 1 (⟨#[48]⟩ ++ o8) (⟨#[48, 120]⟩ ++ h) (⟨#[48, 120]⟩ ++ g) := by
    have hz := hb4.size
    have hz5 := hb5.size
    simp at hz
    have key : ∀ o x, (w5.alloc x).cell? ⟨w3.heap.size, o, none⟩ = (w3.alloc (.cells #[.int .u8 105, .int .u64 1, .string ⟨#[]⟩, .slice none 0 0] 26)).cell? ⟨w3.heap.size, o, none⟩ := fun o x => by rw [(below_alloc (Below.refl _ w5) x).cell (p := ⟨w3.heap.size, o, none⟩) (show w3.heap.size < w5.heap.size by omega), hc5 _ _ (by omega), hc4 _ _ (by simp)]
    refine ⟨by simp, by simp, by simp, ?_, ?_, ?_, ?_, below_alloc B5 _⟩
    all_goals (rw [key]; simp)
  have HL := Aside0.mk hL
  generalize w5.alloc (.cells #[.string (⟨#[48]⟩ ++ o8), .string (⟨#[48, 120]⟩ ++ h), .string (⟨#[48, 120]⟩ ++ g)] 9) = wl at HL ⊢
  generalize w5.heap.size = Bt at HL ⊢
  generalize w3.heap.size = Bw at HL ⊢
  clear hL hb hb2 hb3 hb4 hb5 hc hc2 hc3 hc4 hc5 hf hf2 hf3 hf4 hf5 B1 B2 B3 B4 B5
  go_loopw [40] (fun vi wr => ∃ (i : Nat), vi = .int .i64 i ∧ i ≤ 3 ∧ Aside0 (Lp w wr Bw Bt 105 1 (⟨#[48]⟩ ++ o8) (⟨#[48, 120]⟩ ++ h) (⟨#[48, 120]⟩ ++ g)))
    (fun vi _ => 3 - (intOf vi).toNat)
  case atStart => exact ⟨0, rfl, by omega, HL⟩
  case round =>
    obtain ⟨i, rfl, hi, hr⟩ := hrel
    clear HL
    have hq0 := hr.out.q0
    have hq1 := hr.out.q1
    have hq2 := hr.out.q2
    have hq3 := hr.out.q3
    have ht0 := hr.out.t0
    have ht1 := hr.out.t1
    have ht2 := hr.out.t2
    have hBw : Bw < wr.heap.size := block_lt_of_cell hq0
    obtain rfl | rfl | rfl | rfl : i = 0 ∨ i = 1 ∨ i = 2 ∨ i = 3 := by omega
    · go_wp2_with (first
        | (go_at_call 5; refine (HHV.out _ HX0.out _ (HHG.out _ hr.out.bel).1).mono ?_; rintro e w6 ⟨rfl, hb6⟩; obtain ⟨hc6, hf6⟩ := bcell hb6; have hz6 : Bw < w6.heap.size := Nat.lt_of_lt_of_le hBw hb6.size; have hz7 : w6.heap.size ≠ Bw := Nat.ne_of_gt hz6)
        | (go_at_call 7; refine (HHS.out _).mono ?_; rintro e w7 ⟨rfl, hb7⟩))
      exact ⟨⟨1, rfl, by omega, ⟨hr.out.step (below_step (below_alloc hb6 _) hb7)⟩⟩, by simp [intOf]⟩
    · go_wp2_with (first
        | (go_at_call 5; refine (HHV.out _ HX1.out _ (HHG.out _ hr.out.bel).1).mono ?_; rintro e w6 ⟨rfl, hb6⟩; obtain ⟨hc6, hf6⟩ := bcell hb6; have hz6 : Bw < w6.heap.size := Nat.lt_of_lt_of_le hBw hb6.size; have hz7 : w6.heap.size ≠ Bw := Nat.ne_of_gt hz6)
        | (go_at_call 7; refine (HHS.out _).mono ?_; rintro e w7 ⟨rfl, hb7⟩))
      exact ⟨⟨2, rfl, by omega, ⟨hr.out.step (below_step (below_alloc hb6 _) hb7)⟩⟩, by simp [intOf]⟩
    · go_wp2_with (first
        | (go_at_call 5; refine (HHV.out _ HX2.out _ (HHG.out _ hr.out.bel).1).mono ?_; rintro e w6 ⟨rfl, hb6⟩; obtain ⟨hc6, hf6⟩ := bcell hb6; have hz6 : Bw < w6.heap.size := Nat.lt_of_lt_of_le hBw hb6.size; have hz7 : w6.heap.size ≠ Bw := Nat.ne_of_gt hz6)
        | (go_at_call 7; refine (HHS.out _).mono ?_; rintro e w7 ⟨rfl, hb7⟩))
      exact ⟨⟨3, rfl, by omega, ⟨hr.out.step (below_step (below_alloc hb6 _) hb7)⟩⟩, by simp [intOf]⟩
    · go_wp2_with (go_at_call 8; refine (HHB.out _).mono ?_; rintro e w8 ⟨rfl, rfl⟩)
      go_ret
      exact ⟨rfl, hr.out.bel⟩

set_option maxHeartbeats 2000000 in
set_option maxRecDepth 100000 in
theorem law_117_ok (n : Int) (which : Int) (hk : which.tmod 7 = 4) (hn1 : 1 ≤ n) (hn : n ≤ 4294967295) (h g t10 o8 : ByteArray) (hsh : h.size ≤ 64) (hsg : g.size ≤ 64) (hso : o8.size ≤ 64)
    (H16 : ∀ W, Tz W → Calls Tryz.prog 4 #[.int .u64 n, .int .i64 16] W fun e w' => e = .returned (.string h) ∧ Below W.heap.size W w')
    (H8 : ∀ W, Tz W → Calls Tryz.prog 4 #[.int .u64 n, .int .i64 8] W fun e w' => e = .returned (.string o8) ∧ Below W.heap.size W w')
    (H10 : ∀ W, Lib.TabIs Tryz.prog W "internal/strconv.uint64pow10" .u64 Lib.pow10Tab → Calls Tryz.prog 4 #[.int .u64 n, .int .i64 10] W fun e w' => e = .returned (.string t10) ∧ Below W.heap.size W w')
    (HU : ∀ W, Calls Tryz.prog 6 #[.string h] W fun e w' => e = .returned (.string g) ∧ Below W.heap.size W w')
    (HV : ∀ s, TextOf s n → ∀ W, Glob W → Calls Tryz.prog 5 #[.string s, .string ⟨#[117]⟩] W fun e w' => e = .returned (.tuple #[.agg #[.int .u8 117, .int .u64 n, .string ⟨#[]⟩, .slice none 0 0], .bool true]) ∧ Below W.heap.size W w')
    (hT10 : TextOf t10 n) (hX0 : TextOf (⟨#[48]⟩ ++ o8) n) (hX1 : TextOf (⟨#[48, 120]⟩ ++ h) n) (hX2 : TextOf (⟨#[48, 120]⟩ ++ g) n)
    (HS : ∀ W, Calls Tryz.prog 7 #[.agg #[.int .u8 117, .int .u64 n, .string ⟨#[]⟩, .slice none 0 0], .agg #[.int .u8 117, .int .u64 n, .string ⟨#[]⟩, .slice none 0 0]] W fun e w' => e = .returned (.bool true) ∧ Below W.heap.size W w')
    (HB : ∀ W, Calls Tryz.prog 8 #[.int .u8 117] W fun e w' => e = .returned (.tuple #[.int .i64 (0), .int .u64 4294967295]) ∧ W = w')
    (w : World) (hG : Gd w) :
    Calls Tryz.prog 3 #[.int .u64 n, .int .u8 which] w fun e w' => e = .returned (.bool true) ∧ Below w.heap.size w w' := by
  have hsig : (⟨#[121, 110, 113, 105, 117, 120, 116]⟩ : ByteArray).extract 4 7 = ⟨#[117, 120, 116]⟩ := rfl
  have hsig2 : (⟨#[117, 120, 116]⟩ : ByteArray).extract 0 1 = ⟨#[117]⟩ := rfl
  have hn0 : (n == 0) = false := by rw [beq_eq_false_iff_ne]; omega
  have HH16 := Aside0.mk H16
  have HH8 := Aside0.mk H8
  have HH10 := Aside0.mk H10
  have HHU := Aside0.mk HU
  have HHV := Aside0.mk HV
  have HHT := Aside0.mk hT10
  have HX0 := Aside0.mk hX0
  have HX1 := Aside0.mk hX1
  have HX2 := Aside0.mk hX2
  have HHS := Aside0.mk HS
  have HHB := Aside0.mk HB
  have HHG := Aside0.mk hG
  clear H16 H8 H10 HU HV hT10 hX0 hX1 hX2 HS HB hG
  go_enter Tryz.func3, Tryz.ntmps3
  go_wp2_with (first
    | (go_at_call_of 4 (Value.int IntKind.i64 16); refine (HH16.out _ (HHG.out _ (by repeat (first | assumption | exact Below.refl _ _ | apply below_alloc | apply below_drew))).2.1).mono ?_; rintro e w1 ⟨rfl, hb⟩; obtain ⟨hc, hf⟩ := bcell hb; have B1 := below_step (w := w) (by repeat (first | assumption | exact Below.refl _ _ | apply below_alloc | apply below_drew)) hb)
    | (go_at_call_of 4 (Value.int IntKind.i64 10); refine (HH10.out _ (HHG.out _ (by repeat (first | assumption | exact Below.refl _ _ | apply below_alloc | apply below_drew))).2.2).mono ?_; rintro e w2 ⟨rfl, hb2⟩; obtain ⟨hc2, hf2⟩ := bcell hb2; have B2 := below_step B1 hb2)
    | (go_at_call 5; refine (HHV.out _ HHT.out _ (HHG.out _ (by repeat (first | assumption | exact Below.refl _ _ | apply below_alloc | apply below_drew))).1).mono ?_; rintro e w3 ⟨rfl, hb3⟩; obtain ⟨hc3, hf3⟩ := bcell hb3; have B3 := below_step B2 hb3)
    | (go_at_call_of 4 (Value.int IntKind.i64 8); refine (HH8.out _ (HHG.out _ (by repeat (first | assumption | exact Below.refl _ _ | apply below_alloc | apply below_drew))).2.1).mono ?_; rintro e w4 ⟨rfl, hb4⟩; obtain ⟨hc4, hf4⟩ := bcell hb4; have B4 := below_step (w := w) (by repeat (first | assumption | exact Below.refl _ _ | apply below_alloc | apply below_drew)) hb4)
    | (go_at_call 6; refine (HHU.out _).mono ?_; rintro e w5 ⟨rfl, hb5⟩; obtain ⟨hc5, hf5⟩ := bcell hb5; have B5 := below_step B4 hb5))
  have hL : Lp w (w5.alloc (.cells #[.string (⟨#[48]⟩ ++ o8), .string (⟨#[48, 120]⟩ ++ h), .string (⟨#[48, 120]⟩ ++ g)] 9)) w3.heap.size w5.heap.size 117 n (⟨#[48]⟩ ++ o8) (⟨#[48, 120]⟩ ++ h) (⟨#[48, 120]⟩ ++ g) := by
    have hz := hb4.size
    have hz5 := hb5.size
    simp at hz
    have key : ∀ o x, (w5.alloc x).cell? ⟨w3.heap.size, o, none⟩ = (w3.alloc (.cells #[.int .u8 117, .int .u64 n, .string ⟨#[]⟩, .slice none 0 0] 26)).cell? ⟨w3.heap.size, o, none⟩ := fun o x => by rw [(below_alloc (Below.refl _ w5) x).cell (p := ⟨w3.heap.size, o, none⟩) (show w3.heap.size < w5.heap.size by omega), hc5 _ _ (by omega), hc4 _ _ (by simp)]
    refine ⟨by simp, by simp, by simp, ?_, ?_, ?_, ?_, below_alloc B5 _⟩
    all_goals (rw [key]; simp)
  have HL := Aside0.mk hL
  generalize w5.alloc (.cells #[.string (⟨#[48]⟩ ++ o8), .string (⟨#[48, 120]⟩ ++ h), .string (⟨#[48, 120]⟩ ++ g)] 9) = wl at HL ⊢
  generalize w5.heap.size = Bt at HL ⊢
  generalize w3.heap.size = Bw at HL ⊢
  clear hL hb hb2 hb3 hb4 hb5 hc hc2 hc3 hc4 hc5 hf hf2 hf3 hf4 hf5 B1 B2 B3 B4 B5
  go_loopw [40] (fun vi wr => ∃ (i : Nat), vi = .int .i64 i ∧ i ≤ 3 ∧ Aside0 (Lp w wr Bw Bt 117 n (⟨#[48]⟩ ++ o8) (⟨#[48, 120]⟩ ++ h) (⟨#[48, 120]⟩ ++ g)))
    (fun vi _ => 3 - (intOf vi).toNat)
  case atStart => exact ⟨0, rfl, by omega, HL⟩
  case round =>
    obtain ⟨i, rfl, hi, hr⟩ := hrel
    clear HL
    have hq0 := hr.out.q0
    have hq1 := hr.out.q1
    have hq2 := hr.out.q2
    have hq3 := hr.out.q3
    have ht0 := hr.out.t0
    have ht1 := hr.out.t1
    have ht2 := hr.out.t2
    have hBw : Bw < wr.heap.size := block_lt_of_cell hq0
    obtain rfl | rfl | rfl | rfl : i = 0 ∨ i = 1 ∨ i = 2 ∨ i = 3 := by omega
    · go_wp2_with (first
        | (go_at_call 5; refine (HHV.out _ HX0.out _ (HHG.out _ hr.out.bel).1).mono ?_; rintro e w6 ⟨rfl, hb6⟩; obtain ⟨hc6, hf6⟩ := bcell hb6; have hz6 : Bw < w6.heap.size := Nat.lt_of_lt_of_le hBw hb6.size; have hz7 : w6.heap.size ≠ Bw := Nat.ne_of_gt hz6)
        | (go_at_call 7; refine (HHS.out _).mono ?_; rintro e w7 ⟨rfl, hb7⟩))
      exact ⟨⟨1, rfl, by omega, ⟨hr.out.step (below_step (below_alloc hb6 _) hb7)⟩⟩, by simp [intOf]⟩
    · go_wp2_with (first
        | (go_at_call 5; refine (HHV.out _ HX1.out _ (HHG.out _ hr.out.bel).1).mono ?_; rintro e w6 ⟨rfl, hb6⟩; obtain ⟨hc6, hf6⟩ := bcell hb6; have hz6 : Bw < w6.heap.size := Nat.lt_of_lt_of_le hBw hb6.size; have hz7 : w6.heap.size ≠ Bw := Nat.ne_of_gt hz6)
        | (go_at_call 7; refine (HHS.out _).mono ?_; rintro e w7 ⟨rfl, hb7⟩))
      exact ⟨⟨2, rfl, by omega, ⟨hr.out.step (below_step (below_alloc hb6 _) hb7)⟩⟩, by simp [intOf]⟩
    · go_wp2_with (first
        | (go_at_call 5; refine (HHV.out _ HX2.out _ (HHG.out _ hr.out.bel).1).mono ?_; rintro e w6 ⟨rfl, hb6⟩; obtain ⟨hc6, hf6⟩ := bcell hb6; have hz6 : Bw < w6.heap.size := Nat.lt_of_lt_of_le hBw hb6.size; have hz7 : w6.heap.size ≠ Bw := Nat.ne_of_gt hz6)
        | (go_at_call 7; refine (HHS.out _).mono ?_; rintro e w7 ⟨rfl, hb7⟩))
      exact ⟨⟨3, rfl, by omega, ⟨hr.out.step (below_step (below_alloc hb6 _) hb7)⟩⟩, by simp [intOf]⟩
    · go_wp2_with (go_at_call 8; refine (HHB.out _).mono ?_; rintro e w8 ⟨rfl, rfl⟩)
      go_ret
      exact ⟨rfl, hr.out.bel⟩

set_option maxHeartbeats 2000000 in
set_option maxRecDepth 100000 in
theorem law_117_bad (n : Int) (which : Int) (hk : which.tmod 7 = 4) (hn1 : 1 ≤ n) (hn : 4294967295 < n) (h g t10 o8 : ByteArray) (hsh : h.size ≤ 64) (hsg : g.size ≤ 64) (hso : o8.size ≤ 64)
    (H16 : ∀ W, Tz W → Calls Tryz.prog 4 #[.int .u64 n, .int .i64 16] W fun e w' => e = .returned (.string h) ∧ Below W.heap.size W w')
    (H8 : ∀ W, Tz W → Calls Tryz.prog 4 #[.int .u64 n, .int .i64 8] W fun e w' => e = .returned (.string o8) ∧ Below W.heap.size W w')
    (H10 : ∀ W, Lib.TabIs Tryz.prog W "internal/strconv.uint64pow10" .u64 Lib.pow10Tab → Calls Tryz.prog 4 #[.int .u64 n, .int .i64 10] W fun e w' => e = .returned (.string t10) ∧ Below W.heap.size W w')
    (HU : ∀ W, Calls Tryz.prog 6 #[.string h] W fun e w' => e = .returned (.string g) ∧ Below W.heap.size W w')
    (HV : ∀ s, TextOf s n → ∀ W, Glob W → Calls Tryz.prog 5 #[.string s, .string ⟨#[117]⟩] W fun e w' => e = .returned (.tuple #[.agg #[.int .u8 0, .int .u64 0, .string ⟨#[]⟩, .slice none 0 0], .bool false]) ∧ Below W.heap.size W w')
    (hT10 : TextOf t10 n) (hX0 : TextOf (⟨#[48]⟩ ++ o8) n) (hX1 : TextOf (⟨#[48, 120]⟩ ++ h) n) (hX2 : TextOf (⟨#[48, 120]⟩ ++ g) n)
    (HB : ∀ W, Calls Tryz.prog 8 #[.int .u8 117] W fun e w' => e = .returned (.tuple #[.int .i64 (0), .int .u64 4294967295]) ∧ W = w')
    (w : World) (hG : Gd w) :
    Calls Tryz.prog 3 #[.int .u64 n, .int .u8 which] w fun e w' => e = .returned (.bool true) ∧ Below w.heap.size w w' := by
  have hsig : (⟨#[121, 110, 113, 105, 117, 120, 116]⟩ : ByteArray).extract 4 7 = ⟨#[117, 120, 116]⟩ := rfl
  have hsig2 : (⟨#[117, 120, 116]⟩ : ByteArray).extract 0 1 = ⟨#[117]⟩ := rfl
  have hn0 : (n == 0) = false := by rw [beq_eq_false_iff_ne]; omega
  have hd : decide (n ≤ 4294967295) = false := decide_eq_false (by omega)
  have HH16 := Aside0.mk H16
  have HH8 := Aside0.mk H8
  have HH10 := Aside0.mk H10
  have HHU := Aside0.mk HU
  have HHV := Aside0.mk HV
  have HHT := Aside0.mk hT10
  have HX0 := Aside0.mk hX0
  have HX1 := Aside0.mk hX1
  have HX2 := Aside0.mk hX2
  have HHB := Aside0.mk HB
  have HHG := Aside0.mk hG
  clear H16 H8 H10 HU HV hT10 hX0 hX1 hX2 HB hG
  go_enter Tryz.func3, Tryz.ntmps3
  go_wp2_with (first
    | (go_at_call_of 4 (Value.int IntKind.i64 16); refine (HH16.out _ (HHG.out _ (by repeat (first | assumption | exact Below.refl _ _ | apply below_alloc | apply below_drew))).2.1).mono ?_; rintro e w1 ⟨rfl, hb⟩; obtain ⟨hc, hf⟩ := bcell hb; have B1 := below_step (w := w) (by repeat (first | assumption | exact Below.refl _ _ | apply below_alloc | apply below_drew)) hb)
    | (go_at_call_of 4 (Value.int IntKind.i64 10); refine (HH10.out _ (HHG.out _ (by repeat (first | assumption | exact Below.refl _ _ | apply below_alloc | apply below_drew))).2.2).mono ?_; rintro e w2 ⟨rfl, hb2⟩; obtain ⟨hc2, hf2⟩ := bcell hb2; have B2 := below_step B1 hb2)
    | (go_at_call 5; refine (HHV.out _ HHT.out _ (HHG.out _ (by repeat (first | assumption | exact Below.refl _ _ | apply below_alloc | apply below_drew))).1).mono ?_; rintro e w3 ⟨rfl, hb3⟩; obtain ⟨hc3, hf3⟩ := bcell hb3; have B3 := below_step B2 hb3)
    | (go_at_call_of 4 (Value.int IntKind.i64 8); refine (HH8.out _ (HHG.out _ (by repeat (first | assumption | exact Below.refl _ _ | apply below_alloc | apply below_drew))).2.1).mono ?_; rintro e w4 ⟨rfl, hb4⟩; obtain ⟨hc4, hf4⟩ := bcell hb4; have B4 := below_step (w := w) (by repeat (first | assumption | exact Below.refl _ _ | apply below_alloc | apply below_drew)) hb4)
    | (go_at_call 6; refine (HHU.out _).mono ?_; rintro e w5 ⟨rfl, hb5⟩; obtain ⟨hc5, hf5⟩ := bcell hb5; have B5 := below_step B4 hb5))
  have hL : Lp w (w5.alloc (.cells #[.string (⟨#[48]⟩ ++ o8), .string (⟨#[48, 120]⟩ ++ h), .string (⟨#[48, 120]⟩ ++ g)] 9)) w3.heap.size w5.heap.size 0 0 (⟨#[48]⟩ ++ o8) (⟨#[48, 120]⟩ ++ h) (⟨#[48, 120]⟩ ++ g) := by
    have hz := hb4.size
    have hz5 := hb5.size
    simp at hz
    have key : ∀ o x, (w5.alloc x).cell? ⟨w3.heap.size, o, none⟩ = (w3.alloc (.cells #[.int .u8 0, .int .u64 0, .string ⟨#[]⟩, .slice none 0 0] 26)).cell? ⟨w3.heap.size, o, none⟩ := fun o x => by rw [(below_alloc (Below.refl _ w5) x).cell (p := ⟨w3.heap.size, o, none⟩) (show w3.heap.size < w5.heap.size by omega), hc5 _ _ (by omega), hc4 _ _ (by simp)]
    refine ⟨by simp, by simp, by simp, ?_, ?_, ?_, ?_, below_alloc B5 _⟩
    all_goals (rw [key]; simp)
  have HL := Aside0.mk hL
  generalize w5.alloc (.cells #[.string (⟨#[48]⟩ ++ o8), .string (⟨#[48, 120]⟩ ++ h), .string (⟨#[48, 120]⟩ ++ g)] 9) = wl at HL ⊢
  generalize w5.heap.size = Bt at HL ⊢
  generalize w3.heap.size = Bw at HL ⊢
  clear hL hb hb2 hb3 hb4 hb5 hc hc2 hc3 hc4 hc5 hf hf2 hf3 hf4 hf5 B1 B2 B3 B4 B5
  go_loopw [40] (fun vi wr => ∃ (i : Nat), vi = .int .i64 i ∧ i ≤ 3 ∧ Aside0 (Lp w wr Bw Bt 0 0 (⟨#[48]⟩ ++ o8) (⟨#[48, 120]⟩ ++ h) (⟨#[48, 120]⟩ ++ g)))
    (fun vi _ => 3 - (intOf vi).toNat)
  case atStart => exact ⟨0, rfl, by omega, HL⟩
  case round =>
    obtain ⟨i, rfl, hi, hr⟩ := hrel
    clear HL
    have hq0 := hr.out.q0
    have hq1 := hr.out.q1
    have hq2 := hr.out.q2
    have hq3 := hr.out.q3
    have ht0 := hr.out.t0
    have ht1 := hr.out.t1
    have ht2 := hr.out.t2
    have hBw : Bw < wr.heap.size := block_lt_of_cell hq0
    obtain rfl | rfl | rfl | rfl : i = 0 ∨ i = 1 ∨ i = 2 ∨ i = 3 := by omega
    · go_wp2_with (first
        | (go_at_call 5; refine (HHV.out _ HX0.out _ (HHG.out _ hr.out.bel).1).mono ?_; rintro e w6 ⟨rfl, hb6⟩; obtain ⟨hc6, hf6⟩ := bcell hb6; have hz6 : Bw < w6.heap.size := Nat.lt_of_lt_of_le hBw hb6.size; have hz7 : w6.heap.size ≠ Bw := Nat.ne_of_gt hz6))
      exact ⟨⟨1, rfl, by omega, ⟨hr.out.step (below_alloc hb6 _)⟩⟩, by simp [intOf]⟩
    · go_wp2_with (first
        | (go_at_call 5; refine (HHV.out _ HX1.out _ (HHG.out _ hr.out.bel).1).mono ?_; rintro e w6 ⟨rfl, hb6⟩; obtain ⟨hc6, hf6⟩ := bcell hb6; have hz6 : Bw < w6.heap.size := Nat.lt_of_lt_of_le hBw hb6.size; have hz7 : w6.heap.size ≠ Bw := Nat.ne_of_gt hz6))
      exact ⟨⟨2, rfl, by omega, ⟨hr.out.step (below_alloc hb6 _)⟩⟩, by simp [intOf]⟩
    · go_wp2_with (first
        | (go_at_call 5; refine (HHV.out _ HX2.out _ (HHG.out _ hr.out.bel).1).mono ?_; rintro e w6 ⟨rfl, hb6⟩; obtain ⟨hc6, hf6⟩ := bcell hb6; have hz6 : Bw < w6.heap.size := Nat.lt_of_lt_of_le hBw hb6.size; have hz7 : w6.heap.size ≠ Bw := Nat.ne_of_gt hz6))
      exact ⟨⟨3, rfl, by omega, ⟨hr.out.step (below_alloc hb6 _)⟩⟩, by simp [intOf]⟩
    · go_wp2_with (go_at_call 8; refine (HHB.out _).mono ?_; rintro e w8 ⟨rfl, rfl⟩)
      go_ret
      exact ⟨rfl, hr.out.bel⟩

set_option maxHeartbeats 2000000 in
set_option maxRecDepth 100000 in
theorem law_117_zero (which : Int) (hk : which.tmod 7 = 4)  (h g t10 o8 : ByteArray) (hsh : h.size ≤ 64) (hsg : g.size ≤ 64) (hso : o8.size ≤ 64)
    (H16 : ∀ W, Tz W → Calls Tryz.prog 4 #[.int .u64 1, .int .i64 16] W fun e w' => e = .returned (.string h) ∧ Below W.heap.size W w')
    (H8 : ∀ W, Tz W → Calls Tryz.prog 4 #[.int .u64 1, .int .i64 8] W fun e w' => e = .returned (.string o8) ∧ Below W.heap.size W w')
    (H10 : ∀ W, Lib.TabIs Tryz.prog W "internal/strconv.uint64pow10" .u64 Lib.pow10Tab → Calls Tryz.prog 4 #[.int .u64 1, .int .i64 10] W fun e w' => e = .returned (.string t10) ∧ Below W.heap.size W w')
    (HU : ∀ W, Calls Tryz.prog 6 #[.string h] W fun e w' => e = .returned (.string g) ∧ Below W.heap.size W w')
    (HV : ∀ s, TextOf s 1 → ∀ W, Glob W → Calls Tryz.prog 5 #[.string s, .string ⟨#[117]⟩] W fun e w' => e = .returned (.tuple #[.agg #[.int .u8 117, .int .u64 1, .string ⟨#[]⟩, .slice none 0 0], .bool true]) ∧ Below W.heap.size W w')
    (hT10 : TextOf t10 1) (hX0 : TextOf (⟨#[48]⟩ ++ o8) 1) (hX1 : TextOf (⟨#[48, 120]⟩ ++ h) 1) (hX2 : TextOf (⟨#[48, 120]⟩ ++ g) 1)
    (HS : ∀ W, Calls Tryz.prog 7 #[.agg #[.int .u8 117, .int .u64 1, .string ⟨#[]⟩, .slice none 0 0], .agg #[.int .u8 117, .int .u64 1, .string ⟨#[]⟩, .slice none 0 0]] W fun e w' => e = .returned (.bool true) ∧ Below W.heap.size W w')
    (HB : ∀ W, Calls Tryz.prog 8 #[.int .u8 117] W fun e w' => e = .returned (.tuple #[.int .i64 (0), .int .u64 4294967295]) ∧ W = w')
    (w : World) (hG : Gd w) :
    Calls Tryz.prog 3 #[.int .u64 0, .int .u8 which] w fun e w' => e = .returned (.bool true) ∧ Below w.heap.size w w' := by
  have hsig : (⟨#[121, 110, 113, 105, 117, 120, 116]⟩ : ByteArray).extract 4 7 = ⟨#[117, 120, 116]⟩ := rfl
  have hsig2 : (⟨#[117, 120, 116]⟩ : ByteArray).extract 0 1 = ⟨#[117]⟩ := rfl
  have HH16 := Aside0.mk H16
  have HH8 := Aside0.mk H8
  have HH10 := Aside0.mk H10
  have HHU := Aside0.mk HU
  have HHV := Aside0.mk HV
  have HHT := Aside0.mk hT10
  have HX0 := Aside0.mk hX0
  have HX1 := Aside0.mk hX1
  have HX2 := Aside0.mk hX2
  have HHS := Aside0.mk HS
  have HHB := Aside0.mk HB
  have HHG := Aside0.mk hG
  clear H16 H8 H10 HU HV hT10 hX0 hX1 hX2 HS HB hG
  go_enter Tryz.func3, Tryz.ntmps3
  go_wp2_with (first
    | (go_at_call_of 4 (Value.int IntKind.i64 16); refine (HH16.out _ (HHG.out _ (by repeat (first | assumption | exact Below.refl _ _ | apply below_alloc | apply below_drew))).2.1).mono ?_; rintro e w1 ⟨rfl, hb⟩; obtain ⟨hc, hf⟩ := bcell hb; have B1 := below_step (w := w) (by repeat (first | assumption | exact Below.refl _ _ | apply below_alloc | apply below_drew)) hb)
    | (go_at_call_of 4 (Value.int IntKind.i64 10); refine (HH10.out _ (HHG.out _ (by repeat (first | assumption | exact Below.refl _ _ | apply below_alloc | apply below_drew))).2.2).mono ?_; rintro e w2 ⟨rfl, hb2⟩; obtain ⟨hc2, hf2⟩ := bcell hb2; have B2 := below_step B1 hb2)
    | (go_at_call 5; refine (HHV.out _ HHT.out _ (HHG.out _ (by repeat (first | assumption | exact Below.refl _ _ | apply below_alloc | apply below_drew))).1).mono ?_; rintro e w3 ⟨rfl, hb3⟩; obtain ⟨hc3, hf3⟩ := bcell hb3; have B3 := below_step B2 hb3)
    | (go_at_call_of 4 (Value.int IntKind.i64 8); refine (HH8.out _ (HHG.out _ (by repeat (first | assumption | exact Below.refl _ _ | apply below_alloc | apply below_drew))).2.1).mono ?_; rintro e w4 ⟨rfl, hb4⟩; obtain ⟨hc4, hf4⟩ := bcell hb4; have B4 := below_step (w := w) (by repeat (first | assumption | exact Below.refl _ _ | apply below_alloc | apply below_drew)) hb4)
    | (go_at_call 6; refine (HHU.out _).mono ?_; rintro e w5 ⟨rfl, hb5⟩; obtain ⟨hc5, hf5⟩ := bcell hb5; have B5 := below_step B4 hb5))
  have hL : Lp w (w5.alloc (.cells #[.string (⟨#[48]⟩ ++ o8), .string (⟨#[48, 120]⟩ ++ h), .string (⟨#[48, 120]⟩ ++ g)] 9)) w3.heap.size w5.heap.size 117 1 (⟨#[48]⟩ ++ o8) (⟨#[48, 120]⟩ ++ h) (⟨#[48, 120]⟩ ++ g) := by
    have hz := hb4.size
    have hz5 := hb5.size
    simp at hz
    have key : ∀ o x, (w5.alloc x).cell? ⟨w3.heap.size, o, none⟩ = (w3.alloc (.cells #[.int .u8 117, .int .u64 1, .string ⟨#[]⟩, .slice none 0 0] 26)).cell? ⟨w3.heap.size, o, none⟩ := fun o x => by rw [(below_alloc (Below.refl _ w5) x).cell (p := ⟨w3.heap.size, o, none⟩) (show w3.heap.size < w5.heap.size by omega), hc5 _ _ (by omega), hc4 _ _ (by simp)]
    refine ⟨by simp, by simp, by simp, ?_, ?_, ?_, ?_, below_alloc B5 _⟩
    all_goals (rw [key]; simp)
  have HL := Aside0.mk hL
  generalize w5.alloc (.cells #[.string (⟨#[48]⟩ ++ o8), .string (⟨#[48, 120]⟩ ++ h), .string (⟨#[48, 120]⟩ ++ g)] 9) = wl at HL ⊢
  generalize w5.heap.size = Bt at HL ⊢
  generalize w3.heap.size = Bw at HL ⊢
  clear hL hb hb2 hb3 hb4 hb5 hc hc2 hc3 hc4 hc5 hf hf2 hf3 hf4 hf5 B1 B2 B3 B4 B5
  go_loopw [40] (fun vi wr => ∃ (i : Nat), vi = .int .i64 i ∧ i ≤ 3 ∧ Aside0 (Lp w wr Bw Bt 117 1 (⟨#[48]⟩ ++ o8) (⟨#[48, 120]⟩ ++ h) (⟨#[48, 120]⟩ ++ g)))
    (fun vi _ => 3 - (intOf vi).toNat)
  case atStart => exact ⟨0, rfl, by omega, HL⟩
  case round =>
    obtain ⟨i, rfl, hi, hr⟩ := hrel
    clear HL
    have hq0 := hr.out.q0
    have hq1 := hr.out.q1
    have hq2 := hr.out.q2
    have hq3 := hr.out.q3
    have ht0 := hr.out.t0
    have ht1 := hr.out.t1
    have ht2 := hr.out.t2
    have hBw : Bw < wr.heap.size := block_lt_of_cell hq0
    obtain rfl | rfl | rfl | rfl : i = 0 ∨ i = 1 ∨ i = 2 ∨ i = 3 := by omega
    · go_wp2_with (first
        | (go_at_call 5; refine (HHV.out _ HX0.out _ (HHG.out _ hr.out.bel).1).mono ?_; rintro e w6 ⟨rfl, hb6⟩; obtain ⟨hc6, hf6⟩ := bcell hb6; have hz6 : Bw < w6.heap.size := Nat.lt_of_lt_of_le hBw hb6.size; have hz7 : w6.heap.size ≠ Bw := Nat.ne_of_gt hz6)
        | (go_at_call 7; refine (HHS.out _).mono ?_; rintro e w7 ⟨rfl, hb7⟩))
      exact ⟨⟨1, rfl, by omega, ⟨hr.out.step (below_step (below_alloc hb6 _) hb7)⟩⟩, by simp [intOf]⟩
    · go_wp2_with (first
        | (go_at_call 5; refine (HHV.out _ HX1.out _ (HHG.out _ hr.out.bel).1).mono ?_; rintro e w6 ⟨rfl, hb6⟩; obtain ⟨hc6, hf6⟩ := bcell hb6; have hz6 : Bw < w6.heap.size := Nat.lt_of_lt_of_le hBw hb6.size; have hz7 : w6.heap.size ≠ Bw := Nat.ne_of_gt hz6)
        | (go_at_call 7; refine (HHS.out _).mono ?_; rintro e w7 ⟨rfl, hb7⟩))
      exact ⟨⟨2, rfl, by omega, ⟨hr.out.step (below_step (below_alloc hb6 _) hb7)⟩⟩, by simp [intOf]⟩
    · go_wp2_with (first
        | (go_at_call 5; refine (HHV.out _ HX2.out _ (HHG.out _ hr.out.bel).1).mono ?_; rintro e w6 ⟨rfl, hb6⟩; obtain ⟨hc6, hf6⟩ := bcell hb6; have hz6 : Bw < w6.heap.size := Nat.lt_of_lt_of_le hBw hb6.size; have hz7 : w6.heap.size ≠ Bw := Nat.ne_of_gt hz6)
        | (go_at_call 7; refine (HHS.out _).mono ?_; rintro e w7 ⟨rfl, hb7⟩))
      exact ⟨⟨3, rfl, by omega, ⟨hr.out.step (below_step (below_alloc hb6 _) hb7)⟩⟩, by simp [intOf]⟩
    · go_wp2_with (go_at_call 8; refine (HHB.out _).mono ?_; rintro e w8 ⟨rfl, rfl⟩)
      go_ret
      exact ⟨rfl, hr.out.bel⟩

set_option maxHeartbeats 2000000 in
set_option maxRecDepth 100000 in
theorem law_120_ok (n : Int) (which : Int) (hk : which.tmod 7 = 5) (hn1 : 1 ≤ n) (hn : n ≤ 9223372036854775807) (h g t10 o8 : ByteArray) (hsh : h.size ≤ 64) (hsg : g.size ≤ 64) (hso : o8.size ≤ 64)
    (H16 : ∀ W, Tz W → Calls Tryz.prog 4 #[.int .u64 n, .int .i64 16] W fun e w' => e = .returned (.string h) ∧ Below W.heap.size W w')
    (H8 : ∀ W, Tz W → Calls Tryz.prog 4 #[.int .u64 n, .int .i64 8] W fun e w' => e = .returned (.string o8) ∧ Below W.heap.size W w')
    (H10 : ∀ W, Lib.TabIs Tryz.prog W "internal/strconv.uint64pow10" .u64 Lib.pow10Tab → Calls Tryz.prog 4 #[.int .u64 n, .int .i64 10] W fun e w' => e = .returned (.string t10) ∧ Below W.heap.size W w')
    (HU : ∀ W, Calls Tryz.prog 6 #[.string h] W fun e w' => e = .returned (.string g) ∧ Below W.heap.size W w')
    (HV : ∀ s, TextOf s n → ∀ W, Glob W → Calls Tryz.prog 5 #[.string s, .string ⟨#[120]⟩] W fun e w' => e = .returned (.tuple #[.agg #[.int .u8 120, .int .u64 n, .string ⟨#[]⟩, .slice none 0 0], .bool true]) ∧ Below W.heap.size W w')
    (hT10 : TextOf t10 n) (hX0 : TextOf (⟨#[48]⟩ ++ o8) n) (hX1 : TextOf (⟨#[48, 120]⟩ ++ h) n) (hX2 : TextOf (⟨#[48, 120]⟩ ++ g) n)
    (HS : ∀ W, Calls Tryz.prog 7 #[.agg #[.int .u8 120, .int .u64 n, .string ⟨#[]⟩, .slice none 0 0], .agg #[.int .u8 120, .int .u64 n, .string ⟨#[]⟩, .slice none 0 0]] W fun e w' => e = .returned (.bool true) ∧ Below W.heap.size W w')
    (HB : ∀ W, Calls Tryz.prog 8 #[.int .u8 120] W fun e w' => e = .returned (.tuple #[.int .i64 (-9223372036854775808), .int .u64 9223372036854775807]) ∧ W = w')
    (w : World) (hG : Gd w) :
    Calls Tryz.prog 3 #[.int .u64 n, .int .u8 which] w fun e w' => e = .returned (.bool true) ∧ Below w.heap.size w w' := by
  have hsig : (⟨#[121, 110, 113, 105, 117, 120, 116]⟩ : ByteArray).extract 5 7 = ⟨#[120, 116]⟩ := rfl
  have hsig2 : (⟨#[120, 116]⟩ : ByteArray).extract 0 1 = ⟨#[120]⟩ := rfl
  have hn0 : (n == 0) = false := by rw [beq_eq_false_iff_ne]; omega
  have HH16 := Aside0.mk H16
  have HH8 := Aside0.mk H8
  have HH10 := Aside0.mk H10
  have HHU := Aside0.mk HU
  have HHV := Aside0.mk HV
  have HHT := Aside0.mk hT10
  have HX0 := Aside0.mk hX0
  have HX1 := Aside0.mk hX1
  have HX2 := Aside0.mk hX2
  have HHS := Aside0.mk HS
  have HHB := Aside0.mk HB
  have HHG := Aside0.mk hG
  clear H16 H8 H10 HU HV hT10 hX0 hX1 hX2 HS HB hG
  go_enter Tryz.func3, Tryz.ntmps3
  go_wp2_with (first
    | (go_at_call_of 4 (Value.int IntKind.i64 16); refine (HH16.out _ (HHG.out _ (by repeat (first | assumption | exact Below.refl _ _ | apply below_alloc | apply below_drew))).2.1).mono ?_; rintro e w1 ⟨rfl, hb⟩; obtain ⟨hc, hf⟩ := bcell hb; have B1 := below_step (w := w) (by repeat (first | assumption | exact Below.refl _ _ | apply below_alloc | apply below_drew)) hb)
    | (go_at_call_of 4 (Value.int IntKind.i64 10); refine (HH10.out _ (HHG.out _ (by repeat (first | assumption | exact Below.refl _ _ | apply below_alloc | apply below_drew))).2.2).mono ?_; rintro e w2 ⟨rfl, hb2⟩; obtain ⟨hc2, hf2⟩ := bcell hb2; have B2 := below_step B1 hb2)
    | (go_at_call 5; refine (HHV.out _ HHT.out _ (HHG.out _ (by repeat (first | assumption | exact Below.refl _ _ | apply below_alloc | apply below_drew))).1).mono ?_; rintro e w3 ⟨rfl, hb3⟩; obtain ⟨hc3, hf3⟩ := bcell hb3; have B3 := below_step B2 hb3)
    | (go_at_call_of 4 (Value.int IntKind.i64 8); refine (HH8.out _ (HHG.out _ (by repeat (first | assumption | exact Below.refl _ _ | apply below_alloc | apply below_drew))).2.1).mono ?_; rintro e w4 ⟨rfl, hb4⟩; obtain ⟨hc4, hf4⟩ := bcell hb4; have B4 := below_step (w := w) (by repeat (first | assumption | exact Below.refl _ _ | apply below_alloc | apply below_drew)) hb4)
    | (go_at_call 6; refine (HHU.out _).mono ?_; rintro e w5 ⟨rfl, hb5⟩; obtain ⟨hc5, hf5⟩ := bcell hb5; have B5 := below_step B4 hb5))
  have hL : Lp w (w5.alloc (.cells #[.string (⟨#[48]⟩ ++ o8), .string (⟨#[48, 120]⟩ ++ h), .string (⟨#[48, 120]⟩ ++ g)] 9)) w3.heap.size w5.heap.size 120 n (⟨#[48]⟩ ++ o8) (⟨#[48, 120]⟩ ++ h) (⟨#[48, 120]⟩ ++ g) := by
    have hz := hb4.size
    have hz5 := hb5.size
    simp at hz
    have key : ∀ o x, (w5.alloc x).cell? ⟨w3.heap.size, o, none⟩ = (w3.alloc (.cells #[.int .u8 120, .int .u64 n, .string ⟨#[]⟩, .slice none 0 0] 26)).cell? ⟨w3.heap.size, o, none⟩ := fun o x => by rw [(below_alloc (Below.refl _ w5) x).cell (p := ⟨w3.heap.size, o, none⟩) (show w3.heap.size < w5.heap.size by omega), hc5 _ _ (by omega), hc4 _ _ (by simp)]
    refine ⟨by simp, by simp, by simp, ?_, ?_, ?_, ?_, below_alloc B5 _⟩
    all_goals (rw [key]; simp)
  have HL := Aside0.mk hL
  generalize w5.alloc (.cells #[.string (⟨#[48]⟩ ++ o8), .string (⟨#[48, 120]⟩ ++ h), .string (⟨#[48, 120]⟩ ++ g)] 9) = wl at HL ⊢
  generalize w5.heap.size = Bt at HL ⊢
  generalize w3.heap.size = Bw at HL ⊢
  clear hL hb hb2 hb3 hb4 hb5 hc hc2 hc3 hc4 hc5 hf hf2 hf3 hf4 hf5 B1 B2 B3 B4 B5
  go_loopw [40] (fun vi wr => ∃ (i : Nat), vi = .int .i64 i ∧ i ≤ 3 ∧ Aside0 (Lp w wr Bw Bt 120 n (⟨#[48]⟩ ++ o8) (⟨#[48, 120]⟩ ++ h) (⟨#[48, 120]⟩ ++ g)))
    (fun vi _ => 3 - (intOf vi).toNat)
  case atStart => exact ⟨0, rfl, by omega, HL⟩
  case round =>
    obtain ⟨i, rfl, hi, hr⟩ := hrel
    clear HL
    have hq0 := hr.out.q0
    have hq1 := hr.out.q1
    have hq2 := hr.out.q2
    have hq3 := hr.out.q3
    have ht0 := hr.out.t0
    have ht1 := hr.out.t1
    have ht2 := hr.out.t2
    have hBw : Bw < wr.heap.size := block_lt_of_cell hq0
    obtain rfl | rfl | rfl | rfl : i = 0 ∨ i = 1 ∨ i = 2 ∨ i = 3 := by omega
    · go_wp2_with (first
        | (go_at_call 5; refine (HHV.out _ HX0.out _ (HHG.out _ hr.out.bel).1).mono ?_; rintro e w6 ⟨rfl, hb6⟩; obtain ⟨hc6, hf6⟩ := bcell hb6; have hz6 : Bw < w6.heap.size := Nat.lt_of_lt_of_le hBw hb6.size; have hz7 : w6.heap.size ≠ Bw := Nat.ne_of_gt hz6)
        | (go_at_call 7; refine (HHS.out _).mono ?_; rintro e w7 ⟨rfl, hb7⟩))
      exact ⟨⟨1, rfl, by omega, ⟨hr.out.step (below_step (below_alloc hb6 _) hb7)⟩⟩, by simp [intOf]⟩
    · go_wp2_with (first
        | (go_at_call 5; refine (HHV.out _ HX1.out _ (HHG.out _ hr.out.bel).1).mono ?_; rintro e w6 ⟨rfl, hb6⟩; obtain ⟨hc6, hf6⟩ := bcell hb6; have hz6 : Bw < w6.heap.size := Nat.lt_of_lt_of_le hBw hb6.size; have hz7 : w6.heap.size ≠ Bw := Nat.ne_of_gt hz6)
        | (go_at_call 7; refine (HHS.out _).mono ?_; rintro e w7 ⟨rfl, hb7⟩))
      exact ⟨⟨2, rfl, by omega, ⟨hr.out.step (below_step (below_alloc hb6 _) hb7)⟩⟩, by simp [intOf]⟩
    · go_wp2_with (first
        | (go_at_call 5; refine (HHV.out _ HX2.out _ (HHG.out _ hr.out.bel).1).mono ?_; rintro e w6 ⟨rfl, hb6⟩; obtain ⟨hc6, hf6⟩ := bcell hb6; have hz6 : Bw < w6.heap.size := Nat.lt_of_lt_of_le hBw hb6.size; have hz7 : w6.heap.size ≠ Bw := Nat.ne_of_gt hz6)
        | (go_at_call 7; refine (HHS.out _).mono ?_; rintro e w7 ⟨rfl, hb7⟩))
      exact ⟨⟨3, rfl, by omega, ⟨hr.out.step (below_step (below_alloc hb6 _) hb7)⟩⟩, by simp [intOf]⟩
    · go_wp2_with (go_at_call 8; refine (HHB.out _).mono ?_; rintro e w8 ⟨rfl, rfl⟩)
      go_ret
      exact ⟨rfl, hr.out.bel⟩

set_option maxHeartbeats 2000000 in
set_option maxRecDepth 100000 in
theorem law_120_bad (n : Int) (which : Int) (hk : which.tmod 7 = 5) (hn1 : 1 ≤ n) (hn : 9223372036854775807 < n) (h g t10 o8 : ByteArray) (hsh : h.size ≤ 64) (hsg : g.size ≤ 64) (hso : o8.size ≤ 64)
    (H16 : ∀ W, Tz W → Calls Tryz.prog 4 #[.int .u64 n, .int .i64 16] W fun e w' => e = .returned (.string h) ∧ Below W.heap.size W w')
    (H8 : ∀ W, Tz W → Calls Tryz.prog 4 #[.int .u64 n, .int .i64 8] W fun e w' => e = .returned (.string o8) ∧ Below W.heap.size W w')
    (H10 : ∀ W, Lib.TabIs Tryz.prog W "internal/strconv.uint64pow10" .u64 Lib.pow10Tab → Calls Tryz.prog 4 #[.int .u64 n, .int .i64 10] W fun e w' => e = .returned (.string t10) ∧ Below W.heap.size W w')
    (HU : ∀ W, Calls Tryz.prog 6 #[.string h] W fun e w' => e = .returned (.string g) ∧ Below W.heap.size W w')
    (HV : ∀ s, TextOf s n → ∀ W, Glob W → Calls Tryz.prog 5 #[.string s, .string ⟨#[120]⟩] W fun e w' => e = .returned (.tuple #[.agg #[.int .u8 0, .int .u64 0, .string ⟨#[]⟩, .slice none 0 0], .bool false]) ∧ Below W.heap.size W w')
    (hT10 : TextOf t10 n) (hX0 : TextOf (⟨#[48]⟩ ++ o8) n) (hX1 : TextOf (⟨#[48, 120]⟩ ++ h) n) (hX2 : TextOf (⟨#[48, 120]⟩ ++ g) n)
    (HB : ∀ W, Calls Tryz.prog 8 #[.int .u8 120] W fun e w' => e = .returned (.tuple #[.int .i64 (-9223372036854775808), .int .u64 9223372036854775807]) ∧ W = w')
    (w : World) (hG : Gd w) :
    Calls Tryz.prog 3 #[.int .u64 n, .int .u8 which] w fun e w' => e = .returned (.bool true) ∧ Below w.heap.size w w' := by
  have hsig : (⟨#[121, 110, 113, 105, 117, 120, 116]⟩ : ByteArray).extract 5 7 = ⟨#[120, 116]⟩ := rfl
  have hsig2 : (⟨#[120, 116]⟩ : ByteArray).extract 0 1 = ⟨#[120]⟩ := rfl
  have hn0 : (n == 0) = false := by rw [beq_eq_false_iff_ne]; omega
  have hd : decide (n ≤ 9223372036854775807) = false := decide_eq_false (by omega)
  have HH16 := Aside0.mk H16
  have HH8 := Aside0.mk H8
  have HH10 := Aside0.mk H10
  have HHU := Aside0.mk HU
  have HHV := Aside0.mk HV
  have HHT := Aside0.mk hT10
  have HX0 := Aside0.mk hX0
  have HX1 := Aside0.mk hX1
  have HX2 := Aside0.mk hX2
  have HHB := Aside0.mk HB
  have HHG := Aside0.mk hG
  clear H16 H8 H10 HU HV hT10 hX0 hX1 hX2 HB hG
  go_enter Tryz.func3, Tryz.ntmps3
  go_wp2_with (first
    | (go_at_call_of 4 (Value.int IntKind.i64 16); refine (HH16.out _ (HHG.out _ (by repeat (first | assumption | exact Below.refl _ _ | apply below_alloc | apply below_drew))).2.1).mono ?_; rintro e w1 ⟨rfl, hb⟩; obtain ⟨hc, hf⟩ := bcell hb; have B1 := below_step (w := w) (by repeat (first | assumption | exact Below.refl _ _ | apply below_alloc | apply below_drew)) hb)
    | (go_at_call_of 4 (Value.int IntKind.i64 10); refine (HH10.out _ (HHG.out _ (by repeat (first | assumption | exact Below.refl _ _ | apply below_alloc | apply below_drew))).2.2).mono ?_; rintro e w2 ⟨rfl, hb2⟩; obtain ⟨hc2, hf2⟩ := bcell hb2; have B2 := below_step B1 hb2)
    | (go_at_call 5; refine (HHV.out _ HHT.out _ (HHG.out _ (by repeat (first | assumption | exact Below.refl _ _ | apply below_alloc | apply below_drew))).1).mono ?_; rintro e w3 ⟨rfl, hb3⟩; obtain ⟨hc3, hf3⟩ := bcell hb3; have B3 := below_step B2 hb3)
    | (go_at_call_of 4 (Value.int IntKind.i64 8); refine (HH8.out _ (HHG.out _ (by repeat (first | assumption | exact Below.refl _ _ | apply below_alloc | apply below_drew))).2.1).mono ?_; rintro e w4 ⟨rfl, hb4⟩; obtain ⟨hc4, hf4⟩ := bcell hb4; have B4 := below_step (w := w) (by repeat (first | assumption | exact Below.refl _ _ | apply below_alloc | apply below_drew)) hb4)
    | (go_at_call 6; refine (HHU.out _).mono ?_; rintro e w5 ⟨rfl, hb5⟩; obtain ⟨hc5, hf5⟩ := bcell hb5; have B5 := below_step B4 hb5))
  have hL : Lp w (w5.alloc (.cells #[.string (⟨#[48]⟩ ++ o8), .string (⟨#[48, 120]⟩ ++ h), .string (⟨#[48, 120]⟩ ++ g)] 9)) w3.heap.size w5.heap.size 0 0 (⟨#[48]⟩ ++ o8) (⟨#[48, 120]⟩ ++ h) (⟨#[48, 120]⟩ ++ g) := by
    have hz := hb4.size
    have hz5 := hb5.size
    simp at hz
    have key : ∀ o x, (w5.alloc x).cell? ⟨w3.heap.size, o, none⟩ = (w3.alloc (.cells #[.int .u8 0, .int .u64 0, .string ⟨#[]⟩, .slice none 0 0] 26)).cell? ⟨w3.heap.size, o, none⟩ := fun o x => by rw [(below_alloc (Below.refl _ w5) x).cell (p := ⟨w3.heap.size, o, none⟩) (show w3.heap.size < w5.heap.size by omega), hc5 _ _ (by omega), hc4 _ _ (by simp)]
    refine ⟨by simp, by simp, by simp, ?_, ?_, ?_, ?_, below_alloc B5 _⟩
    all_goals (rw [key]; simp)
  have HL := Aside0.mk hL
  generalize w5.alloc (.cells #[.string (⟨#[48]⟩ ++ o8), .string (⟨#[48, 120]⟩ ++ h), .string (⟨#[48, 120]⟩ ++ g)] 9) = wl at HL ⊢
  generalize w5.heap.size = Bt at HL ⊢
  generalize w3.heap.size = Bw at HL ⊢
  clear hL hb hb2 hb3 hb4 hb5 hc hc2 hc3 hc4 hc5 hf hf2 hf3 hf4 hf5 B1 B2 B3 B4 B5
  go_loopw [40] (fun vi wr => ∃ (i : Nat), vi = .int .i64 i ∧ i ≤ 3 ∧ Aside0 (Lp w wr Bw Bt 0 0 (⟨#[48]⟩ ++ o8) (⟨#[48, 120]⟩ ++ h) (⟨#[48, 120]⟩ ++ g)))
    (fun vi _ => 3 - (intOf vi).toNat)
  case atStart => exact ⟨0, rfl, by omega, HL⟩
  case round =>
    obtain ⟨i, rfl, hi, hr⟩ := hrel
    clear HL
    have hq0 := hr.out.q0
    have hq1 := hr.out.q1
    have hq2 := hr.out.q2
    have hq3 := hr.out.q3
    have ht0 := hr.out.t0
    have ht1 := hr.out.t1
    have ht2 := hr.out.t2
    have hBw : Bw < wr.heap.size := block_lt_of_cell hq0
    obtain rfl | rfl | rfl | rfl : i = 0 ∨ i = 1 ∨ i = 2 ∨ i = 3 := by omega
    · go_wp2_with (first
        | (go_at_call 5; refine (HHV.out _ HX0.out _ (HHG.out _ hr.out.bel).1).mono ?_; rintro e w6 ⟨rfl, hb6⟩; obtain ⟨hc6, hf6⟩ := bcell hb6; have hz6 : Bw < w6.heap.size := Nat.lt_of_lt_of_le hBw hb6.size; have hz7 : w6.heap.size ≠ Bw := Nat.ne_of_gt hz6))
      exact ⟨⟨1, rfl, by omega, ⟨hr.out.step (below_alloc hb6 _)⟩⟩, by simp [intOf]⟩
    · go_wp2_with (first
        | (go_at_call 5; refine (HHV.out _ HX1.out _ (HHG.out _ hr.out.bel).1).mono ?_; rintro e w6 ⟨rfl, hb6⟩; obtain ⟨hc6, hf6⟩ := bcell hb6; have hz6 : Bw < w6.heap.size := Nat.lt_of_lt_of_le hBw hb6.size; have hz7 : w6.heap.size ≠ Bw := Nat.ne_of_gt hz6))
      exact ⟨⟨2, rfl, by omega, ⟨hr.out.step (below_alloc hb6 _)⟩⟩, by simp [intOf]⟩
    · go_wp2_with (first
        | (go_at_call 5; refine (HHV.out _ HX2.out _ (HHG.out _ hr.out.bel).1).mono ?_; rintro e w6 ⟨rfl, hb6⟩; obtain ⟨hc6, hf6⟩ := bcell hb6; have hz6 : Bw < w6.heap.size := Nat.lt_of_lt_of_le hBw hb6.size; have hz7 : w6.heap.size ≠ Bw := Nat.ne_of_gt hz6))
      exact ⟨⟨3, rfl, by omega, ⟨hr.out.step (below_alloc hb6 _)⟩⟩, by simp [intOf]⟩
    · go_wp2_with (go_at_call 8; refine (HHB.out _).mono ?_; rintro e w8 ⟨rfl, rfl⟩)
      go_ret
      exact ⟨rfl, hr.out.bel⟩

set_option maxHeartbeats 2000000 in
set_option maxRecDepth 100000 in
theorem law_120_zero (which : Int) (hk : which.tmod 7 = 5)  (h g t10 o8 : ByteArray) (hsh : h.size ≤ 64) (hsg : g.size ≤ 64) (hso : o8.size ≤ 64)
    (H16 : ∀ W, Tz W → Calls Tryz.prog 4 #[.int .u64 1, .int .i64 16] W fun e w' => e = .returned (.string h) ∧ Below W.heap.size W w')
    (H8 : ∀ W, Tz W → Calls Tryz.prog 4 #[.int .u64 1, .int .i64 8] W fun e w' => e = .returned (.string o8) ∧ Below W.heap.size W w')
    (H10 : ∀ W, Lib.TabIs Tryz.prog W "internal/strconv.uint64pow10" .u64 Lib.pow10Tab → Calls Tryz.prog 4 #[.int .u64 1, .int .i64 10] W fun e w' => e = .returned (.string t10) ∧ Below W.heap.size W w')
    (HU : ∀ W, Calls Tryz.prog 6 #[.string h] W fun e w' => e = .returned (.string g) ∧ Below W.heap.size W w')
    (HV : ∀ s, TextOf s 1 → ∀ W, Glob W → Calls Tryz.prog 5 #[.string s, .string ⟨#[120]⟩] W fun e w' => e = .returned (.tuple #[.agg #[.int .u8 120, .int .u64 1, .string ⟨#[]⟩, .slice none 0 0], .bool true]) ∧ Below W.heap.size W w')
    (hT10 : TextOf t10 1) (hX0 : TextOf (⟨#[48]⟩ ++ o8) 1) (hX1 : TextOf (⟨#[48, 120]⟩ ++ h) 1) (hX2 : TextOf (⟨#[48, 120]⟩ ++ g) 1)
    (HS : ∀ W, Calls Tryz.prog 7 #[.agg #[.int .u8 120, .int .u64 1, .string ⟨#[]⟩, .slice none 0 0], .agg #[.int .u8 120, .int .u64 1, .string ⟨#[]⟩, .slice none 0 0]] W fun e w' => e = .returned (.bool true) ∧ Below W.heap.size W w')
    (HB : ∀ W, Calls Tryz.prog 8 #[.int .u8 120] W fun e w' => e = .returned (.tuple #[.int .i64 (-9223372036854775808), .int .u64 9223372036854775807]) ∧ W = w')
    (w : World) (hG : Gd w) :
    Calls Tryz.prog 3 #[.int .u64 0, .int .u8 which] w fun e w' => e = .returned (.bool true) ∧ Below w.heap.size w w' := by
  have hsig : (⟨#[121, 110, 113, 105, 117, 120, 116]⟩ : ByteArray).extract 5 7 = ⟨#[120, 116]⟩ := rfl
  have hsig2 : (⟨#[120, 116]⟩ : ByteArray).extract 0 1 = ⟨#[120]⟩ := rfl
  have HH16 := Aside0.mk H16
  have HH8 := Aside0.mk H8
  have HH10 := Aside0.mk H10
  have HHU := Aside0.mk HU
  have HHV := Aside0.mk HV
  have HHT := Aside0.mk hT10
  have HX0 := Aside0.mk hX0
  have HX1 := Aside0.mk hX1
  have HX2 := Aside0.mk hX2
  have HHS := Aside0.mk HS
  have HHB := Aside0.mk HB
  have HHG := Aside0.mk hG
  clear H16 H8 H10 HU HV hT10 hX0 hX1 hX2 HS HB hG
  go_enter Tryz.func3, Tryz.ntmps3
  go_wp2_with (first
    | (go_at_call_of 4 (Value.int IntKind.i64 16); refine (HH16.out _ (HHG.out _ (by repeat (first | assumption | exact Below.refl _ _ | apply below_alloc | apply below_drew))).2.1).mono ?_; rintro e w1 ⟨rfl, hb⟩; obtain ⟨hc, hf⟩ := bcell hb; have B1 := below_step (w := w) (by repeat (first | assumption | exact Below.refl _ _ | apply below_alloc | apply below_drew)) hb)
    | (go_at_call_of 4 (Value.int IntKind.i64 10); refine (HH10.out _ (HHG.out _ (by repeat (first | assumption | exact Below.refl _ _ | apply below_alloc | apply below_drew))).2.2).mono ?_; rintro e w2 ⟨rfl, hb2⟩; obtain ⟨hc2, hf2⟩ := bcell hb2; have B2 := below_step B1 hb2)
    | (go_at_call 5; refine (HHV.out _ HHT.out _ (HHG.out _ (by repeat (first | assumption | exact Below.refl _ _ | apply below_alloc | apply below_drew))).1).mono ?_; rintro e w3 ⟨rfl, hb3⟩; obtain ⟨hc3, hf3⟩ := bcell hb3; have B3 := below_step B2 hb3)
    | (go_at_call_of 4 (Value.int IntKind.i64 8); refine (HH8.out _ (HHG.out _ (by repeat (first | assumption | exact Below.refl _ _ | apply below_alloc | apply below_drew))).2.1).mono ?_; rintro e w4 ⟨rfl, hb4⟩; obtain ⟨hc4, hf4⟩ := bcell hb4; have B4 := below_step (w := w) (by repeat (first | assumption | exact Below.refl _ _ | apply below_alloc | apply below_drew)) hb4)
    | (go_at_call 6; refine (HHU.out _).mono ?_; rintro e w5 ⟨rfl, hb5⟩; obtain ⟨hc5, hf5⟩ := bcell hb5; have B5 := below_step B4 hb5))
  have hL : Lp w (w5.alloc (.cells #[.string (⟨#[48]⟩ ++ o8), .string (⟨#[48, 120]⟩ ++ h), .string (⟨#[48, 120]⟩ ++ g)] 9)) w3.heap.size w5.heap.size 120 1 (⟨#[48]⟩ ++ o8) (⟨#[48, 120]⟩ ++ h) (⟨#[48, 120]⟩ ++ g) := by
    have hz := hb4.size
    have hz5 := hb5.size
    simp at hz
    have key : ∀ o x, (w5.alloc x).cell? ⟨w3.heap.size, o, none⟩ = (w3.alloc (.cells #[.int .u8 120, .int .u64 1, .string ⟨#[]⟩, .slice none 0 0] 26)).cell? ⟨w3.heap.size, o, none⟩ := fun o x => by rw [(below_alloc (Below.refl _ w5) x).cell (p := ⟨w3.heap.size, o, none⟩) (show w3.heap.size < w5.heap.size by omega), hc5 _ _ (by omega), hc4 _ _ (by simp)]
    refine ⟨by simp, by simp, by simp, ?_, ?_, ?_, ?_, below_alloc B5 _⟩
    all_goals (rw [key]; simp)
  have HL := Aside0.mk hL
  generalize w5.alloc (.cells #[.string (⟨#[48]⟩ ++ o8), .string (⟨#[48, 120]⟩ ++ h), .string (⟨#[48, 120]⟩ ++ g)] 9) = wl at HL ⊢
  generalize w5.heap.size = Bt at HL ⊢
  generalize w3.heap.size = Bw at HL ⊢
  clear hL hb hb2 hb3 hb4 hb5 hc hc2 hc3 hc4 hc5 hf hf2 hf3 hf4 hf5 B1 B2 B3 B4 B5
  go_loopw [40] (fun vi wr => ∃ (i : Nat), vi = .int .i64 i ∧ i ≤ 3 ∧ Aside0 (Lp w wr Bw Bt 120 1 (⟨#[48]⟩ ++ o8) (⟨#[48, 120]⟩ ++ h) (⟨#[48, 120]⟩ ++ g)))
    (fun vi _ => 3 - (intOf vi).toNat)
  case atStart => exact ⟨0, rfl, by omega, HL⟩
  case round =>
    obtain ⟨i, rfl, hi, hr⟩ := hrel
    clear HL
    have hq0 := hr.out.q0
    have hq1 := hr.out.q1
    have hq2 := hr.out.q2
    have hq3 := hr.out.q3
    have ht0 := hr.out.t0
    have ht1 := hr.out.t1
    have ht2 := hr.out.t2
    have hBw : Bw < wr.heap.size := block_lt_of_cell hq0
    obtain rfl | rfl | rfl | rfl : i = 0 ∨ i = 1 ∨ i = 2 ∨ i = 3 := by omega
    · go_wp2_with (first
        | (go_at_call 5; refine (HHV.out _ HX0.out _ (HHG.out _ hr.out.bel).1).mono ?_; rintro e w6 ⟨rfl, hb6⟩; obtain ⟨hc6, hf6⟩ := bcell hb6; have hz6 : Bw < w6.heap.size := Nat.lt_of_lt_of_le hBw hb6.size; have hz7 : w6.heap.size ≠ Bw := Nat.ne_of_gt hz6)
        | (go_at_call 7; refine (HHS.out _).mono ?_; rintro e w7 ⟨rfl, hb7⟩))
      exact ⟨⟨1, rfl, by omega, ⟨hr.out.step (below_step (below_alloc hb6 _) hb7)⟩⟩, by simp [intOf]⟩
    · go_wp2_with (first
        | (go_at_call 5; refine (HHV.out _ HX1.out _ (HHG.out _ hr.out.bel).1).mono ?_; rintro e w6 ⟨rfl, hb6⟩; obtain ⟨hc6, hf6⟩ := bcell hb6; have hz6 : Bw < w6.heap.size := Nat.lt_of_lt_of_le hBw hb6.size; have hz7 : w6.heap.size ≠ Bw := Nat.ne_of_gt hz6)
        | (go_at_call 7; refine (HHS.out _).mono ?_; rintro e w7 ⟨rfl, hb7⟩))
      exact ⟨⟨2, rfl, by omega, ⟨hr.out.step (below_step (below_alloc hb6 _) hb7)⟩⟩, by simp [intOf]⟩
    · go_wp2_with (first
        | (go_at_call 5; refine (HHV.out _ HX2.out _ (HHG.out _ hr.out.bel).1).mono ?_; rintro e w6 ⟨rfl, hb6⟩; obtain ⟨hc6, hf6⟩ := bcell hb6; have hz6 : Bw < w6.heap.size := Nat.lt_of_lt_of_le hBw hb6.size; have hz7 : w6.heap.size ≠ Bw := Nat.ne_of_gt hz6)
        | (go_at_call 7; refine (HHS.out _).mono ?_; rintro e w7 ⟨rfl, hb7⟩))
      exact ⟨⟨3, rfl, by omega, ⟨hr.out.step (below_step (below_alloc hb6 _) hb7)⟩⟩, by simp [intOf]⟩
    · go_wp2_with (go_at_call 8; refine (HHB.out _).mono ?_; rintro e w8 ⟨rfl, rfl⟩)
      go_ret
      exact ⟨rfl, hr.out.bel⟩

set_option maxHeartbeats 2000000 in
set_option maxRecDepth 100000 in
theorem law_116_ok (n : Int) (which : Int) (hk : which.tmod 7 = 6) (hn1 : 1 ≤ n) (hn : n ≤ 18446744073709551615) (h g t10 o8 : ByteArray) (hsh : h.size ≤ 64) (hsg : g.size ≤ 64) (hso : o8.size ≤ 64)
    (H16 : ∀ W, Tz W → Calls Tryz.prog 4 #[.int .u64 n, .int .i64 16] W fun e w' => e = .returned (.string h) ∧ Below W.heap.size W w')
    (H8 : ∀ W, Tz W → Calls Tryz.prog 4 #[.int .u64 n, .int .i64 8] W fun e w' => e = .returned (.string o8) ∧ Below W.heap.size W w')
    (H10 : ∀ W, Lib.TabIs Tryz.prog W "internal/strconv.uint64pow10" .u64 Lib.pow10Tab → Calls Tryz.prog 4 #[.int .u64 n, .int .i64 10] W fun e w' => e = .returned (.string t10) ∧ Below W.heap.size W w')
    (HU : ∀ W, Calls Tryz.prog 6 #[.string h] W fun e w' => e = .returned (.string g) ∧ Below W.heap.size W w')
    (HV : ∀ s, TextOf s n → ∀ W, Glob W → Calls Tryz.prog 5 #[.string s, .string ⟨#[116]⟩] W fun e w' => e = .returned (.tuple #[.agg #[.int .u8 116, .int .u64 n, .string ⟨#[]⟩, .slice none 0 0], .bool true]) ∧ Below W.heap.size W w')
    (hT10 : TextOf t10 n) (hX0 : TextOf (⟨#[48]⟩ ++ o8) n) (hX1 : TextOf (⟨#[48, 120]⟩ ++ h) n) (hX2 : TextOf (⟨#[48, 120]⟩ ++ g) n)
    (HS : ∀ W, Calls Tryz.prog 7 #[.agg #[.int .u8 116, .int .u64 n, .string ⟨#[]⟩, .slice none 0 0], .agg #[.int .u8 116, .int .u64 n, .string ⟨#[]⟩, .slice none 0 0]] W fun e w' => e = .returned (.bool true) ∧ Below W.heap.size W w')
    (HB : ∀ W, Calls Tryz.prog 8 #[.int .u8 116] W fun e w' => e = .returned (.tuple #[.int .i64 (0), .int .u64 18446744073709551615]) ∧ W = w')
    (w : World) (hG : Gd w) :
    Calls Tryz.prog 3 #[.int .u64 n, .int .u8 which] w fun e w' => e = .returned (.bool true) ∧ Below w.heap.size w w' := by
  have hsig : (⟨#[121, 110, 113, 105, 117, 120, 116]⟩ : ByteArray).extract 6 7 = ⟨#[116]⟩ := rfl
  have hsig2 : (⟨#[116]⟩ : ByteArray).extract 0 1 = ⟨#[116]⟩ := rfl
  have hn0 : (n == 0) = false := by rw [beq_eq_false_iff_ne]; omega
  have HH16 := Aside0.mk H16
  have HH8 := Aside0.mk H8
  have HH10 := Aside0.mk H10
  have HHU := Aside0.mk HU
  have HHV := Aside0.mk HV
  have HHT := Aside0.mk hT10
  have HX0 := Aside0.mk hX0
  have HX1 := Aside0.mk hX1
  have HX2 := Aside0.mk hX2
  have HHS := Aside0.mk HS
  have HHB := Aside0.mk HB
  have HHG := Aside0.mk hG
  clear H16 H8 H10 HU HV hT10 hX0 hX1 hX2 HS HB hG
  go_enter Tryz.func3, Tryz.ntmps3
  go_wp2_with (first
    | (go_at_call_of 4 (Value.int IntKind.i64 16); refine (HH16.out _ (HHG.out _ (by repeat (first | assumption | exact Below.refl _ _ | apply below_alloc | apply below_drew))).2.1).mono ?_; rintro e w1 ⟨rfl, hb⟩; obtain ⟨hc, hf⟩ := bcell hb; have B1 := below_step (w := w) (by repeat (first | assumption | exact Below.refl _ _ | apply below_alloc | apply below_drew)) hb)
    | (go_at_call_of 4 (Value.int IntKind.i64 10); refine (HH10.out _ (HHG.out _ (by repeat (first | assumption | exact Below.refl _ _ | apply below_alloc | apply below_drew))).2.2).mono ?_; rintro e w2 ⟨rfl, hb2⟩; obtain ⟨hc2, hf2⟩ := bcell hb2; have B2 := below_step B1 hb2)
    | (go_at_call 5; refine (HHV.out _ HHT.out _ (HHG.out _ (by repeat (first | assumption | exact Below.refl _ _ | apply below_alloc | apply below_drew))).1).mono ?_; rintro e w3 ⟨rfl, hb3⟩; obtain ⟨hc3, hf3⟩ := bcell hb3; have B3 := below_step B2 hb3)
    | (go_at_call_of 4 (Value.int IntKind.i64 8); refine (HH8.out _ (HHG.out _ (by repeat (first | assumption | exact Below.refl _ _ | apply below_alloc | apply below_drew))).2.1).mono ?_; rintro e w4 ⟨rfl, hb4⟩; obtain ⟨hc4, hf4⟩ := bcell hb4; have B4 := below_step (w := w) (by repeat (first | assumption | exact Below.refl _ _ | apply below_alloc | apply below_drew)) hb4)
    | (go_at_call 6; refine (HHU.out _).mono ?_; rintro e w5 ⟨rfl, hb5⟩; obtain ⟨hc5, hf5⟩ := bcell hb5; have B5 := below_step B4 hb5))
  have hL : Lp w (w5.alloc (.cells #[.string (⟨#[48]⟩ ++ o8), .string (⟨#[48, 120]⟩ ++ h), .string (⟨#[48, 120]⟩ ++ g)] 9)) w3.heap.size w5.heap.size 116 n (⟨#[48]⟩ ++ o8) (⟨#[48, 120]⟩ ++ h) (⟨#[48, 120]⟩ ++ g) := by
    have hz := hb4.size
    have hz5 := hb5.size
    simp at hz
    have key : ∀ o x, (w5.alloc x).cell? ⟨w3.heap.size, o, none⟩ = (w3.alloc (.cells #[.int .u8 116, .int .u64 n, .string ⟨#[]⟩, .slice none 0 0] 26)).cell? ⟨w3.heap.size, o, none⟩ := fun o x => by rw [(below_alloc (Below.refl _ w5) x).cell (p := ⟨w3.heap.size, o, none⟩) (show w3.heap.size < w5.heap.size by omega), hc5 _ _ (by omega), hc4 _ _ (by simp)]
    refine ⟨by simp, by simp, by simp, ?_, ?_, ?_, ?_, below_alloc B5 _⟩
    all_goals (rw [key]; simp)
  have HL := Aside0.mk hL
  generalize w5.alloc (.cells #[.string (⟨#[48]⟩ ++ o8), .string (⟨#[48, 120]⟩ ++ h), .string (⟨#[48, 120]⟩ ++ g)] 9) = wl at HL ⊢
  generalize w5.heap.size = Bt at HL ⊢
  generalize w3.heap.size = Bw at HL ⊢
  clear hL hb hb2 hb3 hb4 hb5 hc hc2 hc3 hc4 hc5 hf hf2 hf3 hf4 hf5 B1 B2 B3 B4 B5
  go_loopw [40] (fun vi wr => ∃ (i : Nat), vi = .int .i64 i ∧ i ≤ 3 ∧ Aside0 (Lp w wr Bw Bt 116 n (⟨#[48]⟩ ++ o8) (⟨#[48, 120]⟩ ++ h) (⟨#[48, 120]⟩ ++ g)))
    (fun vi _ => 3 - (intOf vi).toNat)
  case atStart => exact ⟨0, rfl, by omega, HL⟩
  case round =>
    obtain ⟨i, rfl, hi, hr⟩ := hrel
    clear HL
    have hq0 := hr.out.q0
    have hq1 := hr.out.q1
    have hq2 := hr.out.q2
    have hq3 := hr.out.q3
    have ht0 := hr.out.t0
    have ht1 := hr.out.t1
    have ht2 := hr.out.t2
    have hBw : Bw < wr.heap.size := block_lt_of_cell hq0
    obtain rfl | rfl | rfl | rfl : i = 0 ∨ i = 1 ∨ i = 2 ∨ i = 3 := by omega
    · go_wp2_with (first
        | (go_at_call 5; refine (HHV.out _ HX0.out _ (HHG.out _ hr.out.bel).1).mono ?_; rintro e w6 ⟨rfl, hb6⟩; obtain ⟨hc6, hf6⟩ := bcell hb6; have hz6 : Bw < w6.heap.size := Nat.lt_of_lt_of_le hBw hb6.size; have hz7 : w6.heap.size ≠ Bw := Nat.ne_of_gt hz6)
        | (go_at_call 7; refine (HHS.out _).mono ?_; rintro e w7 ⟨rfl, hb7⟩))
      exact ⟨⟨1, rfl, by omega, ⟨hr.out.step (below_step (below_alloc hb6 _) hb7)⟩⟩, by simp [intOf]⟩
    · go_wp2_with (first
        | (go_at_call 5; refine (HHV.out _ HX1.out _ (HHG.out _ hr.out.bel).1).mono ?_; rintro e w6 ⟨rfl, hb6⟩; obtain ⟨hc6, hf6⟩ := bcell hb6; have hz6 : Bw < w6.heap.size := Nat.lt_of_lt_of_le hBw hb6.size; have hz7 : w6.heap.size ≠ Bw := Nat.ne_of_gt hz6)
        | (go_at_call 7; refine (HHS.out _).mono ?_; rintro e w7 ⟨rfl, hb7⟩))
      exact ⟨⟨2, rfl, by omega, ⟨hr.out.step (below_step (below_alloc hb6 _) hb7)⟩⟩, by simp [intOf]⟩
    · go_wp2_with (first
        | (go_at_call 5; refine (HHV.out _ HX2.out _ (HHG.out _ hr.out.bel).1).mono ?_; rintro e w6 ⟨rfl, hb6⟩; obtain ⟨hc6, hf6⟩ := bcell hb6; have hz6 : Bw < w6.heap.size := Nat.lt_of_lt_of_le hBw hb6.size; have hz7 : w6.heap.size ≠ Bw := Nat.ne_of_gt hz6)
        | (go_at_call 7; refine (HHS.out _).mono ?_; rintro e w7 ⟨rfl, hb7⟩))
      exact ⟨⟨3, rfl, by omega, ⟨hr.out.step (below_step (below_alloc hb6 _) hb7)⟩⟩, by simp [intOf]⟩
    · go_wp2_with (go_at_call 8; refine (HHB.out _).mono ?_; rintro e w8 ⟨rfl, rfl⟩)
      go_ret
      exact ⟨rfl, hr.out.bel⟩

set_option maxHeartbeats 2000000 in
set_option maxRecDepth 100000 in
theorem law_116_zero (which : Int) (hk : which.tmod 7 = 6)  (h g t10 o8 : ByteArray) (hsh : h.size ≤ 64) (hsg : g.size ≤ 64) (hso : o8.size ≤ 64)
    (H16 : ∀ W, Tz W → Calls Tryz.prog 4 #[.int .u64 1, .int .i64 16] W fun e w' => e = .returned (.string h) ∧ Below W.heap.size W w')
    (H8 : ∀ W, Tz W → Calls Tryz.prog 4 #[.int .u64 1, .int .i64 8] W fun e w' => e = .returned (.string o8) ∧ Below W.heap.size W w')
    (H10 : ∀ W, Lib.TabIs Tryz.prog W "internal/strconv.uint64pow10" .u64 Lib.pow10Tab → Calls Tryz.prog 4 #[.int .u64 1, .int .i64 10] W fun e w' => e = .returned (.string t10) ∧ Below W.heap.size W w')
    (HU : ∀ W, Calls Tryz.prog 6 #[.string h] W fun e w' => e = .returned (.string g) ∧ Below W.heap.size W w')
    (HV : ∀ s, TextOf s 1 → ∀ W, Glob W → Calls Tryz.prog 5 #[.string s, .string ⟨#[116]⟩] W fun e w' => e = .returned (.tuple #[.agg #[.int .u8 116, .int .u64 1, .string ⟨#[]⟩, .slice none 0 0], .bool true]) ∧ Below W.heap.size W w')
    (hT10 : TextOf t10 1) (hX0 : TextOf (⟨#[48]⟩ ++ o8) 1) (hX1 : TextOf (⟨#[48, 120]⟩ ++ h) 1) (hX2 : TextOf (⟨#[48, 120]⟩ ++ g) 1)
    (HS : ∀ W, Calls Tryz.prog 7 #[.agg #[.int .u8 116, .int .u64 1, .string ⟨#[]⟩, .slice none 0 0], .agg #[.int .u8 116, .int .u64 1, .string ⟨#[]⟩, .slice none 0 0]] W fun e w' => e = .returned (.bool true) ∧ Below W.heap.size W w')
    (HB : ∀ W, Calls Tryz.prog 8 #[.int .u8 116] W fun e w' => e = .returned (.tuple #[.int .i64 (0), .int .u64 18446744073709551615]) ∧ W = w')
    (w : World) (hG : Gd w) :
    Calls Tryz.prog 3 #[.int .u64 0, .int .u8 which] w fun e w' => e = .returned (.bool true) ∧ Below w.heap.size w w' := by
  have hsig : (⟨#[121, 110, 113, 105, 117, 120, 116]⟩ : ByteArray).extract 6 7 = ⟨#[116]⟩ := rfl
  have hsig2 : (⟨#[116]⟩ : ByteArray).extract 0 1 = ⟨#[116]⟩ := rfl
  have HH16 := Aside0.mk H16
  have HH8 := Aside0.mk H8
  have HH10 := Aside0.mk H10
  have HHU := Aside0.mk HU
  have HHV := Aside0.mk HV
  have HHT := Aside0.mk hT10
  have HX0 := Aside0.mk hX0
  have HX1 := Aside0.mk hX1
  have HX2 := Aside0.mk hX2
  have HHS := Aside0.mk HS
  have HHB := Aside0.mk HB
  have HHG := Aside0.mk hG
  clear H16 H8 H10 HU HV hT10 hX0 hX1 hX2 HS HB hG
  go_enter Tryz.func3, Tryz.ntmps3
  go_wp2_with (first
    | (go_at_call_of 4 (Value.int IntKind.i64 16); refine (HH16.out _ (HHG.out _ (by repeat (first | assumption | exact Below.refl _ _ | apply below_alloc | apply below_drew))).2.1).mono ?_; rintro e w1 ⟨rfl, hb⟩; obtain ⟨hc, hf⟩ := bcell hb; have B1 := below_step (w := w) (by repeat (first | assumption | exact Below.refl _ _ | apply below_alloc | apply below_drew)) hb)
    | (go_at_call_of 4 (Value.int IntKind.i64 10); refine (HH10.out _ (HHG.out _ (by repeat (first | assumption | exact Below.refl _ _ | apply below_alloc | apply below_drew))).2.2).mono ?_; rintro e w2 ⟨rfl, hb2⟩; obtain ⟨hc2, hf2⟩ := bcell hb2; have B2 := below_step B1 hb2)
    | (go_at_call 5; refine (HHV.out _ HHT.out _ (HHG.out _ (by repeat (first | assumption | exact Below.refl _ _ | apply below_alloc | apply below_drew))).1).mono ?_; rintro e w3 ⟨rfl, hb3⟩; obtain ⟨hc3, hf3⟩ := bcell hb3; have B3 := below_step B2 hb3)
    | (go_at_call_of 4 (Value.int IntKind.i64 8); refine (HH8.out _ (HHG.out _ (by repeat (first | assumption | exact Below.refl _ _ | apply below_alloc | apply below_drew))).2.1).mono ?_; rintro e w4 ⟨rfl, hb4⟩; obtain ⟨hc4, hf4⟩ := bcell hb4; have B4 := below_step (w := w) (by repeat (first | assumption | exact Below.refl _ _ | apply below_alloc | apply below_drew)) hb4)
    | (go_at_call 6; refine (HHU.out _).mono ?_; rintro e w5 ⟨rfl, hb5⟩; obtain ⟨hc5, hf5⟩ := bcell hb5; have B5 := below_step B4 hb5))
  have hL : Lp w (w5.alloc (.cells #[.string (⟨#[48]⟩ ++ o8), .string (⟨#[48, 120]⟩ ++ h), .string (⟨#[48, 120]⟩ ++ g)] 9)) w3.heap.size w5.heap.size 116 1 (⟨#[48]⟩ ++ o8) (⟨#[48, 120]⟩ ++ h) (⟨#[48, 120]⟩ ++ g) := by
    have hz := hb4.size
    have hz5 := hb5.size
    simp at hz
    have key : ∀ o x, (w5.alloc x).cell? ⟨w3.heap.size, o, none⟩ = (w3.alloc (.cells #[.int .u8 116, .int .u64 1, .string ⟨#[]⟩, .slice none 0 0] 26)).cell? ⟨w3.heap.size, o, none⟩ := fun o x => by rw [(below_alloc (Below.refl _ w5) x).cell (p := ⟨w3.heap.size, o, none⟩) (show w3.heap.size < w5.heap.size by omega), hc5 _ _ (by omega), hc4 _ _ (by simp)]
    refine ⟨by simp, by simp, by simp, ?_, ?_, ?_, ?_, below_alloc B5 _⟩
    all_goals (rw [key]; simp)
  have HL := Aside0.mk hL
  generalize w5.alloc (.cells #[.string (⟨#[48]⟩ ++ o8), .string (⟨#[48, 120]⟩ ++ h), .string (⟨#[48, 120]⟩ ++ g)] 9) = wl at HL ⊢
  generalize w5.heap.size = Bt at HL ⊢
  generalize w3.heap.size = Bw at HL ⊢
  clear hL hb hb2 hb3 hb4 hb5 hc hc2 hc3 hc4 hc5 hf hf2 hf3 hf4 hf5 B1 B2 B3 B4 B5
  go_loopw [40] (fun vi wr => ∃ (i : Nat), vi = .int .i64 i ∧ i ≤ 3 ∧ Aside0 (Lp w wr Bw Bt 116 1 (⟨#[48]⟩ ++ o8) (⟨#[48, 120]⟩ ++ h) (⟨#[48, 120]⟩ ++ g)))
    (fun vi _ => 3 - (intOf vi).toNat)
  case atStart => exact ⟨0, rfl, by omega, HL⟩
  case round =>
    obtain ⟨i, rfl, hi, hr⟩ := hrel
    clear HL
    have hq0 := hr.out.q0
    have hq1 := hr.out.q1
    have hq2 := hr.out.q2
    have hq3 := hr.out.q3
    have ht0 := hr.out.t0
    have ht1 := hr.out.t1
    have ht2 := hr.out.t2
    have hBw : Bw < wr.heap.size := block_lt_of_cell hq0
    obtain rfl | rfl | rfl | rfl : i = 0 ∨ i = 1 ∨ i = 2 ∨ i = 3 := by omega
    · go_wp2_with (first
        | (go_at_call 5; refine (HHV.out _ HX0.out _ (HHG.out _ hr.out.bel).1).mono ?_; rintro e w6 ⟨rfl, hb6⟩; obtain ⟨hc6, hf6⟩ := bcell hb6; have hz6 : Bw < w6.heap.size := Nat.lt_of_lt_of_le hBw hb6.size; have hz7 : w6.heap.size ≠ Bw := Nat.ne_of_gt hz6)
        | (go_at_call 7; refine (HHS.out _).mono ?_; rintro e w7 ⟨rfl, hb7⟩))
      exact ⟨⟨1, rfl, by omega, ⟨hr.out.step (below_step (below_alloc hb6 _) hb7)⟩⟩, by simp [intOf]⟩
    · go_wp2_with (first
        | (go_at_call 5; refine (HHV.out _ HX1.out _ (HHG.out _ hr.out.bel).1).mono ?_; rintro e w6 ⟨rfl, hb6⟩; obtain ⟨hc6, hf6⟩ := bcell hb6; have hz6 : Bw < w6.heap.size := Nat.lt_of_lt_of_le hBw hb6.size; have hz7 : w6.heap.size ≠ Bw := Nat.ne_of_gt hz6)
        | (go_at_call 7; refine (HHS.out _).mono ?_; rintro e w7 ⟨rfl, hb7⟩))
      exact ⟨⟨2, rfl, by omega, ⟨hr.out.step (below_step (below_alloc hb6 _) hb7)⟩⟩, by simp [intOf]⟩
    · go_wp2_with (first
        | (go_at_call 5; refine (HHV.out _ HX2.out _ (HHG.out _ hr.out.bel).1).mono ?_; rintro e w6 ⟨rfl, hb6⟩; obtain ⟨hc6, hf6⟩ := bcell hb6; have hz6 : Bw < w6.heap.size := Nat.lt_of_lt_of_le hBw hb6.size; have hz7 : w6.heap.size ≠ Bw := Nat.ne_of_gt hz6)
        | (go_at_call 7; refine (HHS.out _).mono ?_; rintro e w7 ⟨rfl, hb7⟩))
      exact ⟨⟨3, rfl, by omega, ⟨hr.out.step (below_step (below_alloc hb6 _) hb7)⟩⟩, by simp [intOf]⟩
    · go_wp2_with (go_at_call 8; refine (HHB.out _).mono ?_; rintro e w8 ⟨rfl, rfl⟩)
      go_ret
      exact ⟨rfl, hr.out.bel⟩

end Go.Proofs.YthjbopjclkbhfaaGreatDoor.Given
