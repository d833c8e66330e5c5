/- strconv's ParseInt at some written bases and sizes. -/
import Derived.Test.YthjbopjclkbhfaaGreatDoorGvPa
import Derived.Test.YthjbopjclkbhfaaGreatDoorGvPb
import Derived.Test.YthjbopjclkbhfaaGreatDoorGvPc
import Derived.Test.YthjbopjclkbhfaaGreatDoorDg
namespace Go.Proofs.YthjbopjclkbhfaaGreatDoor.Given
open Go.RowKit Go.Proofs.YthjbopjclkbhfaaGreatDoorW.PrintWords

theorem Is.first {B : Int} {t : ByteArray} {n : Int} (h : Is B t n) (hB : B ≤ 255) (hh : 0 < t.size) : t[0].toNat ≠ 43 ∧ t[0].toNat ≠ 45 := by
  have h1 := h.2.2 0 (Int.le_refl _)
  obtain ⟨⟨l⟩⟩ := t
  cases l with
  | nil => exact absurd hh (by decide)
  | cons c r =>
    have h2 : puGo B 0 0 (c :: r) = if n ≤ 0 then .ok n else .rng := h1
    show c.toNat ≠ 43 ∧ c.toNat ≠ 45
    constructor
    all_goals
      intro hc
      have hd : dg c.toNat = 255 := by rw [hc]; decide
      rw [puGo_digit hd, if_pos hB] at h2
      split at h2 <;> cases h2
theorem neq_same (w : World) : (binOp BinOp.neq 39 (.iface 116 (.int .i64 1)) (.iface 116 (.int .i64 1))).run Tryz.prog w = .ok (.bool false) w := by kernel_rfl
attribute [local go_sem] neq_same

set_option maxHeartbeats 8000000 in
set_option maxRecDepth 100000 in
theorem pii_10_16.calls (t : ByteArray) (n : Int) (hI : Is 10 t n) (hn0 : 0 ≤ n) (w : World) :
    Calls Tryz.prog 38 #[.string t, .int .i64 10, .int .i64 16] w fun e w' => e = .returned (if n ≤ 32767 then .tuple #[.int .i64 n, .nilIface] else .tuple #[.int .i64 32767, .iface 116 (.int .i64 1)]) ∧ w' = Lib.bytesWorld w 5 t := by
  have hne := hI.1
  have h0 : 0 < t.size := Nat.pos_of_ne_zero hne
  have hmax : t.size ≤ 281474976710656 := Nat.le_trans hI.2.1 (by decide)
  obtain ⟨hf1, hf2⟩ := hI.first (by decide) h0
  have hp := hI.2.2 65535 (by decide)
  have HI := fun W => inner_10_16.calls t hne hmax W
  rw [hp] at HI
  clear hp hI
  have hemp : t.toList.isEmpty = false := by
    rw [← decide_eq_emptyBytes]
    exact decide_eq_false (fun h => hne (by rw [h]; rfl))
  by_cases c1 : n ≤ 65535
  · rw [if_pos c1] at HI
    simp only [PE.tuple] at HI
    by_cases c2 : n ≤ 32767
    · rw [if_pos c2]
      have hw : wrap64 n = n := by unfold wrap64; omega
      go_enter Tryz.func38, Tryz.ntmps38
      go_wp2_with (go_at_call 37; refine (HI _).mono ?_; rintro e w' ⟨rfl, rfl⟩)
      go_ret2
      exact ⟨rfl, rfl⟩
    · rw [if_neg c2]
      go_enter Tryz.func38, Tryz.ntmps38
      go_wp2_with (go_at_call 37; refine (HI _).mono ?_; rintro e w' ⟨rfl, rfl⟩)
      go_ret2
      exact ⟨rfl, rfl⟩
  · rw [if_neg c1] at HI
    rw [if_neg (by omega)]
    simp only [PE.tuple] at HI
    go_enter Tryz.func38, Tryz.ntmps38
    go_wp2_with (go_at_call 37; refine (HI _).mono ?_; rintro e w' ⟨rfl, rfl⟩)
    go_ret2
    exact ⟨rfl, rfl⟩

set_option maxHeartbeats 8000000 in
set_option maxRecDepth 100000 in
theorem pii_10_32.calls (t : ByteArray) (n : Int) (hI : Is 10 t n) (hn0 : 0 ≤ n) (w : World) :
    Calls Tryz.prog 38 #[.string t, .int .i64 10, .int .i64 32] w fun e w' => e = .returned (if n ≤ 2147483647 then .tuple #[.int .i64 n, .nilIface] else .tuple #[.int .i64 2147483647, .iface 116 (.int .i64 1)]) ∧ w' = Lib.bytesWorld w 5 t := by
  have hne := hI.1
  have h0 : 0 < t.size := Nat.pos_of_ne_zero hne
  have hmax : t.size ≤ 281474976710656 := Nat.le_trans hI.2.1 (by decide)
  obtain ⟨hf1, hf2⟩ := hI.first (by decide) h0
  have hp := hI.2.2 4294967295 (by decide)
  have HI := fun W => inner_10_32.calls t hne hmax W
  rw [hp] at HI
  clear hp hI
  have hemp : t.toList.isEmpty = false := by
    rw [← decide_eq_emptyBytes]
    exact decide_eq_false (fun h => hne (by rw [h]; rfl))
  by_cases c1 : n ≤ 4294967295
  · rw [if_pos c1] at HI
    simp only [PE.tuple] at HI
    by_cases c2 : n ≤ 2147483647
    · rw [if_pos c2]
      have hw : wrap64 n = n := by unfold wrap64; omega
      go_enter Tryz.func38, Tryz.ntmps38
      go_wp2_with (go_at_call 37; refine (HI _).mono ?_; rintro e w' ⟨rfl, rfl⟩)
      go_ret2
      exact ⟨rfl, rfl⟩
    · rw [if_neg c2]
      go_enter Tryz.func38, Tryz.ntmps38
      go_wp2_with (go_at_call 37; refine (HI _).mono ?_; rintro e w' ⟨rfl, rfl⟩)
      go_ret2
      exact ⟨rfl, rfl⟩
  · rw [if_neg c1] at HI
    rw [if_neg (by omega)]
    simp only [PE.tuple] at HI
    go_enter Tryz.func38, Tryz.ntmps38
    go_wp2_with (go_at_call 37; refine (HI _).mono ?_; rintro e w' ⟨rfl, rfl⟩)
    go_ret2
    exact ⟨rfl, rfl⟩

set_option maxHeartbeats 8000000 in
set_option maxRecDepth 100000 in
theorem pii_10_64.calls (t : ByteArray) (n : Int) (hI : Is 10 t n) (hn0 : 0 ≤ n) (w : World) :
    Calls Tryz.prog 38 #[.string t, .int .i64 10, .int .i64 64] w fun e w' => e = .returned (if n ≤ 9223372036854775807 then .tuple #[.int .i64 n, .nilIface] else .tuple #[.int .i64 9223372036854775807, .iface 116 (.int .i64 1)]) ∧ w' = Lib.bytesWorld w 5 t := by
  have hne := hI.1
  have h0 : 0 < t.size := Nat.pos_of_ne_zero hne
  have hmax : t.size ≤ 281474976710656 := Nat.le_trans hI.2.1 (by decide)
  obtain ⟨hf1, hf2⟩ := hI.first (by decide) h0
  have hp := hI.2.2 18446744073709551615 (by decide)
  have HI := fun W => inner_10_64.calls t hne hmax W
  rw [hp] at HI
  clear hp hI
  have hemp : t.toList.isEmpty = false := by
    rw [← decide_eq_emptyBytes]
    exact decide_eq_false (fun h => hne (by rw [h]; rfl))
  by_cases c1 : n ≤ 18446744073709551615
  · rw [if_pos c1] at HI
    simp only [PE.tuple] at HI
    by_cases c2 : n ≤ 9223372036854775807
    · rw [if_pos c2]
      have hw : wrap64 n = n := by unfold wrap64; omega
      go_enter Tryz.func38, Tryz.ntmps38
      go_wp2_with (go_at_call 37; refine (HI _).mono ?_; rintro e w' ⟨rfl, rfl⟩)
      go_ret2
      exact ⟨rfl, rfl⟩
    · rw [if_neg c2]
      go_enter Tryz.func38, Tryz.ntmps38
      go_wp2_with (go_at_call 37; refine (HI _).mono ?_; rintro e w' ⟨rfl, rfl⟩)
      go_ret2
      exact ⟨rfl, rfl⟩
  · rw [if_neg c1] at HI
    rw [if_neg (by omega)]
    simp only [PE.tuple] at HI
    go_enter Tryz.func38, Tryz.ntmps38
    go_wp2_with (go_at_call 37; refine (HI _).mono ?_; rintro e w' ⟨rfl, rfl⟩)
    go_ret2
    exact ⟨rfl, rfl⟩

set_option maxHeartbeats 8000000 in
set_option maxRecDepth 100000 in
theorem pii_16_16.calls (t : ByteArray) (n : Int) (hI : Is 16 t n) (hn0 : 0 ≤ n) (w : World) :
    Calls Tryz.prog 38 #[.string t, .int .i64 16, .int .i64 16] w fun e w' => e = .returned (if n ≤ 32767 then .tuple #[.int .i64 n, .nilIface] else .tuple #[.int .i64 32767, .iface 116 (.int .i64 1)]) ∧ w' = Lib.bytesWorld w 5 t := by
  have hne := hI.1
  have h0 : 0 < t.size := Nat.pos_of_ne_zero hne
  have hmax : t.size ≤ 281474976710656 := Nat.le_trans hI.2.1 (by decide)
  obtain ⟨hf1, hf2⟩ := hI.first (by decide) h0
  have hp := hI.2.2 65535 (by decide)
  have HI := fun W => inner_16_16.calls t hne hmax W
  rw [hp] at HI
  clear hp hI
  have hemp : t.toList.isEmpty = false := by
    rw [← decide_eq_emptyBytes]
    exact decide_eq_false (fun h => hne (by rw [h]; rfl))
  by_cases c1 : n ≤ 65535
  · rw [if_pos c1] at HI
    simp only [PE.tuple] at HI
    by_cases c2 : n ≤ 32767
    · rw [if_pos c2]
      have hw : wrap64 n = n := by unfold wrap64; omega
      go_enter Tryz.func38, Tryz.ntmps38
      go_wp2_with (go_at_call 37; refine (HI _).mono ?_; rintro e w' ⟨rfl, rfl⟩)
      go_ret2
      exact ⟨rfl, rfl⟩
    · rw [if_neg c2]
      go_enter Tryz.func38, Tryz.ntmps38
      go_wp2_with (go_at_call 37; refine (HI _).mono ?_; rintro e w' ⟨rfl, rfl⟩)
      go_ret2
      exact ⟨rfl, rfl⟩
  · rw [if_neg c1] at HI
    rw [if_neg (by omega)]
    simp only [PE.tuple] at HI
    go_enter Tryz.func38, Tryz.ntmps38
    go_wp2_with (go_at_call 37; refine (HI _).mono ?_; rintro e w' ⟨rfl, rfl⟩)
    go_ret2
    exact ⟨rfl, rfl⟩

set_option maxHeartbeats 8000000 in
set_option maxRecDepth 100000 in
theorem pii_16_32.calls (t : ByteArray) (n : Int) (hI : Is 16 t n) (hn0 : 0 ≤ n) (w : World) :
    Calls Tryz.prog 38 #[.string t, .int .i64 16, .int .i64 32] w fun e w' => e = .returned (if n ≤ 2147483647 then .tuple #[.int .i64 n, .nilIface] else .tuple #[.int .i64 2147483647, .iface 116 (.int .i64 1)]) ∧ w' = Lib.bytesWorld w 5 t := by
  have hne := hI.1
  have h0 : 0 < t.size := Nat.pos_of_ne_zero hne
  have hmax : t.size ≤ 281474976710656 := Nat.le_trans hI.2.1 (by decide)
  obtain ⟨hf1, hf2⟩ := hI.first (by decide) h0
  have hp := hI.2.2 4294967295 (by decide)
  have HI := fun W => inner_16_32.calls t hne hmax W
  rw [hp] at HI
  clear hp hI
  have hemp : t.toList.isEmpty = false := by
    rw [← decide_eq_emptyBytes]
    exact decide_eq_false (fun h => hne (by rw [h]; rfl))
  by_cases c1 : n ≤ 4294967295
  · rw [if_pos c1] at HI
    simp only [PE.tuple] at HI
    by_cases c2 : n ≤ 2147483647
    · rw [if_pos c2]
      have hw : wrap64 n = n := by unfold wrap64; omega
      go_enter Tryz.func38, Tryz.ntmps38
      go_wp2_with (go_at_call 37; refine (HI _).mono ?_; rintro e w' ⟨rfl, rfl⟩)
      go_ret2
      exact ⟨rfl, rfl⟩
    · rw [if_neg c2]
      go_enter Tryz.func38, Tryz.ntmps38
      go_wp2_with (go_at_call 37; refine (HI _).mono ?_; rintro e w' ⟨rfl, rfl⟩)
      go_ret2
      exact ⟨rfl, rfl⟩
  · rw [if_neg c1] at HI
    rw [if_neg (by omega)]
    simp only [PE.tuple] at HI
    go_enter Tryz.func38, Tryz.ntmps38
    go_wp2_with (go_at_call 37; refine (HI _).mono ?_; rintro e w' ⟨rfl, rfl⟩)
    go_ret2
    exact ⟨rfl, rfl⟩

set_option maxHeartbeats 8000000 in
set_option maxRecDepth 100000 in
theorem pii_16_64.calls (t : ByteArray) (n : Int) (hI : Is 16 t n) (hn0 : 0 ≤ n) (w : World) :
    Calls Tryz.prog 38 #[.string t, .int .i64 16, .int .i64 64] w fun e w' => e = .returned (if n ≤ 9223372036854775807 then .tuple #[.int .i64 n, .nilIface] else .tuple #[.int .i64 9223372036854775807, .iface 116 (.int .i64 1)]) ∧ w' = Lib.bytesWorld w 5 t := by
  have hne := hI.1
  have h0 : 0 < t.size := Nat.pos_of_ne_zero hne
  have hmax : t.size ≤ 281474976710656 := Nat.le_trans hI.2.1 (by decide)
  obtain ⟨hf1, hf2⟩ := hI.first (by decide) h0
  have hp := hI.2.2 18446744073709551615 (by decide)
  have HI := fun W => inner_16_64.calls t hne hmax W
  rw [hp] at HI
  clear hp hI
  have hemp : t.toList.isEmpty = false := by
    rw [← decide_eq_emptyBytes]
    exact decide_eq_false (fun h => hne (by rw [h]; rfl))
  by_cases c1 : n ≤ 18446744073709551615
  · rw [if_pos c1] at HI
    simp only [PE.tuple] at HI
    by_cases c2 : n ≤ 9223372036854775807
    · rw [if_pos c2]
      have hw : wrap64 n = n := by unfold wrap64; omega
      go_enter Tryz.func38, Tryz.ntmps38
      go_wp2_with (go_at_call 37; refine (HI _).mono ?_; rintro e w' ⟨rfl, rfl⟩)
      go_ret2
      exact ⟨rfl, rfl⟩
    · rw [if_neg c2]
      go_enter Tryz.func38, Tryz.ntmps38
      go_wp2_with (go_at_call 37; refine (HI _).mono ?_; rintro e w' ⟨rfl, rfl⟩)
      go_ret2
      exact ⟨rfl, rfl⟩
  · rw [if_neg c1] at HI
    rw [if_neg (by omega)]
    simp only [PE.tuple] at HI
    go_enter Tryz.func38, Tryz.ntmps38
    go_wp2_with (go_at_call 37; refine (HI _).mono ?_; rintro e w' ⟨rfl, rfl⟩)
    go_ret2
    exact ⟨rfl, rfl⟩

set_option maxHeartbeats 8000000 in
set_option maxRecDepth 100000 in
theorem pii_8_16.calls (t : ByteArray) (n : Int) (hI : Is 8 t n) (hn0 : 0 ≤ n) (w : World) :
    Calls Tryz.prog 38 #[.string t, .int .i64 8, .int .i64 16] w fun e w' => e = .returned (if n ≤ 32767 then .tuple #[.int .i64 n, .nilIface] else .tuple #[.int .i64 32767, .iface 116 (.int .i64 1)]) ∧ w' = Lib.bytesWorld w 5 t := by
  have hne := hI.1
  have h0 : 0 < t.size := Nat.pos_of_ne_zero hne
  have hmax : t.size ≤ 281474976710656 := Nat.le_trans hI.2.1 (by decide)
  obtain ⟨hf1, hf2⟩ := hI.first (by decide) h0
  have hp := hI.2.2 65535 (by decide)
  have HI := fun W => inner_8_16.calls t hne hmax W
  rw [hp] at HI
  clear hp hI
  have hemp : t.toList.isEmpty = false := by
    rw [← decide_eq_emptyBytes]
    exact decide_eq_false (fun h => hne (by rw [h]; rfl))
  by_cases c1 : n ≤ 65535
  · rw [if_pos c1] at HI
    simp only [PE.tuple] at HI
    by_cases c2 : n ≤ 32767
    · rw [if_pos c2]
      have hw : wrap64 n = n := by unfold wrap64; omega
      go_enter Tryz.func38, Tryz.ntmps38
      go_wp2_with (go_at_call 37; refine (HI _).mono ?_; rintro e w' ⟨rfl, rfl⟩)
      go_ret2
      exact ⟨rfl, rfl⟩
    · rw [if_neg c2]
      go_enter Tryz.func38, Tryz.ntmps38
      go_wp2_with (go_at_call 37; refine (HI _).mono ?_; rintro e w' ⟨rfl, rfl⟩)
      go_ret2
      exact ⟨rfl, rfl⟩
  · rw [if_neg c1] at HI
    rw [if_neg (by omega)]
    simp only [PE.tuple] at HI
    go_enter Tryz.func38, Tryz.ntmps38
    go_wp2_with (go_at_call 37; refine (HI _).mono ?_; rintro e w' ⟨rfl, rfl⟩)
    go_ret2
    exact ⟨rfl, rfl⟩

set_option maxHeartbeats 8000000 in
set_option maxRecDepth 100000 in
theorem pii_8_32.calls (t : ByteArray) (n : Int) (hI : Is 8 t n) (hn0 : 0 ≤ n) (w : World) :
    Calls Tryz.prog 38 #[.string t, .int .i64 8, .int .i64 32] w fun e w' => e = .returned (if n ≤ 2147483647 then .tuple #[.int .i64 n, .nilIface] else .tuple #[.int .i64 2147483647, .iface 116 (.int .i64 1)]) ∧ w' = Lib.bytesWorld w 5 t := by
  have hne := hI.1
  have h0 : 0 < t.size := Nat.pos_of_ne_zero hne
  have hmax : t.size ≤ 281474976710656 := Nat.le_trans hI.2.1 (by decide)
  obtain ⟨hf1, hf2⟩ := hI.first (by decide) h0
  have hp := hI.2.2 4294967295 (by decide)
  have HI := fun W => inner_8_32.calls t hne hmax W
  rw [hp] at HI
  clear hp hI
  have hemp : t.toList.isEmpty = false := by
    rw [← decide_eq_emptyBytes]
    exact decide_eq_false (fun h => hne (by rw [h]; rfl))
  by_cases c1 : n ≤ 4294967295
  · rw [if_pos c1] at HI
    simp only [PE.tuple] at HI
    by_cases c2 : n ≤ 2147483647
    · rw [if_pos c2]
      have hw : wrap64 n = n := by unfold wrap64; omega
      go_enter Tryz.func38, Tryz.ntmps38
      go_wp2_with (go_at_call 37; refine (HI _).mono ?_; rintro e w' ⟨rfl, rfl⟩)
      go_ret2
      exact ⟨rfl, rfl⟩
    · rw [if_neg c2]
      go_enter Tryz.func38, Tryz.ntmps38
      go_wp2_with (go_at_call 37; refine (HI _).mono ?_; rintro e w' ⟨rfl, rfl⟩)
      go_ret2
      exact ⟨rfl, rfl⟩
  · rw [if_neg c1] at HI
    rw [if_neg (by omega)]
    simp only [PE.tuple] at HI
    go_enter Tryz.func38, Tryz.ntmps38
    go_wp2_with (go_at_call 37; refine (HI _).mono ?_; rintro e w' ⟨rfl, rfl⟩)
    go_ret2
    exact ⟨rfl, rfl⟩

set_option maxHeartbeats 8000000 in
set_option maxRecDepth 100000 in
theorem pii_8_64.calls (t : ByteArray) (n : Int) (hI : Is 8 t n) (hn0 : 0 ≤ n) (w : World) :
    Calls Tryz.prog 38 #[.string t, .int .i64 8, .int .i64 64] w fun e w' => e = .returned (if n ≤ 9223372036854775807 then .tuple #[.int .i64 n, .nilIface] else .tuple #[.int .i64 9223372036854775807, .iface 116 (.int .i64 1)]) ∧ w' = Lib.bytesWorld w 5 t := by
  have hne := hI.1
  have h0 : 0 < t.size := Nat.pos_of_ne_zero hne
  have hmax : t.size ≤ 281474976710656 := Nat.le_trans hI.2.1 (by decide)
  obtain ⟨hf1, hf2⟩ := hI.first (by decide) h0
  have hp := hI.2.2 18446744073709551615 (by decide)
  have HI := fun W => inner_8_64.calls t hne hmax W
  rw [hp] at HI
  clear hp hI
  have hemp : t.toList.isEmpty = false := by
    rw [← decide_eq_emptyBytes]
    exact decide_eq_false (fun h => hne (by rw [h]; rfl))
  by_cases c1 : n ≤ 18446744073709551615
  · rw [if_pos c1] at HI
    simp only [PE.tuple] at HI
    by_cases c2 : n ≤ 9223372036854775807
    · rw [if_pos c2]
      have hw : wrap64 n = n := by unfold wrap64; omega
      go_enter Tryz.func38, Tryz.ntmps38
      go_wp2_with (go_at_call 37; refine (HI _).mono ?_; rintro e w' ⟨rfl, rfl⟩)
      go_ret2
      exact ⟨rfl, rfl⟩
    · rw [if_neg c2]
      go_enter Tryz.func38, Tryz.ntmps38
      go_wp2_with (go_at_call 37; refine (HI _).mono ?_; rintro e w' ⟨rfl, rfl⟩)
      go_ret2
      exact ⟨rfl, rfl⟩
  · rw [if_neg c1] at HI
    rw [if_neg (by omega)]
    simp only [PE.tuple] at HI
    go_enter Tryz.func38, Tryz.ntmps38
    go_wp2_with (go_at_call 37; refine (HI _).mono ?_; rintro e w' ⟨rfl, rfl⟩)
    go_ret2
    exact ⟨rfl, rfl⟩
end Go.Proofs.YthjbopjclkbhfaaGreatDoor.Given
