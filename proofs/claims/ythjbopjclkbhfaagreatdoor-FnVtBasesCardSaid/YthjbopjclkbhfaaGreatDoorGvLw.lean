/- The law FnVtBases, whole. -/
import Derived.Test.YthjbopjclkbhfaaGreatDoorGvWk
import Derived.Test.YthjbopjclkbhfaaGreatDoorTx
import Derived.Test.YthjbopjclkbhfaaGreatDoorGvFx
namespace Go.Proofs.YthjbopjclkbhfaaGreatDoor.Given
open Go.RowKit Go.Proofs.YthjbopjclkbhfaaGreatDoorW.PrintWords
set_option linter.unusedVariables false

theorem h10 (u : Nat) (h1 : 1 ≤ u) (h : u < 18446744073709551616) : ∀ W, Lib.TabIs Tryz.prog W "internal/strconv.uint64pow10" .u64 Lib.pow10Tab → Calls Tryz.prog 4 #[.int .u64 (u : Int), .int .i64 10] W fun e w' => e = .returned (.string ⟨(dgs 10 64 u).toArray⟩) ∧ Below W.heap.size W w' := fun W hW => fm10.calls u h1 h W hW
theorem h16 (u : Nat) (h1 : 1 ≤ u) (h : u < 18446744073709551616) : ∀ W, Tz W → Calls Tryz.prog 4 #[.int .u64 (u : Int), .int .i64 16] W fun e w' => e = .returned (.string ⟨(dgs 16 64 u).toArray⟩) ∧ Below W.heap.size W w' := fun W hW => fm16.calls u h1 h W hW
theorem h8 (u : Nat) (h1 : 1 ≤ u) (h : u < 18446744073709551616) : ∀ W, Tz W → Calls Tryz.prog 4 #[.int .u64 (u : Int), .int .i64 8] W fun e w' => e = .returned (.string ⟨(dgs 8 64 u).toArray⟩) ∧ Below W.heap.size W w' := fun W hW => fm8.calls u h1 h W hW
theorem hup (u : Nat) : ∀ W, Calls Tryz.prog 6 #[.string ⟨(dgs 16 64 u).toArray⟩] W fun e w' => e = .returned (.string ⟨((dgs 16 64 u).map up).toArray⟩) ∧ Below W.heap.size W w' := fun W => by
  have := upper.calls ⟨(dgs 16 64 u).toArray⟩ (Nat.le_trans (size_dgs 16 u) (by decide)) W
  exact this

theorem hv_ok_121 (n : Int) (h0 : 0 ≤ n) (h : n ≤ 255) : ∀ s, TextOf s n → ∀ W, Glob W → Calls Tryz.prog 5 #[.string s, .string ⟨#[121]⟩] W fun e w' => e = .returned (.tuple #[num 121 n, .bool true]) ∧ Below W.heap.size W w' := fun s hs W hW => by
  have := vt_121 s n hs h0 W hW
  rw [if_pos h] at this
  exact this
theorem hv_bad_121 (n : Int) (h0 : 0 ≤ n) (h : 255 < n) : ∀ s, TextOf s n → ∀ W, Glob W → Calls Tryz.prog 5 #[.string s, .string ⟨#[121]⟩] W fun e w' => e = .returned (.tuple #[num 0 0, .bool false]) ∧ Below W.heap.size W w' := fun s hs W hW => by
  have := vt_121 s n hs h0 W hW
  rw [if_neg (by omega)] at this
  exact this
theorem whole_121 (u : Nat) (h : u < 18446744073709551616) (which : Int) (hk : which.tmod 7 = 0) (w : World) (hG : Gd w) :
    Calls Tryz.prog 3 #[.int .u64 (u : Int), .int .u8 which] w fun e w' => e = .returned (.bool true) ∧ Below w.heap.size w w' := by
  rcases Nat.eq_zero_or_pos u with h0 | h1
  · subst h0
    exact law_121_zero which hk _ _ _ _ (size_dgs 16 1) (size_up 1) (size_dgs 8 1) (h16 1 (by decide) (by decide)) (h8 1 (by decide) (by decide)) (h10 1 (by decide) (by decide)) (hup 1) (hv_ok_121 1 (by decide) (by decide)) (text10 1 (by decide) (by decide)) (text8 1 (by decide) (by decide)) (text16 1 (by decide) (by decide)) (text16u 1 (by decide) (by decide)) (fun W => same.calls 121 1 W) (fun W => bounds_121 W) w hG
  · by_cases hn : (u : Int) ≤ 255
    · exact law_121_ok (u : Int) which hk (by omega) hn _ _ _ _ (size_dgs 16 u) (size_up u) (size_dgs 8 u) (h16 u h1 h) (h8 u h1 h) (h10 u h1 h) (hup u) (hv_ok_121 u (by omega) hn) (text10 u h1 h) (text8 u h1 h) (text16 u h1 h) (text16u u h1 h) (fun W => same.calls 121 u W) (fun W => bounds_121 W) w hG
    · exact law_121_bad (u : Int) which hk (by omega) (by omega) _ _ _ _ (size_dgs 16 u) (size_up u) (size_dgs 8 u) (h16 u h1 h) (h8 u h1 h) (h10 u h1 h) (hup u) (hv_bad_121 u (by omega) (by omega)) (text10 u h1 h) (text8 u h1 h) (text16 u h1 h) (text16u u h1 h) (fun W => bounds_121 W) w hG

theorem hv_ok_110 (n : Int) (h0 : 0 ≤ n) (h : n ≤ 32767) : ∀ s, TextOf s n → ∀ W, Glob W → Calls Tryz.prog 5 #[.string s, .string ⟨#[110]⟩] W fun e w' => e = .returned (.tuple #[num 110 n, .bool true]) ∧ Below W.heap.size W w' := fun s hs W hW => by
  have := vt_110 s n hs h0 W hW
  rw [if_pos h] at this
  exact this
theorem hv_bad_110 (n : Int) (h0 : 0 ≤ n) (h : 32767 < n) : ∀ s, TextOf s n → ∀ W, Glob W → Calls Tryz.prog 5 #[.string s, .string ⟨#[110]⟩] W fun e w' => e = .returned (.tuple #[num 0 0, .bool false]) ∧ Below W.heap.size W w' := fun s hs W hW => by
  have := vt_110 s n hs h0 W hW
  rw [if_neg (by omega)] at this
  exact this
theorem whole_110 (u : Nat) (h : u < 18446744073709551616) (which : Int) (hk : which.tmod 7 = 1) (w : World) (hG : Gd w) :
    Calls Tryz.prog 3 #[.int .u64 (u : Int), .int .u8 which] w fun e w' => e = .returned (.bool true) ∧ Below w.heap.size w w' := by
  rcases Nat.eq_zero_or_pos u with h0 | h1
  · subst h0
    exact law_110_zero which hk _ _ _ _ (size_dgs 16 1) (size_up 1) (size_dgs 8 1) (h16 1 (by decide) (by decide)) (h8 1 (by decide) (by decide)) (h10 1 (by decide) (by decide)) (hup 1) (hv_ok_110 1 (by decide) (by decide)) (text10 1 (by decide) (by decide)) (text8 1 (by decide) (by decide)) (text16 1 (by decide) (by decide)) (text16u 1 (by decide) (by decide)) (fun W => same.calls 110 1 W) (fun W => bounds_110 W) w hG
  · by_cases hn : (u : Int) ≤ 32767
    · exact law_110_ok (u : Int) which hk (by omega) hn _ _ _ _ (size_dgs 16 u) (size_up u) (size_dgs 8 u) (h16 u h1 h) (h8 u h1 h) (h10 u h1 h) (hup u) (hv_ok_110 u (by omega) hn) (text10 u h1 h) (text8 u h1 h) (text16 u h1 h) (text16u u h1 h) (fun W => same.calls 110 u W) (fun W => bounds_110 W) w hG
    · exact law_110_bad (u : Int) which hk (by omega) (by omega) _ _ _ _ (size_dgs 16 u) (size_up u) (size_dgs 8 u) (h16 u h1 h) (h8 u h1 h) (h10 u h1 h) (hup u) (hv_bad_110 u (by omega) (by omega)) (text10 u h1 h) (text8 u h1 h) (text16 u h1 h) (text16u u h1 h) (fun W => bounds_110 W) w hG

theorem hv_ok_113 (n : Int) (h0 : 0 ≤ n) (h : n ≤ 65535) : ∀ s, TextOf s n → ∀ W, Glob W → Calls Tryz.prog 5 #[.string s, .string ⟨#[113]⟩] W fun e w' => e = .returned (.tuple #[num 113 n, .bool true]) ∧ Below W.heap.size W w' := fun s hs W hW => by
  have := vt_113 s n hs h0 W hW
  rw [if_pos h] at this
  exact this
theorem hv_bad_113 (n : Int) (h0 : 0 ≤ n) (h : 65535 < n) : ∀ s, TextOf s n → ∀ W, Glob W → Calls Tryz.prog 5 #[.string s, .string ⟨#[113]⟩] W fun e w' => e = .returned (.tuple #[num 0 0, .bool false]) ∧ Below W.heap.size W w' := fun s hs W hW => by
  have := vt_113 s n hs h0 W hW
  rw [if_neg (by omega)] at this
  exact this
theorem whole_113 (u : Nat) (h : u < 18446744073709551616) (which : Int) (hk : which.tmod 7 = 2) (w : World) (hG : Gd w) :
    Calls Tryz.prog 3 #[.int .u64 (u : Int), .int .u8 which] w fun e w' => e = .returned (.bool true) ∧ Below w.heap.size w w' := by
  rcases Nat.eq_zero_or_pos u with h0 | h1
  · subst h0
    exact law_113_zero which hk _ _ _ _ (size_dgs 16 1) (size_up 1) (size_dgs 8 1) (h16 1 (by decide) (by decide)) (h8 1 (by decide) (by decide)) (h10 1 (by decide) (by decide)) (hup 1) (hv_ok_113 1 (by decide) (by decide)) (text10 1 (by decide) (by decide)) (text8 1 (by decide) (by decide)) (text16 1 (by decide) (by decide)) (text16u 1 (by decide) (by decide)) (fun W => same.calls 113 1 W) (fun W => bounds_113 W) w hG
  · by_cases hn : (u : Int) ≤ 65535
    · exact law_113_ok (u : Int) which hk (by omega) hn _ _ _ _ (size_dgs 16 u) (size_up u) (size_dgs 8 u) (h16 u h1 h) (h8 u h1 h) (h10 u h1 h) (hup u) (hv_ok_113 u (by omega) hn) (text10 u h1 h) (text8 u h1 h) (text16 u h1 h) (text16u u h1 h) (fun W => same.calls 113 u W) (fun W => bounds_113 W) w hG
    · exact law_113_bad (u : Int) which hk (by omega) (by omega) _ _ _ _ (size_dgs 16 u) (size_up u) (size_dgs 8 u) (h16 u h1 h) (h8 u h1 h) (h10 u h1 h) (hup u) (hv_bad_113 u (by omega) (by omega)) (text10 u h1 h) (text8 u h1 h) (text16 u h1 h) (text16u u h1 h) (fun W => bounds_113 W) w hG

theorem hv_ok_105 (n : Int) (h0 : 0 ≤ n) (h : n ≤ 2147483647) : ∀ s, TextOf s n → ∀ W, Glob W → Calls Tryz.prog 5 #[.string s, .string ⟨#[105]⟩] W fun e w' => e = .returned (.tuple #[num 105 n, .bool true]) ∧ Below W.heap.size W w' := fun s hs W hW => by
  have := vt_105 s n hs h0 W hW
  rw [if_pos h] at this
  exact this
theorem hv_bad_105 (n : Int) (h0 : 0 ≤ n) (h : 2147483647 < n) : ∀ s, TextOf s n → ∀ W, Glob W → Calls Tryz.prog 5 #[.string s, .string ⟨#[105]⟩] W fun e w' => e = .returned (.tuple #[num 0 0, .bool false]) ∧ Below W.heap.size W w' := fun s hs W hW => by
  have := vt_105 s n hs h0 W hW
  rw [if_neg (by omega)] at this
  exact this
theorem whole_105 (u : Nat) (h : u < 18446744073709551616) (which : Int) (hk : which.tmod 7 = 3) (w : World) (hG : Gd w) :
    Calls Tryz.prog 3 #[.int .u64 (u : Int), .int .u8 which] w fun e w' => e = .returned (.bool true) ∧ Below w.heap.size w w' := by
  rcases Nat.eq_zero_or_pos u with h0 | h1
  · subst h0
    exact law_105_zero which hk _ _ _ _ (size_dgs 16 1) (size_up 1) (size_dgs 8 1) (h16 1 (by decide) (by decide)) (h8 1 (by decide) (by decide)) (h10 1 (by decide) (by decide)) (hup 1) (hv_ok_105 1 (by decide) (by decide)) (text10 1 (by decide) (by decide)) (text8 1 (by decide) (by decide)) (text16 1 (by decide) (by decide)) (text16u 1 (by decide) (by decide)) (fun W => same.calls 105 1 W) (fun W => bounds_105 W) w hG
  · by_cases hn : (u : Int) ≤ 2147483647
    · exact law_105_ok (u : Int) which hk (by omega) hn _ _ _ _ (size_dgs 16 u) (size_up u) (size_dgs 8 u) (h16 u h1 h) (h8 u h1 h) (h10 u h1 h) (hup u) (hv_ok_105 u (by omega) hn) (text10 u h1 h) (text8 u h1 h) (text16 u h1 h) (text16u u h1 h) (fun W => same.calls 105 u W) (fun W => bounds_105 W) w hG
    · exact law_105_bad (u : Int) which hk (by omega) (by omega) _ _ _ _ (size_dgs 16 u) (size_up u) (size_dgs 8 u) (h16 u h1 h) (h8 u h1 h) (h10 u h1 h) (hup u) (hv_bad_105 u (by omega) (by omega)) (text10 u h1 h) (text8 u h1 h) (text16 u h1 h) (text16u u h1 h) (fun W => bounds_105 W) w hG

theorem hv_ok_117 (n : Int) (h0 : 0 ≤ n) (h : n ≤ 4294967295) : ∀ s, TextOf s n → ∀ W, Glob W → Calls Tryz.prog 5 #[.string s, .string ⟨#[117]⟩] W fun e w' => e = .returned (.tuple #[num 117 n, .bool true]) ∧ Below W.heap.size W w' := fun s hs W hW => by
  have := vt_117 s n hs h0 W hW
  rw [if_pos h] at this
  exact this
theorem hv_bad_117 (n : Int) (h0 : 0 ≤ n) (h : 4294967295 < n) : ∀ s, TextOf s n → ∀ W, Glob W → Calls Tryz.prog 5 #[.string s, .string ⟨#[117]⟩] W fun e w' => e = .returned (.tuple #[num 0 0, .bool false]) ∧ Below W.heap.size W w' := fun s hs W hW => by
  have := vt_117 s n hs h0 W hW
  rw [if_neg (by omega)] at this
  exact this
theorem whole_117 (u : Nat) (h : u < 18446744073709551616) (which : Int) (hk : which.tmod 7 = 4) (w : World) (hG : Gd w) :
    Calls Tryz.prog 3 #[.int .u64 (u : Int), .int .u8 which] w fun e w' => e = .returned (.bool true) ∧ Below w.heap.size w w' := by
  rcases Nat.eq_zero_or_pos u with h0 | h1
  · subst h0
    exact law_117_zero which hk _ _ _ _ (size_dgs 16 1) (size_up 1) (size_dgs 8 1) (h16 1 (by decide) (by decide)) (h8 1 (by decide) (by decide)) (h10 1 (by decide) (by decide)) (hup 1) (hv_ok_117 1 (by decide) (by decide)) (text10 1 (by decide) (by decide)) (text8 1 (by decide) (by decide)) (text16 1 (by decide) (by decide)) (text16u 1 (by decide) (by decide)) (fun W => same.calls 117 1 W) (fun W => bounds_117 W) w hG
  · by_cases hn : (u : Int) ≤ 4294967295
    · exact law_117_ok (u : Int) which hk (by omega) hn _ _ _ _ (size_dgs 16 u) (size_up u) (size_dgs 8 u) (h16 u h1 h) (h8 u h1 h) (h10 u h1 h) (hup u) (hv_ok_117 u (by omega) hn) (text10 u h1 h) (text8 u h1 h) (text16 u h1 h) (text16u u h1 h) (fun W => same.calls 117 u W) (fun W => bounds_117 W) w hG
    · exact law_117_bad (u : Int) which hk (by omega) (by omega) _ _ _ _ (size_dgs 16 u) (size_up u) (size_dgs 8 u) (h16 u h1 h) (h8 u h1 h) (h10 u h1 h) (hup u) (hv_bad_117 u (by omega) (by omega)) (text10 u h1 h) (text8 u h1 h) (text16 u h1 h) (text16u u h1 h) (fun W => bounds_117 W) w hG

theorem hv_ok_120 (n : Int) (h0 : 0 ≤ n) (h : n ≤ 9223372036854775807) : ∀ s, TextOf s n → ∀ W, Glob W → Calls Tryz.prog 5 #[.string s, .string ⟨#[120]⟩] W fun e w' => e = .returned (.tuple #[num 120 n, .bool true]) ∧ Below W.heap.size W w' := fun s hs W hW => by
  have := vt_120 s n hs h0 W hW
  rw [if_pos h] at this
  exact this
theorem hv_bad_120 (n : Int) (h0 : 0 ≤ n) (h : 9223372036854775807 < n) : ∀ s, TextOf s n → ∀ W, Glob W → Calls Tryz.prog 5 #[.string s, .string ⟨#[120]⟩] W fun e w' => e = .returned (.tuple #[num 0 0, .bool false]) ∧ Below W.heap.size W w' := fun s hs W hW => by
  have := vt_120 s n hs h0 W hW
  rw [if_neg (by omega)] at this
  exact this
theorem whole_120 (u : Nat) (h : u < 18446744073709551616) (which : Int) (hk : which.tmod 7 = 5) (w : World) (hG : Gd w) :
    Calls Tryz.prog 3 #[.int .u64 (u : Int), .int .u8 which] w fun e w' => e = .returned (.bool true) ∧ Below w.heap.size w w' := by
  rcases Nat.eq_zero_or_pos u with h0 | h1
  · subst h0
    exact law_120_zero which hk _ _ _ _ (size_dgs 16 1) (size_up 1) (size_dgs 8 1) (h16 1 (by decide) (by decide)) (h8 1 (by decide) (by decide)) (h10 1 (by decide) (by decide)) (hup 1) (hv_ok_120 1 (by decide) (by decide)) (text10 1 (by decide) (by decide)) (text8 1 (by decide) (by decide)) (text16 1 (by decide) (by decide)) (text16u 1 (by decide) (by decide)) (fun W => same.calls 120 1 W) (fun W => bounds_120 W) w hG
  · by_cases hn : (u : Int) ≤ 9223372036854775807
    · exact law_120_ok (u : Int) which hk (by omega) hn _ _ _ _ (size_dgs 16 u) (size_up u) (size_dgs 8 u) (h16 u h1 h) (h8 u h1 h) (h10 u h1 h) (hup u) (hv_ok_120 u (by omega) hn) (text10 u h1 h) (text8 u h1 h) (text16 u h1 h) (text16u u h1 h) (fun W => same.calls 120 u W) (fun W => bounds_120 W) w hG
    · exact law_120_bad (u : Int) which hk (by omega) (by omega) _ _ _ _ (size_dgs 16 u) (size_up u) (size_dgs 8 u) (h16 u h1 h) (h8 u h1 h) (h10 u h1 h) (hup u) (hv_bad_120 u (by omega) (by omega)) (text10 u h1 h) (text8 u h1 h) (text16 u h1 h) (text16u u h1 h) (fun W => bounds_120 W) w hG

theorem hv_ok_116 (n : Int) (h0 : 0 ≤ n) (h : n ≤ 18446744073709551615) : ∀ s, TextOf s n → ∀ W, Glob W → Calls Tryz.prog 5 #[.string s, .string ⟨#[116]⟩] W fun e w' => e = .returned (.tuple #[num 116 n, .bool true]) ∧ Below W.heap.size W w' := fun s hs W hW => by
  have := vt_116 s n hs h0 W hW
  rw [if_pos h] at this
  exact this
theorem hv_bad_116 (n : Int) (h0 : 0 ≤ n) (h : 18446744073709551615 < n) : ∀ s, TextOf s n → ∀ W, Glob W → Calls Tryz.prog 5 #[.string s, .string ⟨#[116]⟩] W fun e w' => e = .returned (.tuple #[num 0 0, .bool false]) ∧ Below W.heap.size W w' := fun s hs W hW => by
  have := vt_116 s n hs h0 W hW
  rw [if_neg (by omega)] at this
  exact this
theorem whole_116 (u : Nat) (h : u < 18446744073709551616) (which : Int) (hk : which.tmod 7 = 6) (w : World) (hG : Gd w) :
    Calls Tryz.prog 3 #[.int .u64 (u : Int), .int .u8 which] w fun e w' => e = .returned (.bool true) ∧ Below w.heap.size w w' := by
  rcases Nat.eq_zero_or_pos u with h0 | h1
  · subst h0
    exact law_116_zero which hk _ _ _ _ (size_dgs 16 1) (size_up 1) (size_dgs 8 1) (h16 1 (by decide) (by decide)) (h8 1 (by decide) (by decide)) (h10 1 (by decide) (by decide)) (hup 1) (hv_ok_116 1 (by decide) (by decide)) (text10 1 (by decide) (by decide)) (text8 1 (by decide) (by decide)) (text16 1 (by decide) (by decide)) (text16u 1 (by decide) (by decide)) (fun W => same.calls 116 1 W) (fun W => bounds_116 W) w hG
  · by_cases hn : (u : Int) ≤ 18446744073709551615
    · exact law_116_ok (u : Int) which hk (by omega) hn _ _ _ _ (size_dgs 16 u) (size_up u) (size_dgs 8 u) (h16 u h1 h) (h8 u h1 h) (h10 u h1 h) (hup u) (hv_ok_116 u (by omega) hn) (text10 u h1 h) (text8 u h1 h) (text16 u h1 h) (text16u u h1 h) (fun W => same.calls 116 u W) (fun W => bounds_116 W) w hG
    · exact absurd hn (by omega)

theorem law.calls (a0 a1 : Int) (w0 : (Lit.int .u64 a0).wf = true) (w1 : (Lit.int .u8 a1).wf = true) (w : World) (hG : Gd w) :
    Calls Tryz.prog 3 #[.int .u64 a0, .int .u8 a1] w fun e w' => e = .returned (.bool true) ∧ Below w.heap.size w w' := by
  simp [Lit.wf, IntKind.min, IntKind.max, IntKind.signed, IntKind.bits] at w0 w1
  obtain ⟨u, rfl⟩ : ∃ u : Nat, a0 = u := ⟨a0.toNat, by omega⟩
  have hu : u < 18446744073709551616 := by omega
  have ht : 0 ≤ a1.tmod 7 ∧ a1.tmod 7 < 7 := by rw [Int.tmod_eq_emod_of_nonneg (by omega)]; omega
  obtain h | h | h | h | h | h | h : a1.tmod 7 = 0 ∨ a1.tmod 7 = 1 ∨ a1.tmod 7 = 2 ∨ a1.tmod 7 = 3 ∨ a1.tmod 7 = 4 ∨ a1.tmod 7 = 5 ∨ a1.tmod 7 = 6 := by omega
  · exact whole_121 u hu a1 h w hG
  · exact whole_110 u hu a1 h w hG
  · exact whole_113 u hu a1 h w hG
  · exact whole_105 u hu a1 h w hG
  · exact whole_117 u hu a1 h w hG
  · exact whole_120 u hu a1 h w hG
  · exact whole_116 u hu a1 h w hG
end Go.Proofs.YthjbopjclkbhfaaGreatDoor.Given
