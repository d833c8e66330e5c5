/- impl.VtNumber and vtBounds of the seven kinds. -/
import Derived.Test.YthjbopjclkbhfaaGreatDoorGvVn
import Derived.Test.YthjbopjclkbhfaaGreatDoorGvNa
namespace Go.Proofs.YthjbopjclkbhfaaGreatDoor.Given
open Go.RowKit Go.Proofs.YthjbopjclkbhfaaGreatDoorW.PrintWords

/-- The texts of a number. -/
def TextOf (s : ByteArray) (n : Int) : Prop :=
  (cutRes s ⟨#[48, 120]⟩ = (s, false) ∧ cutRes s ⟨#[48]⟩ = (s, false) ∧ Is 10 s n) ∨
  (∃ t, cutRes s ⟨#[48, 120]⟩ = (t, true) ∧ cutRes t ⟨#[48]⟩ = (t, false) ∧ Is 16 t n) ∨
  (∃ t, cutRes s ⟨#[48, 120]⟩ = (s, false) ∧ cutRes s ⟨#[48]⟩ = (t, true) ∧ s.size ≠ 1 ∧ Is 8 t n)

theorem vt_121 (s : ByteArray) (n : Int) (hT : TextOf s n) (hn0 : 0 ≤ n) (w : World) (hG : Glob w) :
    Calls Tryz.prog 5 #[.string s, .string ⟨#[121]⟩] w fun e w' => e = .returned (if n ≤ 255 then .tuple #[num 121 n, .bool true] else .tuple #[num 0 0, .bool false]) ∧ Below w.heap.size w w' := by
  by_cases hn : n ≤ 255
  · rw [if_pos hn]
    refine vt_ok ⟨#[121]⟩ s 5 .u8 121 n ?_ (fun W => doorOut_121.calls n hn0 hn W) w hG
    intro W hW
    rcases hT with ⟨h1, h2, hI⟩ | ⟨t, h1, h2, hI⟩ | ⟨t, h1, h2, h3, hI⟩
    · exact ok_121_10 s s n h1 h2 rfl hI hn0 hn W hW
    · exact ok_121_16 s t n h1 h2 hI hn0 hn W hW
    · exact ok_121_8 s t n h1 h2 h3 hI hn0 hn W hW
  · rw [if_neg hn]
    refine vt_bad ⟨#[121]⟩ s ?_ w hG
    have hn' : 255 < n := Int.not_le.1 hn
    intro W hW
    rcases hT with ⟨h1, h2, hI⟩ | ⟨t, h1, h2, hI⟩ | ⟨t, h1, h2, h3, hI⟩
    · exact bad_121_10 s s n h1 h2 rfl hI hn0 hn' W hW
    · exact bad_121_16 s t n h1 h2 hI hn0 hn' W hW
    · exact bad_121_8 s t n h1 h2 h3 hI hn0 hn' W hW
set_option maxHeartbeats 1000000 in
theorem bounds_121 (w : World) : Calls Tryz.prog 8 #[.int .u8 121] w fun e w' => e = .returned (.tuple #[.int .i64 (0), .int .u64 255]) ∧ w = w' := by
  go_enter Tryz.func8, Tryz.ntmps8
  go_wp2
  go_ret2
  exact ⟨rfl, rfl⟩

theorem vt_110 (s : ByteArray) (n : Int) (hT : TextOf s n) (hn0 : 0 ≤ n) (w : World) (hG : Glob w) :
    Calls Tryz.prog 5 #[.string s, .string ⟨#[110]⟩] w fun e w' => e = .returned (if n ≤ 32767 then .tuple #[num 110 n, .bool true] else .tuple #[num 0 0, .bool false]) ∧ Below w.heap.size w w' := by
  by_cases hn : n ≤ 32767
  · rw [if_pos hn]
    refine vt_ok ⟨#[110]⟩ s 75 .i16 110 n ?_ (fun W => doorOut_110.calls n hn0 hn W) w hG
    intro W hW
    rcases hT with ⟨h1, h2, hI⟩ | ⟨t, h1, h2, hI⟩ | ⟨t, h1, h2, h3, hI⟩
    · exact ok_110_10 s s n h1 h2 rfl hI hn0 hn W hW
    · exact ok_110_16 s t n h1 h2 hI hn0 hn W hW
    · exact ok_110_8 s t n h1 h2 h3 hI hn0 hn W hW
  · rw [if_neg hn]
    refine vt_bad ⟨#[110]⟩ s ?_ w hG
    have hn' : 32767 < n := Int.not_le.1 hn
    intro W hW
    rcases hT with ⟨h1, h2, hI⟩ | ⟨t, h1, h2, hI⟩ | ⟨t, h1, h2, h3, hI⟩
    · exact bad_110_10 s s n h1 h2 rfl hI hn0 hn' W hW
    · exact bad_110_16 s t n h1 h2 hI hn0 hn' W hW
    · exact bad_110_8 s t n h1 h2 h3 hI hn0 hn' W hW
set_option maxHeartbeats 1000000 in
theorem bounds_110 (w : World) : Calls Tryz.prog 8 #[.int .u8 110] w fun e w' => e = .returned (.tuple #[.int .i64 (-32768), .int .u64 32767]) ∧ w = w' := by
  go_enter Tryz.func8, Tryz.ntmps8
  go_wp2
  go_ret2
  exact ⟨rfl, rfl⟩

theorem vt_113 (s : ByteArray) (n : Int) (hT : TextOf s n) (hn0 : 0 ≤ n) (w : World) (hG : Glob w) :
    Calls Tryz.prog 5 #[.string s, .string ⟨#[113]⟩] w fun e w' => e = .returned (if n ≤ 65535 then .tuple #[num 113 n, .bool true] else .tuple #[num 0 0, .bool false]) ∧ Below w.heap.size w w' := by
  by_cases hn : n ≤ 65535
  · rw [if_pos hn]
    refine vt_ok ⟨#[113]⟩ s 72 .u16 113 n ?_ (fun W => doorOut_113.calls n hn0 hn W) w hG
    intro W hW
    rcases hT with ⟨h1, h2, hI⟩ | ⟨t, h1, h2, hI⟩ | ⟨t, h1, h2, h3, hI⟩
    · exact ok_113_10 s s n h1 h2 rfl hI hn0 hn W hW
    · exact ok_113_16 s t n h1 h2 hI hn0 hn W hW
    · exact ok_113_8 s t n h1 h2 h3 hI hn0 hn W hW
  · rw [if_neg hn]
    refine vt_bad ⟨#[113]⟩ s ?_ w hG
    have hn' : 65535 < n := Int.not_le.1 hn
    intro W hW
    rcases hT with ⟨h1, h2, hI⟩ | ⟨t, h1, h2, hI⟩ | ⟨t, h1, h2, h3, hI⟩
    · exact bad_113_10 s s n h1 h2 rfl hI hn0 hn' W hW
    · exact bad_113_16 s t n h1 h2 hI hn0 hn' W hW
    · exact bad_113_8 s t n h1 h2 h3 hI hn0 hn' W hW
set_option maxHeartbeats 1000000 in
theorem bounds_113 (w : World) : Calls Tryz.prog 8 #[.int .u8 113] w fun e w' => e = .returned (.tuple #[.int .i64 (0), .int .u64 65535]) ∧ w = w' := by
  go_enter Tryz.func8, Tryz.ntmps8
  go_wp2
  go_ret2
  exact ⟨rfl, rfl⟩

theorem vt_105 (s : ByteArray) (n : Int) (hT : TextOf s n) (hn0 : 0 ≤ n) (w : World) (hG : Glob w) :
    Calls Tryz.prog 5 #[.string s, .string ⟨#[105]⟩] w fun e w' => e = .returned (if n ≤ 2147483647 then .tuple #[num 105 n, .bool true] else .tuple #[num 0 0, .bool false]) ∧ Below w.heap.size w w' := by
  by_cases hn : n ≤ 2147483647
  · rw [if_pos hn]
    refine vt_ok ⟨#[105]⟩ s 21 .i32 105 n ?_ (fun W => doorOut_105.calls n hn0 hn W) w hG
    intro W hW
    rcases hT with ⟨h1, h2, hI⟩ | ⟨t, h1, h2, hI⟩ | ⟨t, h1, h2, h3, hI⟩
    · exact ok_105_10 s s n h1 h2 rfl hI hn0 hn W hW
    · exact ok_105_16 s t n h1 h2 hI hn0 hn W hW
    · exact ok_105_8 s t n h1 h2 h3 hI hn0 hn W hW
  · rw [if_neg hn]
    refine vt_bad ⟨#[105]⟩ s ?_ w hG
    have hn' : 2147483647 < n := Int.not_le.1 hn
    intro W hW
    rcases hT with ⟨h1, h2, hI⟩ | ⟨t, h1, h2, hI⟩ | ⟨t, h1, h2, h3, hI⟩
    · exact bad_105_10 s s n h1 h2 rfl hI hn0 hn' W hW
    · exact bad_105_16 s t n h1 h2 hI hn0 hn' W hW
    · exact bad_105_8 s t n h1 h2 h3 hI hn0 hn' W hW
set_option maxHeartbeats 1000000 in
theorem bounds_105 (w : World) : Calls Tryz.prog 8 #[.int .u8 105] w fun e w' => e = .returned (.tuple #[.int .i64 (-2147483648), .int .u64 2147483647]) ∧ w = w' := by
  go_enter Tryz.func8, Tryz.ntmps8
  go_wp2
  go_ret2
  exact ⟨rfl, rfl⟩

theorem vt_117 (s : ByteArray) (n : Int) (hT : TextOf s n) (hn0 : 0 ≤ n) (w : World) (hG : Glob w) :
    Calls Tryz.prog 5 #[.string s, .string ⟨#[117]⟩] w fun e w' => e = .returned (if n ≤ 4294967295 then .tuple #[num 117 n, .bool true] else .tuple #[num 0 0, .bool false]) ∧ Below w.heap.size w w' := by
  by_cases hn : n ≤ 4294967295
  · rw [if_pos hn]
    refine vt_ok ⟨#[117]⟩ s 58 .u32 117 n ?_ (fun W => doorOut_117.calls n hn0 hn W) w hG
    intro W hW
    rcases hT with ⟨h1, h2, hI⟩ | ⟨t, h1, h2, hI⟩ | ⟨t, h1, h2, h3, hI⟩
    · exact ok_117_10 s s n h1 h2 rfl hI hn0 hn W hW
    · exact ok_117_16 s t n h1 h2 hI hn0 hn W hW
    · exact ok_117_8 s t n h1 h2 h3 hI hn0 hn W hW
  · rw [if_neg hn]
    refine vt_bad ⟨#[117]⟩ s ?_ w hG
    have hn' : 4294967295 < n := Int.not_le.1 hn
    intro W hW
    rcases hT with ⟨h1, h2, hI⟩ | ⟨t, h1, h2, hI⟩ | ⟨t, h1, h2, h3, hI⟩
    · exact bad_117_10 s s n h1 h2 rfl hI hn0 hn' W hW
    · exact bad_117_16 s t n h1 h2 hI hn0 hn' W hW
    · exact bad_117_8 s t n h1 h2 h3 hI hn0 hn' W hW
set_option maxHeartbeats 1000000 in
theorem bounds_117 (w : World) : Calls Tryz.prog 8 #[.int .u8 117] w fun e w' => e = .returned (.tuple #[.int .i64 (0), .int .u64 4294967295]) ∧ w = w' := by
  go_enter Tryz.func8, Tryz.ntmps8
  go_wp2
  go_ret2
  exact ⟨rfl, rfl⟩

theorem vt_120 (s : ByteArray) (n : Int) (hT : TextOf s n) (hn0 : 0 ≤ n) (w : World) (hG : Glob w) :
    Calls Tryz.prog 5 #[.string s, .string ⟨#[120]⟩] w fun e w' => e = .returned (if n ≤ 9223372036854775807 then .tuple #[num 120 n, .bool true] else .tuple #[num 0 0, .bool false]) ∧ Below w.heap.size w w' := by
  by_cases hn : n ≤ 9223372036854775807
  · rw [if_pos hn]
    refine vt_ok ⟨#[120]⟩ s 2 .i64 120 n ?_ (fun W => doorOut_120.calls n hn0 hn W) w hG
    intro W hW
    rcases hT with ⟨h1, h2, hI⟩ | ⟨t, h1, h2, hI⟩ | ⟨t, h1, h2, h3, hI⟩
    · exact ok_120_10 s s n h1 h2 rfl hI hn0 hn W hW
    · exact ok_120_16 s t n h1 h2 hI hn0 hn W hW
    · exact ok_120_8 s t n h1 h2 h3 hI hn0 hn W hW
  · rw [if_neg hn]
    refine vt_bad ⟨#[120]⟩ s ?_ w hG
    have hn' : 9223372036854775807 < n := Int.not_le.1 hn
    intro W hW
    rcases hT with ⟨h1, h2, hI⟩ | ⟨t, h1, h2, hI⟩ | ⟨t, h1, h2, h3, hI⟩
    · exact bad_120_10 s s n h1 h2 rfl hI hn0 hn' W hW
    · exact bad_120_16 s t n h1 h2 hI hn0 hn' W hW
    · exact bad_120_8 s t n h1 h2 h3 hI hn0 hn' W hW
set_option maxHeartbeats 1000000 in
theorem bounds_120 (w : World) : Calls Tryz.prog 8 #[.int .u8 120] w fun e w' => e = .returned (.tuple #[.int .i64 (-9223372036854775808), .int .u64 9223372036854775807]) ∧ w = w' := by
  go_enter Tryz.func8, Tryz.ntmps8
  go_wp2
  go_ret2
  exact ⟨rfl, rfl⟩

theorem vt_116 (s : ByteArray) (n : Int) (hT : TextOf s n) (hn0 : 0 ≤ n) (w : World) (hG : Glob w) :
    Calls Tryz.prog 5 #[.string s, .string ⟨#[116]⟩] w fun e w' => e = .returned (if n ≤ 18446744073709551615 then .tuple #[num 116 n, .bool true] else .tuple #[num 0 0, .bool false]) ∧ Below w.heap.size w w' := by
  by_cases hn : n ≤ 18446744073709551615
  · rw [if_pos hn]
    refine vt_ok ⟨#[116]⟩ s 22 .u64 116 n ?_ (fun W => doorOut_116.calls n hn0 hn W) w hG
    intro W hW
    rcases hT with ⟨h1, h2, hI⟩ | ⟨t, h1, h2, hI⟩ | ⟨t, h1, h2, h3, hI⟩
    · exact ok_116_10 s s n h1 h2 rfl hI hn0 hn W hW
    · exact ok_116_16 s t n h1 h2 hI hn0 hn W hW
    · exact ok_116_8 s t n h1 h2 h3 hI hn0 hn W hW
  · rw [if_neg hn]
    refine vt_bad ⟨#[116]⟩ s ?_ w hG
    have hn' : 18446744073709551615 < n := Int.not_le.1 hn
    intro W hW
    rcases hT with ⟨h1, h2, hI⟩ | ⟨t, h1, h2, hI⟩ | ⟨t, h1, h2, h3, hI⟩
    · exact bad_116_10 s s n h1 h2 rfl hI hn0 hn' W hW
    · exact bad_116_16 s t n h1 h2 hI hn0 hn' W hW
    · exact bad_116_8 s t n h1 h2 h3 hI hn0 hn' W hW
set_option maxHeartbeats 1000000 in
theorem bounds_116 (w : World) : Calls Tryz.prog 8 #[.int .u8 116] w fun e w' => e = .returned (.tuple #[.int .i64 (0), .int .u64 18446744073709551615]) ∧ w = w' := by
  go_enter Tryz.func8, Tryz.ntmps8
  go_wp2
  go_ret2
  exact ⟨rfl, rfl⟩
end Go.Proofs.YthjbopjclkbhfaaGreatDoor.Given
