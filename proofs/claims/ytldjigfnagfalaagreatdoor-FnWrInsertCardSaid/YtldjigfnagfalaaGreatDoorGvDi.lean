/- The nine kinds of numbers: doorType and doorIn of each, and how each is encoded. -/
import Derived.Test.YtldjigfnagfalaaGreatDoorGvEa
namespace Go.Proofs.YtldjigfnagfalaaGreatDoor.Given
open Go.RowKit Go.Proofs.YtldjigfnagfalaaGreatDoorW.PrintWords
set_option linter.unusedVariables false
inductive NK where
  | y
  | n
  | q
  | i
  | u
  | x
  | t
  | d
  | h
/-- The letter. -/
def NK.code : NK → UInt8
  | .y => 121
  | .n => 110
  | .q => 113
  | .i => 105
  | .u => 117
  | .x => 120
  | .t => 116
  | .d => 100
  | .h => 104
def NK.size : NK → Nat
  | .y => 1
  | .n => 2
  | .q => 2
  | .i => 4
  | .u => 4
  | .x => 8
  | .t => 8
  | .d => 8
  | .h => 4
/-- Where the first element stands. -/
def NK.head : NK → Int
  | .y => 4
  | .n => 4
  | .q => 4
  | .i => 4
  | .u => 4
  | .x => 8
  | .t => 8
  | .d => 8
  | .h => 4
/-- The value that doorIn makes of 64 bits. -/
def NK.val : NK → Nat → Value
  | .y, v => .iface 5 (.int .u8 (IntKind.u8.wrap v))
  | .n, v => .iface 64 (.int .i16 (IntKind.i16.wrap v))
  | .q, v => .iface 131 (.int .u16 (IntKind.u16.wrap v))
  | .i, v => .iface 21 (.int .i32 (IntKind.i32.wrap v))
  | .u, v => .iface 36 (.int .u32 (IntKind.u32.wrap v))
  | .x, v => .iface 2 (.int .i64 (IntKind.i64.wrap v))
  | .t, v => .iface 23 (.int .u64 v)
  | .d, v => .iface 132 (.float .f64 v)
  | .h, v => .iface 156 (.int .u32 (IntKind.u32.wrap v))
def NK.bytes (big : Bool) : NK → Nat → List UInt8
  | .y, v => [UInt8.ofNat (v % 256)]
  | .n, v => if big then Lib.beBytes 2 (v % 65536) else Lib.leBytes 2 (v % 65536)
  | .q, v => if big then Lib.beBytes 2 (v % 65536) else Lib.leBytes 2 (v % 65536)
  | .i, v => if big then Lib.beBytes 4 (v % 4294967296) else Lib.leBytes 4 (v % 4294967296)
  | .u, v => if big then Lib.beBytes 4 (v % 4294967296) else Lib.leBytes 4 (v % 4294967296)
  | .x, v => if big then Lib.beBytes 8 (v % 18446744073709551616) else Lib.leBytes 8 (v % 18446744073709551616)
  | .t, v => if big then Lib.beBytes 8 (v % 18446744073709551616) else Lib.leBytes 8 (v % 18446744073709551616)
  | .d, v => if big then Lib.beBytes 8 (v % 18446744073709551616) else Lib.leBytes 8 (v % 18446744073709551616)
  | .h, v => if big then Lib.beBytes 4 (v % 4294967296) else Lib.leBytes 4 (v % 4294967296)
theorem NK.places (k : NK) : ((k.size : Int) = 8 ∧ k.head = 8) ∨ (((k.size : Int) = 1 ∨ (k.size : Int) = 2 ∨ (k.size : Int) = 4) ∧ k.head = 4) := by cases k <;> simp [NK.size, NK.head]
theorem NK.aligned (k : NK) (w : World) : Calls Tryz.prog 42 #[.string ⟨#[k.code]⟩] w fun r w' => r = .returned (.int .i64 (k.size : Int)) ∧ w = w' := by
  cases k
  · exact align_121 w
  · exact align_110 w
  · exact align_113 w
  · exact align_105 w
  · exact align_117 w
  · exact align_120 w
  · exact align_116 w
  · exact align_100 w
  · exact align_104 w
theorem NK.bytes_length (big : Bool) (k : NK) (v : Nat) : (k.bytes big v).length = k.size := by
  cases k <;> simp only [NK.bytes, NK.size] <;> first | rfl | (split <;> first | exact Lib.beBytes_length _ _ | exact Lib.leBytes_length _ _)
theorem NK.iface (k : NK) (v : Nat) : ∃ T x, k.val v = .iface T x := by cases k <;> exact ⟨_, _, rfl⟩
theorem NK.one (k : NK) (v : Nat) : (k.val v).oneCell' = true := by cases k <;> rfl
theorem encs_y (big : Bool) (v : Nat) (hv : v < 18446744073709551616) : Encs 121 (NK.y.val v) 1 (ordOf big) (NK.y.bytes big v) := by
  have e : IntKind.u8.wrap (v : Int) = ((v % 256 : Nat) : Int) := by unfold IntKind.wrap; simp [IntKind.signed, IntKind.bits]
  show Encs 121 (.iface 5 (.int .u8 (IntKind.u8.wrap v))) 1 (ordOf big) [UInt8.ofNat (v % 256)]
  rw [e]
  exact encs_121 (v % 256) (by omega) _
theorem encs_n (big : Bool) (v : Nat) (hv : v < 18446744073709551616) : Encs 110 (NK.n.val v) 2 (ordOf big) (NK.n.bytes big v) := by
  have e : IntKind.u16.wrap (IntKind.i16.wrap (v : Int)) = ((v % 65536 : Nat) : Int) := by unfold IntKind.wrap; simp [IntKind.signed, IntKind.bits]; omega
  have e1 : -32768 ≤ IntKind.i16.wrap (v : Int) := by unfold IntKind.wrap; simp [IntKind.signed, IntKind.bits]; omega
  have e2 : IntKind.i16.wrap (v : Int) < 32768 := by unfold IntKind.wrap; simp [IntKind.signed, IntKind.bits]; omega
  show Encs 110 (.iface 64 (.int .i16 (IntKind.i16.wrap v))) 2 (ordOf big) (if big then Lib.beBytes 2 (v % 65536) else Lib.leBytes 2 (v % 65536))
  cases big
  · exact encs_110_le (v % 65536) (by omega) _ e e1 e2
  · exact encs_110_be (v % 65536) (by omega) _ e e1 e2
theorem encs_q (big : Bool) (v : Nat) (hv : v < 18446744073709551616) : Encs 113 (NK.q.val v) 2 (ordOf big) (NK.q.bytes big v) := by
  have e : IntKind.u16.wrap (v : Int) = ((v % 65536 : Nat) : Int) := by unfold IntKind.wrap; simp [IntKind.signed, IntKind.bits]
  show Encs 113 (.iface 131 (.int .u16 (IntKind.u16.wrap v))) 2 (ordOf big) (if big then Lib.beBytes 2 (v % 65536) else Lib.leBytes 2 (v % 65536))
  rw [e]
  cases big
  · exact encs_113_le (v % 65536) (by omega)
  · exact encs_113_be (v % 65536) (by omega)
theorem encs_i (big : Bool) (v : Nat) (hv : v < 18446744073709551616) : Encs 105 (NK.i.val v) 4 (ordOf big) (NK.i.bytes big v) := by
  have e : IntKind.u32.wrap (IntKind.i32.wrap (v : Int)) = ((v % 4294967296 : Nat) : Int) := by unfold IntKind.wrap; simp [IntKind.signed, IntKind.bits]; omega
  have e1 : -2147483648 ≤ IntKind.i32.wrap (v : Int) := by unfold IntKind.wrap; simp [IntKind.signed, IntKind.bits]; omega
  have e2 : IntKind.i32.wrap (v : Int) < 2147483648 := by unfold IntKind.wrap; simp [IntKind.signed, IntKind.bits]; omega
  show Encs 105 (.iface 21 (.int .i32 (IntKind.i32.wrap v))) 4 (ordOf big) (if big then Lib.beBytes 4 (v % 4294967296) else Lib.leBytes 4 (v % 4294967296))
  cases big
  · exact encs_105_le (v % 4294967296) (by omega) _ e e1 e2
  · exact encs_105_be (v % 4294967296) (by omega) _ e e1 e2
theorem encs_u (big : Bool) (v : Nat) (hv : v < 18446744073709551616) : Encs 117 (NK.u.val v) 4 (ordOf big) (NK.u.bytes big v) := by
  have e : IntKind.u32.wrap (v : Int) = ((v % 4294967296 : Nat) : Int) := by unfold IntKind.wrap; simp [IntKind.signed, IntKind.bits]
  show Encs 117 (.iface 36 (.int .u32 (IntKind.u32.wrap v))) 4 (ordOf big) (if big then Lib.beBytes 4 (v % 4294967296) else Lib.leBytes 4 (v % 4294967296))
  rw [e]
  cases big
  · exact encs_117_le (v % 4294967296) (by omega)
  · exact encs_117_be (v % 4294967296) (by omega)
theorem encs_x (big : Bool) (v : Nat) (hv : v < 18446744073709551616) : Encs 120 (NK.x.val v) 8 (ordOf big) (NK.x.bytes big v) := by
  have e : IntKind.u64.wrap (IntKind.i64.wrap (v : Int)) = ((v % 18446744073709551616 : Nat) : Int) := by unfold IntKind.wrap; simp [IntKind.signed, IntKind.bits]; omega
  have e1 : -9223372036854775808 ≤ IntKind.i64.wrap (v : Int) := by unfold IntKind.wrap; simp [IntKind.signed, IntKind.bits]; omega
  have e2 : IntKind.i64.wrap (v : Int) < 9223372036854775808 := by unfold IntKind.wrap; simp [IntKind.signed, IntKind.bits]; omega
  show Encs 120 (.iface 2 (.int .i64 (IntKind.i64.wrap v))) 8 (ordOf big) (if big then Lib.beBytes 8 (v % 18446744073709551616) else Lib.leBytes 8 (v % 18446744073709551616))
  cases big
  · exact encs_120_le (v % 18446744073709551616) (by omega) _ e e1 e2
  · exact encs_120_be (v % 18446744073709551616) (by omega) _ e e1 e2
theorem encs_t (big : Bool) (v : Nat) (hv : v < 18446744073709551616) : Encs 116 (NK.t.val v) 8 (ordOf big) (NK.t.bytes big v) := by
  show Encs 116 (.iface 23 (.int .u64 v)) 8 (ordOf big) (if big then Lib.beBytes 8 (v % 18446744073709551616) else Lib.leBytes 8 (v % 18446744073709551616))
  rw [Nat.mod_eq_of_lt hv]
  cases big
  · exact encs_116_le v hv
  · exact encs_116_be v hv
theorem encs_d (big : Bool) (v : Nat) (hv : v < 18446744073709551616) : Encs 100 (NK.d.val v) 8 (ordOf big) (NK.d.bytes big v) := by
  show Encs 100 (.iface 132 (.float .f64 v)) 8 (ordOf big) (if big then Lib.beBytes 8 (v % 18446744073709551616) else Lib.leBytes 8 (v % 18446744073709551616))
  rw [Nat.mod_eq_of_lt hv]
  cases big
  · exact encs_100_le v hv
  · exact encs_100_be v hv
theorem encs_h (big : Bool) (v : Nat) (hv : v < 18446744073709551616) : Encs 104 (NK.h.val v) 4 (ordOf big) (NK.h.bytes big v) := by
  have e : IntKind.u32.wrap (v : Int) = ((v % 4294967296 : Nat) : Int) := by unfold IntKind.wrap; simp [IntKind.signed, IntKind.bits]
  show Encs 104 (.iface 156 (.int .u32 (IntKind.u32.wrap v))) 4 (ordOf big) (if big then Lib.beBytes 4 (v % 4294967296) else Lib.leBytes 4 (v % 4294967296))
  rw [e]
  cases big
  · exact encs_104_le (v % 4294967296) (by omega)
  · exact encs_104_be (v % 4294967296) (by omega)
theorem NK.encs (big : Bool) (k : NK) (v : Nat) (hv : v < 18446744073709551616) : Encs k.code (k.val v) (k.size : Int) (ordOf big) (k.bytes big v) := by
  cases k
  · exact encs_y big v hv
  · exact encs_n big v hv
  · exact encs_q big v hv
  · exact encs_i big v hv
  · exact encs_u big v hv
  · exact encs_x big v hv
  · exact encs_t big v hv
  · exact encs_d big v hv
  · exact encs_h big v hv
theorem cf71 (v : Nat) (W : World) : (callFunc 71 #[.int .u64 v]).run Tryz.prog W = .ok (.value (.float .f64 v)) W := by kernel_rfl
attribute [local go_sem] cf71
set_option maxHeartbeats 4000000 in
set_option maxRecDepth 100000 in
theorem doorType_y (w : World) : Calls Tryz.prog 73 #[.string ⟨#[121]⟩] w fun e w' => e = .returned (.string ⟨#[121]⟩) ∧ w = w' := by
  go_enter Tryz.func73, Tryz.ntmps73
  go_wp2
  go_ret
  exact ⟨rfl, rfl⟩
set_option maxHeartbeats 4000000 in
set_option maxRecDepth 100000 in
theorem doorIn_y (v : Nat) (hv : v < 18446744073709551616) (s : ByteArray) (a : Option Addr) (l k : Nat) (w : World) : Calls Tryz.prog 38 #[.agg #[.int .u8 121, .int .u64 v, .string s, .slice a l k]] w fun e w' => e = .returned (NK.y.val v) ∧ Below w.heap.size w w' := by
  go_enter Tryz.func38, Tryz.ntmps38
  go_wp2
  go_ret
  exact ⟨by first | rfl | (simp [NK.val]; done) | (simp [NK.val, IntKind.wrap, IntKind.signed, IntKind.bits]; done) | (simp [NK.val, IntKind.wrap, IntKind.signed, IntKind.bits]; unfold wrap32; omega) | (simp [NK.val, IntKind.wrap, IntKind.signed, IntKind.bits]; unfold wrap64; omega), (Below.refl _ _).alloc (Nat.le_refl _) _⟩
set_option maxHeartbeats 4000000 in
set_option maxRecDepth 100000 in
theorem doorType_n (w : World) : Calls Tryz.prog 73 #[.string ⟨#[110]⟩] w fun e w' => e = .returned (.string ⟨#[110]⟩) ∧ w = w' := by
  go_enter Tryz.func73, Tryz.ntmps73
  go_wp2
  go_ret
  exact ⟨rfl, rfl⟩
set_option maxHeartbeats 4000000 in
set_option maxRecDepth 100000 in
theorem doorIn_n (v : Nat) (hv : v < 18446744073709551616) (s : ByteArray) (a : Option Addr) (l k : Nat) (w : World) : Calls Tryz.prog 38 #[.agg #[.int .u8 110, .int .u64 v, .string s, .slice a l k]] w fun e w' => e = .returned (NK.n.val v) ∧ Below w.heap.size w w' := by
  go_enter Tryz.func38, Tryz.ntmps38
  go_wp2
  go_ret
  exact ⟨by first | rfl | (simp [NK.val]; done) | (simp [NK.val, IntKind.wrap, IntKind.signed, IntKind.bits]; done) | (simp [NK.val, IntKind.wrap, IntKind.signed, IntKind.bits]; unfold wrap32; omega) | (simp [NK.val, IntKind.wrap, IntKind.signed, IntKind.bits]; unfold wrap64; omega), (Below.refl _ _).alloc (Nat.le_refl _) _⟩
set_option maxHeartbeats 4000000 in
set_option maxRecDepth 100000 in
theorem doorType_q (w : World) : Calls Tryz.prog 73 #[.string ⟨#[113]⟩] w fun e w' => e = .returned (.string ⟨#[113]⟩) ∧ w = w' := by
  go_enter Tryz.func73, Tryz.ntmps73
  go_wp2
  go_ret
  exact ⟨rfl, rfl⟩
set_option maxHeartbeats 4000000 in
set_option maxRecDepth 100000 in
theorem doorIn_q (v : Nat) (hv : v < 18446744073709551616) (s : ByteArray) (a : Option Addr) (l k : Nat) (w : World) : Calls Tryz.prog 38 #[.agg #[.int .u8 113, .int .u64 v, .string s, .slice a l k]] w fun e w' => e = .returned (NK.q.val v) ∧ Below w.heap.size w w' := by
  go_enter Tryz.func38, Tryz.ntmps38
  go_wp2
  go_ret
  exact ⟨by first | rfl | (simp [NK.val]; done) | (simp [NK.val, IntKind.wrap, IntKind.signed, IntKind.bits]; done) | (simp [NK.val, IntKind.wrap, IntKind.signed, IntKind.bits]; unfold wrap32; omega) | (simp [NK.val, IntKind.wrap, IntKind.signed, IntKind.bits]; unfold wrap64; omega), (Below.refl _ _).alloc (Nat.le_refl _) _⟩
set_option maxHeartbeats 4000000 in
set_option maxRecDepth 100000 in
theorem doorType_i (w : World) : Calls Tryz.prog 73 #[.string ⟨#[105]⟩] w fun e w' => e = .returned (.string ⟨#[105]⟩) ∧ w = w' := by
  go_enter Tryz.func73, Tryz.ntmps73
  go_wp2
  go_ret
  exact ⟨rfl, rfl⟩
set_option maxHeartbeats 4000000 in
set_option maxRecDepth 100000 in
theorem doorIn_i (v : Nat) (hv : v < 18446744073709551616) (s : ByteArray) (a : Option Addr) (l k : Nat) (w : World) : Calls Tryz.prog 38 #[.agg #[.int .u8 105, .int .u64 v, .string s, .slice a l k]] w fun e w' => e = .returned (NK.i.val v) ∧ Below w.heap.size w w' := by
  go_enter Tryz.func38, Tryz.ntmps38
  go_wp2
  go_ret
  exact ⟨by first | rfl | (simp [NK.val]; done) | (simp [NK.val, IntKind.wrap, IntKind.signed, IntKind.bits]; done) | (simp [NK.val, IntKind.wrap, IntKind.signed, IntKind.bits]; unfold wrap32; omega) | (simp [NK.val, IntKind.wrap, IntKind.signed, IntKind.bits]; unfold wrap64; omega), (Below.refl _ _).alloc (Nat.le_refl _) _⟩
set_option maxHeartbeats 4000000 in
set_option maxRecDepth 100000 in
theorem doorType_u (w : World) : Calls Tryz.prog 73 #[.string ⟨#[117]⟩] w fun e w' => e = .returned (.string ⟨#[117]⟩) ∧ w = w' := by
  go_enter Tryz.func73, Tryz.ntmps73
  go_wp2
  go_ret
  exact ⟨rfl, rfl⟩
set_option maxHeartbeats 4000000 in
set_option maxRecDepth 100000 in
theorem doorIn_u (v : Nat) (hv : v < 18446744073709551616) (s : ByteArray) (a : Option Addr) (l k : Nat) (w : World) : Calls Tryz.prog 38 #[.agg #[.int .u8 117, .int .u64 v, .string s, .slice a l k]] w fun e w' => e = .returned (NK.u.val v) ∧ Below w.heap.size w w' := by
  go_enter Tryz.func38, Tryz.ntmps38
  go_wp2
  go_ret
  exact ⟨by first | rfl | (simp [NK.val]; done) | (simp [NK.val, IntKind.wrap, IntKind.signed, IntKind.bits]; done) | (simp [NK.val, IntKind.wrap, IntKind.signed, IntKind.bits]; unfold wrap32; omega) | (simp [NK.val, IntKind.wrap, IntKind.signed, IntKind.bits]; unfold wrap64; omega), (Below.refl _ _).alloc (Nat.le_refl _) _⟩
set_option maxHeartbeats 4000000 in
set_option maxRecDepth 100000 in
theorem doorType_x (w : World) : Calls Tryz.prog 73 #[.string ⟨#[120]⟩] w fun e w' => e = .returned (.string ⟨#[120]⟩) ∧ w = w' := by
  go_enter Tryz.func73, Tryz.ntmps73
  go_wp2
  go_ret
  exact ⟨rfl, rfl⟩
set_option maxHeartbeats 4000000 in
set_option maxRecDepth 100000 in
theorem doorIn_x (v : Nat) (hv : v < 18446744073709551616) (s : ByteArray) (a : Option Addr) (l k : Nat) (w : World) : Calls Tryz.prog 38 #[.agg #[.int .u8 120, .int .u64 v, .string s, .slice a l k]] w fun e w' => e = .returned (NK.x.val v) ∧ Below w.heap.size w w' := by
  go_enter Tryz.func38, Tryz.ntmps38
  go_wp2
  go_ret
  exact ⟨by first | rfl | (simp [NK.val]; done) | (simp [NK.val, IntKind.wrap, IntKind.signed, IntKind.bits]; done) | (simp [NK.val, IntKind.wrap, IntKind.signed, IntKind.bits]; unfold wrap32; omega) | (simp [NK.val, IntKind.wrap, IntKind.signed, IntKind.bits]; unfold wrap64; omega), (Below.refl _ _).alloc (Nat.le_refl _) _⟩
set_option maxHeartbeats 4000000 in
set_option maxRecDepth 100000 in
theorem doorType_t (w : World) : Calls Tryz.prog 73 #[.string ⟨#[116]⟩] w fun e w' => e = .returned (.string ⟨#[116]⟩) ∧ w = w' := by
  go_enter Tryz.func73, Tryz.ntmps73
  go_wp2
  go_ret
  exact ⟨rfl, rfl⟩
set_option maxHeartbeats 4000000 in
set_option maxRecDepth 100000 in
theorem doorIn_t (v : Nat) (hv : v < 18446744073709551616) (s : ByteArray) (a : Option Addr) (l k : Nat) (w : World) : Calls Tryz.prog 38 #[.agg #[.int .u8 116, .int .u64 v, .string s, .slice a l k]] w fun e w' => e = .returned (NK.t.val v) ∧ Below w.heap.size w w' := by
  go_enter Tryz.func38, Tryz.ntmps38
  go_wp2
  go_ret
  exact ⟨by first | rfl | (simp [NK.val]; done) | (simp [NK.val, IntKind.wrap, IntKind.signed, IntKind.bits]; done) | (simp [NK.val, IntKind.wrap, IntKind.signed, IntKind.bits]; unfold wrap32; omega) | (simp [NK.val, IntKind.wrap, IntKind.signed, IntKind.bits]; unfold wrap64; omega), (Below.refl _ _).alloc (Nat.le_refl _) _⟩
set_option maxHeartbeats 4000000 in
set_option maxRecDepth 100000 in
theorem doorType_d (w : World) : Calls Tryz.prog 73 #[.string ⟨#[100]⟩] w fun e w' => e = .returned (.string ⟨#[100]⟩) ∧ w = w' := by
  go_enter Tryz.func73, Tryz.ntmps73
  go_wp2
  go_ret
  exact ⟨rfl, rfl⟩
set_option maxHeartbeats 4000000 in
set_option maxRecDepth 100000 in
theorem doorIn_d (v : Nat) (hv : v < 18446744073709551616) (s : ByteArray) (a : Option Addr) (l k : Nat) (w : World) : Calls Tryz.prog 38 #[.agg #[.int .u8 100, .int .u64 v, .string s, .slice a l k]] w fun e w' => e = .returned (NK.d.val v) ∧ Below w.heap.size w w' := by
  go_enter Tryz.func38, Tryz.ntmps38
  go_wp2
  go_ret
  exact ⟨by first | rfl | (simp [NK.val]; done) | (simp [NK.val, IntKind.wrap, IntKind.signed, IntKind.bits]; done) | (simp [NK.val, IntKind.wrap, IntKind.signed, IntKind.bits]; unfold wrap32; omega) | (simp [NK.val, IntKind.wrap, IntKind.signed, IntKind.bits]; unfold wrap64; omega), (Below.refl _ _).alloc (Nat.le_refl _) _⟩
set_option maxHeartbeats 4000000 in
set_option maxRecDepth 100000 in
theorem doorType_h (w : World) : Calls Tryz.prog 73 #[.string ⟨#[104]⟩] w fun e w' => e = .returned (.string ⟨#[104]⟩) ∧ w = w' := by
  go_enter Tryz.func73, Tryz.ntmps73
  go_wp2
  go_ret
  exact ⟨rfl, rfl⟩
set_option maxHeartbeats 4000000 in
set_option maxRecDepth 100000 in
theorem doorIn_h (v : Nat) (hv : v < 18446744073709551616) (s : ByteArray) (a : Option Addr) (l k : Nat) (w : World) : Calls Tryz.prog 38 #[.agg #[.int .u8 104, .int .u64 v, .string s, .slice a l k]] w fun e w' => e = .returned (NK.h.val v) ∧ Below w.heap.size w w' := by
  go_enter Tryz.func38, Tryz.ntmps38
  go_wp2
  go_ret
  exact ⟨by first | rfl | (simp [NK.val]; done) | (simp [NK.val, IntKind.wrap, IntKind.signed, IntKind.bits]; done) | (simp [NK.val, IntKind.wrap, IntKind.signed, IntKind.bits]; unfold wrap32; omega) | (simp [NK.val, IntKind.wrap, IntKind.signed, IntKind.bits]; unfold wrap64; omega), (Below.refl _ _).alloc (Nat.le_refl _) _⟩
theorem NK.doorType (k : NK) (w : World) : Calls Tryz.prog 73 #[.string ⟨#[k.code]⟩] w fun e w' => e = .returned (.string ⟨#[k.code]⟩) ∧ w = w' := by
  cases k
  · exact doorType_y w
  · exact doorType_n w
  · exact doorType_q w
  · exact doorType_i w
  · exact doorType_u w
  · exact doorType_x w
  · exact doorType_t w
  · exact doorType_d w
  · exact doorType_h w
theorem NK.doorIn (k : NK) (v : Nat) (hv : v < 18446744073709551616) (s : ByteArray) (a : Option Addr) (l m : Nat) (w : World) : Calls Tryz.prog 38 #[.agg #[.int .u8 (k.code.toNat : Int), .int .u64 v, .string s, .slice a l m]] w fun e w' => e = .returned (k.val v) ∧ Below w.heap.size w w' := by
  cases k
  · exact doorIn_y v hv s a l m w
  · exact doorIn_n v hv s a l m w
  · exact doorIn_q v hv s a l m w
  · exact doorIn_i v hv s a l m w
  · exact doorIn_u v hv s a l m w
  · exact doorIn_x v hv s a l m w
  · exact doorIn_t v hv s a l m w
  · exact doorIn_d v hv s a l m w
  · exact doorIn_h v hv s a l m w
end Go.Proofs.YtldjigfnagfalaaGreatDoor.Given
