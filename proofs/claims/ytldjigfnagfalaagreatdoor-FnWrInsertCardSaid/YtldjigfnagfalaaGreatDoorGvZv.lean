/- zzTypeOf, zzValueOf and the methods of zzValue, of numbers. -/
import Derived.Test.YtldjigfnagfalaaGreatDoorGvAs
import Derived.LoopTactic
import Derived.Deep.QuietTactic
import Derived.BigQuiet
import Derived.Deep.RegionWith
namespace Go.Proofs.YtldjigfnagfalaaGreatDoor.Given
open Go.RowKit Go.Proofs.YtldjigfnagfalaaGreatDoorW.PrintWords
set_option linter.unusedVariables false
theorem bcell {W w1 : World} (hb : Below W.heap.size W w1) : (∀ b o, b < W.heap.size → w1.cell? ⟨b, o, none⟩ = W.cell? ⟨b, o, none⟩) ∧ (∀ b o, b < W.heap.size → w1.frozen? ⟨b, o, none⟩ = W.frozen? ⟨b, o, none⟩) :=
  ⟨fun b o h => hb.cell (p := ⟨b, o, none⟩) h, fun b o h => hb.frozen (p := ⟨b, o, none⟩) h⟩
theorem below_step {w W w' : World} (h : Below w.heap.size w W) (hb : Below W.heap.size W w') : Below w.heap.size w w' := h.trans (hb.mono h.size)
theorem below_alloc {w W : World} (h : Below w.heap.size w W) (o : Obj) : Below w.heap.size w (W.alloc o) := h.alloc h.size o
theorem below_drew {w W : World} (h : Below w.heap.size w W) : Below w.heap.size w W.drew := h.drew
theorem below_new {w w1 : World} {o : Obj} (hb : Below (w.alloc o).heap.size (w.alloc o) w1) : Below w.heap.size w w1 :=
  ((Below.refl _ _).alloc (Nat.le_refl _) _).trans (hb.mono (by simp))
attribute [local go_sem] as_5_5 as_5_105 as_5_106 as_5_115 as_5_4 as_5_64 as_5_131 as_5_21 as_5_36 as_5_2 as_5_23 as_5_132 as_5_9 as_5_135 as_5_111 as_5_113 as_5_178 as_5_156 as_5_76 as_5_24 as_5_162 as_5_186 as_5_158 as_64_5
attribute [local go_sem] as_64_105 as_64_106 as_64_115 as_64_4 as_64_64 as_64_131 as_64_21 as_64_36 as_64_2 as_64_23 as_64_132 as_64_9 as_64_135 as_64_111 as_64_113 as_64_178 as_64_156 as_64_76 as_64_24 as_64_162 as_64_186 as_64_158 as_131_5 as_131_105
attribute [local go_sem] as_131_106 as_131_115 as_131_4 as_131_64 as_131_131 as_131_21 as_131_36 as_131_2 as_131_23 as_131_132 as_131_9 as_131_135 as_131_111 as_131_113 as_131_178 as_131_156 as_131_76 as_131_24 as_131_162 as_131_186 as_131_158 as_21_5 as_21_105 as_21_106
attribute [local go_sem] as_21_115 as_21_4 as_21_64 as_21_131 as_21_21 as_21_36 as_21_2 as_21_23 as_21_132 as_21_9 as_21_135 as_21_111 as_21_113 as_21_178 as_21_156 as_21_76 as_21_24 as_21_162 as_21_186 as_21_158 as_36_5 as_36_105 as_36_106 as_36_115
attribute [local go_sem] as_36_4 as_36_64 as_36_131 as_36_21 as_36_36 as_36_2 as_36_23 as_36_132 as_36_9 as_36_135 as_36_111 as_36_113 as_36_178 as_36_156 as_36_76 as_36_24 as_36_162 as_36_186 as_36_158 as_2_5 as_2_105 as_2_106 as_2_115 as_2_4
attribute [local go_sem] as_2_64 as_2_131 as_2_21 as_2_36 as_2_2 as_2_23 as_2_132 as_2_9 as_2_135 as_2_111 as_2_113 as_2_178 as_2_156 as_2_76 as_2_24 as_2_162 as_2_186 as_2_158 as_23_5 as_23_105 as_23_106 as_23_115 as_23_4 as_23_64
attribute [local go_sem] as_23_131 as_23_21 as_23_36 as_23_2 as_23_23 as_23_132 as_23_9 as_23_135 as_23_111 as_23_113 as_23_178 as_23_156 as_23_76 as_23_24 as_23_162 as_23_186 as_23_158 as_132_5 as_132_105 as_132_106 as_132_115 as_132_4 as_132_64 as_132_131
attribute [local go_sem] as_132_21 as_132_36 as_132_2 as_132_23 as_132_132 as_132_9 as_132_135 as_132_111 as_132_113 as_132_178 as_132_156 as_132_76 as_132_24 as_132_162 as_132_186 as_132_158 as_156_5 as_156_105 as_156_106 as_156_115 as_156_4 as_156_64 as_156_131 as_156_21
attribute [local go_sem] as_156_36 as_156_2 as_156_23 as_156_132 as_156_9 as_156_135 as_156_111 as_156_113 as_156_178 as_156_156 as_156_76 as_156_24 as_156_162 as_156_186 as_156_158 as_162_5 as_162_105 as_162_106 as_162_115 as_162_4 as_162_64 as_162_131 as_162_21 as_162_36
attribute [local go_sem] as_162_2 as_162_23 as_162_132 as_162_9 as_162_135 as_162_111 as_162_113 as_162_178 as_162_156 as_162_76 as_162_24 as_162_162 as_162_186 as_162_158 ai_5 ai_64 ai_131 ai_21 ai_36 ai_2 ai_23 ai_132 ai_156 ai_162
set_option maxHeartbeats 4000000 in
theorem zType (x : Value) (s : ByteArray) (w : World) : Calls Tryz.prog 43 #[.agg #[x, .string s]] w fun e w' => e = .returned (.string s) ∧ Below w.heap.size w w' := by
  go_enter Tryz.func43, Tryz.ntmps43
  go_wp2
  go_ret
  exact ⟨rfl, (Below.refl _ _).alloc (Nat.le_refl _) _⟩

set_option maxHeartbeats 8000000 in
set_option maxRecDepth 100000 in
theorem typeOf_121 (v : Value) (w : World) : Calls Tryz.prog 70 #[.iface 5 v] w fun e w' => e = .returned (.string ⟨#[121]⟩) ∧ Below w.heap.size w w' := by
  go_enter Tryz.func70, Tryz.ntmps70
  go_wp2
  go_ret
  exact ⟨rfl, Below.refl _ _⟩
set_option maxHeartbeats 4000000 in
theorem valueOf_121 (v : Value) (w : World) : Calls Tryz.prog 37 #[.iface 5 v] w fun e w' => e = .returned (.agg #[.iface 5 v, .string ⟨#[121]⟩]) ∧ Below w.heap.size w w' := by
  go_enter Tryz.func37, Tryz.ntmps37
  go_wp2_with (go_at_call 70; refine (typeOf_121 v _).mono ?_; rintro e w1 ⟨rfl, hb⟩; obtain ⟨hc, hf⟩ := bcell hb)
  refine bodyPost_ret (v := .agg #[.iface 5 v, .string ⟨#[121]⟩]) (by simp [results, go_sem, hc]) rfl ⟨rfl, ?_⟩
  exact ((below_new hb).setCell (Nat.le_refl _) _).setCell (Nat.le_refl _) _
theorem kindOf_121 (w : World) : Calls Tryz.prog 81 #[.string ⟨#[121]⟩] w fun e w' => e = .returned (.int .i64 7) ∧ w = w' := by
  go_enter Tryz.func81, Tryz.ntmps81
  go_wp2
  go_ret
  exact ⟨rfl, rfl⟩
theorem align_121 (w : World) : Calls Tryz.prog 42 #[.string ⟨#[121]⟩] w fun e w' => e = .returned (.int .i64 1) ∧ w = w' := by
  go_enter Tryz.func42, Tryz.ntmps42
  go_wp2_with (go_at_call 81; refine (kindOf_121 _).mono ?_; rintro e w1 ⟨rfl, rfl⟩)
  go_ret
  exact ⟨rfl, rfl⟩
set_option maxHeartbeats 4000000 in
theorem zKind_121 (x : Value) (w : World) : Calls Tryz.prog 44 #[.agg #[x, .string ⟨#[121]⟩]] w fun e w' => e = .returned (.int .i64 7) ∧ Below w.heap.size w w' := by
  go_enter Tryz.func44, Tryz.ntmps44
  go_wp2_with (go_at_call 81; refine (kindOf_121 _).mono ?_; rintro e w1 ⟨rfl, rfl⟩)
  go_ret
  exact ⟨rfl, (Below.refl _ _).alloc (Nat.le_refl _) _⟩
set_option maxHeartbeats 8000000 in
set_option maxRecDepth 100000 in
theorem zNum_121 (v : Int) (h0 : 0 ≤ v) (h1 : v < 256) (w : World) : Calls Tryz.prog 45 #[.agg #[.iface 5 (.int .u8 v), .string ⟨#[121]⟩]] w fun e w' => e = .returned (.int .u64 v) ∧ Below w.heap.size w w' := by
  go_enter Tryz.func45, Tryz.ntmps45
  go_wp2
  go_ret
  exact ⟨rfl, (Below.refl _ _).alloc (Nat.le_refl _) _⟩

set_option maxHeartbeats 8000000 in
set_option maxRecDepth 100000 in
theorem typeOf_110 (v : Value) (w : World) : Calls Tryz.prog 70 #[.iface 64 v] w fun e w' => e = .returned (.string ⟨#[110]⟩) ∧ Below w.heap.size w w' := by
  go_enter Tryz.func70, Tryz.ntmps70
  go_wp2
  go_ret
  exact ⟨rfl, Below.refl _ _⟩
set_option maxHeartbeats 4000000 in
theorem valueOf_110 (v : Value) (w : World) : Calls Tryz.prog 37 #[.iface 64 v] w fun e w' => e = .returned (.agg #[.iface 64 v, .string ⟨#[110]⟩]) ∧ Below w.heap.size w w' := by
  go_enter Tryz.func37, Tryz.ntmps37
  go_wp2_with (go_at_call 70; refine (typeOf_110 v _).mono ?_; rintro e w1 ⟨rfl, hb⟩; obtain ⟨hc, hf⟩ := bcell hb)
  refine bodyPost_ret (v := .agg #[.iface 64 v, .string ⟨#[110]⟩]) (by simp [results, go_sem, hc]) rfl ⟨rfl, ?_⟩
  exact ((below_new hb).setCell (Nat.le_refl _) _).setCell (Nat.le_refl _) _
theorem kindOf_110 (w : World) : Calls Tryz.prog 81 #[.string ⟨#[110]⟩] w fun e w' => e = .returned (.int .i64 3) ∧ w = w' := by
  go_enter Tryz.func81, Tryz.ntmps81
  go_wp2
  go_ret
  exact ⟨rfl, rfl⟩
theorem align_110 (w : World) : Calls Tryz.prog 42 #[.string ⟨#[110]⟩] w fun e w' => e = .returned (.int .i64 2) ∧ w = w' := by
  go_enter Tryz.func42, Tryz.ntmps42
  go_wp2_with (go_at_call 81; refine (kindOf_110 _).mono ?_; rintro e w1 ⟨rfl, rfl⟩)
  go_ret
  exact ⟨rfl, rfl⟩
set_option maxHeartbeats 4000000 in
theorem zKind_110 (x : Value) (w : World) : Calls Tryz.prog 44 #[.agg #[x, .string ⟨#[110]⟩]] w fun e w' => e = .returned (.int .i64 3) ∧ Below w.heap.size w w' := by
  go_enter Tryz.func44, Tryz.ntmps44
  go_wp2_with (go_at_call 81; refine (kindOf_110 _).mono ?_; rintro e w1 ⟨rfl, rfl⟩)
  go_ret
  exact ⟨rfl, (Below.refl _ _).alloc (Nat.le_refl _) _⟩
set_option maxHeartbeats 8000000 in
set_option maxRecDepth 100000 in
theorem zNum_110 (v : Int) (h0 : -32768 ≤ v) (h1 : v < 32768) (w : World) : Calls Tryz.prog 48 #[.agg #[.iface 64 (.int .i16 v), .string ⟨#[110]⟩]] w fun e w' => e = .returned (.int .i64 v) ∧ Below w.heap.size w w' := by
  go_enter Tryz.func48, Tryz.ntmps48
  go_wp2
  go_ret
  exact ⟨rfl, (Below.refl _ _).alloc (Nat.le_refl _) _⟩

set_option maxHeartbeats 8000000 in
set_option maxRecDepth 100000 in
theorem typeOf_113 (v : Value) (w : World) : Calls Tryz.prog 70 #[.iface 131 v] w fun e w' => e = .returned (.string ⟨#[113]⟩) ∧ Below w.heap.size w w' := by
  go_enter Tryz.func70, Tryz.ntmps70
  go_wp2
  go_ret
  exact ⟨rfl, Below.refl _ _⟩
set_option maxHeartbeats 4000000 in
theorem valueOf_113 (v : Value) (w : World) : Calls Tryz.prog 37 #[.iface 131 v] w fun e w' => e = .returned (.agg #[.iface 131 v, .string ⟨#[113]⟩]) ∧ Below w.heap.size w w' := by
  go_enter Tryz.func37, Tryz.ntmps37
  go_wp2_with (go_at_call 70; refine (typeOf_113 v _).mono ?_; rintro e w1 ⟨rfl, hb⟩; obtain ⟨hc, hf⟩ := bcell hb)
  refine bodyPost_ret (v := .agg #[.iface 131 v, .string ⟨#[113]⟩]) (by simp [results, go_sem, hc]) rfl ⟨rfl, ?_⟩
  exact ((below_new hb).setCell (Nat.le_refl _) _).setCell (Nat.le_refl _) _
theorem kindOf_113 (w : World) : Calls Tryz.prog 81 #[.string ⟨#[113]⟩] w fun e w' => e = .returned (.int .i64 8) ∧ w = w' := by
  go_enter Tryz.func81, Tryz.ntmps81
  go_wp2
  go_ret
  exact ⟨rfl, rfl⟩
theorem align_113 (w : World) : Calls Tryz.prog 42 #[.string ⟨#[113]⟩] w fun e w' => e = .returned (.int .i64 2) ∧ w = w' := by
  go_enter Tryz.func42, Tryz.ntmps42
  go_wp2_with (go_at_call 81; refine (kindOf_113 _).mono ?_; rintro e w1 ⟨rfl, rfl⟩)
  go_ret
  exact ⟨rfl, rfl⟩
set_option maxHeartbeats 4000000 in
theorem zKind_113 (x : Value) (w : World) : Calls Tryz.prog 44 #[.agg #[x, .string ⟨#[113]⟩]] w fun e w' => e = .returned (.int .i64 8) ∧ Below w.heap.size w w' := by
  go_enter Tryz.func44, Tryz.ntmps44
  go_wp2_with (go_at_call 81; refine (kindOf_113 _).mono ?_; rintro e w1 ⟨rfl, rfl⟩)
  go_ret
  exact ⟨rfl, (Below.refl _ _).alloc (Nat.le_refl _) _⟩
set_option maxHeartbeats 8000000 in
set_option maxRecDepth 100000 in
theorem zNum_113 (v : Int) (h0 : 0 ≤ v) (h1 : v < 65536) (w : World) : Calls Tryz.prog 45 #[.agg #[.iface 131 (.int .u16 v), .string ⟨#[113]⟩]] w fun e w' => e = .returned (.int .u64 v) ∧ Below w.heap.size w w' := by
  go_enter Tryz.func45, Tryz.ntmps45
  go_wp2
  go_ret
  exact ⟨rfl, (Below.refl _ _).alloc (Nat.le_refl _) _⟩

set_option maxHeartbeats 8000000 in
set_option maxRecDepth 100000 in
theorem typeOf_105 (v : Value) (w : World) : Calls Tryz.prog 70 #[.iface 21 v] w fun e w' => e = .returned (.string ⟨#[105]⟩) ∧ Below w.heap.size w w' := by
  go_enter Tryz.func70, Tryz.ntmps70
  go_wp2
  go_ret
  exact ⟨rfl, Below.refl _ _⟩
set_option maxHeartbeats 4000000 in
theorem valueOf_105 (v : Value) (w : World) : Calls Tryz.prog 37 #[.iface 21 v] w fun e w' => e = .returned (.agg #[.iface 21 v, .string ⟨#[105]⟩]) ∧ Below w.heap.size w w' := by
  go_enter Tryz.func37, Tryz.ntmps37
  go_wp2_with (go_at_call 70; refine (typeOf_105 v _).mono ?_; rintro e w1 ⟨rfl, hb⟩; obtain ⟨hc, hf⟩ := bcell hb)
  refine bodyPost_ret (v := .agg #[.iface 21 v, .string ⟨#[105]⟩]) (by simp [results, go_sem, hc]) rfl ⟨rfl, ?_⟩
  exact ((below_new hb).setCell (Nat.le_refl _) _).setCell (Nat.le_refl _) _
theorem kindOf_105 (w : World) : Calls Tryz.prog 81 #[.string ⟨#[105]⟩] w fun e w' => e = .returned (.int .i64 4) ∧ w = w' := by
  go_enter Tryz.func81, Tryz.ntmps81
  go_wp2
  go_ret
  exact ⟨rfl, rfl⟩
theorem align_105 (w : World) : Calls Tryz.prog 42 #[.string ⟨#[105]⟩] w fun e w' => e = .returned (.int .i64 4) ∧ w = w' := by
  go_enter Tryz.func42, Tryz.ntmps42
  go_wp2_with (go_at_call 81; refine (kindOf_105 _).mono ?_; rintro e w1 ⟨rfl, rfl⟩)
  go_ret
  exact ⟨rfl, rfl⟩
set_option maxHeartbeats 4000000 in
theorem zKind_105 (x : Value) (w : World) : Calls Tryz.prog 44 #[.agg #[x, .string ⟨#[105]⟩]] w fun e w' => e = .returned (.int .i64 4) ∧ Below w.heap.size w w' := by
  go_enter Tryz.func44, Tryz.ntmps44
  go_wp2_with (go_at_call 81; refine (kindOf_105 _).mono ?_; rintro e w1 ⟨rfl, rfl⟩)
  go_ret
  exact ⟨rfl, (Below.refl _ _).alloc (Nat.le_refl _) _⟩
set_option maxHeartbeats 8000000 in
set_option maxRecDepth 100000 in
theorem zNum_105 (v : Int) (h0 : -2147483648 ≤ v) (h1 : v < 2147483648) (w : World) : Calls Tryz.prog 48 #[.agg #[.iface 21 (.int .i32 v), .string ⟨#[105]⟩]] w fun e w' => e = .returned (.int .i64 v) ∧ Below w.heap.size w w' := by
  go_enter Tryz.func48, Tryz.ntmps48
  go_wp2
  go_ret
  exact ⟨rfl, (Below.refl _ _).alloc (Nat.le_refl _) _⟩

set_option maxHeartbeats 8000000 in
set_option maxRecDepth 100000 in
theorem typeOf_117 (v : Value) (w : World) : Calls Tryz.prog 70 #[.iface 36 v] w fun e w' => e = .returned (.string ⟨#[117]⟩) ∧ Below w.heap.size w w' := by
  go_enter Tryz.func70, Tryz.ntmps70
  go_wp2
  go_ret
  exact ⟨rfl, Below.refl _ _⟩
set_option maxHeartbeats 4000000 in
theorem valueOf_117 (v : Value) (w : World) : Calls Tryz.prog 37 #[.iface 36 v] w fun e w' => e = .returned (.agg #[.iface 36 v, .string ⟨#[117]⟩]) ∧ Below w.heap.size w w' := by
  go_enter Tryz.func37, Tryz.ntmps37
  go_wp2_with (go_at_call 70; refine (typeOf_117 v _).mono ?_; rintro e w1 ⟨rfl, hb⟩; obtain ⟨hc, hf⟩ := bcell hb)
  refine bodyPost_ret (v := .agg #[.iface 36 v, .string ⟨#[117]⟩]) (by simp [results, go_sem, hc]) rfl ⟨rfl, ?_⟩
  exact ((below_new hb).setCell (Nat.le_refl _) _).setCell (Nat.le_refl _) _
theorem kindOf_117 (w : World) : Calls Tryz.prog 81 #[.string ⟨#[117]⟩] w fun e w' => e = .returned (.int .i64 9) ∧ w = w' := by
  go_enter Tryz.func81, Tryz.ntmps81
  go_wp2
  go_ret
  exact ⟨rfl, rfl⟩
theorem align_117 (w : World) : Calls Tryz.prog 42 #[.string ⟨#[117]⟩] w fun e w' => e = .returned (.int .i64 4) ∧ w = w' := by
  go_enter Tryz.func42, Tryz.ntmps42
  go_wp2_with (go_at_call 81; refine (kindOf_117 _).mono ?_; rintro e w1 ⟨rfl, rfl⟩)
  go_ret
  exact ⟨rfl, rfl⟩
set_option maxHeartbeats 4000000 in
theorem zKind_117 (x : Value) (w : World) : Calls Tryz.prog 44 #[.agg #[x, .string ⟨#[117]⟩]] w fun e w' => e = .returned (.int .i64 9) ∧ Below w.heap.size w w' := by
  go_enter Tryz.func44, Tryz.ntmps44
  go_wp2_with (go_at_call 81; refine (kindOf_117 _).mono ?_; rintro e w1 ⟨rfl, rfl⟩)
  go_ret
  exact ⟨rfl, (Below.refl _ _).alloc (Nat.le_refl _) _⟩
set_option maxHeartbeats 8000000 in
set_option maxRecDepth 100000 in
theorem zNum_117 (v : Int) (h0 : 0 ≤ v) (h1 : v < 4294967296) (w : World) : Calls Tryz.prog 45 #[.agg #[.iface 36 (.int .u32 v), .string ⟨#[117]⟩]] w fun e w' => e = .returned (.int .u64 v) ∧ Below w.heap.size w w' := by
  go_enter Tryz.func45, Tryz.ntmps45
  go_wp2
  go_ret
  exact ⟨rfl, (Below.refl _ _).alloc (Nat.le_refl _) _⟩

set_option maxHeartbeats 8000000 in
set_option maxRecDepth 100000 in
theorem typeOf_120 (v : Value) (w : World) : Calls Tryz.prog 70 #[.iface 2 v] w fun e w' => e = .returned (.string ⟨#[120]⟩) ∧ Below w.heap.size w w' := by
  go_enter Tryz.func70, Tryz.ntmps70
  go_wp2
  go_ret
  exact ⟨rfl, Below.refl _ _⟩
set_option maxHeartbeats 4000000 in
theorem valueOf_120 (v : Value) (w : World) : Calls Tryz.prog 37 #[.iface 2 v] w fun e w' => e = .returned (.agg #[.iface 2 v, .string ⟨#[120]⟩]) ∧ Below w.heap.size w w' := by
  go_enter Tryz.func37, Tryz.ntmps37
  go_wp2_with (go_at_call 70; refine (typeOf_120 v _).mono ?_; rintro e w1 ⟨rfl, hb⟩; obtain ⟨hc, hf⟩ := bcell hb)
  refine bodyPost_ret (v := .agg #[.iface 2 v, .string ⟨#[120]⟩]) (by simp [results, go_sem, hc]) rfl ⟨rfl, ?_⟩
  exact ((below_new hb).setCell (Nat.le_refl _) _).setCell (Nat.le_refl _) _
theorem kindOf_120 (w : World) : Calls Tryz.prog 81 #[.string ⟨#[120]⟩] w fun e w' => e = .returned (.int .i64 5) ∧ w = w' := by
  go_enter Tryz.func81, Tryz.ntmps81
  go_wp2
  go_ret
  exact ⟨rfl, rfl⟩
theorem align_120 (w : World) : Calls Tryz.prog 42 #[.string ⟨#[120]⟩] w fun e w' => e = .returned (.int .i64 8) ∧ w = w' := by
  go_enter Tryz.func42, Tryz.ntmps42
  go_wp2_with (go_at_call 81; refine (kindOf_120 _).mono ?_; rintro e w1 ⟨rfl, rfl⟩)
  go_ret
  exact ⟨rfl, rfl⟩
set_option maxHeartbeats 4000000 in
theorem zKind_120 (x : Value) (w : World) : Calls Tryz.prog 44 #[.agg #[x, .string ⟨#[120]⟩]] w fun e w' => e = .returned (.int .i64 5) ∧ Below w.heap.size w w' := by
  go_enter Tryz.func44, Tryz.ntmps44
  go_wp2_with (go_at_call 81; refine (kindOf_120 _).mono ?_; rintro e w1 ⟨rfl, rfl⟩)
  go_ret
  exact ⟨rfl, (Below.refl _ _).alloc (Nat.le_refl _) _⟩
set_option maxHeartbeats 8000000 in
set_option maxRecDepth 100000 in
theorem zNum_120 (v : Int) (h0 : -9223372036854775808 ≤ v) (h1 : v < 9223372036854775808) (w : World) : Calls Tryz.prog 48 #[.agg #[.iface 2 (.int .i64 v), .string ⟨#[120]⟩]] w fun e w' => e = .returned (.int .i64 v) ∧ Below w.heap.size w w' := by
  go_enter Tryz.func48, Tryz.ntmps48
  go_wp2
  go_ret
  exact ⟨rfl, (Below.refl _ _).alloc (Nat.le_refl _) _⟩

set_option maxHeartbeats 8000000 in
set_option maxRecDepth 100000 in
theorem typeOf_116 (v : Value) (w : World) : Calls Tryz.prog 70 #[.iface 23 v] w fun e w' => e = .returned (.string ⟨#[116]⟩) ∧ Below w.heap.size w w' := by
  go_enter Tryz.func70, Tryz.ntmps70
  go_wp2
  go_ret
  exact ⟨rfl, Below.refl _ _⟩
set_option maxHeartbeats 4000000 in
theorem valueOf_116 (v : Value) (w : World) : Calls Tryz.prog 37 #[.iface 23 v] w fun e w' => e = .returned (.agg #[.iface 23 v, .string ⟨#[116]⟩]) ∧ Below w.heap.size w w' := by
  go_enter Tryz.func37, Tryz.ntmps37
  go_wp2_with (go_at_call 70; refine (typeOf_116 v _).mono ?_; rintro e w1 ⟨rfl, hb⟩; obtain ⟨hc, hf⟩ := bcell hb)
  refine bodyPost_ret (v := .agg #[.iface 23 v, .string ⟨#[116]⟩]) (by simp [results, go_sem, hc]) rfl ⟨rfl, ?_⟩
  exact ((below_new hb).setCell (Nat.le_refl _) _).setCell (Nat.le_refl _) _
theorem kindOf_116 (w : World) : Calls Tryz.prog 81 #[.string ⟨#[116]⟩] w fun e w' => e = .returned (.int .i64 10) ∧ w = w' := by
  go_enter Tryz.func81, Tryz.ntmps81
  go_wp2
  go_ret
  exact ⟨rfl, rfl⟩
theorem align_116 (w : World) : Calls Tryz.prog 42 #[.string ⟨#[116]⟩] w fun e w' => e = .returned (.int .i64 8) ∧ w = w' := by
  go_enter Tryz.func42, Tryz.ntmps42
  go_wp2_with (go_at_call 81; refine (kindOf_116 _).mono ?_; rintro e w1 ⟨rfl, rfl⟩)
  go_ret
  exact ⟨rfl, rfl⟩
set_option maxHeartbeats 4000000 in
theorem zKind_116 (x : Value) (w : World) : Calls Tryz.prog 44 #[.agg #[x, .string ⟨#[116]⟩]] w fun e w' => e = .returned (.int .i64 10) ∧ Below w.heap.size w w' := by
  go_enter Tryz.func44, Tryz.ntmps44
  go_wp2_with (go_at_call 81; refine (kindOf_116 _).mono ?_; rintro e w1 ⟨rfl, rfl⟩)
  go_ret
  exact ⟨rfl, (Below.refl _ _).alloc (Nat.le_refl _) _⟩
set_option maxHeartbeats 8000000 in
set_option maxRecDepth 100000 in
theorem zNum_116 (v : Int) (h0 : 0 ≤ v) (h1 : v < 18446744073709551616) (w : World) : Calls Tryz.prog 45 #[.agg #[.iface 23 (.int .u64 v), .string ⟨#[116]⟩]] w fun e w' => e = .returned (.int .u64 v) ∧ Below w.heap.size w w' := by
  go_enter Tryz.func45, Tryz.ntmps45
  go_wp2
  go_ret
  exact ⟨rfl, (Below.refl _ _).alloc (Nat.le_refl _) _⟩

set_option maxHeartbeats 8000000 in
set_option maxRecDepth 100000 in
theorem typeOf_100 (v : Value) (w : World) : Calls Tryz.prog 70 #[.iface 132 v] w fun e w' => e = .returned (.string ⟨#[100]⟩) ∧ Below w.heap.size w w' := by
  go_enter Tryz.func70, Tryz.ntmps70
  go_wp2
  go_ret
  exact ⟨rfl, Below.refl _ _⟩
set_option maxHeartbeats 4000000 in
theorem valueOf_100 (v : Value) (w : World) : Calls Tryz.prog 37 #[.iface 132 v] w fun e w' => e = .returned (.agg #[.iface 132 v, .string ⟨#[100]⟩]) ∧ Below w.heap.size w w' := by
  go_enter Tryz.func37, Tryz.ntmps37
  go_wp2_with (go_at_call 70; refine (typeOf_100 v _).mono ?_; rintro e w1 ⟨rfl, hb⟩; obtain ⟨hc, hf⟩ := bcell hb)
  refine bodyPost_ret (v := .agg #[.iface 132 v, .string ⟨#[100]⟩]) (by simp [results, go_sem, hc]) rfl ⟨rfl, ?_⟩
  exact ((below_new hb).setCell (Nat.le_refl _) _).setCell (Nat.le_refl _) _
theorem kindOf_100 (w : World) : Calls Tryz.prog 81 #[.string ⟨#[100]⟩] w fun e w' => e = .returned (.int .i64 11) ∧ w = w' := by
  go_enter Tryz.func81, Tryz.ntmps81
  go_wp2
  go_ret
  exact ⟨rfl, rfl⟩
theorem align_100 (w : World) : Calls Tryz.prog 42 #[.string ⟨#[100]⟩] w fun e w' => e = .returned (.int .i64 8) ∧ w = w' := by
  go_enter Tryz.func42, Tryz.ntmps42
  go_wp2_with (go_at_call 81; refine (kindOf_100 _).mono ?_; rintro e w1 ⟨rfl, rfl⟩)
  go_ret
  exact ⟨rfl, rfl⟩
set_option maxHeartbeats 4000000 in
theorem zKind_100 (x : Value) (w : World) : Calls Tryz.prog 44 #[.agg #[x, .string ⟨#[100]⟩]] w fun e w' => e = .returned (.int .i64 11) ∧ Below w.heap.size w w' := by
  go_enter Tryz.func44, Tryz.ntmps44
  go_wp2_with (go_at_call 81; refine (kindOf_100 _).mono ?_; rintro e w1 ⟨rfl, rfl⟩)
  go_ret
  exact ⟨rfl, (Below.refl _ _).alloc (Nat.le_refl _) _⟩
set_option maxHeartbeats 8000000 in
set_option maxRecDepth 100000 in
theorem zNum_100 (v : Nat) (w : World) : Calls Tryz.prog 49 #[.agg #[.iface 132 (.float .f64 v), .string ⟨#[100]⟩]] w fun e w' => e = .returned (.float .f64 v) ∧ Below w.heap.size w w' := by
  go_enter Tryz.func49, Tryz.ntmps49
  go_wp2
  go_ret
  exact ⟨rfl, (Below.refl _ _).alloc (Nat.le_refl _) _⟩

set_option maxHeartbeats 8000000 in
set_option maxRecDepth 100000 in
theorem typeOf_104 (v : Value) (w : World) : Calls Tryz.prog 70 #[.iface 156 v] w fun e w' => e = .returned (.string ⟨#[104]⟩) ∧ Below w.heap.size w w' := by
  go_enter Tryz.func70, Tryz.ntmps70
  go_wp2
  go_ret
  exact ⟨rfl, Below.refl _ _⟩
set_option maxHeartbeats 4000000 in
theorem valueOf_104 (v : Value) (w : World) : Calls Tryz.prog 37 #[.iface 156 v] w fun e w' => e = .returned (.agg #[.iface 156 v, .string ⟨#[104]⟩]) ∧ Below w.heap.size w w' := by
  go_enter Tryz.func37, Tryz.ntmps37
  go_wp2_with (go_at_call 70; refine (typeOf_104 v _).mono ?_; rintro e w1 ⟨rfl, hb⟩; obtain ⟨hc, hf⟩ := bcell hb)
  refine bodyPost_ret (v := .agg #[.iface 156 v, .string ⟨#[104]⟩]) (by simp [results, go_sem, hc]) rfl ⟨rfl, ?_⟩
  exact ((below_new hb).setCell (Nat.le_refl _) _).setCell (Nat.le_refl _) _
theorem kindOf_104 (w : World) : Calls Tryz.prog 81 #[.string ⟨#[104]⟩] w fun e w' => e = .returned (.int .i64 9) ∧ w = w' := by
  go_enter Tryz.func81, Tryz.ntmps81
  go_wp2
  go_ret
  exact ⟨rfl, rfl⟩
theorem align_104 (w : World) : Calls Tryz.prog 42 #[.string ⟨#[104]⟩] w fun e w' => e = .returned (.int .i64 4) ∧ w = w' := by
  go_enter Tryz.func42, Tryz.ntmps42
  go_wp2_with (go_at_call 81; refine (kindOf_104 _).mono ?_; rintro e w1 ⟨rfl, rfl⟩)
  go_ret
  exact ⟨rfl, rfl⟩
set_option maxHeartbeats 4000000 in
theorem zKind_104 (x : Value) (w : World) : Calls Tryz.prog 44 #[.agg #[x, .string ⟨#[104]⟩]] w fun e w' => e = .returned (.int .i64 9) ∧ Below w.heap.size w w' := by
  go_enter Tryz.func44, Tryz.ntmps44
  go_wp2_with (go_at_call 81; refine (kindOf_104 _).mono ?_; rintro e w1 ⟨rfl, rfl⟩)
  go_ret
  exact ⟨rfl, (Below.refl _ _).alloc (Nat.le_refl _) _⟩
set_option maxHeartbeats 8000000 in
set_option maxRecDepth 100000 in
theorem zNum_104 (v : Int) (h0 : 0 ≤ v) (h1 : v < 4294967296) (w : World) : Calls Tryz.prog 45 #[.agg #[.iface 156 (.int .u32 v), .string ⟨#[104]⟩]] w fun e w' => e = .returned (.int .u64 v) ∧ Below w.heap.size w w' := by
  go_enter Tryz.func45, Tryz.ntmps45
  go_wp2
  go_ret
  exact ⟨rfl, (Below.refl _ _).alloc (Nat.le_refl _) _⟩
end Go.Proofs.YtldjigfnagfalaaGreatDoor.Given
