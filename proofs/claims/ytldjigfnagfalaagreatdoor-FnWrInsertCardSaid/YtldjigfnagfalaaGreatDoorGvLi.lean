/- Kind, Elem, alignment, Len and Index of a list of numbers. -/
import Derived.Test.YtldjigfnagfalaaGreatDoorGvNe
import Derived.Lib.Buffer
namespace Go.Proofs.YtldjigfnagfalaaGreatDoor.Given
open Go.RowKit Go.Proofs.YtldjigfnagfalaaGreatDoorW.PrintWords
set_option linter.unusedVariables false
attribute [local go_sem] as_162_5 as_162_105 as_162_106 as_162_115 as_162_4 as_162_64 as_162_131 as_162_21 as_162_36 as_162_2 as_162_23 as_162_132 as_162_9 as_162_135 as_162_111 as_162_113 as_162_178 as_162_156 as_162_76 as_162_24 as_162_162 as_162_186 as_162_158
set_option maxHeartbeats 4000000 in
theorem kindOf_list (c : UInt8) (w : World) : Calls Tryz.prog 81 #[.string ⟨#[91, c]⟩] w fun e w' => e = .returned (.int .i64 16) ∧ w = w' := by
  go_enter Tryz.func81, Tryz.ntmps81
  go_wp2
  go_ret
  exact ⟨rfl, rfl⟩
set_option maxHeartbeats 4000000 in
theorem elem_list (c : UInt8) (w : World) : Calls Tryz.prog 57 #[.string ⟨#[91, c]⟩] w fun e w' => e = .returned (.string ⟨#[c]⟩) ∧ w = w' := by
  have hx : (⟨#[91, c]⟩ : ByteArray).extract 1 2 = ⟨#[c]⟩ := rfl
  go_enter Tryz.func57, Tryz.ntmps57
  go_wp2_with (go_at_call 81; refine (kindOf_list c _).mono ?_; rintro e w1 ⟨rfl, rfl⟩)
  go_ret
  exact ⟨rfl, rfl⟩
set_option maxHeartbeats 4000000 in
theorem zKind_list (x : Value) (c : UInt8) (w : World) : Calls Tryz.prog 44 #[.agg #[x, .string ⟨#[91, c]⟩]] w fun e w' => e = .returned (.int .i64 16) ∧ Below w.heap.size w w' := by
  go_enter Tryz.func44, Tryz.ntmps44
  go_wp2_with (go_at_call 81; refine (kindOf_list c _).mono ?_; rintro e w1 ⟨rfl, rfl⟩)
  go_ret
  exact ⟨rfl, (Below.refl _ _).alloc (Nat.le_refl _) _⟩
set_option maxHeartbeats 4000000 in
theorem kids_list (p : Nat) (ao : Option Addr) (l k : Nat) (w : World) (c1 : w.cell? ⟨p, 1, none⟩ = some (.slice ao l k)) : Calls Tryz.prog 87 #[.iface 162 (.pointer (some ⟨p, 0, none⟩))] w fun e w' => e = .returned (.slice ao l k) ∧ w = w' := by
  go_enter Tryz.func87, Tryz.ntmps87
  go_wp2
  go_ret
  exact ⟨rfl, rfl⟩
set_option maxHeartbeats 4000000 in
theorem len_list (p : Nat) (s : ByteArray) (ao : Option Addr) (l k : Nat) (w : World) (c1 : w.cell? ⟨p, 1, none⟩ = some (.slice ao l k)) : Calls Tryz.prog 54 #[.agg #[.iface 162 (.pointer (some ⟨p, 0, none⟩)), .string s]] w fun e w' => e = .returned (.int .i64 l) ∧ Below w.heap.size w w' := by
  have hp := block_lt_of_cell c1
  go_enter Tryz.func54, Tryz.ntmps54
  go_wp2_with (go_at_call 87; refine (kids_list p ao l k _ (((Below.refl _ _).alloc (Nat.le_refl _) _).cell (p := ⟨p, 1, none⟩) hp |>.trans c1)).mono ?_; rintro e w1 ⟨rfl, rfl⟩)
  go_ret
  exact ⟨rfl, (Below.refl _ _).alloc (Nat.le_refl _) _⟩
set_option maxHeartbeats 4000000 in
theorem index_list (p : Nat) (c : UInt8) (g l k i : Nat) (T : TypeId) (v : Value) (hi : i < l) (hk : l ≤ 1000) (w : World) (c1 : w.cell? ⟨p, 1, none⟩ = some (.slice (some ⟨g, 0, none⟩) l k)) (cx : w.cell? ⟨g, i, none⟩ = some (.iface T v)) : Calls Tryz.prog 58 #[.agg #[.iface 162 (.pointer (some ⟨p, 0, none⟩)), .string ⟨#[91, c]⟩], .int .i64 i] w fun e w' => e = .returned (.agg #[.iface T v, .string ⟨#[c]⟩]) ∧ Below w.heap.size w w' := by
  have hp : p < w.heap.size := block_lt_of_cell c1
  have hg : g < w.heap.size := block_lt_of_cell cx
  have hne1 : w.heap.size ≠ g := Nat.ne_of_gt hg
  have hne2 : w.heap.size + 1 ≠ g := by omega
  have hi2 : (i : Int) < (l : Int) := by omega
  have hi3 : 0 ≤ (i : Int) := by omega
  have hadd : (⟨g, 0, none⟩ : Addr).add i = ⟨g, i, none⟩ := by rw [Lib.addr_add, Nat.zero_add]
  go_enter Tryz.func58, Tryz.ntmps58
  go_wp2
  go_region_with (first
    | (go_at_call 87; refine (kids_list p (some ⟨g, 0, none⟩) l k _ (((show Below w.heap.size w _ by repeat (first | exact Below.refl _ _ | apply below_alloc | apply below_drew)).cell (p := ⟨p, 1, none⟩) hp).trans c1)).mono ?_; rintro e w1 ⟨rfl, rfl⟩)
    | (go_at_call 57; refine (elem_list c _).mono ?_; rintro e w1 ⟨rfl, rfl⟩))
  all_goals
    go_wp2
    refine bodyPost_ret (v := .agg #[.iface T v, .string ⟨#[c]⟩]) (by simp [results, go_sem]) rfl ⟨rfl, ?_⟩
    repeat (first | exact Below.refl _ _ | apply below_alloc | apply below_drew)
end Go.Proofs.YtldjigfnagfalaaGreatDoor.Given
