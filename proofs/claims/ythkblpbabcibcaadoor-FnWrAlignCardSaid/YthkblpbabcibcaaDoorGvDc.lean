import Derived.Test.YthkblpbabcibcaaDoorProg
import Derived.Test.YthkblpbabcibcaaDoorWWords
import Derived.WalkKit
import Derived.Below
import Derived.LoopTactic
import Derived.Deep.QuietTactic
import Derived.BigQuiet

namespace Go.Proofs.YthkblpbabcibcaaDoor.Given
open Go.RowKit Go.Proofs.YthkblpbabcibcaaDoorW.PrintWords

/-- The three numbers of a depth block. -/
structure Dc (w : World) (b : Nat) (a t d : Int) : Prop where
  c0 : w.cell? ⟨b, 0, none⟩ = some (.int .i64 a)
  c1 : w.cell? ⟨b, 1, none⟩ = some (.int .i64 t)
  c2 : w.cell? ⟨b, 2, none⟩ = some (.int .i64 d)
theorem Dc.lt {w : World} {b : Nat} {a t d : Int} (h : Dc w b a t d) : b < w.heap.size := World.block_lt_of_cell? w _ h.c0
theorem Dc.kept {w w' : World} {b : Nat} {a t d : Int} (h : Dc w b a t d) {B : Nat} (hb : Below B w w') (hB : b < B) : Dc w' b a t d :=
  ⟨(hb.cell (p := ⟨b, 0, none⟩) hB).trans h.c0, (hb.cell (p := ⟨b, 1, none⟩) hB).trans h.c1, (hb.cell (p := ⟨b, 2, none⟩) hB).trans h.c2⟩

theorem Valid.calls (b : Nat) (a t d : Int) (v : Bool) (w : World) (h : Dc w b a t d) (hv : (decide (a ≤ 32) && decide (t ≤ 32) && decide (d ≤ 32)) = v) :
    Calls Tryd.prog 22 #[.pointer (some ⟨b, 0, none⟩)] w fun e w' => e = .returned (.bool v) ∧ w' = w := by
  subst hv
  obtain ⟨c0, c1, c2⟩ := h
  cases ha : decide (a ≤ 32) <;> cases ht : decide (t ≤ 32) <;> cases hd : decide (d ≤ 32)
  all_goals
    go_enter Tryd.func22, Tryd.ntmps22
    go_wp2
    go_ret
    exact ⟨rfl, rfl⟩

theorem EnterArray.calls (a t d : Int) (w : World) (ha : -9223372036854775808 ≤ a) (ha2 : a ≤ 32) :
    Calls Tryd.prog 24 #[.agg #[.int .i64 a, .int .i64 t, .int .i64 d]] w fun e w' => e = .returned (.pointer (some ⟨w.heap.size, 0, none⟩)) ∧ w' = w.alloc (.cells #[.int .i64 (a + 1), .int .i64 t, .int .i64 d] 45) := by
  go_enter Tryd.func24, Tryd.ntmps24
  go_wp2
  go_ret
  exact ⟨rfl, rfl⟩
theorem EnterStruct.calls (a t d : Int) (w : World) (ht : -9223372036854775808 ≤ t) (ht2 : t ≤ 32) :
    Calls Tryd.prog 26 #[.agg #[.int .i64 a, .int .i64 t, .int .i64 d]] w fun e w' => e = .returned (.pointer (some ⟨w.heap.size, 0, none⟩)) ∧ w' = w.alloc (.cells #[.int .i64 a, .int .i64 (t + 1), .int .i64 d] 45) := by
  go_enter Tryd.func26, Tryd.ntmps26
  go_wp2
  go_ret
  exact ⟨rfl, rfl⟩
theorem EnterDictEntry.calls (a t d : Int) (w : World) (hd : -9223372036854775808 ≤ d) (hd2 : d ≤ 32) :
    Calls Tryd.prog 25 #[.agg #[.int .i64 a, .int .i64 t, .int .i64 d]] w fun e w' => e = .returned (.pointer (some ⟨w.heap.size, 0, none⟩)) ∧ w' = w.alloc (.cells #[.int .i64 a, .int .i64 t, .int .i64 (d + 1)] 45) := by
  go_enter Tryd.func25, Tryd.ntmps25
  go_wp2
  go_ret
  exact ⟨rfl, rfl⟩
theorem Dc.fresh (w : World) (a t d : Int) (y : TypeId) : Dc (w.alloc (.cells #[.int .i64 a, .int .i64 t, .int .i64 d] y)) w.heap.size a t d := ⟨by simp, by simp, by simp⟩
end Go.Proofs.YthkblpbabcibcaaDoor.Given
