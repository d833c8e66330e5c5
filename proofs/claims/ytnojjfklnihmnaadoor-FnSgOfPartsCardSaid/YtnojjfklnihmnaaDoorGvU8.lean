/- Part of the proof of LawFnSgOfParts. -/
import Derived.Test.YtnojjfklnihmnaaDoorShelf
import Derived.Test.YtnojjfklnihmnaaDoorWWords
set_option linter.unusedVariables false
set_option linter.unusedSimpArgs false
namespace Go.Proofs.YtnojjfklnihmnaaDoor.Given
open Go.RowKit Go.Proofs.YtnojjfklnihmnaaDoorW.PrintWords
def Tabs (w : World) : Prop := Lib.Utf8Tabs 1 2 w
theorem Tabs.below {w w' : World} {n : Nat} (h : Tabs w) (hb : Below n w w') (hn : w.heap.size ≤ n) : Tabs w' :=
  ⟨fun c hc => (hb.cell (p := ⟨1, c, none⟩) (Nat.lt_of_lt_of_le (World.block_lt_of_cell? w _ (h.1 c hc)) hn)).trans (h.1 c hc), fun i hi => ⟨(hb.cell (p := ⟨2, 2 * i, none⟩) (Nat.lt_of_lt_of_le (World.block_lt_of_cell? w _ (h.2 i hi).1) hn)).trans (h.2 i hi).1, (hb.cell (p := ⟨2, 2 * i + 1, none⟩) (Nat.lt_of_lt_of_le (World.block_lt_of_cell? w _ (h.2 i hi).2) hn)).trans (h.2 i hi).2⟩⟩
def vstr.f (s : ByteArray) : Option Bool := if s.size ≤ 9223372036854775807 then some (Lib.validD s.data.toList) else none
theorem vstr.calls (s : ByteArray) (r : Bool) (w : World) (hT : Tabs w) (h : vstr.f s = some r) : Calls Tryd.prog 31 #[.string s] w fun e w' => e = .returned (.bool r) ∧ Below w.heap.size w w' := by
  unfold vstr.f at h
  split at h
  · rename_i hs
    obtain rfl := Option.some.inj h
    exact Tryd.utf8_ValidString s w hs hT
  · cases h
end Go.Proofs.YtnojjfklnihmnaaDoor.Given
