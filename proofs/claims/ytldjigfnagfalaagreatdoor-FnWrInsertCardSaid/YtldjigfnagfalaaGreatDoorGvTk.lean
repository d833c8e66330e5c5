/- What the inner buffer's Write gives (Takes). -/
import Derived.Test.YtldjigfnagfalaaGreatDoorGvBw
import Derived.Lib.BufferOld
import Derived.Lib.BufferKept
namespace Go.Proofs.YtldjigfnagfalaaGreatDoor.Given
open Go.RowKit Go.Proofs.YtldjigfnagfalaaGreatDoorW.PrintWords
set_option linter.unusedVariables false
theorem one_bytes (l : List UInt8) : ∀ v ∈ Lib.byteCells l, v.oneCell' = true := by
  intro v hv
  obtain ⟨b, _, rfl⟩ := List.mem_map.1 hv
  rfl
theorem takes_inner (B b : Nat) (bs bytes : List UInt8) (w : World) (h : Lib.IsBuffer 68 5 B b (Lib.byteCells bs) w) (hBw : B ≤ w.heap.size) (hlim : bs.length + bytes.length ≤ 140737488355328) :
    Takes w b bytes (fun w' => Lib.IsBuffer 68 5 B b (Lib.byteCells (bs ++ bytes)) w' ∧ Below B w w' ∧ Lib.OthersKept 5 (some b) w w') := by
  intro W g c hb hg hcs
  have hbl := h.lt
  refine (Tryz.Buffer_Write_any B b (Lib.byteCells bs) (Lib.byteCells bytes) ⟨g, 0, none⟩ bytes.length c W (h.old hb) (Nat.le_trans hBw hb.size) (one_bytes bs) (Lib.byteCells_length bytes) (show g ≠ b by omega) hcs (one_bytes bytes) (by rw [Lib.byteCells_length]; exact hlim)).mono ?_
  rintro e w' ⟨rfl, hI, hB, hK⟩
  refine ⟨rfl, by rw [Lib.byteCells_append]; exact hI, (hb.mono hBw).trans hB, ((Lib.OthersKept.refl 5 (some b) w).below hb).trans hK⟩
end Go.Proofs.YtldjigfnagfalaaGreatDoor.Given
