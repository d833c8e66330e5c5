/- DoorNumber and impl.VtNumber, for any kind: from what varNumAs and doorOut do. -/
import Derived.Test.YthjbopjclkbhfaaGreatDoorGvFx
import Derived.Test.YthjbopjclkbhfaaGreatDoorGvKd
import Derived.LoopTactic
import Derived.Deep.QuietTactic
import Derived.BigQuiet
namespace Go.Proofs.YthjbopjclkbhfaaGreatDoor.Given
open Go.RowKit Go.Proofs.YthjbopjclkbhfaaGreatDoorW.PrintWords
set_option linter.unusedVariables false

theorem below_new_d {w w1 : World} {o : Obj} (hb : Below (w.alloc o).drew.heap.size (w.alloc o).drew w1) : Below w.heap.size w w1 :=
  (Below.drew ((Below.refl _ _).alloc (Nat.le_refl _) o)).trans (hb.mono (by simp))
/-- varNumAs reads a text as a number of a kind. -/
def Reads (sig s : ByteArray) (T : TypeId) (k : IntKind) (n : Int) : Prop := ∀ W, Glob W → Calls Tryz.prog 16 #[.string s, .agg #[.string sig]] W fun e w' => e = .returned (.tuple #[.iface T (.int k n), .nilIface]) ∧ Below W.heap.size W w'
/-- varNumAs does not read a text as a number of a kind. -/
def Fails (sig s : ByteArray) : Prop := ∀ W, Glob W → Calls Tryz.prog 16 #[.string s, .agg #[.string sig]] W fun e w' => (∃ x u, e = .returned (.tuple #[.nilIface, .iface x u])) ∧ Below W.heap.size W w'
/-- doorOut shows a number of a kind. -/
def Shows (sig : ByteArray) (T : TypeId) (k : IntKind) (c n : Int) : Prop := ∀ W, Calls Tryz.prog 17 #[.iface T (.int k n), .string sig] W fun e w' => e = .returned (num c n) ∧ Below W.heap.size W w'

set_option maxHeartbeats 4000000 in
set_option maxRecDepth 100000 in
theorem door_ok (sig s : ByteArray) (T : TypeId) (k : IntKind) (c n : Int) (h1 : Reads sig s T k n) (h2 : Shows sig T k c n) (w : World) (hG : Glob w) :
    Calls Tryz.prog 10 #[.string s, .string sig] w fun e w' => e = .returned (.tuple #[num c n, .nilIface]) ∧ Below w.heap.size w w' := by
  unfold Reads at h1
  unfold Shows num at h2
  unfold num
  have H1 := Aside0.mk h1
  have H2 := Aside0.mk h2
  have HG := Aside0.mk hG
  clear h1 h2 hG
  go_enter Tryz.func10, Tryz.ntmps10
  go_wp2_with (first
    | (go_at_call 16; refine (H1.out _ (HG.out.below ((Below.refl _ _).alloc (Nat.le_refl _) _) (Nat.le_refl _))).mono ?_; rintro e w1 ⟨rfl, hb⟩; obtain ⟨hc, hf⟩ := bcell hb; have hz0 : w.heap.size < w1.heap.size := by (have := hb.size; simp at this; omega))
    | (go_at_call 17; refine (H2.out _).mono ?_; rintro e w2 ⟨rfl, hb2⟩; obtain ⟨hc2, hf2⟩ := bcell hb2))
  refine bodyPost_ret (v := .tuple #[.agg #[.int .u8 c, .int .u64 n, .string ⟨#[]⟩, .slice none 0 0], .nilIface]) (by simp [results, go_sem, hc2, hc, hz0]) rfl ⟨rfl, ?_⟩
  exact (((((below_new hb).trans (hb2.mono (Nat.le_of_lt hz0))).setCell (Nat.le_refl _) _).setCell (Nat.le_refl _) _).setCell (Nat.le_refl _) _).setCell (Nat.le_refl _) _
set_option maxHeartbeats 4000000 in
set_option maxRecDepth 100000 in
theorem door_bad (sig s : ByteArray) (h1 : Fails sig s) (w : World) (hG : Glob w) :
    Calls Tryz.prog 10 #[.string s, .string sig] w fun e w' => (∃ x u, e = .returned (.tuple #[num 0 0, .iface x u])) ∧ Below w.heap.size w w' := by
  unfold Fails at h1
  unfold num
  have H1 := Aside0.mk h1
  have HG := Aside0.mk hG
  clear h1 hG
  go_enter Tryz.func10, Tryz.ntmps10
  go_wp2_with (first
    | (go_at_call 16; refine (H1.out _ (HG.out.below ((Below.refl _ _).alloc (Nat.le_refl _) _) (Nat.le_refl _))).mono ?_; rintro e w1 ⟨⟨x, u, rfl⟩, hb⟩; obtain ⟨hc, hf⟩ := bcell hb; have hz0 : w.heap.size < w1.heap.size := by (have := hb.size; simp at this; omega)))
  refine bodyPost_ret (v := .tuple #[.agg #[.int .u8 0, .int .u64 0, .string ⟨#[]⟩, .slice none 0 0], .iface x u]) (by simp [results, go_sem, hc]) rfl ⟨⟨x, u, rfl⟩, ?_⟩
  exact ((((below_new hb).setCell (Nat.le_refl _) _).setCell (Nat.le_refl _) _).setCell (Nat.le_refl _) _).setCell (Nat.le_refl _) _
set_option maxHeartbeats 4000000 in
set_option maxRecDepth 100000 in
theorem vt_ok (sig s : ByteArray) (T : TypeId) (k : IntKind) (c n : Int) (h1 : Reads sig s T k n) (h2 : Shows sig T k c n) (w : World) (hG : Glob w) :
    Calls Tryz.prog 5 #[.string s, .string sig] w fun e w' => e = .returned (.tuple #[num c n, .bool true]) ∧ Below w.heap.size w w' := by
  have HD := fun W hW => door_ok sig s T k c n h1 h2 W hW
  have HV := fun W => valOut.calls c n W
  unfold num at HD HV
  unfold num
  have H1 := Aside0.mk HD
  have H2 := Aside0.mk HV
  have HG := Aside0.mk hG
  clear h1 h2 hG HD HV
  go_enter Tryz.func5, Tryz.ntmps5
  go_wp2_with (first
    | (go_at_call 10; refine (H1.out _ (HG.out.below ((Below.refl _ _).alloc (Nat.le_refl _) _) (Nat.le_refl _))).mono ?_; rintro e w1 ⟨rfl, hb⟩; obtain ⟨hc, hf⟩ := bcell hb)
    | (fail))
  have hz0 : w.heap.size < w1.heap.size := by (have := hb.size; simp at this; omega)
  go_region_with (go_at_call 11; refine (H2.out _).mono ?_; rintro e w2 ⟨rfl, hb2⟩; obtain ⟨hc2, hf2⟩ := bcell hb2)
  go_wp2
  obtain ⟨hc3, hf3⟩ := bcell (below_new_d hb2)
  have q0 : w2.cell? ⟨w.heap.size, 0, none⟩ = some (.int .u8 0) := by rw [hc3 _ _ hz0, hc _ _ (by simp)]; simp
  have q1 : w2.cell? ⟨w.heap.size, 1, none⟩ = some (.int .u64 0) := by rw [hc3 _ _ hz0, hc _ _ (by simp)]; simp
  have q2 : w2.cell? ⟨w.heap.size, 2, none⟩ = some (.string ⟨#[]⟩) := by rw [hc3 _ _ hz0, hc _ _ (by simp)]; simp
  have q3 : w2.cell? ⟨w.heap.size, 3, none⟩ = some (.slice none 0 0) := by rw [hc3 _ _ hz0, hc _ _ (by simp)]; simp
  refine bodyPost_ret (v := .tuple #[.agg #[.int .u8 c, .int .u64 n, .string ⟨#[]⟩, .slice none 0 0], .bool true]) (by simp [results, go_sem, q0, q1, q2, q3]) rfl ⟨rfl, ?_⟩
  exact (((((below_new hb).trans ((below_new_d hb2).mono (Nat.le_of_lt hz0))).setCell (Nat.le_refl _) _).setCell (Nat.le_refl _) _).setCell (Nat.le_refl _) _).setCell (Nat.le_refl _) _
set_option maxHeartbeats 4000000 in
set_option maxRecDepth 100000 in
theorem vt_bad (sig s : ByteArray) (h1 : Fails sig s) (w : World) (hG : Glob w) :
    Calls Tryz.prog 5 #[.string s, .string sig] w fun e w' => e = .returned (.tuple #[num 0 0, .bool false]) ∧ Below w.heap.size w w' := by
  have HD := fun W hW => door_bad sig s h1 W hW
  have HV := fun W => valOut.calls 0 0 W
  unfold num at HD HV
  unfold num
  have H1 := Aside0.mk HD
  have H2 := Aside0.mk HV
  have HG := Aside0.mk hG
  clear h1 hG HD HV
  go_enter Tryz.func5, Tryz.ntmps5
  go_wp2_with (first
    | (go_at_call 10; refine (H1.out _ (HG.out.below ((Below.refl _ _).alloc (Nat.le_refl _) _) (Nat.le_refl _))).mono ?_; rintro e w1 ⟨⟨x, u, rfl⟩, hb⟩; obtain ⟨hc, hf⟩ := bcell hb)
    | (fail))
  have hz0 : w.heap.size < w1.heap.size := by (have := hb.size; simp at this; omega)
  go_region_with (go_at_call 11; refine (H2.out _).mono ?_; rintro e w2 ⟨rfl, hb2⟩; obtain ⟨hc2, hf2⟩ := bcell hb2)
  go_wp2
  obtain ⟨hc3, hf3⟩ := bcell (below_new_d hb2)
  have q0 : w2.cell? ⟨w.heap.size, 0, none⟩ = some (.int .u8 0) := by rw [hc3 _ _ hz0, hc _ _ (by simp)]; simp
  have q1 : w2.cell? ⟨w.heap.size, 1, none⟩ = some (.int .u64 0) := by rw [hc3 _ _ hz0, hc _ _ (by simp)]; simp
  have q2 : w2.cell? ⟨w.heap.size, 2, none⟩ = some (.string ⟨#[]⟩) := by rw [hc3 _ _ hz0, hc _ _ (by simp)]; simp
  have q3 : w2.cell? ⟨w.heap.size, 3, none⟩ = some (.slice none 0 0) := by rw [hc3 _ _ hz0, hc _ _ (by simp)]; simp
  refine bodyPost_ret (v := .tuple #[.agg #[.int .u8 0, .int .u64 0, .string ⟨#[]⟩, .slice none 0 0], .bool false]) (by simp [results, go_sem, q0, q1, q2, q3]) rfl ⟨rfl, ?_⟩
  exact (((((below_new hb).trans ((below_new_d hb2).mono (Nat.le_of_lt hz0))).setCell (Nat.le_refl _) _).setCell (Nat.le_refl _) _).setCell (Nat.le_refl _) _).setCell (Nat.le_refl _) _
end Go.Proofs.YthjbopjclkbhfaaGreatDoor.Given
