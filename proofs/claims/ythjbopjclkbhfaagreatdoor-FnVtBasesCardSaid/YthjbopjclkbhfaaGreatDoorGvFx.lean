/- strconv.FormatUint at bases 10, 16 and 8; vtBounds; spec.Same of two numbers; impl.valOut. -/
import Derived.Test.YthjbopjclkbhfaaGreatDoorGvFu
import Derived.Test.YthjbopjclkbhfaaGreatDoorGvFb
namespace Go.Proofs.YthjbopjclkbhfaaGreatDoor.Given
open Go.RowKit Go.Proofs.YthjbopjclkbhfaaGreatDoorW.PrintWords

set_option maxHeartbeats 4000000 in
theorem fm10.calls (u : Nat) (hu1 : 1 ≤ u) (hu64 : u < 18446744073709551616) (w : World) (htab : Lib.TabIs Tryz.prog w "internal/strconv.uint64pow10" .u64 Lib.pow10Tab) :
    Calls Tryz.prog 4 #[.int .u64 u, .int .i64 10] w fun e w' => e = .returned (.string ⟨(dgs 10 64 u).toArray⟩) ∧ Below w.heap.size w w' := by
  have HT := Aside0.mk htab
  have hE := dgs_dec 64 u (Nat.lt_of_lt_of_le hu64 (by decide)) (by decide)
  rw [hE]
  clear htab hE
  go_enter Tryz.func4, Tryz.ntmps4
  go_wp2_with (go_at_call 9; refine (fu10.calls u hu1 hu64 _ HT.out).mono ?_; rintro e w' ⟨rfl, hb⟩)
  go_ret
  exact ⟨rfl, hb⟩
set_option maxHeartbeats 4000000 in
theorem fi16.calls (u : Nat) (hu1 : 1 ≤ u) (hu64 : u < 18446744073709551616) (w : World) (hT : Tz w) :
    Calls Tryz.prog 9 #[.int .u64 u, .int .i64 16] w fun e w' => e = .returned (.string ⟨(dgs 16 64 u).toArray⟩) ∧ Below w.heap.size w w' := by
  have HT := Aside0.mk hT
  clear hT
  go_enter Tryz.func9, Tryz.ntmps9
  go_wp2_with (go_at_call 15; refine (fb_16.calls u hu1 hu64 _ HT.out).mono ?_; rintro e w' ⟨rfl, hb⟩)
  go_ret
  exact ⟨rfl, hb⟩
set_option maxHeartbeats 4000000 in
theorem fm16.calls (u : Nat) (hu1 : 1 ≤ u) (hu64 : u < 18446744073709551616) (w : World) (hT : Tz w) :
    Calls Tryz.prog 4 #[.int .u64 u, .int .i64 16] w fun e w' => e = .returned (.string ⟨(dgs 16 64 u).toArray⟩) ∧ Below w.heap.size w w' := by
  have HT := Aside0.mk hT
  clear hT
  go_enter Tryz.func4, Tryz.ntmps4
  go_wp2_with (go_at_call 9; refine (fi16.calls u hu1 hu64 _ HT.out).mono ?_; rintro e w' ⟨rfl, hb⟩)
  go_ret
  exact ⟨rfl, hb⟩
set_option maxHeartbeats 4000000 in
theorem fi8.calls (u : Nat) (hu1 : 1 ≤ u) (hu64 : u < 18446744073709551616) (w : World) (hT : Tz w) :
    Calls Tryz.prog 9 #[.int .u64 u, .int .i64 8] w fun e w' => e = .returned (.string ⟨(dgs 8 64 u).toArray⟩) ∧ Below w.heap.size w w' := by
  have HT := Aside0.mk hT
  clear hT
  go_enter Tryz.func9, Tryz.ntmps9
  go_wp2_with (go_at_call 15; refine (fb_8.calls u hu1 hu64 _ HT.out).mono ?_; rintro e w' ⟨rfl, hb⟩)
  go_ret
  exact ⟨rfl, hb⟩
set_option maxHeartbeats 4000000 in
theorem fm8.calls (u : Nat) (hu1 : 1 ≤ u) (hu64 : u < 18446744073709551616) (w : World) (hT : Tz w) :
    Calls Tryz.prog 4 #[.int .u64 u, .int .i64 8] w fun e w' => e = .returned (.string ⟨(dgs 8 64 u).toArray⟩) ∧ Below w.heap.size w w' := by
  have HT := Aside0.mk hT
  clear hT
  go_enter Tryz.func4, Tryz.ntmps4
  go_wp2_with (go_at_call 9; refine (fi8.calls u hu1 hu64 _ HT.out).mono ?_; rintro e w' ⟨rfl, hb⟩)
  go_ret
  exact ⟨rfl, hb⟩

/-- A number as a value. -/
def num (c n : Int) : Value := .agg #[.int .u8 c, .int .u64 n, .string ⟨#[]⟩, .slice none 0 0]
def numCells (c n : Int) : Array Value := #[.int .u8 c, .int .u64 n, .string ⟨#[]⟩, .slice none 0 0]
set_option maxHeartbeats 4000000 in
theorem same.calls (c n : Int) (w : World) :
    Calls Tryz.prog 7 #[num c n, num c n] w fun e w' => e = .returned (.bool true) ∧ Below w.heap.size w w' := by
  unfold num
  go_enter Tryz.func7, Tryz.ntmps7
  go_wp2
  go_loopw [37] (fun vi wr => vi = .int .i64 0 ∧ wr = ((w.alloc (.cells #[.int .u8 c, .int .u64 n, .string ⟨#[]⟩, .slice none 0 0] 26)).alloc (.cells #[.int .u8 c, .int .u64 n, .string ⟨#[]⟩, .slice none 0 0] 26)))
    (fun _ _ => 0)
  case atStart => exact ⟨rfl, rfl⟩
  case round =>
    obtain ⟨rfl, rfl⟩ := hrel
    go_wp2
    go_ret
    exact ⟨rfl, ((Below.refl _ _).alloc (Nat.le_refl _) _).alloc (by simp) _⟩
set_option maxHeartbeats 4000000 in
theorem valOut.calls (c n : Int) (w : World) :
    Calls Tryz.prog 11 #[num c n] w fun e w' => e = .returned (num c n) ∧ Below w.heap.size w w' := by
  unfold num
  go_enter Tryz.func11, Tryz.ntmps11
  go_wp2
  go_loopw [16] (fun vi wr => vi = .int .i64 0 ∧ wr = (((w.alloc (.cells #[.int .u8 c, .int .u64 n, .string ⟨#[]⟩, .slice none 0 0] 37)).alloc (.cells #[.int .u8 0, .int .u64 0, .string ⟨#[]⟩, .slice none 0 0] 26)).alloc (.cells #[.int .u8 c, .int .u64 n, .string ⟨#[]⟩, .slice none 0 0] 26)))
    (fun _ _ => 0)
  case atStart => exact ⟨rfl, rfl⟩
  case round =>
    obtain ⟨rfl, rfl⟩ := hrel
    go_wp2
    refine bodyPost_ret (v := .agg #[.int .u8 c, .int .u64 n, .string ⟨#[]⟩, .slice none 0 0]) (by simp [results, go_sem]) rfl ⟨rfl, ?_⟩

    exact (((Below.refl _ _).alloc (Nat.le_refl _) _).alloc (by simp) _).alloc (by simp; omega) _
end Go.Proofs.YthjbopjclkbhfaaGreatDoor.Given
