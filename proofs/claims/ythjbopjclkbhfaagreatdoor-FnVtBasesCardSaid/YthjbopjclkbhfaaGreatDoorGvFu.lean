/- strconv.FormatUint at base 10. -/
import Derived.Test.YthjbopjclkbhfaaGreatDoorDg
import Derived.Test.YthjbopjclkbhfaaGreatDoorShelf
import Derived.Lib.AppendIntMem
import Derived.Lib.ItoaMem
import Derived.LoopTactic
import Derived.Deep.QuietTactic
import Derived.BigQuiet
namespace Go.Proofs.YthjbopjclkbhfaaGreatDoor.Given
open Go.RowKit Go.Sort Go.Lib Go.Proofs.YthjbopjclkbhfaaGreatDoorW.PrintWords

set_option maxHeartbeats 6400000 in
set_option maxRecDepth 100000 in
theorem fu10.calls (u : Nat) (hu1 : 1 ≤ u) (hu64 : u < 18446744073709551616) (w : World) (htab : Lib.TabIs Tryz.prog w "internal/strconv.uint64pow10" .u64 Lib.pow10Tab) :
    Calls Tryz.prog 9 #[.int .u64 u, .int .i64 10] w fun e w' => e = .returned (.string ⟨(Lib.decDigits u).toArray⟩) ∧ Below w.heap.size w w' := by
  by_cases hs : u < 100
  · have hs' : (u : Int) < 100 := by omega
    have hw : IntKind.i64.wrap (u : Int) = (u : Int) := by unfold IntKind.wrap; simp [IntKind.signed, IntKind.bits]; omega
    go_enter Tryz.func9, Tryz.ntmps9
    go_wp2_with (go_at_call 12; refine (Tryz.internal_strconv_small u hs _).mono ?_; rintro e w' ⟨rfl, rfl⟩)
    go_ret
    exact ⟨rfl, Below.refl _ _⟩
  · have hs' : ¬ (u : Int) < 100 := by omega
    have hnd20 : Lib.nDigits u ≤ 20 := by have := Lib.numDigits_eq u hu1 hu64; split at this <;> omega
    have hal : Tryz.prog.arrayLen 45 = 24 := by kernel_rfl
    have hel : Tryz.prog.elem 45 = 5 := by kernel_rfl
    have hsl1 : ∀ W, (Instr.sliceAt 45 (.pointer (some ⟨w.heap.size, 0, none⟩)) none (some (.int .i64 (Lib.nDigits u : Int))) none).run Tryz.prog W = .ok (.slice (some ⟨w.heap.size, 0, none⟩) (Lib.nDigits u) 24) W := fun W => by
      rw [run_sliceAt_array_h W 45 ⟨w.heap.size, 0, none⟩ (by simp [Program.arrayLen, Program.elem, Tryz.underlying45]) .i64 (Lib.nDigits u : Int) (by omega) (by rw [hal]; omega), hal, hel]
      go_simp
    have hH0 := Lib.holds_zero0 w 45 (Lib.nDigits u) (by omega)
    have hfmt := Tryz.internal_strconv_formatBase10 w.heap.size 0 24 u (Array.replicate (Lib.nDigits u) 0) (w.alloc (.cells Lib.zeros24 45)) hH0 (by rw [Array.size_replicate]; exact Lib.lt_pow_nDigits u) hu64 (by rw [Array.size_replicate]; omega)
    rw [Array.size_replicate] at hfmt
    have HH0 := Lib.hid hH0
    have HT := Lib.hid htab
    have HFMT := Lib.hid hfmt
    clear hH0 hal hel htab hfmt
    go_enter Tryz.func9, Tryz.ntmps9
    go_wp2_with (first
      | (go_at_call 13; refine (Tryz.internal_strconv_numDigits u hu1 hu64 _ (Lib.tabIs_alloc HT.out _)).mono ?_; rintro e w' ⟨rfl, rfl⟩))
    go_at_call 14
    refine (HFMT.out).mono ?_
    rintro e w' ⟨rfl, k, v', dk, rfl, hF⟩
    have hcv : (convert 43 9 (.slice (some ⟨w.heap.size, 0, none⟩) (Lib.nDigits u) 24)).run Tryz.prog ((putRow (fun (b : UInt8) => Value.int .u8 (b.toNat : Int)) (w.alloc (.cells Lib.zeros24 45)) w.heap.size 0 dk).drewN k) = .ok (.string ⟨(Lib.decDigits u).toArray⟩) ((putRow (fun (b : UInt8) => Value.int .u8 (b.toNat : Int)) (w.alloc (.cells Lib.zeros24 45)) w.heap.size 0 dk).drewN k) := by
      have h := run_convert_bytes_back (P := Tryz.prog) ((putRow (fun (b : UInt8) => Value.int .u8 (b.toNat : Int)) (w.alloc (.cells Lib.zeros24 45)) w.heap.size 0 dk).drewN k) 43 9 5 ⟨w.heap.size, 0, none⟩ 24 (Lib.decDigits u) Tryz.underlying43 Tryz.underlying5 Tryz.underlying9 (fun j hj => by
        rw [Lib.row_is_numeral hF j hj, Lib.add_plain, World.cell?_drewN]
        exact cell?_putRow (fun (b : UInt8) => Value.int .u8 (b.toNat : Int)) _ w.heap.size 0 _ dk HH0.out (by rw [hF.size, Array.size_replicate]) j (by rw [hF.size]; rw [Lib.decDigits_length] at hj; exact hj))
      rw [Lib.decDigits_length] at h
      exact h
    go_wp2
    go_ret
    obtain ⟨os, eo⟩ := Lib.fin_at w (.cells Lib.zeros24 45) dk k 0
    exact ⟨rfl, eo ▸ Lib.below_grow w.heap.size w (Nat.le_refl _) k os⟩
end Go.Proofs.YthjbopjclkbhfaaGreatDoor.Given
