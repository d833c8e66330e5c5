/- zzFits4, zzFits3, mtPlain over pairs of texts. -/
import Derived.Test.YtdooimdefmegaaaProg
import Derived.Test.YtdooimdefmegaaaWWords
import Derived.WalkKit
import Derived.Below
import Derived.LoopTactic
import Derived.Laws.Rows
import Derived.WalkLawsBesides
import Derived.Deep.QuietTactic
import Derived.BigQuiet
import Derived.Outline
namespace Go.Proofs.Ytdooimdefmegaaa.Given
open Go.RowKit Go.Proofs.YtdooimdefmegaaaW.PrintWords

/-- A pair of texts in memory. -/
def PR (p : ByteArray × ByteArray) (c : List Value) : Prop := c = [.string p.1, .string p.2]
def Said4 (a b : ByteArray) (w : World) (e : Ending) (w' : World) : Prop := ∃ v : Bool, e = .returned (.bool v) ∧ (v = true → a.size ≤ 2147483647 ∧ b.size ≤ 2147483647) ∧ Below w.heap.size w w'

set_option maxRecDepth 100000 in
set_option maxHeartbeats 4000000 in
theorem fits4.calls (a b : ByteArray) (w : World) (ha : a.size ≤ 9223372036854775807) (hb : b.size ≤ 9223372036854775807) :
    Calls Try.prog 7 #[.agg #[.string a, .string b]] w (Said4 a b w) := by
  have hI0 : ∀ w, (Instr.index 26 (.agg #[.string a, .string b]) (.int .i64 0)).run Try.prog w = .ok (.string a) w := fun _ => by kernel_rfl
  have hI1 : ∀ w, (Instr.index 26 (.agg #[.string a, .string b]) (.int .i64 1)).run Try.prog w = .ok (.string b) w := fun _ => by kernel_rfl
  go_enter Try.func7, Try.ntmps7
  go_wp2
  go_loop [6] (fun i => ∃ k : Nat, k ≤ 2 ∧ i = .int .i64 k ∧ (1 ≤ k → a.size ≤ 2147483647) ∧ (2 ≤ k → b.size ≤ 2147483647)) (fun i => 2 - (intOf i).toNat)
  case atStart => exact ⟨0, by omega, rfl, fun h => by omega, fun h => by omega⟩
  case round =>
    obtain ⟨k, hk, rfl, h1, h2⟩ := hrel
    have hb1 : Below w.heap.size w (w.alloc (Obj.cells #[Value.string a, Value.string b] 26)) := (Below.refl _ _).alloc (Nat.le_refl _) _
    rcases (show k = 0 ∨ k = 1 ∨ k = 2 by omega) with rfl | rfl | rfl
    · clear h1 h2
      by_cases hs : a.size ≤ 2147483647
      · have g : (2147483647 < (a.size : Int)) = False := eq_false (by omega)
        go_wp2
        go_round
        case rel => exact ⟨1, by omega, by go_num, fun _ => hs, fun h => by omega⟩
        case measure => simp [intOf]
      · have g : (2147483647 < (a.size : Int)) = True := eq_true (by omega)
        go_wp2
        go_ret
        exact ⟨false, rfl, (fun h => by cases h), hb1⟩
    · have h1 := Aside0.mk (h1 (by omega))
      clear h2
      by_cases hs : b.size ≤ 2147483647
      · have g : (2147483647 < (b.size : Int)) = False := eq_false (by omega)
        go_wp2
        go_round
        case rel => exact ⟨2, by omega, by go_num, fun _ => h1.out, fun _ => hs⟩
        case measure => simp [intOf]
      · have g : (2147483647 < (b.size : Int)) = True := eq_true (by omega)
        go_wp2
        go_ret
        exact ⟨false, rfl, (fun h => by cases h), hb1⟩
    · have h1 := Aside0.mk (h1 (by omega))
      have h2 := Aside0.mk (h2 (by omega))
      go_wp2
      go_ret
      exact ⟨true, rfl, fun _ => ⟨h1.out, h2.out⟩, hb1⟩

theorem row_at {w : World} {A : Option Addr} {n : Nat} {L : List (ByteArray × ByteArray)} (h : ReadsRow PR 2 w A n L) {k : Nat} (hk : k < n) :
    ∃ ad p, A = some ad ∧ L[k]? = some p ∧ w.cell? (ad.add (k * 2)) = some (.string p.1) ∧ w.cell? ⟨(ad.add (k * 2)).block, (ad.add (k * 2)).off + 1, none⟩ = some (.string p.2) := by
  obtain ⟨hl, _, hc⟩ := h
  obtain ⟨ad, e, hx⟩ := hc (by omega)
  have hkl : k < L.length := by omega
  obtain ⟨c, hc2, hp, hcell⟩ := hx k _ (List.getElem?_eq_getElem hkl)
  refine ⟨ad, L[k], e, List.getElem?_eq_getElem hkl, ?_, ?_⟩
  · have := hcell 0 (.string L[k].1) (by rw [hp]; rfl)
    simpa using this
  · have := hcell 1 (.string L[k].2) (by rw [hp]; rfl)
    rw [add_field _ _ _ (by omega)] at this; exact this

def Said3 (w : World) (e : Ending) (w' : World) : Prop := ∃ v : Bool, e = .returned (.bool v) ∧ Below w.heap.size w w'

set_option maxRecDepth 100000 in
set_option maxHeartbeats 4000000 in
theorem fits3.calls (A : Option Addr) (n c : Nat) (L : List (ByteArray × ByteArray)) (w : World) (hr : ReadsRow PR 2 w A n L) (hz : ∀ p ∈ L, p.1.size ≤ 9223372036854775807 ∧ p.2.size ≤ 9223372036854775807) :
    Calls Try.prog 4 #[.slice A n c] w (Said3 w) := by
  have hn := hr.2.1
  by_cases hbig : n ≤ 2147483647
  · have g : (2147483647 < (n : Int)) = False := eq_false (by omega)
    have HR := Aside0.mk hr
    clear hr
    go_enter Try.func4, Try.ntmps4
    go_wp2
    go_loopw [10] (fun i w' => ∃ k : Nat, k ≤ n ∧ i = .int .i64 k ∧ Below w.heap.size w w') (fun i _ => n - (intOf i).toNat)
    case atStart => exact ⟨0, by omega, rfl, Below.refl _ _⟩
    case round =>
      obtain ⟨k, hk, rfl, hbw⟩ := hrel
      by_cases hlt : k < n
      · obtain ⟨ad, p, rfl, hp, c0, c1⟩ := row_at (HR.out.imp_ hbw fun _ _ h => h) hlt
        have HF := Aside0.mk fun w => fits4.calls p.1 p.2 w (hz p (List.mem_of_getElem? hp)).1 (hz p (List.mem_of_getElem? hp)).2
        clear hp
        go_wp2_with (go_at_call 7; refine (HF.out _).mono ?_; rintro e w1 ⟨v, rfl, hv, hb1⟩)
        have hb2 : Below w.heap.size w w1 := (hbw.alloc hbw.size _).trans (hb1.mono (by have := hbw.size; simp; omega))
        · go_ret
          exact ⟨_, rfl, hb2⟩
        · have hb2 : Below w.heap.size w w1 := (hbw.alloc hbw.size _).trans (hb1.mono (by have := hbw.size; simp; omega))
          go_roundw
          case rel => exact ⟨k + 1, by omega, by go_num, hb2⟩
          case measure => simp [intOf]; omega
      · go_wp2
        go_ret
        exact ⟨true, rfl, hbw⟩
  · have g : (2147483647 < (n : Int)) = True := eq_true (by omega)
    go_enter Try.func4, Try.ntmps4
    go_wp2
    go_ret
    exact ⟨false, rfl, Below.refl _ _⟩

def SaidP (n : Nat) (L : List (ByteArray × ByteArray)) (w : World) (e : Ending) (w' : World) : Prop := ∃ v : Bool, e = .returned (.bool v) ∧ (v = true → n ≤ 40 ∧ ∀ p ∈ L, p.1.size ≤ 300 ∧ p.2.size ≤ 300) ∧ Below w.heap.size w w'

set_option maxRecDepth 100000 in
set_option maxHeartbeats 4000000 in
theorem plain.calls (A : Option Addr) (n c : Nat) (L : List (ByteArray × ByteArray)) (w : World) (hr : ReadsRow PR 2 w A n L) (hz : ∀ p ∈ L, p.1.size ≤ 9223372036854775807 ∧ p.2.size ≤ 9223372036854775807) :
    Calls Try.prog 5 #[.slice A n c] w (SaidP n L w) := by
  have hn := hr.2.1
  have HR := Aside0.mk hr
  clear hr
  go_enter Try.func5, Try.ntmps5
  go_wp2
  go_loopw [9] (fun i w' => ∃ k : Nat, k ≤ n ∧ i = .int .i64 k ∧ Aside0 (∀ j p, j < k → L[j]? = some p → p.1.size ≤ 300 ∧ p.2.size ≤ 300) ∧ Below w.heap.size w w') (fun i _ => n - (intOf i).toNat)
  case atStart => exact ⟨0, by omega, rfl, ⟨fun j p h => by omega⟩, Below.refl _ _⟩
  case round =>
    obtain ⟨k, hk, rfl, hall, hbw⟩ := hrel
    by_cases hlt : k < n
    · obtain ⟨ad, p, rfl, hp, c0, c1⟩ := row_at (HR.out.imp_ hbw fun _ _ h => h) hlt
      have HP := Aside0.mk hp
      have hz1 := (hz p (List.mem_of_getElem? hp)).1
      have hz2 := (hz p (List.mem_of_getElem? hp)).2
      clear hp
      by_cases s1 : p.1.size ≤ 300
      · have g1 : (300 < (p.1.size : Int)) = False := eq_false (by omega)
        by_cases s2 : p.2.size ≤ 300
        · have g2 : (300 < (p.2.size : Int)) = False := eq_false (by omega)
          go_wp2
          obtain ⟨wo, rfl⟩ : ∃ wo : World, wo = wr := ⟨_, rfl⟩
          have hbo : Below w.heap.size w (wo.alloc (Obj.cells #[Value.string p.fst, Value.string p.snd] 26)) := hbw.alloc hbw.size _
          go_loop [5] (fun i => ∃ j : Nat, j ≤ p.1.size ∧ i = .int .i64 j) (fun i => p.1.size - (intOf i).toNat)
          case atStart => exact ⟨0, by omega, rfl⟩
          case round =>
            obtain ⟨j, hj, rfl⟩ := hrel
            by_cases hjl : j < p.1.size
            · have hx : ∀ h : j < p.1.size, ((p.1[j]'h).toNat : Int) = bt p.1 j := bt_at p.1 j
              by_cases b1 : bt p.1 j = 61
              · rw [b1] at hx
                clear b1
                go_wp2
                go_ret
                exact ⟨false, rfl, (fun h => by cases h), hbo⟩
              · have b1' : (bt p.1 j == 61) = false := beq_eq_false_iff_ne.mpr b1
                by_cases b2 : bt p.1 j = 44
                · rw [b2] at hx
                  clear b1 b1' b2
                  go_wp2
                  go_ret
                  exact ⟨false, rfl, (fun h => by cases h), hbo⟩
                · have b2' : (bt p.1 j == 44) = false := beq_eq_false_iff_ne.mpr b2
                  by_cases b3 : bt p.1 j = 39
                  · rw [b3] at hx
                    clear b1 b1' b2 b2' b3
                    go_wp2
                    go_ret
                    exact ⟨false, rfl, (fun h => by cases h), hbo⟩
                  · have b3' : (bt p.1 j == 39) = false := beq_eq_false_iff_ne.mpr b3
                    clear b1 b2 b3
                    go_wp2
                    go_round
                    case rel => exact ⟨j + 1, by omega, by go_num⟩
                    case measure => simp [intOf]; omega
            · go_wp2
              go_loop [6] (fun i => ∃ j : Nat, j ≤ p.2.size ∧ i = .int .i64 j) (fun i => p.2.size - (intOf i).toNat)
              case atStart => exact ⟨0, by omega, rfl⟩
              case round =>
                obtain ⟨j2, hj2, rfl⟩ := hrel
                by_cases hjl2 : j2 < p.2.size
                · have hx : ∀ h : j2 < p.2.size, ((p.2[j2]'h).toNat : Int) = bt p.2 j2 := bt_at p.2 j2
                  by_cases b3 : bt p.2 j2 = 39
                  · rw [b3] at hx
                    clear b3
                    go_wp2
                    go_ret
                    exact ⟨false, rfl, (fun h => by cases h), hbo⟩
                  · have b3' : (bt p.2 j2 == 39) = false := beq_eq_false_iff_ne.mpr b3
                    clear b3
                    go_wp2
                    go_round
                    case rel => exact ⟨j2 + 1, by omega, by go_num⟩
                    case measure => simp [intOf]; omega
                · have hall2 : Aside0 (∀ j p, j < k + 1 → L[j]? = some p → p.1.size ≤ 300 ∧ p.2.size ≤ 300) := ⟨fun i q hi hq => by
                    by_cases hik : i < k
                    · exact hall.out i q hik hq
                    · obtain rfl : i = k := by omega
                      rw [HP.out] at hq
                      obtain rfl := Option.some.inj hq
                      exact ⟨s1, s2⟩⟩
                  go_wp2
                  go_roundw
                  case rel => exact ⟨k + 1, by omega, by go_num, hall2, hbo⟩
                  case measure => simp [intOf]; omega
        · have g2 : (300 < (p.2.size : Int)) = True := eq_true (by omega)
          go_wp2
          go_ret
          exact ⟨false, rfl, (fun h => by cases h), hbw.alloc hbw.size _⟩
      · have g1 : (300 < (p.1.size : Int)) = True := eq_true (by omega)
        go_wp2
        go_ret
        exact ⟨false, rfl, (fun h => by cases h), hbw.alloc hbw.size _⟩
    · by_cases h40 : n ≤ 40
      · have g : ((n : Int) ≤ 40) = True := eq_true (by omega)
        go_wp2
        go_ret
        exact ⟨_, rfl, fun _ => ⟨h40, fun p hp => by
          obtain ⟨j, hj⟩ := List.getElem?_of_mem hp
          have hjl := (List.getElem?_eq_some_iff.1 hj).1
          have := HR.out.1
          exact hall.out j p (by omega) hj⟩, hbw⟩
      · have g : ((n : Int) ≤ 40) = False := eq_false (by omega)
        go_wp2
        go_ret
        exact ⟨_, rfl, fun h => by simp at h, hbw⟩
end Go.Proofs.Ytdooimdefmegaaa.Given
