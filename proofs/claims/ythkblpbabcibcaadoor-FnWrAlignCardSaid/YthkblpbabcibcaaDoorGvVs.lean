import Derived.Test.YthkblpbabcibcaaDoorGvDc
import Derived.Test.YthkblpbabcibcaaDoorBm
import Derived.Test.YthkblpbabcibcaaDoorPl
import Derived.Deep.RegionHeld3
import Derived.Outline

namespace Go.Proofs.YthkblpbabcibcaaDoor.Given
open Go.RowKit Go.Proofs.YthkblpbabcibcaaDoorW.PrintWords Go.Proofs.YthkblpbabcibcaaDoor.Pl Go.Proofs.YthkblpbabcibcaaDoor.Utf Go.Proofs.YthkblpbabcibcaaDoor.Bm

/-- The letters that are a type by themselves (v too). -/
def lone (c : Int) : Bool := c == 121 || c == 98 || c == 110 || c == 113 || c == 105 || c == 117 || c == 120 || c == 116 || c == 100 || c == 115 || c == 103 || c == 111 || c == 118 || c == 104

/-- One type behind the other, to the end of the text. -/
def vsAll (g : ByteArray → Option ByteArray) : Nat → ByteArray → Bool
  | 0, s => s.size == 0
  | n + 1, s => if s.size = 0 then true else match g s with
    | none => false
    | some r => vsAll g n r

/-- What stands behind the first type of a text; none if it begins with none. -/
def vs : Nat → ByteArray → Int → Int → Int → Option ByteArray
  | 0, _, _, _, _ => none
  | k + 1, s, a, t, d =>
    if s.size = 0 then none
    else if (decide (a ≤ 32) && decide (t ≤ 32) && decide (d ≤ 32)) = false then none
    else if lone (bt s 0) = true then some (s.extract 1 s.size)
    else if bt s 0 = 97 then
      (if 1 < s.size ∧ bt s 1 = 123 then
        (let i := bm (s.extract 1 s.size) 123 125 (s.size - 2) 1 1
         if i = -1 then none
         else
          let m := s.extract 2 (i + 1).toNat
          if m.size = 0 then none
          else match vs k (m.extract 0 1) (a + 1) t (d + 1) with
            | none => none
            | some _ => match vs k (m.extract 1 m.size) (a + 1) t (d + 1) with
              | none => none
              | some r => if r.size = 0 then some (s.extract (i + 2).toNat s.size) else none)
       else vs k (s.extract 1 s.size) (a + 1) t d)
    else if bt s 0 = 40 then
      (let i := bm s 40 41 (s.size - 1) 1 1
       if i = -1 then none
       else if vsAll (fun x => vs k x a (t + 1) d) s.size (s.extract 1 i.toNat) = true then some (s.extract (i + 1).toNat s.size) else none)
    else none

/-- What the program hands back for it. -/
def VsOut : Option ByteArray → Value → ByteArray → Prop
  | some r, ev, rem => ev = .nilIface ∧ rem = r
  | none, ev, rem => rem = ⟨#[]⟩ ∧ ∃ t u, ev = .iface t u

def VsGood (k : Nat) : Prop := ∀ (s : ByteArray) (a t d : Int) (b : Nat) (w : World), s.size < k → s.size ≤ 4611686018427387904 → -4611686018427387904 ≤ a → -4611686018427387904 ≤ t → -4611686018427387904 ≤ d → Dc w b a t d →
    Calls Tryd.prog 16 #[.string s, .pointer (some ⟨b, 0, none⟩)] w fun e w' => ∃ ev rem, e = .returned (.tuple #[ev, .string rem]) ∧ VsOut (vs k s a t d) ev rem ∧ Below w.heap.size w w'

theorem no_lone {c : Int} (h : lone c = false) : ((c == 121) = false ∧ (c == 98) = false ∧ (c == 110) = false ∧ (c == 113) = false ∧ (c == 105) = false ∧ (c == 117) = false ∧ (c == 120) = false) ∧ ((c == 116) = false ∧ (c == 100) = false ∧ (c == 115) = false ∧ (c == 103) = false ∧ (c == 111) = false ∧ (c == 118) = false ∧ (c == 104) = false) := by
  simp only [lone, Bool.or_eq_false_iff, and_assoc] at h
  simp only [and_assoc]; exact h
theorem is_lone {c : Int} (h : lone c = true) : (((((((((((((c = 121 ∨ c = 98) ∨ c = 110) ∨ c = 113) ∨ c = 105) ∨ c = 117) ∨ c = 120) ∨ c = 116) ∨ c = 100) ∨ c = 115) ∨ c = 103) ∨ c = 111) ∨ c = 118) ∨ c = 104) := by
  simpa only [lone, Bool.or_eq_true, beq_iff_eq] using h

set_option maxRecDepth 100000 in
set_option maxHeartbeats 4000000 in
theorem vs_lone (s : ByteArray) (b : Nat) (w : World) (a t d : Int) (hc : Dc w b a t d) (hv : (decide (a ≤ 32) && decide (t ≤ 32) && decide (d ≤ 32)) = true) (hpos : 0 < s.size) (hl : lone (bt s 0) = true) :
    Calls Tryd.prog 16 #[.string s, .pointer (some ⟨b, 0, none⟩)] w fun e w' => e = .returned (.tuple #[.nilIface, .string (s.extract 1 s.size)]) ∧ Below w.heap.size w w' := by
  have hne : s.toList.isEmpty = false := by
    cases e : s.toList with
    | nil => exact absurd (toList_nil.mp e) (by omega)
    | cons x l => rfl
  have hx6 : ∀ h : 0 < s.size, ((s[0]'h).toNat : Int) = bt s 0 := bt_at s 0
  have q6 := eq_true hpos
  have qi6 : (0 < (s.size : Int)) = True := eq_true (by omega)
  have q7 : (1 ≤ s.size) = True := eq_true (by omega)
  have qi7 : (1 ≤ (s.size : Int)) = True := eq_true (by omega)
  have q8 : s.size - 0 = s.size := by omega
  rcases is_lone hl with ((((((((((((h | h) | h) | h) | h) | h) | h) | h) | h) | h) | h) | h) | h) | h
  all_goals
    rw [h] at hx6
    have HV := Aside0.mk hv
    clear hv hl
    go_enter Tryd.func16, Tryd.ntmps16
    go_wp2_with (go_at_call 22; refine (Valid.calls b a t d true _ hc HV.out).mono ?_; rintro e w1 ⟨rfl, rfl⟩)
    go_quiet (fail)
    go_wp2
    go_ret2
    exact ⟨rfl, pw_below_drewN (Below.refl _ _) _⟩
end Go.Proofs.YthkblpbabcibcaaDoor.Given
