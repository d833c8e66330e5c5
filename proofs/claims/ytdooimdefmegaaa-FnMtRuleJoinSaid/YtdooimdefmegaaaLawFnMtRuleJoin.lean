/- The match rule of some options and others is that of the ones, a comma, and that of the others. For every two lists of pairs of texts. No condition beyond the statement's own guards. -/
import Derived.Test.YtdooimdefmegaaaRows
import Derived.Test.YtdooimdefmegaaaGvLaw
import Derived.WalkKit
import Derived.ProofKit
import Derived.OpenShut
import Derived.ShutString
import Derived.ChangeOld
import Derived.Below
import Derived.SizedLaws
import Derived.Deep.Slices
namespace Go.Proofs.Ytdooimdefmegaaa.fnMtRuleJoin
open Go.ChangeShapes Go.WideShapes Go.ChangeAt Go.RowKit Go.Proofs.YtdooimdefmegaaaW.PrintWords Go.Proofs.Ytdooimdefmegaaa.Given
open Go.ChangeMaps (open_string shut_string)
set_option linter.unusedVariables false
theorem own : ownKnob Try.prog.godebug = none := by kernel_rfl
theorem laidOut : laidOutB Try.prog = true := by kernel_rfl
theorem c26 : Try.prog.cellsOf 26 = 2 := by kernel_rfl
theorem c9 : Try.prog.cellsOf 9 = 1 := by kernel_rfl

section
variable {H : Type} {enc : TypeId × Value → H} {w : World} {base : Nat} {spare : Nat → Bool} {held : Bool} {fuel : Nat}
/-- A pair of texts, opened. -/
theorem open_pair {cs : List Value} {x : DataW H × List MemPlace} (h : DataW.trod enc Try.prog w base spare held fuel 26 cs = some x) : ∃ a b : ByteArray, cs = [.string a, .string b] ∧ a.size ≤ 9223372036854775807 ∧ b.size ≤ 9223372036854775807 := by
  obtain ⟨xs, m, _, _, hl, hx, hf⟩ := DataW.trod_array Try.underlying26 h
  rw [c26] at hl
  match cs, hl with
  | [u, v], _ =>
    match xs, hx with
    | [y0, y1], _ =>
      have h0 := hf 0 (by omega)
      have h1 := hf 1 (by omega)
      rw [c9] at h0 h1
      obtain ⟨a, ea, _, za⟩ := DataW.trod_string Try.underlying9 (show DataW.trod enc Try.prog w base spare held m 9 [u] = some y0 from h0)
      obtain ⟨b, eb, _, zb⟩ := DataW.trod_string Try.underlying9 (show DataW.trod enc Try.prog w base spare held m 9 [v] = some y1 from h1)
      cases ea; cases eb
      exact ⟨a, b, rfl, by simpa [maxLen] using za, by simpa [maxLen] using zb⟩
theorem open_pairs {A : Option Addr} {n c : Nat} {x : DataW H × List MemPlace} (h : DataW.trod enc Try.prog w base spare held fuel 22 [.slice A n c] = some x) : ∃ L, ReadsRow PR 2 w A n L ∧ Huge L := by
  rcases Go.Deep.open_slice Try.underlying22 h with ⟨hcs, _⟩ | ⟨a, len, cap, m, k, D, Pl, hcs, _, hl, hm, hmm, _, hi⟩
  · simp at hcs
    obtain ⟨rfl, rfl, rfl⟩ := hcs
    exact ⟨[], ⟨rfl, by omega, fun h => by omega⟩, fun p hp => by simp at hp⟩
  · simp at hcs
    obtain ⟨rfl, rfl, rfl⟩ := hcs
    have hlm : n ≤ m := by rw [hmm]; split <;> omega
    have hex : ∀ i : Nat, ∃ p : ByteArray × ByteArray, i < n → (w.cell? (a.add (i * 2)) = some (.string p.1) ∧ w.cell? (a.add (i * 2 + 1)) = some (.string p.2) ∧ p.1.size ≤ 9223372036854775807 ∧ p.2.size ≤ 9223372036854775807) := by
      intro i
      by_cases hin : i < n
      · obtain ⟨cs', h1, h2⟩ := hi i (by omega)
        rw [c26] at h1
        obtain ⟨u, v, rfl, zu, zv⟩ := open_pair h2
        obtain ⟨_, _, hcell⟩ := World.cells?_some h1
        refine ⟨(u, v), fun _ => ⟨?_, ?_, zu, zv⟩⟩
        · have := hcell 0 (by simp)
          rw [show (a.add (i * 2)).add 0 = a.add (i * 2) from rfl] at this
          simpa using this
        · have := hcell 1 (by simp)
          rw [← Go.Deep.add_add]
          simpa using this
      · exact ⟨(⟨#[]⟩, ⟨#[]⟩), fun h => absurd h hin⟩
    obtain ⟨f, hf⟩ := Classical.axiomOfChoice hex
    refine ⟨(List.range n).map f, ⟨by simp, by simp [maxLen] at hm; omega, fun _ => ⟨a, rfl, fun j p hj => ?_⟩⟩, fun p hp => ?_⟩
    · have hjn : j < n := by have := (List.getElem?_eq_some_iff.1 hj).1; simpa using this
      have e : p = f j := by
        rw [List.getElem?_map, List.getElem?_range hjn] at hj
        exact (Option.some.inj hj).symm
      subst e
      refine ⟨[.string (f j).1, .string (f j).2], rfl, rfl, fun i u hu => ?_⟩
      have h := hf j hjn
      match i, hu with
      | 0, hu => cases hu; simpa using h.1
      | 1, hu => cases hu; exact h.2.1
    · obtain ⟨j, hj, rfl⟩ := List.mem_map.mp hp
      have h := hf j (by simpa using hj)
      exact ⟨h.2.2.1, h.2.2.2⟩
end

set_option maxRecDepth 100000 in
theorem lifted (os : Os) (started : os.Started) (H : Type) (enc : TypeId × Value → H) :
    ReturnsInHanded {} Try.checked os 3 .any (Rows.fnMtRuleJoinSpec.pre6 enc Try.prog Try.f3 Rows.fnMtRuleJoinRow.domain false) (Rows.fnMtRuleJoinSpec.post enc Try.prog Try.f3 false true false false) := by
  refine returnsInHanded_of_change_sized (C := Try.checked) own started (by kernel_rfl) Try.func3
    (ChangeSpec.witness6 (enc := enc) (C := Try.checked) false ⟨#[], #[.slice none 0 0, .slice none 0 0], []⟩ 8 (by kernel_rfl) (by kernel_rfl) (by kernel_rfl) (by kernel_rfl)) ?_
  intro W base args ds gs before hval0 hW hcnd hsz0 _
  have hval : ∀ (j : Nat) t v, Try.f3.params[j]? = some t → args[j]? = some v → Value.okWide Try.prog W .any base t v := hval0
  have hW' := hW
  obtain ⟨p, q, hA0, hV, rfl, hfz, hnd⟩ := hW
  have hA : DataW.TrodAll enc Try.prog W 0 (fun _ => true) true Try.f3.params.toList args.toList ds p := hA0
  rw [Try.params3] at hA hval
  obtain ⟨v0, vs0, d0, ds0, p0, q0, hargs, rfl, rfl, h0, r0⟩ := trodAll_cons hA
  obtain ⟨v1, vs1, d1, ds1, p1, q1, rfl, rfl, rfl, h1, r1⟩ := trodAll_cons r0
  obtain ⟨rfl, rfl, rfl⟩ := trodAll_nil r1
  obtain rfl : args = #[v0, v1] := by cases args; simp_all
  obtain ⟨rfl, rfl⟩ := trodVars_none hV
  obtain ⟨a0, len0, cap0, rfl⟩ := okWide_slice Try.underlying22 (hval 0 22 v0 rfl rfl)
  obtain ⟨a1, len1, cap1, rfl⟩ := okWide_slice Try.underlying22 (hval 1 22 v1 rfl rfl)
  have k0 := h0
  have k1 := h1
  have lt0 : ∀ x ∈ p0, x.block < W.heap.size := by obtain ⟨m, hm⟩ := k0; exact DataW.trod_lt m _ _ _ hm
  have lt1 : ∀ x ∈ p1, x.block < W.heap.size := by obtain ⟨m, hm⟩ := k1; exact DataW.trod_lt m _ _ _ hm
  obtain ⟨La, ra, za⟩ : ∃ L, ReadsRow PR 2 W a0 len0 L ∧ Huge L := by
    obtain ⟨fuel, hf⟩ := h0
    exact open_pairs (by simpa [Value.cells] using hf)
  obtain ⟨Lb, rb, zb⟩ : ∃ L, ReadsRow PR 2 W a1 len1 L ∧ Huge L := by
    obtain ⟨fuel, hf⟩ := h1
    exact open_pairs (by simpa [Value.cells] using hf)
  clear hA0 hval0 hsz0
  refine (law.calls a0 a1 len0 len1 cap0 cap1 La Lb W ra rb za zb).mono fun e W' ⟨he, bel⟩ => ?_
  subst he
  exact ⟨_, rfl, _, _, _, [], _, [], hW', trodAll_mk1 (shut_bool Try.underlying4 _), (trodAll_cons_mk (Below.trod laidOut (by kernel_rfl) (of_decide_eq_true (by kernel_rfl)) k0 bel lt0) (trodAll_cons_mk (Below.trod laidOut (by kernel_rfl) (of_decide_eq_true (by kernel_rfl)) k1 bel lt1) trodAll_mk0)), rfl, bel.frame _, fun h => by cases h⟩
theorem over : Rows.fnMtRuleJoinRow.holds Try.pinned (OpenSpec.ofChange Rows.fnMtRuleJoinSpec) :=
  OpenClaim.holds_of_wide 3 Try.f3 rfl rfl rfl rfl rfl rfl rfl ⟨rfl, rfl, rfl, rfl, rfl⟩ rfl rfl rfl rfl rfl (by kernel_rfl) Try.func3 (by kernel_rfl)
    (of_decide_eq_true (by kernel_rfl)) (by unfold Func.isWrapper; first | (rw [if_pos (by decide +kernel)]; kernel_rfl) | (rw [if_neg (by decide +kernel)]; exact ⟨rfl, rfl⟩))
    (fun os started H enc _ => lifted os started H enc)
theorem proved : Rows.FnMtRuleJoinSaid := over
#print axioms proved
end Go.Proofs.Ytdooimdefmegaaa.fnMtRuleJoin
namespace Go.Proofs.Ytdooimdefmegaaa
/-- The row, under a short name, for the claim. -/
theorem fnMtRuleJoin_holds : Rows.FnMtRuleJoinSaid := fnMtRuleJoin.proved
end Go.Proofs.Ytdooimdefmegaaa
