-- Written by a program of this session (wip/tools/myprint.py) for this claim.
import Derived.Test.YtldjigfnagfalaaGreatDoorProg
import Derived.Below
import Derived.Deep.Draws
import Derived.Deep.AppendLies
import Derived.Maps.AppendAt
import Derived.OwnWalk
import Derived.Laws.BytesArg
import Derived.Laws.MakeOwn
import Derived.Laws.OwnMore
import Derived.Deep.OwnRows
import Derived.Tactics
import Derived.Lib.ConvBytes
import Derived.Laws.Slices
import Derived.WalkKit
import Derived.KernelRfl
import Derived.RowKit3
import Derived.Deep.LoopGhost
import Derived.Deep.QuietTactic
import Derived.BigQuiet
import Derived.WideLaws
import Derived.Deep.DeepCutAuto
import Derived.Deep.CutBlock
import Derived.Deep.RegionHeld3
import Derived.Laws.Rows
import Derived.Lib.AppendStr
import Derived.ArgAppend
import Derived.Laws.IdiomCopy
import Derived.OrdersHeld
import Derived.Laws.BitsLemmas
import Derived.RowKit
import Derived.Test.YtldjigfnagfalaaGreatDoorWWords
import Derived.Test.YtldjigfnagfalaaGreatDoorWLast
import Derived.Test.YtldjigfnagfalaaGreatDoorWTab
import Derived.Test.YtldjigfnagfalaaGreatDoorWFour
import Derived.Test.YtldjigfnagfalaaGreatDoorWQPut
import Derived.Test.YtldjigfnagfalaaGreatDoorWApart
import Derived.Test.YtldjigfnagfalaaGreatDoorWArr
import Derived.Test.YtldjigfnagfalaaGreatDoorWZeros
import Derived.Test.YtldjigfnagfalaaGreatDoorWFoot
import Derived.Test.YtldjigfnagfalaaGreatDoorWKept
import Derived.Test.YtldjigfnagfalaaGreatDoorWShare
import Derived.Test.YtldjigfnagfalaaGreatDoorWN
import Derived.Test.YtldjigfnagfalaaGreatDoorWFootNe
import Derived.Test.YtldjigfnagfalaaGreatDoorWAt
import Derived.Test.YtldjigfnagfalaaGreatDoorWEqStruct
import Derived.Test.YtldjigfnagfalaaGreatDoorWRepsOne
import Derived.Test.YtldjigfnagfalaaGreatDoorWInv
import Derived.Test.YtldjigfnagfalaaGreatDoorWInvWords
import Derived.Test.YtldjigfnagfalaaGreatDoorWGuard
import Derived.Test.YtldjigfnagfalaaGreatDoorWNEv
import Derived.Test.YtldjigfnagfalaaGreatDoorWMore
import Derived.Test.YtldjigfnagfalaaGreatDoorPWix0
namespace Go.Proofs.YtldjigfnagfalaaGreatDoor.PVa
open Go.RowKit Go.Proofs.YtldjigfnagfalaaGreatDoorW.PrintWords Go.Proofs.YtldjigfnagfalaaGreatDoorW.PrintLast Go.Proofs.YtldjigfnagfalaaGreatDoorW.PrintMore
open Go.Proofs.YtldjigfnagfalaaGreatDoor.PWi (S27 z27 F27 mono27 sub27 sz27 k27 k27_open k27_openM k27_mk k27_mkM rd_T27 at_T27)
attribute [local go_sem] max2_int min2_int max_two min_two max_three min_three max_four min_four   -- for this text's walks alone
set_option linter.unusedVariables false
set_option linter.unusedSimpArgs false



def errW : Option Int → Value
  | none => .nilIface
  | some c => .iface 0 (.int .i64 c)
theorem errW_none : errW none = .nilIface := rfl
theorem errW_some (c : Int) : errW (some c) = .iface 0 (.int .i64 c) := rfl

theorem info80 : (Tryz.prog.info? 80).map (fun i => (i.zero, i.size, i.bytes)) = some (some (.agg #[(.int .u8 0), (.int .u64 0), (.string ⟨#[]⟩), (.slice none 0 0)]), 4, 56) := by kernel_rfl
-- the values' own types
/-! #### struct type 80, nested in itself -/
structure S80 where
  f0 : Int
  f1 : Int
  f2 : ByteArray
  f3 : (List S80)
def z80 : S80 := ⟨(0 : Int), (0 : Int), (⟨#[]⟩ : ByteArray), ([] : List S80)⟩
def F80 (d : Kd S80) : Kd S80 := Kd.iso (Kd.pair (Kd.int .u8) (Kd.pair (Kd.int .u64) (Kd.pair Kd.string (Kd.slice 80 d)))) (fun x : S80 => (x.f0, x.f1, x.f2, x.f3))
theorem mono80 : Kd.Mono F80 := Kd.mono_iso _ (Kd.mono_pair (Kd.mono_const _) (Kd.mono_pair (Kd.mono_const _) (Kd.mono_pair (Kd.mono_const _) (Kd.mono_slice 80 Kd.mono_id))))
theorem sub80 : Kd.Sub F80 [80] := Kd.sub_iso _ (Kd.sub_pair (Kd.sub_const _ (by decide)) (Kd.sub_pair (Kd.sub_const _ (by decide)) (Kd.sub_pair (Kd.sub_const _ (by decide)) (Kd.sub_slice 80 (by decide) Kd.sub_id))))
theorem sz80 : ∀ n, (Kd.upto F80 4 [80] n).sz = 4 := Kd.upto_sz (fun _ => rfl)
def k80 : Kd S80 := Kd.fix F80 4 [80] sz80 (Kd.upto_E sub80)
theorem k80_open {w : World} {x : S80} {cs : List Value} (h : k80.K w x cs) : ∃ A3 c3, cs = [.int .u8 x.f0, .int .u64 x.f1, .string x.f2, .slice A3 x.f3.length c3] ∧ x.f3.length ≤ c3 ∧ k80.C w A3 x.f3.length x.f3 := by
  obtain ⟨n, h⟩ := h
  cases n with
  | zero => exact h.elim
  | succ n =>
    obtain ⟨_, _, rfl, rfl, ⟨_, _, rfl, rfl, ⟨_, _, rfl, rfl, ⟨A3, c3, rfl, l3, g3⟩⟩⟩⟩ := h
    exact ⟨A3, c3, rfl, l3, Kd.fix_C g3⟩
theorem k80_openM {w : World} {base : Nat} {ok : Nat → Prop} {x : S80} {cs : List Value} (h : k80.M w base ok x cs) : ∃ v3, cs = [.int .u8 x.f0, .int .u64 x.f1, .string x.f2, v3] ∧ k80.R 80 w base ok v3 x.f3 := by
  obtain ⟨n, h⟩ := h
  cases n with
  | zero => exact h.elim
  | succ n =>
    obtain ⟨_, _, rfl, rfl, ⟨_, _, rfl, rfl, ⟨_, _, rfl, rfl, ⟨v3, rfl, g3⟩⟩⟩⟩ := h
    exact ⟨v3, rfl, Kd.fix_R g3⟩
theorem k80_mk (w : World) (x : S80) {A3 : Option Addr} {c3 : Nat} (l3 : x.f3.length ≤ c3) (g3 : k80.C w A3 x.f3.length x.f3) : k80.K w x [.int .u8 x.f0, .int .u64 x.f1, .string x.f2, .slice A3 x.f3.length c3] := by
  obtain ⟨n3, q3⟩ := Kd.fix_C_back mono80 g3
  have r3 := Kd.upto_C_le mono80 sz80 (show n3 ≤ n3 by omega) q3
  exact ⟨n3 + 1, ⟨[.int .u8 x.f0], [.int .u64 x.f1, .string x.f2, .slice A3 x.f3.length c3], rfl, rfl, ⟨[.int .u64 x.f1], [.string x.f2, .slice A3 x.f3.length c3], rfl, rfl, ⟨[.string x.f2], [.slice A3 x.f3.length c3], rfl, rfl, ⟨A3, c3, rfl, l3, r3⟩⟩⟩⟩⟩
theorem k80_mkM (w : World) (base : Nat) (ok : Nat → Prop) (x : S80) {v3 : Value} (g3 : k80.R 80 w base ok v3 x.f3) : k80.M w base ok x [.int .u8 x.f0, .int .u64 x.f1, .string x.f2, v3] := by
  obtain ⟨n3, q3⟩ := Kd.fix_R_back mono80 g3
  have r3 := Kd.upto_R_le mono80 sz80 (show n3 ≤ n3 by omega) q3
  exact ⟨n3 + 1, ⟨[.int .u8 x.f0], [.int .u64 x.f1, .string x.f2, v3], rfl, rfl, ⟨[.int .u64 x.f1], [.string x.f2, v3], rfl, rfl, ⟨[.string x.f2], [v3], rfl, rfl, ⟨v3, rfl, r3⟩⟩⟩⟩⟩
def rd_T80 (xs : List S80) (i : Int) : S80 := xs.getD i.toNat z80
theorem at_T80 {w : World} {A : Option Addr} {n : Nat} {xs : List S80} (h : Kd.C k80 w A n xs) (i : Int) (h0 : 0 ≤ i) (h1 : i < n) : ∃ ad A3 c3, A = some ad ∧ w.cell? (ad.add (i.toNat * 4)) = some (.int .u8 (rd_T80 xs i).f0) ∧ w.cell? ⟨(ad.add (i.toNat * 4)).block, (ad.add (i.toNat * 4)).off + 1, none⟩ = some (.int .u64 (rd_T80 xs i).f1) ∧ w.cell? ⟨(ad.add (i.toNat * 4)).block, (ad.add (i.toNat * 4)).off + 2, none⟩ = some (.string (rd_T80 xs i).f2) ∧ w.cell? ⟨(ad.add (i.toNat * 4)).block, (ad.add (i.toNat * 4)).off + 3, none⟩ = some (.slice A3 (rd_T80 xs i).f3.length c3) ∧ (rd_T80 xs i).f3.length ≤ c3 ∧ k80.C w A3 (rd_T80 xs i).f3.length (rd_T80 xs i).f3 := by
  obtain ⟨ad, c, e, _, hK, hc0⟩ := Kd.C_get h z80 i h0 h1
  have hc : ∀ j u, c[j]? = some u → w.cell? (ad.add (i.toNat * 4 + j)) = some u := hc0
  obtain ⟨A3, c3, rfl, l3, g3⟩ := k80_open hK
  exact ⟨ad, A3, c3, e, hc 0 _ rfl, by rw [← add_field _ _ 1 (by omega)]; exact hc 1 _ rfl, by rw [← add_field _ _ 2 (by omega)]; exact hc 2 _ rfl, by rw [← add_field _ _ 3 (by omega)]; exact hc 3 _ rfl, l3, g3⟩

end Go.Proofs.YtldjigfnagfalaaGreatDoor.PVa
