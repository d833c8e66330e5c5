/- Part of the proof of LawFnMsName. -/
import Derived.Test.YtldjigfnagfalaaGreatDoorProg
import Derived.Below
import Derived.Deep.Draws
import Derived.Deep.AppendLies
import Derived.Maps.AppendAt
import Derived.OwnWalk
import Derived.Laws.BytesArg
import Derived.Laws.MakeOwn
import Derived.Laws.OwnMore
import Derived.Deep.OwnRows
import Derived.Tactics
import Derived.Lib.ConvBytes
import Derived.Laws.Slices
import Derived.WalkKit
import Derived.KernelRfl
import Derived.RowKit3
import Derived.Deep.LoopGhost
import Derived.Deep.QuietTactic
import Derived.BigQuiet
import Derived.WideLaws
import Derived.Deep.DeepCutAuto
import Derived.Deep.CutBlock
import Derived.Deep.RegionHeld3
import Derived.Laws.Rows
import Derived.Lib.AppendStr
import Derived.ArgAppend
import Derived.Laws.IdiomCopy
import Derived.OrdersHeld
import Derived.Laws.BitsLemmas
import Derived.RowKit
import Derived.Test.YtldjigfnagfalaaGreatDoorWWords
import Derived.Test.YtldjigfnagfalaaGreatDoorWFour
import Derived.Test.YtldjigfnagfalaaGreatDoorWInvWords
import Derived.Test.YtldjigfnagfalaaGreatDoorWGuard
import Derived.Test.YtldjigfnagfalaaGreatDoorWNEv
import Derived.Test.YtldjigfnagfalaaGreatDoorWMore
set_option linter.unusedVariables false
set_option linter.unusedSimpArgs false
section
namespace Go.Proofs.YtldjigfnagfalaaGreatDoor.PMi
open Go.RowKit Go.Proofs.YtldjigfnagfalaaGreatDoorW.PrintWords Go.Proofs.YtldjigfnagfalaaGreatDoorW.PrintLast Go.Proofs.YtldjigfnagfalaaGreatDoorW.PrintMore
attribute [local go_sem] max2_int min2_int max_two min_two max_three min_three max_four min_four   -- for this text's walks alone
set_option linter.unusedVariables false
set_option linter.unusedSimpArgs false
def errW : Option Int → Value
  | none => .nilIface
  | some c => .iface 0 (.int .i64 c)
theorem errW_none : errW none = .nilIface := rfl
theorem errW_some (c : Int) : errW (some c) = .iface 0 (.int .i64 c) := rfl
theorem info80 : (Tryz.prog.info? 80).map (fun i => (i.zero, i.size, i.bytes)) = some (some (.agg #[(.int .u8 0), (.int .u64 0), (.string ⟨#[]⟩), (.slice none 0 0)]), 4, 56) := by kernel_rfl
theorem info89 : (Tryz.prog.info? 89).map (fun i => (i.zero, i.size, i.bytes)) = some (some (.agg #[(.int .u8 0), (.int .u8 0), (.int .u64 0), (.string ⟨#[]⟩), (.slice none 0 0)]), 5, 64) := by kernel_rfl
structure S27 where
  f0 : Int
  f1 : Int
  f2 : ByteArray
  f3 : (List S27)
def z27 : S27 := ⟨(0 : Int), (0 : Int), (⟨#[]⟩ : ByteArray), ([] : List S27)⟩
def F27 (d : Kd S27) : Kd S27 := Kd.iso (Kd.pair (Kd.int .u8) (Kd.pair (Kd.int .u64) (Kd.pair Kd.string (Kd.slice 27 d)))) (fun x : S27 => (x.f0, x.f1, x.f2, x.f3))
theorem mono27 : Kd.Mono F27 := Kd.mono_iso _ (Kd.mono_pair (Kd.mono_const _) (Kd.mono_pair (Kd.mono_const _) (Kd.mono_pair (Kd.mono_const _) (Kd.mono_slice 27 Kd.mono_id))))
theorem sub27 : Kd.Sub F27 [27] := Kd.sub_iso _ (Kd.sub_pair (Kd.sub_const _ (by decide)) (Kd.sub_pair (Kd.sub_const _ (by decide)) (Kd.sub_pair (Kd.sub_const _ (by decide)) (Kd.sub_slice 27 (by decide) Kd.sub_id))))
theorem sz27 : ∀ n, (Kd.upto F27 4 [27] n).sz = 4 := Kd.upto_sz (fun _ => rfl)
def k27 : Kd S27 := Kd.fix F27 4 [27] sz27 (Kd.upto_E sub27)
theorem k27_open {w : World} {x : S27} {cs : List Value} (h : k27.K w x cs) : ∃ A3 c3, cs = [.int .u8 x.f0, .int .u64 x.f1, .string x.f2, .slice A3 x.f3.length c3] ∧ x.f3.length ≤ c3 ∧ k27.C w A3 x.f3.length x.f3 := by
  obtain ⟨n, h⟩ := h
  cases n with
  | zero => exact h.elim
  | succ n =>
    obtain ⟨_, _, rfl, rfl, ⟨_, _, rfl, rfl, ⟨_, _, rfl, rfl, ⟨A3, c3, rfl, l3, g3⟩⟩⟩⟩ := h
    exact ⟨A3, c3, rfl, l3, Kd.fix_C g3⟩
theorem k27_openM {w : World} {base : Nat} {ok : Nat → Prop} {x : S27} {cs : List Value} (h : k27.M w base ok x cs) : ∃ v3, cs = [.int .u8 x.f0, .int .u64 x.f1, .string x.f2, v3] ∧ k27.R 27 w base ok v3 x.f3 := by
  obtain ⟨n, h⟩ := h
  cases n with
  | zero => exact h.elim
  | succ n =>
    obtain ⟨_, _, rfl, rfl, ⟨_, _, rfl, rfl, ⟨_, _, rfl, rfl, ⟨v3, rfl, g3⟩⟩⟩⟩ := h
    exact ⟨v3, rfl, Kd.fix_R g3⟩
theorem k27_mk (w : World) (x : S27) {A3 : Option Addr} {c3 : Nat} (l3 : x.f3.length ≤ c3) (g3 : k27.C w A3 x.f3.length x.f3) : k27.K w x [.int .u8 x.f0, .int .u64 x.f1, .string x.f2, .slice A3 x.f3.length c3] := by
  obtain ⟨n3, q3⟩ := Kd.fix_C_back mono27 g3
  have r3 := Kd.upto_C_le mono27 sz27 (show n3 ≤ n3 by omega) q3
  exact ⟨n3 + 1, ⟨[.int .u8 x.f0], [.int .u64 x.f1, .string x.f2, .slice A3 x.f3.length c3], rfl, rfl, ⟨[.int .u64 x.f1], [.string x.f2, .slice A3 x.f3.length c3], rfl, rfl, ⟨[.string x.f2], [.slice A3 x.f3.length c3], rfl, rfl, ⟨A3, c3, rfl, l3, r3⟩⟩⟩⟩⟩
theorem k27_mkM (w : World) (base : Nat) (ok : Nat → Prop) (x : S27) {v3 : Value} (g3 : k27.R 27 w base ok v3 x.f3) : k27.M w base ok x [.int .u8 x.f0, .int .u64 x.f1, .string x.f2, v3] := by
  obtain ⟨n3, q3⟩ := Kd.fix_R_back mono27 g3
  have r3 := Kd.upto_R_le mono27 sz27 (show n3 ≤ n3 by omega) q3
  exact ⟨n3 + 1, ⟨[.int .u8 x.f0], [.int .u64 x.f1, .string x.f2, v3], rfl, rfl, ⟨[.int .u64 x.f1], [.string x.f2, v3], rfl, rfl, ⟨[.string x.f2], [v3], rfl, rfl, ⟨v3, rfl, r3⟩⟩⟩⟩⟩
def rd_T27 (xs : List S27) (i : Int) : S27 := xs.getD i.toNat z27
theorem at_T27 {w : World} {A : Option Addr} {n : Nat} {xs : List S27} (h : Kd.C k27 w A n xs) (i : Int) (h0 : 0 ≤ i) (h1 : i < n) : ∃ ad A3 c3, A = some ad ∧ w.cell? (ad.add (i.toNat * 4)) = some (.int .u8 (rd_T27 xs i).f0) ∧ w.cell? ⟨(ad.add (i.toNat * 4)).block, (ad.add (i.toNat * 4)).off + 1, none⟩ = some (.int .u64 (rd_T27 xs i).f1) ∧ w.cell? ⟨(ad.add (i.toNat * 4)).block, (ad.add (i.toNat * 4)).off + 2, none⟩ = some (.string (rd_T27 xs i).f2) ∧ w.cell? ⟨(ad.add (i.toNat * 4)).block, (ad.add (i.toNat * 4)).off + 3, none⟩ = some (.slice A3 (rd_T27 xs i).f3.length c3) ∧ (rd_T27 xs i).f3.length ≤ c3 ∧ k27.C w A3 (rd_T27 xs i).f3.length (rd_T27 xs i).f3 := by
  obtain ⟨ad, c, e, _, hK, hc0⟩ := Kd.C_get h z27 i h0 h1
  have hc : ∀ j u, c[j]? = some u → w.cell? (ad.add (i.toNat * 4 + j)) = some u := hc0
  obtain ⟨A3, c3, rfl, l3, g3⟩ := k27_open hK
  exact ⟨ad, A3, c3, e, hc 0 _ rfl, by rw [← add_field _ _ 1 (by omega)]; exact hc 1 _ rfl, by rw [← add_field _ _ 2 (by omega)]; exact hc 2 _ rfl, by rw [← add_field _ _ 3 (by omega)]; exact hc 3 _ rfl, l3, g3⟩
structure S80 where
  f0 : Int
  f1 : Int
  f2 : ByteArray
  f3 : (List S80)
def z80 : S80 := ⟨(0 : Int), (0 : Int), (⟨#[]⟩ : ByteArray), ([] : List S80)⟩
def F80 (d : Kd S80) : Kd S80 := Kd.iso (Kd.pair (Kd.int .u8) (Kd.pair (Kd.int .u64) (Kd.pair Kd.string (Kd.slice 80 d)))) (fun x : S80 => (x.f0, x.f1, x.f2, x.f3))
theorem mono80 : Kd.Mono F80 := Kd.mono_iso _ (Kd.mono_pair (Kd.mono_const _) (Kd.mono_pair (Kd.mono_const _) (Kd.mono_pair (Kd.mono_const _) (Kd.mono_slice 80 Kd.mono_id))))
theorem sub80 : Kd.Sub F80 [80] := Kd.sub_iso _ (Kd.sub_pair (Kd.sub_const _ (by decide)) (Kd.sub_pair (Kd.sub_const _ (by decide)) (Kd.sub_pair (Kd.sub_const _ (by decide)) (Kd.sub_slice 80 (by decide) Kd.sub_id))))
theorem sz80 : ∀ n, (Kd.upto F80 4 [80] n).sz = 4 := Kd.upto_sz (fun _ => rfl)
def k80 : Kd S80 := Kd.fix F80 4 [80] sz80 (Kd.upto_E sub80)
theorem k80_open {w : World} {x : S80} {cs : List Value} (h : k80.K w x cs) : ∃ A3 c3, cs = [.int .u8 x.f0, .int .u64 x.f1, .string x.f2, .slice A3 x.f3.length c3] ∧ x.f3.length ≤ c3 ∧ k80.C w A3 x.f3.length x.f3 := by
  obtain ⟨n, h⟩ := h
  cases n with
  | zero => exact h.elim
  | succ n =>
    obtain ⟨_, _, rfl, rfl, ⟨_, _, rfl, rfl, ⟨_, _, rfl, rfl, ⟨A3, c3, rfl, l3, g3⟩⟩⟩⟩ := h
    exact ⟨A3, c3, rfl, l3, Kd.fix_C g3⟩
theorem k80_mkM (w : World) (base : Nat) (ok : Nat → Prop) (x : S80) {v3 : Value} (g3 : k80.R 80 w base ok v3 x.f3) : k80.M w base ok x [.int .u8 x.f0, .int .u64 x.f1, .string x.f2, v3] := by
  obtain ⟨n3, q3⟩ := Kd.fix_R_back mono80 g3
  have r3 := Kd.upto_R_le mono80 sz80 (show n3 ≤ n3 by omega) q3
  exact ⟨n3 + 1, ⟨[.int .u8 x.f0], [.int .u64 x.f1, .string x.f2, v3], rfl, rfl, ⟨[.int .u64 x.f1], [.string x.f2, v3], rfl, rfl, ⟨[.string x.f2], [v3], rfl, rfl, ⟨v3, rfl, r3⟩⟩⟩⟩⟩
def rd_T80 (xs : List S80) (i : Int) : S80 := xs.getD i.toNat z80
structure S43 where
  f0 : Int
  f1 : S27
def z43 : S43 := ⟨(0 : Int), z27⟩
def k43 : Kd S43 := Kd.iso (Kd.pair (Kd.int .u8) k27) (fun x : S43 => (x.f0, x.f1))
theorem k43_open {w : World} {x : S43} {cs : List Value} (h : k43.K w x cs) : ∃ A4 c4, cs = [.int .u8 x.f0, .int .u8 x.f1.f0, .int .u64 x.f1.f1, .string x.f1.f2, .slice A4 x.f1.f3.length c4] ∧ x.f1.f3.length ≤ c4 ∧ k27.C w A4 x.f1.f3.length x.f1.f3 := by
  obtain ⟨_, _, rfl, rfl, s1⟩ := h
  obtain ⟨A4, c4, rfl, l4, g4⟩ := k27_open s1
  exact ⟨A4, c4, rfl, l4, g4⟩
theorem k43_openM {w : World} {base : Nat} {ok : Nat → Prop} {x : S43} {cs : List Value} (h : k43.M w base ok x cs) : ∃ v4, cs = [.int .u8 x.f0, .int .u8 x.f1.f0, .int .u64 x.f1.f1, .string x.f1.f2, v4] ∧ k27.R 27 w base ok v4 x.f1.f3 := by
  obtain ⟨_, _, rfl, rfl, s1⟩ := h
  obtain ⟨v4, rfl, g4⟩ := k27_openM s1
  exact ⟨v4, rfl, g4⟩
theorem k43_mk (w : World) (x : S43) {A4 : Option Addr} {c4 : Nat} (l4 : x.f1.f3.length ≤ c4) (g4 : k27.C w A4 x.f1.f3.length x.f1.f3) : k43.K w x [.int .u8 x.f0, .int .u8 x.f1.f0, .int .u64 x.f1.f1, .string x.f1.f2, .slice A4 x.f1.f3.length c4] := ⟨[.int .u8 x.f0], [.int .u8 x.f1.f0, .int .u64 x.f1.f1, .string x.f1.f2, .slice A4 x.f1.f3.length c4], rfl, rfl, (k27_mk w x.f1 l4 g4)⟩
theorem k43_mkM (w : World) (base : Nat) (ok : Nat → Prop) (x : S43) {v4 : Value} (g4 : k27.R 27 w base ok v4 x.f1.f3) : k43.M w base ok x [.int .u8 x.f0, .int .u8 x.f1.f0, .int .u64 x.f1.f1, .string x.f1.f2, v4] := ⟨[.int .u8 x.f0], [.int .u8 x.f1.f0, .int .u64 x.f1.f1, .string x.f1.f2, v4], rfl, rfl, (k27_mkM w base ok x.f1 g4)⟩
def rd_T43 (xs : List S43) (i : Int) : S43 := xs.getD i.toNat z43
theorem at_T43 {w : World} {A : Option Addr} {n : Nat} {xs : List S43} (h : Kd.C k43 w A n xs) (i : Int) (h0 : 0 ≤ i) (h1 : i < n) : ∃ ad A4 c4, A = some ad ∧ w.cell? (ad.add (i.toNat * 5)) = some (.int .u8 (rd_T43 xs i).f0) ∧ w.cell? ⟨(ad.add (i.toNat * 5)).block, (ad.add (i.toNat * 5)).off + 1, none⟩ = some (.int .u8 (rd_T43 xs i).f1.f0) ∧ w.cell? ⟨(ad.add (i.toNat * 5)).block, (ad.add (i.toNat * 5)).off + 2, none⟩ = some (.int .u64 (rd_T43 xs i).f1.f1) ∧ w.cell? ⟨(ad.add (i.toNat * 5)).block, (ad.add (i.toNat * 5)).off + 3, none⟩ = some (.string (rd_T43 xs i).f1.f2) ∧ w.cell? ⟨(ad.add (i.toNat * 5)).block, (ad.add (i.toNat * 5)).off + 4, none⟩ = some (.slice A4 (rd_T43 xs i).f1.f3.length c4) ∧ (rd_T43 xs i).f1.f3.length ≤ c4 ∧ k27.C w A4 (rd_T43 xs i).f1.f3.length (rd_T43 xs i).f1.f3 := by
  obtain ⟨ad, c, e, _, hK, hc0⟩ := Kd.C_get h z43 i h0 h1
  have hc : ∀ j u, c[j]? = some u → w.cell? (ad.add (i.toNat * 5 + j)) = some u := hc0
  obtain ⟨A4, c4, rfl, l4, g4⟩ := k43_open hK
  exact ⟨ad, A4, c4, e, hc 0 _ rfl, by rw [← add_field _ _ 1 (by omega)]; exact hc 1 _ rfl, by rw [← add_field _ _ 2 (by omega)]; exact hc 2 _ rfl, by rw [← add_field _ _ 3 (by omega)]; exact hc 3 _ rfl, by rw [← add_field _ _ 4 (by omega)]; exact hc 4 _ rfl, l4, g4⟩
structure S89 where
  f0 : Int
  f1 : S80
def z89 : S89 := ⟨(0 : Int), z80⟩
def k89 : Kd S89 := Kd.iso (Kd.pair (Kd.int .u8) k80) (fun x : S89 => (x.f0, x.f1))
theorem k89_open {w : World} {x : S89} {cs : List Value} (h : k89.K w x cs) : ∃ A4 c4, cs = [.int .u8 x.f0, .int .u8 x.f1.f0, .int .u64 x.f1.f1, .string x.f1.f2, .slice A4 x.f1.f3.length c4] ∧ x.f1.f3.length ≤ c4 ∧ k80.C w A4 x.f1.f3.length x.f1.f3 := by
  obtain ⟨_, _, rfl, rfl, s1⟩ := h
  obtain ⟨A4, c4, rfl, l4, g4⟩ := k80_open s1
  exact ⟨A4, c4, rfl, l4, g4⟩
theorem k89_mkM (w : World) (base : Nat) (ok : Nat → Prop) (x : S89) {v4 : Value} (g4 : k80.R 80 w base ok v4 x.f1.f3) : k89.M w base ok x [.int .u8 x.f0, .int .u8 x.f1.f0, .int .u64 x.f1.f1, .string x.f1.f2, v4] := ⟨[.int .u8 x.f0], [.int .u8 x.f1.f0, .int .u64 x.f1.f1, .string x.f1.f2, v4], rfl, rfl, (k80_mkM w base ok x.f1 g4)⟩
def rd_T89 (xs : List S89) (i : Int) : S89 := xs.getD i.toNat z89
theorem at_T89 {w : World} {A : Option Addr} {n : Nat} {xs : List S89} (h : Kd.C k89 w A n xs) (i : Int) (h0 : 0 ≤ i) (h1 : i < n) : ∃ ad A4 c4, A = some ad ∧ w.cell? (ad.add (i.toNat * 5)) = some (.int .u8 (rd_T89 xs i).f0) ∧ w.cell? ⟨(ad.add (i.toNat * 5)).block, (ad.add (i.toNat * 5)).off + 1, none⟩ = some (.int .u8 (rd_T89 xs i).f1.f0) ∧ w.cell? ⟨(ad.add (i.toNat * 5)).block, (ad.add (i.toNat * 5)).off + 2, none⟩ = some (.int .u64 (rd_T89 xs i).f1.f1) ∧ w.cell? ⟨(ad.add (i.toNat * 5)).block, (ad.add (i.toNat * 5)).off + 3, none⟩ = some (.string (rd_T89 xs i).f1.f2) ∧ w.cell? ⟨(ad.add (i.toNat * 5)).block, (ad.add (i.toNat * 5)).off + 4, none⟩ = some (.slice A4 (rd_T89 xs i).f1.f3.length c4) ∧ (rd_T89 xs i).f1.f3.length ≤ c4 ∧ k80.C w A4 (rd_T89 xs i).f1.f3.length (rd_T89 xs i).f1.f3 := by
  obtain ⟨ad, c, e, _, hK, hc0⟩ := Kd.C_get h z89 i h0 h1
  have hc : ∀ j u, c[j]? = some u → w.cell? (ad.add (i.toNat * 5 + j)) = some u := hc0
  obtain ⟨A4, c4, rfl, l4, g4⟩ := k89_open hK
  exact ⟨ad, A4, c4, e, hc 0 _ rfl, by rw [← add_field _ _ 1 (by omega)]; exact hc 1 _ rfl, by rw [← add_field _ _ 2 (by omega)]; exact hc 2 _ rfl, by rw [← add_field _ _ 3 (by omega)]; exact hc 3 _ rfl, by rw [← add_field _ _ 4 (by omega)]; exact hc 4 _ rfl, l4, g4⟩
end Go.Proofs.YtldjigfnagfalaaGreatDoor.PMi
end
section
namespace Go.Proofs.YtldjigfnagfalaaGreatDoor.PMn
open Go.RowKit Go.Proofs.YtldjigfnagfalaaGreatDoorW.PrintWords Go.Proofs.YtldjigfnagfalaaGreatDoorW.PrintLast Go.Proofs.YtldjigfnagfalaaGreatDoorW.PrintMore
open Go.Proofs.YtldjigfnagfalaaGreatDoor.PMi (S27 z27 k27 k27_open k27_openM k27_mk k27_mkM rd_T27 at_T27 S43 z43 k43 k43_open k43_openM k43_mk k43_mkM rd_T43 at_T43 F27 mono27 sub27 sz27)
attribute [local go_sem] max2_int min2_int max_two min_two max_three min_three max_four min_four   -- for this text's walks alone
set_option linter.unusedVariables false
set_option linter.unusedSimpArgs false
def errW : Option Int → Value
  | none => .nilIface
  | some c => .iface 0 (.int .i64 c)
theorem errW_none : errW none = .nilIface := rfl
theorem errW_some (c : Int) : errW (some c) = .iface 0 (.int .i64 c) := rfl
theorem info5 : (Tryz.prog.info? 5).map (fun i => (i.zero, i.size, i.bytes)) = some (some (.int .u8 0), 1, 1) := by kernel_rfl
theorem info9 : (Tryz.prog.info? 9).map (fun i => (i.zero, i.size, i.bytes)) = some (some (.string ⟨#[]⟩), 1, 16) := by kernel_rfl
theorem info43 : (Tryz.prog.info? 43).map (fun i => (i.zero, i.size, i.bytes)) = some (some (.agg #[(.int .u8 0), (.int .u8 0), (.int .u64 0), (.string ⟨#[]⟩), (.slice none 0 0)]), 5, 64) := by kernel_rfl
theorem k43_openF {W : World} {ok : Nat → Prop} {x : S43} {cs : List Value} (h : Kd.FK k43 W ok x cs) : ∃ A4 c4, cs = [.int .u8 x.f0, .int .u8 x.f1.f0, .int .u64 x.f1.f1, .string x.f1.f2, .slice A4 x.f1.f3.length c4] ∧ x.f1.f3.length ≤ c4 ∧ Kd.F k27 W ok A4 x.f1.f3.length x.f1.f3 := by
  obtain ⟨A4, c4, rfl, l4, _⟩ := k43_open (Kd.FK_now h)
  exact ⟨A4, c4, rfl, l4, (fun W' hW => by obtain ⟨A4_, c4_, he, l4_, g4_⟩ := k43_open (h W' hW); injection (Option.some.inj (show some (Value.slice A4 x.f1.f3.length c4) = some (Value.slice A4_ x.f1.f3.length c4_) from congrArg (fun l => l[4]?) he)) with ha_ _ _; rw [ha_]; exact g4_)⟩
theorem k43_mkF (W : World) (ok : Nat → Prop) (x : S43) {A4 : Option Addr} {c4 : Nat} (l4 : x.f1.f3.length ≤ c4) (g4 : Kd.F k27 W ok A4 x.f1.f3.length x.f1.f3) : Kd.FK k43 W ok x [.int .u8 x.f0, .int .u8 x.f1.f0, .int .u64 x.f1.f1, .string x.f1.f2, .slice A4 x.f1.f3.length c4] := fun W2 hW => k43_mk W2 x l4 (g4 W2 hW)
end Go.Proofs.YtldjigfnagfalaaGreatDoor.PMn
end
