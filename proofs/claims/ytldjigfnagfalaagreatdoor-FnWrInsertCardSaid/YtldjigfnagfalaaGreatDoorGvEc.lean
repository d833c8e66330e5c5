/- An element's encoding as a step of an encoder's state, for each kind and order. -/
import Derived.Test.YtldjigfnagfalaaGreatDoorGvSt
import Derived.Test.YtldjigfnagfalaaGreatDoorGvEn
import Derived.Test.YtldjigfnagfalaaGreatDoorGvEy
namespace Go.Proofs.YtldjigfnagfalaaGreatDoor.Given
open Go.RowKit Go.Proofs.YtldjigfnagfalaaGreatDoorW.PrintWords
set_option linter.unusedVariables false
/-- A value of a kind is encoded as these bytes. -/
def Encs (c : UInt8) (x : Value) (s : Int) (o : TypeId) (bytes : List UInt8) : Prop :=
  ∀ (w : World) (B e b : Nat) (q dep : Int) (bs : List UInt8), En w B e b o q bs → 0 ≤ dep → dep ≤ 64 → 0 ≤ q → q < 4611686018427387904 → q.tmod s = 0 → bs.length + bytes.length ≤ 140737488355328 →
    Calls Tryz.prog 36 #[.pointer (some ⟨e, 0, none⟩), .agg #[x, .string ⟨#[c]⟩], .int .i64 dep] w fun r w' => r = .returned (.tuple #[]) ∧ En w' B e b o (q + s) (bs ++ bytes) ∧ Below B w w'
theorem En.hR {w : World} {B e b : Nat} {o : TypeId} {q : Int} {bs bs2 : List UInt8} (h : En w B e b o q bs) : ∀ w', Rt w B b bs2 w' → w'.cell? ⟨e, 3, none⟩ = some (.int .i64 q) ∧ w'.frozen? ⟨e, 3, none⟩ = false := fun w' hr => by
  have hk := h.keeps hr
  exact ⟨by rw [Lib.cell_of_heap hk]; rfl, Lib.frozen_of_heap hk 3⟩
theorem En.done {w : World} {B e b f : Nat} {o : TypeId} {q q2 : Int} {bs bs2 : List UInt8} {args : Array Value} (h : En w B e b o q bs)
    (hc : Calls Tryz.prog f args w fun r w' => r = .returned (.tuple #[]) ∧ ∃ w1, Rt w B b bs2 w1 ∧ w' = w1.setCell ⟨e, 3, none⟩ (.int .i64 q2)) :
    Calls Tryz.prog f args w fun r w' => r = .returned (.tuple #[]) ∧ En w' B e b o q2 bs2 ∧ Below B w w' := by
  refine hc.mono ?_
  rintro r w' ⟨rfl, w1, hr, rfl⟩
  exact ⟨rfl, h.step hr⟩
theorem encs_121 (v : Nat) (hv : v < 256) (o : TypeId) : Encs 121 (.iface 5 (.int .u8 v)) 1 o [UInt8.ofNat v] := fun w B e b q dep bs h hd0 hd hq0 hq1 hm hl =>
  h.done (en_121 e b v hv q dep hd0 hd hq0 hq1 _ w h.c0 h.c3 (takes_inner B b bs _ w h.buf h.low hl) h.hR)
theorem encs_110_le (v : Nat) (hv : v < 65536) (x : Int) (hx : IntKind.u16.wrap x = (v : Int)) (hx0 : -32768 ≤ x) (hx1 : x < 32768) : Encs 110 (.iface 64 (.int .i16 x)) 2 97 (Lib.leBytes 2 v) := fun w B e b q dep bs h hd0 hd hq0 hq1 hm hl =>
  h.done (en_110_le e b v hv x hx hx0 hx1 q dep hd0 hd hq0 hq1 hm _ w h.c0 h.c2 h.c3 (takes_inner B b bs _ w h.buf h.low hl) h.hR)
theorem encs_110_be (v : Nat) (hv : v < 65536) (x : Int) (hx : IntKind.u16.wrap x = (v : Int)) (hx0 : -32768 ≤ x) (hx1 : x < 32768) : Encs 110 (.iface 64 (.int .i16 x)) 2 96 (Lib.beBytes 2 v) := fun w B e b q dep bs h hd0 hd hq0 hq1 hm hl =>
  h.done (en_110_be e b v hv x hx hx0 hx1 q dep hd0 hd hq0 hq1 hm _ w h.c0 h.c2 h.c3 (takes_inner B b bs _ w h.buf h.low hl) h.hR)
theorem encs_113_le (v : Nat) (hv : v < 65536) : Encs 113 (.iface 131 (.int .u16 v)) 2 97 (Lib.leBytes 2 v) := fun w B e b q dep bs h hd0 hd hq0 hq1 hm hl =>
  h.done (en_113_le e b v hv q dep hd0 hd hq0 hq1 hm _ w h.c0 h.c2 h.c3 (takes_inner B b bs _ w h.buf h.low hl) h.hR)
theorem encs_113_be (v : Nat) (hv : v < 65536) : Encs 113 (.iface 131 (.int .u16 v)) 2 96 (Lib.beBytes 2 v) := fun w B e b q dep bs h hd0 hd hq0 hq1 hm hl =>
  h.done (en_113_be e b v hv q dep hd0 hd hq0 hq1 hm _ w h.c0 h.c2 h.c3 (takes_inner B b bs _ w h.buf h.low hl) h.hR)
theorem encs_105_le (v : Nat) (hv : v < 4294967296) (x : Int) (hx : IntKind.u32.wrap x = (v : Int)) (hx0 : -2147483648 ≤ x) (hx1 : x < 2147483648) : Encs 105 (.iface 21 (.int .i32 x)) 4 97 (Lib.leBytes 4 v) := fun w B e b q dep bs h hd0 hd hq0 hq1 hm hl =>
  h.done (en_105_le e b v hv x hx hx0 hx1 q dep hd0 hd hq0 hq1 hm _ w h.c0 h.c2 h.c3 (takes_inner B b bs _ w h.buf h.low hl) h.hR)
theorem encs_105_be (v : Nat) (hv : v < 4294967296) (x : Int) (hx : IntKind.u32.wrap x = (v : Int)) (hx0 : -2147483648 ≤ x) (hx1 : x < 2147483648) : Encs 105 (.iface 21 (.int .i32 x)) 4 96 (Lib.beBytes 4 v) := fun w B e b q dep bs h hd0 hd hq0 hq1 hm hl =>
  h.done (en_105_be e b v hv x hx hx0 hx1 q dep hd0 hd hq0 hq1 hm _ w h.c0 h.c2 h.c3 (takes_inner B b bs _ w h.buf h.low hl) h.hR)
theorem encs_117_le (v : Nat) (hv : v < 4294967296) : Encs 117 (.iface 36 (.int .u32 v)) 4 97 (Lib.leBytes 4 v) := fun w B e b q dep bs h hd0 hd hq0 hq1 hm hl =>
  h.done (en_117_le e b v hv q dep hd0 hd hq0 hq1 hm _ w h.c0 h.c2 h.c3 (takes_inner B b bs _ w h.buf h.low hl) h.hR)
theorem encs_117_be (v : Nat) (hv : v < 4294967296) : Encs 117 (.iface 36 (.int .u32 v)) 4 96 (Lib.beBytes 4 v) := fun w B e b q dep bs h hd0 hd hq0 hq1 hm hl =>
  h.done (en_117_be e b v hv q dep hd0 hd hq0 hq1 hm _ w h.c0 h.c2 h.c3 (takes_inner B b bs _ w h.buf h.low hl) h.hR)
theorem encs_120_le (v : Nat) (hv : v < 18446744073709551616) (x : Int) (hx : IntKind.u64.wrap x = (v : Int)) (hx0 : -9223372036854775808 ≤ x) (hx1 : x < 9223372036854775808) : Encs 120 (.iface 2 (.int .i64 x)) 8 97 (Lib.leBytes 8 v) := fun w B e b q dep bs h hd0 hd hq0 hq1 hm hl =>
  h.done (en_120_le e b v hv x hx hx0 hx1 q dep hd0 hd hq0 hq1 hm _ w h.c0 h.c2 h.c3 (takes_inner B b bs _ w h.buf h.low hl) h.hR)
theorem encs_120_be (v : Nat) (hv : v < 18446744073709551616) (x : Int) (hx : IntKind.u64.wrap x = (v : Int)) (hx0 : -9223372036854775808 ≤ x) (hx1 : x < 9223372036854775808) : Encs 120 (.iface 2 (.int .i64 x)) 8 96 (Lib.beBytes 8 v) := fun w B e b q dep bs h hd0 hd hq0 hq1 hm hl =>
  h.done (en_120_be e b v hv x hx hx0 hx1 q dep hd0 hd hq0 hq1 hm _ w h.c0 h.c2 h.c3 (takes_inner B b bs _ w h.buf h.low hl) h.hR)
theorem encs_116_le (v : Nat) (hv : v < 18446744073709551616) : Encs 116 (.iface 23 (.int .u64 v)) 8 97 (Lib.leBytes 8 v) := fun w B e b q dep bs h hd0 hd hq0 hq1 hm hl =>
  h.done (en_116_le e b v hv q dep hd0 hd hq0 hq1 hm _ w h.c0 h.c2 h.c3 (takes_inner B b bs _ w h.buf h.low hl) h.hR)
theorem encs_116_be (v : Nat) (hv : v < 18446744073709551616) : Encs 116 (.iface 23 (.int .u64 v)) 8 96 (Lib.beBytes 8 v) := fun w B e b q dep bs h hd0 hd hq0 hq1 hm hl =>
  h.done (en_116_be e b v hv q dep hd0 hd hq0 hq1 hm _ w h.c0 h.c2 h.c3 (takes_inner B b bs _ w h.buf h.low hl) h.hR)
theorem encs_100_le (v : Nat) (hv : v < 18446744073709551616) : Encs 100 (.iface 132 (.float .f64 v)) 8 97 (Lib.leBytes 8 v) := fun w B e b q dep bs h hd0 hd hq0 hq1 hm hl =>
  h.done (en_100_le e b v hv q dep hd0 hd hq0 hq1 hm _ w h.c0 h.c2 h.c3 (takes_inner B b bs _ w h.buf h.low hl) h.hR)
theorem encs_100_be (v : Nat) (hv : v < 18446744073709551616) : Encs 100 (.iface 132 (.float .f64 v)) 8 96 (Lib.beBytes 8 v) := fun w B e b q dep bs h hd0 hd hq0 hq1 hm hl =>
  h.done (en_100_be e b v hv q dep hd0 hd hq0 hq1 hm _ w h.c0 h.c2 h.c3 (takes_inner B b bs _ w h.buf h.low hl) h.hR)
theorem encs_104_le (v : Nat) (hv : v < 4294967296) : Encs 104 (.iface 156 (.int .u32 v)) 4 97 (Lib.leBytes 4 v) := fun w B e b q dep bs h hd0 hd hq0 hq1 hm hl =>
  h.done (en_104_le e b v hv q dep hd0 hd hq0 hq1 hm _ w h.c0 h.c2 h.c3 (takes_inner B b bs _ w h.buf h.low hl) h.hR)
theorem encs_104_be (v : Nat) (hv : v < 4294967296) : Encs 104 (.iface 156 (.int .u32 v)) 4 96 (Lib.beBytes 4 v) := fun w B e b q dep bs h hd0 hd hq0 hq1 hm hl =>
  h.done (en_104_be e b v hv q dep hd0 hd hq0 hq1 hm _ w h.c0 h.c2 h.c3 (takes_inner B b bs _ w h.buf h.low hl) h.hR)
end Go.Proofs.YtldjigfnagfalaaGreatDoor.Given
