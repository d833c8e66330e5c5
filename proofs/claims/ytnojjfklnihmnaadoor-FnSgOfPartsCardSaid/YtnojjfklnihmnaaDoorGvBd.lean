/- Part of the proof of LawFnSgOfParts. -/
import Derived.Test.YtnojjfklnihmnaaDoorProg
import Derived.Below
import Derived.Deep.Draws
import Derived.Deep.AppendLies
import Derived.Maps.AppendAt
import Derived.OwnWalk
import Derived.Laws.BytesArg
import Derived.Laws.MakeOwn
import Derived.Laws.OwnMore
import Derived.Deep.OwnRows
import Derived.Tactics
import Derived.Lib.ConvBytes
import Derived.Laws.Slices
import Derived.WalkKit
import Derived.KernelRfl
import Derived.RowKit3
import Derived.Deep.LoopGhost
import Derived.Deep.QuietTactic
import Derived.BigQuiet
import Derived.WideLaws
import Derived.Deep.DeepCutAuto
import Derived.Deep.CutBlock
import Derived.Deep.RegionHeld3
import Derived.Laws.Rows
import Derived.Lib.AppendStr
import Derived.ArgAppend
import Derived.Laws.IdiomCopy
import Derived.OrdersHeld
import Derived.Laws.BitsLemmas
import Derived.RowKit
import Derived.Test.YtnojjfklnihmnaaDoorWWords
import Derived.Test.YtnojjfklnihmnaaDoorWFour
import Derived.Test.YtnojjfklnihmnaaDoorWGuard
import Derived.Test.YtnojjfklnihmnaaDoorWNEv
import Derived.Test.YtnojjfklnihmnaaDoorWMore
import Derived.Test.YtnojjfklnihmnaaDoorGvU8
import Derived.LoopTactic
import Derived.Outline
set_option linter.unusedVariables false
set_option linter.unusedSimpArgs false
section
namespace Go.Proofs.YtnojjfklnihmnaaDoor.PFnSgOfParts
open Go.RowKit Go.Proofs.YtnojjfklnihmnaaDoorW.PrintWords Go.Proofs.YtnojjfklnihmnaaDoorW.PrintLast Go.Proofs.YtnojjfklnihmnaaDoorW.PrintMore
attribute [local go_sem] max2_int min2_int max_two min_two max_three min_three max_four min_four   -- for this text's walks alone
set_option linter.unusedVariables false
set_option linter.unusedSimpArgs false
def errW : Option Int → Value
  | none => .nilIface
  | some c => .iface 0 (.int .i64 c)
theorem errW_none : errW none = .nilIface := rfl
theorem errW_some (c : Int) : errW (some c) = .iface 0 (.int .i64 c) := rfl
theorem info9 : (Tryd.prog.info? 9).map (fun i => (i.zero, i.size, i.bytes)) = some (some (.string ⟨#[]⟩), 1, 16) := by kernel_rfl
theorem info47 : (Tryd.prog.info? 47).map (fun i => (i.zero, i.size, i.bytes)) = some (some (.agg #[(.int .u8 0), (.int .u64 0), (.string ⟨#[]⟩), (.slice none 0 0)]), 4, 56) := by kernel_rfl
theorem info57 : (Tryd.prog.info? 57).map (fun i => (i.zero, i.size, i.bytes)) = some (some (.string ⟨#[]⟩), 1, 16) := by kernel_rfl
structure S25 where
  f0 : Int
  f1 : Int
  f2 : ByteArray
  f3 : (List S25)
def z25 : S25 := ⟨(0 : Int), (0 : Int), (⟨#[]⟩ : ByteArray), ([] : List S25)⟩
def F25 (d : Kd S25) : Kd S25 := Kd.iso (Kd.pair (Kd.int .u8) (Kd.pair (Kd.int .u64) (Kd.pair Kd.string (Kd.slice 25 d)))) (fun x : S25 => (x.f0, x.f1, x.f2, x.f3))
theorem mono25 : Kd.Mono F25 := Kd.mono_iso _ (Kd.mono_pair (Kd.mono_const _) (Kd.mono_pair (Kd.mono_const _) (Kd.mono_pair (Kd.mono_const _) (Kd.mono_slice 25 Kd.mono_id))))
theorem sub25 : Kd.Sub F25 [25] := Kd.sub_iso _ (Kd.sub_pair (Kd.sub_const _ (by decide)) (Kd.sub_pair (Kd.sub_const _ (by decide)) (Kd.sub_pair (Kd.sub_const _ (by decide)) (Kd.sub_slice 25 (by decide) Kd.sub_id))))
theorem sz25 : ∀ n, (Kd.upto F25 4 [25] n).sz = 4 := Kd.upto_sz (fun _ => rfl)
def k25 : Kd S25 := Kd.fix F25 4 [25] sz25 (Kd.upto_E sub25)
theorem k25_open {w : World} {x : S25} {cs : List Value} (h : k25.K w x cs) : ∃ A3 c3, cs = [.int .u8 x.f0, .int .u64 x.f1, .string x.f2, .slice A3 x.f3.length c3] ∧ x.f3.length ≤ c3 ∧ k25.C w A3 x.f3.length x.f3 := by
  obtain ⟨n, h⟩ := h
  cases n with
  | zero => exact h.elim
  | succ n =>
    obtain ⟨_, _, rfl, rfl, ⟨_, _, rfl, rfl, ⟨_, _, rfl, rfl, ⟨A3, c3, rfl, l3, g3⟩⟩⟩⟩ := h
    exact ⟨A3, c3, rfl, l3, Kd.fix_C g3⟩
theorem k25_mk (w : World) (x : S25) {A3 : Option Addr} {c3 : Nat} (l3 : x.f3.length ≤ c3) (g3 : k25.C w A3 x.f3.length x.f3) : k25.K w x [.int .u8 x.f0, .int .u64 x.f1, .string x.f2, .slice A3 x.f3.length c3] := by
  obtain ⟨n3, q3⟩ := Kd.fix_C_back mono25 g3
  have r3 := Kd.upto_C_le mono25 sz25 (show n3 ≤ n3 by omega) q3
  exact ⟨n3 + 1, ⟨[.int .u8 x.f0], [.int .u64 x.f1, .string x.f2, .slice A3 x.f3.length c3], rfl, rfl, ⟨[.int .u64 x.f1], [.string x.f2, .slice A3 x.f3.length c3], rfl, rfl, ⟨[.string x.f2], [.slice A3 x.f3.length c3], rfl, rfl, ⟨A3, c3, rfl, l3, r3⟩⟩⟩⟩⟩
def rd_T25 (xs : List S25) (i : Int) : S25 := xs.getD i.toNat z25
theorem at_T25 {w : World} {A : Option Addr} {n : Nat} {xs : List S25} (h : Kd.C k25 w A n xs) (i : Int) (h0 : 0 ≤ i) (h1 : i < n) : ∃ ad A3 c3, A = some ad ∧ w.cell? (ad.add (i.toNat * 4)) = some (.int .u8 (rd_T25 xs i).f0) ∧ w.cell? ⟨(ad.add (i.toNat * 4)).block, (ad.add (i.toNat * 4)).off + 1, none⟩ = some (.int .u64 (rd_T25 xs i).f1) ∧ w.cell? ⟨(ad.add (i.toNat * 4)).block, (ad.add (i.toNat * 4)).off + 2, none⟩ = some (.string (rd_T25 xs i).f2) ∧ w.cell? ⟨(ad.add (i.toNat * 4)).block, (ad.add (i.toNat * 4)).off + 3, none⟩ = some (.slice A3 (rd_T25 xs i).f3.length c3) ∧ (rd_T25 xs i).f3.length ≤ c3 ∧ k25.C w A3 (rd_T25 xs i).f3.length (rd_T25 xs i).f3 := by
  obtain ⟨ad, c, e, _, hK, hc0⟩ := Kd.C_get h z25 i h0 h1
  have hc : ∀ j u, c[j]? = some u → w.cell? (ad.add (i.toNat * 4 + j)) = some u := hc0
  obtain ⟨A3, c3, rfl, l3, g3⟩ := k25_open hK
  exact ⟨ad, A3, c3, e, hc 0 _ rfl, by rw [← add_field _ _ 1 (by omega)]; exact hc 1 _ rfl, by rw [← add_field _ _ 2 (by omega)]; exact hc 2 _ rfl, by rw [← add_field _ _ 3 (by omega)]; exact hc 3 _ rfl, l3, g3⟩
structure S47 where
  f0 : Int
  f1 : Int
  f2 : ByteArray
  f3 : (List S47)
def z47 : S47 := ⟨(0 : Int), (0 : Int), (⟨#[]⟩ : ByteArray), ([] : List S47)⟩
def F47 (d : Kd S47) : Kd S47 := Kd.iso (Kd.pair (Kd.int .u8) (Kd.pair (Kd.int .u64) (Kd.pair Kd.string (Kd.slice 47 d)))) (fun x : S47 => (x.f0, x.f1, x.f2, x.f3))
theorem mono47 : Kd.Mono F47 := Kd.mono_iso _ (Kd.mono_pair (Kd.mono_const _) (Kd.mono_pair (Kd.mono_const _) (Kd.mono_pair (Kd.mono_const _) (Kd.mono_slice 47 Kd.mono_id))))
theorem sub47 : Kd.Sub F47 [47] := Kd.sub_iso _ (Kd.sub_pair (Kd.sub_const _ (by decide)) (Kd.sub_pair (Kd.sub_const _ (by decide)) (Kd.sub_pair (Kd.sub_const _ (by decide)) (Kd.sub_slice 47 (by decide) Kd.sub_id))))
theorem sz47 : ∀ n, (Kd.upto F47 4 [47] n).sz = 4 := Kd.upto_sz (fun _ => rfl)
def k47 : Kd S47 := Kd.fix F47 4 [47] sz47 (Kd.upto_E sub47)
theorem k47_open {w : World} {x : S47} {cs : List Value} (h : k47.K w x cs) : ∃ A3 c3, cs = [.int .u8 x.f0, .int .u64 x.f1, .string x.f2, .slice A3 x.f3.length c3] ∧ x.f3.length ≤ c3 ∧ k47.C w A3 x.f3.length x.f3 := by
  obtain ⟨n, h⟩ := h
  cases n with
  | zero => exact h.elim
  | succ n =>
    obtain ⟨_, _, rfl, rfl, ⟨_, _, rfl, rfl, ⟨_, _, rfl, rfl, ⟨A3, c3, rfl, l3, g3⟩⟩⟩⟩ := h
    exact ⟨A3, c3, rfl, l3, Kd.fix_C g3⟩
theorem k47_mkM (w : World) (base : Nat) (ok : Nat → Prop) (x : S47) {v3 : Value} (g3 : k47.R 47 w base ok v3 x.f3) : k47.M w base ok x [.int .u8 x.f0, .int .u64 x.f1, .string x.f2, v3] := by
  obtain ⟨n3, q3⟩ := Kd.fix_R_back mono47 g3
  have r3 := Kd.upto_R_le mono47 sz47 (show n3 ≤ n3 by omega) q3
  exact ⟨n3 + 1, ⟨[.int .u8 x.f0], [.int .u64 x.f1, .string x.f2, v3], rfl, rfl, ⟨[.int .u64 x.f1], [.string x.f2, v3], rfl, rfl, ⟨[.string x.f2], [v3], rfl, rfl, ⟨v3, rfl, r3⟩⟩⟩⟩⟩
def rd_T47 (xs : List S47) (i : Int) : S47 := xs.getD i.toNat z47
theorem at_T47 {w : World} {A : Option Addr} {n : Nat} {xs : List S47} (h : Kd.C k47 w A n xs) (i : Int) (h0 : 0 ≤ i) (h1 : i < n) : ∃ ad A3 c3, A = some ad ∧ w.cell? (ad.add (i.toNat * 4)) = some (.int .u8 (rd_T47 xs i).f0) ∧ w.cell? ⟨(ad.add (i.toNat * 4)).block, (ad.add (i.toNat * 4)).off + 1, none⟩ = some (.int .u64 (rd_T47 xs i).f1) ∧ w.cell? ⟨(ad.add (i.toNat * 4)).block, (ad.add (i.toNat * 4)).off + 2, none⟩ = some (.string (rd_T47 xs i).f2) ∧ w.cell? ⟨(ad.add (i.toNat * 4)).block, (ad.add (i.toNat * 4)).off + 3, none⟩ = some (.slice A3 (rd_T47 xs i).f3.length c3) ∧ (rd_T47 xs i).f3.length ≤ c3 ∧ k47.C w A3 (rd_T47 xs i).f3.length (rd_T47 xs i).f3 := by
  obtain ⟨ad, c, e, _, hK, hc0⟩ := Kd.C_get h z47 i h0 h1
  have hc : ∀ j u, c[j]? = some u → w.cell? (ad.add (i.toNat * 4 + j)) = some u := hc0
  obtain ⟨A3, c3, rfl, l3, g3⟩ := k47_open hK
  exact ⟨ad, A3, c3, e, hc 0 _ rfl, by rw [← add_field _ _ 1 (by omega)]; exact hc 1 _ rfl, by rw [← add_field _ _ 2 (by omega)]; exact hc 2 _ rfl, by rw [← add_field _ _ 3 (by omega)]; exact hc 3 _ rfl, l3, g3⟩
end Go.Proofs.YtnojjfklnihmnaaDoor.PFnSgOfParts
end
section
namespace Go.Proofs.YtnojjfklnihmnaaDoor.Given
open Go.RowKit Go.Proofs.YtnojjfklnihmnaaDoorW.PrintWords Go.Proofs.YtnojjfklnihmnaaDoor.PFnSgOfParts
set_option linter.unusedVariables false
def bnd.l (most : Int) : Nat → List S25 → Int → Int → Option Bool
  | 0, _, _, _ => none
  | k + 1, todo, bytes, n =>
    if todo.length = 0 then some true
    else if 65536 < ((rd_T25 todo ((todo.length : Int) - 1)).f2.size : Int) ∨ most < ((rd_T25 todo ((todo.length : Int) - 1)).f3.length : Int) then some false
    else if 65536 < bytes + ((rd_T25 todo ((todo.length : Int) - 1)).f2.size : Int) ∨ most < n + ((rd_T25 todo ((todo.length : Int) - 1)).f3.length : Int) then some false
    else bnd.l most k (todo.take (todo.length - 1) ++ (rd_T25 todo ((todo.length : Int) - 1)).f3) (bytes + ((rd_T25 todo ((todo.length : Int) - 1)).f2.size : Int)) (n + ((rd_T25 todo ((todo.length : Int) - 1)).f3.length : Int))
def bnd.f (l : List S25) (most : Int) : Option Bool := if most < (l.length : Int) then some false else if most ≤ 100000 then bnd.l most (most.toNat + 2) l 0 (l.length : Int) else none
theorem info25 : (Tryd.prog.info? 25).map (fun i => (i.zero, i.size, i.bytes)) = some (some (.agg #[(.int .u8 0), (.int .u64 0), (.string ⟨#[]⟩), (.slice none 0 0)]), 4, 56) := by kernel_rfl
def kF (w : World) : Kd S25 where
  sz := 4
  E := []
  K := fun _ x cs => k25.K w x cs
  M := fun _ _ _ x cs => k25.K w x cs
  K_len := fun h => k25.K_len h
  K_one := fun h => k25.K_one h
  K_below := fun _ h => h
  K_of_M := fun h => h
  M_mono := fun _ h => h
  M_bound := fun h => h
  M_move := fun _ h => h
  M_lower := fun _ h => h
theorem at_F {w wr : World} {A : Option Addr} {n : Nat} {xs : List S25} (h : Kd.C (kF w) wr A n xs) (i : Int) (h0 : 0 ≤ i) (h1 : i < n) : ∃ ad A3 c3, A = some ad ∧ wr.cell? (ad.add (i.toNat * 4)) = some (.int .u8 (rd_T25 xs i).f0) ∧ wr.cell? ⟨(ad.add (i.toNat * 4)).block, (ad.add (i.toNat * 4)).off + 1, none⟩ = some (.int .u64 (rd_T25 xs i).f1) ∧ wr.cell? ⟨(ad.add (i.toNat * 4)).block, (ad.add (i.toNat * 4)).off + 2, none⟩ = some (.string (rd_T25 xs i).f2) ∧ wr.cell? ⟨(ad.add (i.toNat * 4)).block, (ad.add (i.toNat * 4)).off + 3, none⟩ = some (.slice A3 (rd_T25 xs i).f3.length c3) ∧ (rd_T25 xs i).f3.length ≤ c3 ∧ k25.C w A3 (rd_T25 xs i).f3.length (rd_T25 xs i).f3 := by
  obtain ⟨ad, c, e, _, hK, hc0⟩ := Kd.C_get h z25 i h0 h1
  have hc : ∀ j u, c[j]? = some u → wr.cell? (ad.add (i.toNat * 4 + j)) = some u := hc0
  obtain ⟨A3, c3, rfl, l3, g3⟩ := k25_open (show k25.K w _ c from hK)
  exact ⟨ad, A3, c3, e, hc 0 _ rfl, by rw [← add_field _ _ 1 (by omega)]; exact hc 1 _ rfl, by rw [← add_field _ _ 2 (by omega)]; exact hc 2 _ rfl, by rw [← add_field _ _ 3 (by omega)]; exact hc 3 _ rfl, l3, g3⟩
theorem rows_of {w W : World} {A : Option Addr} {n : Nat} {xs : List S25} (h : Kd.C k25 w A n xs) (hb : Below w.heap.size w W) : ReadsRow (k25.K w) 4 W A n xs := ReadsRow.imp_ h hb fun _ _ hp => hp
set_option maxHeartbeats 8000000 in
set_option maxRecDepth 100000 in
theorem bnd.calls (A0 : Option Addr) (c0 : Nat) (l0 : List S25) (a1 : Int) (r : Bool) (w : World) (hr0 : Kd.C k25 w A0 l0.length l0) (hc0 : l0.length ≤ c0) (h : bnd.f l0 a1 = some r) :
    Calls Tryd.prog 7 #[.slice A0 l0.length c0, .int .i64 a1] w fun e w' => e = .returned (.bool r) ∧ Below w.heap.size w w' := by
  unfold bnd.f at h
  by_cases hgt : a1 < (l0.length : Int)
  · rw [if_pos hgt] at h
    obtain rfl := Option.some.inj h
    clear hr0 h
    go_enter Tryd.func7, Tryd.ntmps7
    go_wp2
    go_ret
    exact ⟨rfl, Below.refl _ _⟩
  · rw [if_neg hgt] at h
    by_cases hm : a1 ≤ 100000
    · rw [if_pos hm] at h
      have HC := Aside0.mk hr0
      have HL := Aside0.mk h
      have hbE : Below w.heap.size w (w.alloc (.cells #[] 25)) := (Below.refl _ w).alloc (Nat.le_refl _) _
      have HR0 := Aside0.mk (rows_of hr0 hbE)
      have HBE := Aside0.mk hbE
      have HO0 : Aside0 ((kF w).R 25 (w.alloc (.cells #[] 25)) w.heap.size (fun _ => True) (.slice (some ⟨w.heap.size, 0, none⟩) 0 0) []) := ⟨⟨fun _ _ => trivial, [], ⟨rfl, .inr ⟨w.heap.size, 0, #[], rfl, Nat.le_refl _, heap_alloc_new w _, Nat.le_refl _, Nat.zero_le _, rfl, rfl⟩⟩, Reps.none _ _⟩⟩
      have hlm : l0.length ≤ 100000 := by omega
      have HLM := Aside0.mk hlm
      clear hr0 h hbE
      go_enter Tryd.func7, Tryd.ntmps7
      go_wp2_with ((with_reducible refine gate_builtin (b := .append) (xs := #[.tmp 13, .tmp 14]) rfl ?_); at_builtin; refine Kd.R_append_rows (kF w) (w0 := w) w.heap.size rfl (.tmp 13) (.tmp 14) 23 25 (.agg #[(.int .u8 0), (.int .u64 0), (.string ⟨#[]⟩), (.slice none 0 0)]) 56 rfl Tryd.underlying23 info25 rfl (show 0 < 4 by decide) (by decide) (.slice (some ⟨w.heap.size, 0, none⟩) 0 0) [] l0 A0 l0.length c0 (fun _ => True) (fun _ => False) rfl rfl HO0.out HR0.out (fun _ _ h => h) (fun _ h => h.elim) (fun _ _ => trivial) HBE.out HBE.out.size (by have := HLM.out; simp only [List.length_nil, Nat.zero_add]; omega) ?_; intro v5 W5 hr hb hg hat; obtain ⟨A5, m5, rfl⟩ := Kd.R_slice hr)
      have HR5 := Aside0.mk hr
      have HB5 := Aside0.mk hb
      clear hr hb hg hat HR0 HBE HO0 HC
      go_loopg [5, 6, 7] (a1.toNat + 2) (fun gk t b n wr => ∃ (todo : List S25) (by_ nn : Int) (A : Option Addr) (m : Nat), t = .slice A todo.length m ∧ b = .int .i64 by_ ∧ n = .int .i64 nn ∧ 0 ≤ by_ ∧ by_ ≤ 65536 ∧ (todo.length : Int) ≤ nn ∧ nn ≤ a1 ∧ Aside0 ((kF w).R 25 wr w.heap.size (fun _ => True) (.slice A todo.length m) todo) ∧ Aside0 (bnd.l a1 gk todo by_ nn = some r) ∧ Aside0 (Below w.heap.size w wr))
      case atStart => exact ⟨l0, 0, l0.length, A5, m5, rfl, rfl, rfl, by omega, by omega, by omega, by omega, HR5, HL, HB5⟩
      case round =>
        clear HR5 HL HB5
        obtain ⟨todo, by_, nn, A, m, rfl, rfl, rfl, hb0, hb1, hn0, hn1, HO, HL, HB⟩ := hrel
        obtain ⟨g', rfl⟩ : ∃ g', gk = g' + 1 := by
          cases gk with
          | zero => have := HL.out; cases this
          | succ g' => exact ⟨g', rfl⟩
        by_cases h0 : todo.length = 0
        · have hr : r = true := by have := HL.out; rw [bnd.l, if_pos h0] at this; exact (Option.some.inj this).symm
          subst hr
          have hi : ¬ (0 : Int) < (todo.length : Int) := by omega
          go_wp2_with fail
          go_ret
          exact ⟨rfl, HB.out⟩
        · have hi : (0 : Int) < (todo.length : Int) := by omega
          obtain ⟨A', c', he, hle, hC'⟩ := Kd.R_reads HO.out
          obtain ⟨ad, A3, c3, hA, d0, d1, d2, d3, hl3, hC3⟩ := at_F hC' ((todo.length : Int) - 1) (by omega) (by omega)
          obtain ⟨n1, hn1⟩ : ∃ n1, todo.length = n1 + 1 := ⟨todo.length - 1, by omega⟩
          have HL2 := HL.out
          rw [bnd.l, if_neg h0] at HL2
          have en : ((todo.length : Int) - 1) = (n1 : Int) := by omega
          have eA : A' = A := by injection he with h1 h2 h3; exact h1.symm
          subst eA
          rw [en] at d0 d1 d2 d3 hl3 hC3 HL2
          simp only [Int.toNat_natCast] at d0 d1 d2 d3
          have HT := Aside0.mk (Kd.R_take HO.out (m := n1) (by omega))
          have HTL : Aside0 ((todo.take n1).length = n1) := ⟨by rw [List.length_take]; omega⟩
          rw [show todo.length - 1 = n1 by omega] at HL2
          generalize rd_T25 todo (n1 : Int) = V at d0 d1 d2 d3 hl3 hC3 HL2
          have HL3 := Aside0.mk HL2
          have HC3 := Aside0.mk hC3
          have HMM := Aside0.mk hm
          obtain ⟨W1, hW1⟩ : ∃ W1, wr.alloc (.cells #[.int .u8 V.f0, .int .u64 V.f1, .string V.f2, .slice A3 V.f3.length c3] 25) = W1 := ⟨_, rfl⟩
          have hbn : Below wr.heap.size wr W1 := hW1 ▸ (Below.refl _ _).alloc (Nat.le_refl _) _
          have hbq : W1.heap[wr.heap.size]? = some (.cells #[.int .u8 V.f0, .int .u64 V.f1, .string V.f2, .slice A3 V.f3.length c3] 25 (0, 0)) := hW1 ▸ heap_alloc_new wr _
          have q2 : W1.cell? ⟨wr.heap.size, 2, none⟩ = some (.string V.f2) := (blk_cell hbq 2).trans rfl
          have q3 : W1.cell? ⟨wr.heap.size, 3, none⟩ = some (.slice A3 V.f3.length c3) := (blk_cell hbq 3).trans rfl
          have HBW := Aside0.mk (HB.out.trans (hbn.mono HB.out.size))
          have HTW := Aside0.mk (Kd.R_below HT.out hbn)
          have HRW := Aside0.mk (rows_of HC3.out HBW.out)
          have hnle : n1 ≤ m := by rw [hn1] at hle; injection he with h1 h2 h3; omega
          have hnn : (n1 : Int) + 1 ≤ nn := by omega
          rw [hn1]
          clear HL HO HT hC' HL2 hC3 hbn hbq he hle h0 hi hn0 hn1 en HC3
          subst hA
          by_cases g1 : (65536 : Int) < (V.f2.size : Int)
          · have hr : r = false := by have := HL3.out; rw [if_pos (Or.inl g1)] at this; exact (Option.some.inj this).symm
            subst hr
            go_wp2_with fail
            go_ret
            exact ⟨rfl, HBW.out⟩
          · by_cases g2 : a1 < (V.f3.length : Int)
            · have hr : r = false := by have := HL3.out; rw [if_pos (Or.inr g2)] at this; exact (Option.some.inj this).symm
              subst hr
              go_wp2_with fail
              go_ret
              exact ⟨rfl, HBW.out⟩
            · have HL4 := HL3.out
              rw [if_neg (by omega)] at HL4
              by_cases g3 : (65536 : Int) < by_ + (V.f2.size : Int)
              · have hr : r = false := by rw [if_pos (Or.inl g3)] at HL4; exact (Option.some.inj HL4).symm
                subst hr
                clear HL4
                go_wp2_with fail
                go_ret
                exact ⟨rfl, HBW.out⟩
              · by_cases g4 : a1 < nn + (V.f3.length : Int)
                · have hr : r = false := by rw [if_pos (Or.inr g4)] at HL4; exact (Option.some.inj HL4).symm
                  subst hr
                  clear HL4
                  go_wp2_with fail
                  go_ret
                  exact ⟨rfl, HBW.out⟩
                · rw [if_neg (by omega)] at HL4
                  have HL5 := Aside0.mk HL4
                  have HN := Aside0.mk (And.intro hnn g4)
                  clear HL4 HL3
                  go_wp2_with ((with_reducible refine gate_builtin (b := .append) (xs := #[.tmp 60, .tmp 62]) rfl ?_); at_builtin; refine Kd.R_append_rows (kF w) (w0 := w) w.heap.size rfl (.tmp 60) (.tmp 62) 23 25 (.agg #[(.int .u8 0), (.int .u64 0), (.string ⟨#[]⟩), (.slice none 0 0)]) 56 rfl Tryd.underlying23 info25 rfl (show 0 < 4 by decide) (by decide) (.slice (some ad) n1 m) (todo.take n1) V.f3 A3 V.f3.length c3 (fun _ => True) (fun _ => False) rfl rfl HTW.out HRW.out (fun _ _ h => h) (fun _ h => h.elim) (fun _ _ => trivial) HBW.out HBW.out.size (by have := HTL.out; have := HN.out; have := HMM.out; omega) ?_; intro v5 W6 hr hb hg hat; obtain ⟨A6, m6, e6⟩ := Kd.R_slice hr; obtain ⟨ln, hln⟩ : ∃ ln, (todo.take n1 ++ V.f3).length = ln := ⟨_, rfl⟩; rw [hln] at e6; subst e6; have HLN := Aside0.mk hln; have HR6 := Aside0.mk hr; have HB6 := Aside0.mk hb; clear hr hb hg hat hln)
                  go_roundg g'
                  case measure => omega
                  case rel =>
                    have h1 := HLN.out
                    have h2 := HTL.out
                    have h3 := HN.out
                    rw [List.length_append, h2] at h1
                    exact ⟨todo.take n1 ++ V.f3, by_ + V.f2.size, nn + V.f3.length, A6, m6, by rw [HLN.out], rfl, rfl, by omega, by omega, by rw [List.length_append, h2]; omega, by omega, ⟨by rw [HLN.out]; exact HR6.out⟩, HL5, HB6⟩
    · rw [if_neg hm] at h; cases h
end Go.Proofs.YtnojjfklnihmnaaDoor.Given
end
