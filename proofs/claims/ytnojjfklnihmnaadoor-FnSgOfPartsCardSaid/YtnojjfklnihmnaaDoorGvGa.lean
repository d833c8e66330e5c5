/- Part of the proof of LawFnSgOfParts. -/
import Derived.Test.YtnojjfklnihmnaaDoorTs
import Derived.Tactics
import Derived.Tactics2
import Derived.Defers
import Derived.Recover
import Derived.Outline
import Derived.Handy
import Derived.LoopTactic
import Derived.Deep.RegionWith
set_option linter.unusedVariables false
set_option linter.unusedSimpArgs false
section
namespace Go.Proofs.YtnojjfklnihmnaaDoor.Given
open Go.RowKit Go.Proofs.YtnojjfklnihmnaaDoorW.PrintWords Go.Proofs.YtnojjfklnihmnaaDoorW.PrintLast Go.Proofs.YtnojjfklnihmnaaDoor.Pl Go.Proofs.YtnojjfklnihmnaaDoor.Utf Go.Proofs.YtnojjfklnihmnaaDoor.Bm Go.Proofs.YtnojjfklnihmnaaDoor.By Go.Proofs.YtnojjfklnihmnaaDoor.SgT Go.Proofs.YtnojjfklnihmnaaDoor.PFnSgOfParts
set_option linter.unusedVariables false
theorem boxed_block {W W' : World} {x : Nat} {ob : Obj} (h : W.heap[x]? = some ob) (hb : Below W.heap.size W W') : W'.heap[x]? = some ob := (hb.block x (blk_lt h)).trans h
theorem gs_idle (x : Nat) (S : ByteArray) (hS : S.size ≤ 255) (w : World) (c : w.cell? ⟨x, 0, none⟩ = some (.string S)) :
    CallsD Tryd.prog 34 #[.pointer (some ⟨x, 0, none⟩)] .returning w fun e u' w' => e = .returned (.tuple #[]) ∧ u' = .returning ∧ w' = w := by
  have hg : ¬ ((255 : Int) < (S.size : Int)) := by omega
  refine (callsD_of_wp (R := fun e w' => e = .returned (.tuple #[]) ∧ w' = w) Tryd.func34 rfl ?_).mono ?_
  · rw [show (#[Value.pointer (some ⟨x, 0, none⟩)] ++ Array.replicate (Tryd.f34.ntmps - (#[Value.pointer (some ⟨x, 0, none⟩)] : Array Value).size) undef) = #[.pointer (some ⟨x, 0, none⟩), undef, undef, undef, undef] from rfl]
    go_wp2
    refine bodyPost_end (results_none (by rfl) _ _ _) rfl ⟨rfl, rfl⟩
  · rintro e u' w' ⟨rfl, rfl, rfl⟩
    exact ⟨rfl, rfl, rfl⟩
theorem gs_kept {w1 w2 w5 : World} {x : Nat} {S : Value} (h : w1.cell? ⟨x, 0, none⟩ = some S) (hb1 : Below w1.heap.size w1 w2) (hb : Below w2.heap.size w2 w5) (hf : w1.frozen? ⟨x, 0, none⟩ = false) : w5.cell? ⟨x, 0, none⟩ = some S ∧ w5.frozen? ⟨x, 0, none⟩ = false := by
  have hl := block_lt_of_cell h
  have hl2 : x < w2.heap.size := Nat.lt_of_lt_of_le hl hb1.size
  exact ⟨(hb.cell (p := ⟨x, 0, none⟩) hl2).trans ((hb1.cell (p := ⟨x, 0, none⟩) hl).trans h), (hb.frozen (p := ⟨x, 0, none⟩) hl2).trans ((hb1.frozen (p := ⟨x, 0, none⟩) hl).trans hf)⟩
theorem gs_keptA {w1 w5 : World} {x n : Nat} {o : Obj} {S : Value} (h : w1.cell? ⟨x, 0, none⟩ = some S) (hb : Below ((w1.drewN n).alloc o).heap.size ((w1.drewN n).alloc o) w5) (hf : w1.frozen? ⟨x, 0, none⟩ = false) : w5.cell? ⟨x, 0, none⟩ = some S ∧ w5.frozen? ⟨x, 0, none⟩ = false :=
  gs_kept h ((pw_below_drewN (Below.refl _ _) _).alloc (by simp) _) hb hf
theorem dc_new (w : World) (n : Nat) (a t d : Int) (y : TypeId) : Dc ((w.drewN n).alloc (.cells #[.int .i64 a, .int .i64 t, .int .i64 d] y)) w.heap.size a t d := Dc.fresh (w.drewN n) a t d y
theorem gs_below {w w1 w5 : World} {n : Nat} {o : Obj} (h1 : Below w.heap.size w w1) (hb : Below ((w1.drewN n).alloc o).heap.size ((w1.drewN n).alloc o) w5) : Below w.heap.size w w5 := by
  have h2 : Below w.heap.size w ((w1.drewN n).alloc o) := (pw_below_drewN h1 n).alloc (by have := h1.size; simp; omega) o
  exact h2.trans (hb.mono h2.size)
def gsKind (S : ByteArray) (k : Int) : Prop := ∀ w : World, Calls Tryd.prog 35 #[.string S] w fun e w' => e = .returned (.int .i64 k) ∧ Drawn0 w w'
theorem gsKind_of {S : ByteArray} {c k : Int} (h : 0 < S.size) (hb : bt S 0 = c) (hk : (c, k) ∈ kinds) : gsKind S k := fun w => dbus_zzType_Kind.calls 5 S k w (kind_is h hb hk)
theorem gs_new (w : World) (m : Nat) : ((w.alloc (.cells #[.string ⟨#[]⟩] 9)).drewN m).cell? ⟨w.heap.size, 0, none⟩ = some (.string ⟨#[]⟩) := by simp
theorem gs_newB (w : World) (m : Nat) : Below w.heap.size w ((w.alloc (.cells #[.string ⟨#[]⟩] 9)).drewN m) := pw_below_drewN ((Below.refl _ w).alloc (Nat.le_refl _) _) m
set_option maxRecDepth 100000 in
set_option maxHeartbeats 8000000 in
theorem gs_121 (b : Nat) (a t d : Int) (w : World) (hok : ok a t d = true) (hc : Dc w b a t d) (hk : gsKind ⟨#[121]⟩ 7) :
    Calls Tryd.prog 27 #[.string ⟨#[121]⟩, .pointer (some ⟨b, 0, none⟩)] w fun r w' => r = .returned (.string ⟨#[121]⟩) ∧ Below w.heap.size w w' := by
  have hmf : ∀ (fn : Fn) (first cap : Array Value) (w : World), (Instr.makeFunc fn first cap).run Tryd.prog w = .ok (.func fn first cap) w := fun _ _ _ _ => rfl
  have HX := Aside0.mk (hc.kept ((Below.refl _ w).alloc (Nat.le_refl _) (.cells #[.string ⟨#[]⟩] 9)) hc.lt)
  have HK := Aside0.mk hk
  have HO := Aside0.mk hok
  clear hc hk hok
  go_enter_defers Tryd.func27, Tryd.ntmps27
  go_wp2_with (first | (go_at_call 33; refine (Valid.calls b a t d true _ HX.out HO.out).mono ?_; rintro r w1 ⟨rfl, rfl⟩) | (go_at_call 35; refine (HK.out _).mono ?_; rintro r w2 ⟨rfl, hd2⟩; obtain ⟨m2, rfl⟩ := hd2.out))
  have e1 : (((w.alloc (.cells #[.string ⟨#[]⟩] 9)).drewN m2).setCell ⟨w.heap.size, 0, none⟩ (.string ⟨#[121]⟩)).cell? ⟨w.heap.size, 0, none⟩ = some (.string ⟨#[121]⟩) := World.cell?_setCell_same _ _ _ (gs_new w m2)
  have hB := (gs_newB w m2).setCell (p := ⟨w.heap.size, 0, none⟩) (Nat.le_refl _) (.string ⟨#[121]⟩)
  refine leaves_cons (f := 34) (args := #[.pointer (some ⟨w.heap.size, 0, none⟩)]) (by simp) (by simp [go_sem]) ?_
  refine (gs_idle w.heap.size ⟨#[121]⟩ (show 1 ≤ 255 by decide) _ e1).mono ?_
  rintro r u' w'' ⟨rfl, rfl, rfl⟩
  simp [Leaves, settle, results, Tryd.results27, go_sem, e1]
  exact hB
set_option maxRecDepth 100000 in
set_option maxHeartbeats 8000000 in
theorem gs_98 (b : Nat) (a t d : Int) (w : World) (hok : ok a t d = true) (hc : Dc w b a t d) (hk : gsKind ⟨#[98]⟩ 1) :
    Calls Tryd.prog 27 #[.string ⟨#[98]⟩, .pointer (some ⟨b, 0, none⟩)] w fun r w' => r = .returned (.string ⟨#[98]⟩) ∧ Below w.heap.size w w' := by
  have hmf : ∀ (fn : Fn) (first cap : Array Value) (w : World), (Instr.makeFunc fn first cap).run Tryd.prog w = .ok (.func fn first cap) w := fun _ _ _ _ => rfl
  have HX := Aside0.mk (hc.kept ((Below.refl _ w).alloc (Nat.le_refl _) (.cells #[.string ⟨#[]⟩] 9)) hc.lt)
  have HK := Aside0.mk hk
  have HO := Aside0.mk hok
  clear hc hk hok
  go_enter_defers Tryd.func27, Tryd.ntmps27
  go_wp2_with (first | (go_at_call 33; refine (Valid.calls b a t d true _ HX.out HO.out).mono ?_; rintro r w1 ⟨rfl, rfl⟩) | (go_at_call 35; refine (HK.out _).mono ?_; rintro r w2 ⟨rfl, hd2⟩; obtain ⟨m2, rfl⟩ := hd2.out))
  have e1 : (((w.alloc (.cells #[.string ⟨#[]⟩] 9)).drewN m2).setCell ⟨w.heap.size, 0, none⟩ (.string ⟨#[98]⟩)).cell? ⟨w.heap.size, 0, none⟩ = some (.string ⟨#[98]⟩) := World.cell?_setCell_same _ _ _ (gs_new w m2)
  have hB := (gs_newB w m2).setCell (p := ⟨w.heap.size, 0, none⟩) (Nat.le_refl _) (.string ⟨#[98]⟩)
  refine leaves_cons (f := 34) (args := #[.pointer (some ⟨w.heap.size, 0, none⟩)]) (by simp) (by simp [go_sem]) ?_
  refine (gs_idle w.heap.size ⟨#[98]⟩ (show 1 ≤ 255 by decide) _ e1).mono ?_
  rintro r u' w'' ⟨rfl, rfl, rfl⟩
  simp [Leaves, settle, results, Tryd.results27, go_sem, e1]
  exact hB
set_option maxRecDepth 100000 in
set_option maxHeartbeats 8000000 in
theorem gs_110 (b : Nat) (a t d : Int) (w : World) (hok : ok a t d = true) (hc : Dc w b a t d) (hk : gsKind ⟨#[110]⟩ 3) :
    Calls Tryd.prog 27 #[.string ⟨#[110]⟩, .pointer (some ⟨b, 0, none⟩)] w fun r w' => r = .returned (.string ⟨#[110]⟩) ∧ Below w.heap.size w w' := by
  have hmf : ∀ (fn : Fn) (first cap : Array Value) (w : World), (Instr.makeFunc fn first cap).run Tryd.prog w = .ok (.func fn first cap) w := fun _ _ _ _ => rfl
  have HX := Aside0.mk (hc.kept ((Below.refl _ w).alloc (Nat.le_refl _) (.cells #[.string ⟨#[]⟩] 9)) hc.lt)
  have HK := Aside0.mk hk
  have HO := Aside0.mk hok
  clear hc hk hok
  go_enter_defers Tryd.func27, Tryd.ntmps27
  go_wp2_with (first | (go_at_call 33; refine (Valid.calls b a t d true _ HX.out HO.out).mono ?_; rintro r w1 ⟨rfl, rfl⟩) | (go_at_call 35; refine (HK.out _).mono ?_; rintro r w2 ⟨rfl, hd2⟩; obtain ⟨m2, rfl⟩ := hd2.out))
  have e1 : (((w.alloc (.cells #[.string ⟨#[]⟩] 9)).drewN m2).setCell ⟨w.heap.size, 0, none⟩ (.string ⟨#[110]⟩)).cell? ⟨w.heap.size, 0, none⟩ = some (.string ⟨#[110]⟩) := World.cell?_setCell_same _ _ _ (gs_new w m2)
  have hB := (gs_newB w m2).setCell (p := ⟨w.heap.size, 0, none⟩) (Nat.le_refl _) (.string ⟨#[110]⟩)
  refine leaves_cons (f := 34) (args := #[.pointer (some ⟨w.heap.size, 0, none⟩)]) (by simp) (by simp [go_sem]) ?_
  refine (gs_idle w.heap.size ⟨#[110]⟩ (show 1 ≤ 255 by decide) _ e1).mono ?_
  rintro r u' w'' ⟨rfl, rfl, rfl⟩
  simp [Leaves, settle, results, Tryd.results27, go_sem, e1]
  exact hB
set_option maxRecDepth 100000 in
set_option maxHeartbeats 8000000 in
theorem gs_113 (b : Nat) (a t d : Int) (w : World) (hok : ok a t d = true) (hc : Dc w b a t d) (hk : gsKind ⟨#[113]⟩ 8) :
    Calls Tryd.prog 27 #[.string ⟨#[113]⟩, .pointer (some ⟨b, 0, none⟩)] w fun r w' => r = .returned (.string ⟨#[113]⟩) ∧ Below w.heap.size w w' := by
  have hmf : ∀ (fn : Fn) (first cap : Array Value) (w : World), (Instr.makeFunc fn first cap).run Tryd.prog w = .ok (.func fn first cap) w := fun _ _ _ _ => rfl
  have HX := Aside0.mk (hc.kept ((Below.refl _ w).alloc (Nat.le_refl _) (.cells #[.string ⟨#[]⟩] 9)) hc.lt)
  have HK := Aside0.mk hk
  have HO := Aside0.mk hok
  clear hc hk hok
  go_enter_defers Tryd.func27, Tryd.ntmps27
  go_wp2_with (first | (go_at_call 33; refine (Valid.calls b a t d true _ HX.out HO.out).mono ?_; rintro r w1 ⟨rfl, rfl⟩) | (go_at_call 35; refine (HK.out _).mono ?_; rintro r w2 ⟨rfl, hd2⟩; obtain ⟨m2, rfl⟩ := hd2.out))
  have e1 : (((w.alloc (.cells #[.string ⟨#[]⟩] 9)).drewN m2).setCell ⟨w.heap.size, 0, none⟩ (.string ⟨#[113]⟩)).cell? ⟨w.heap.size, 0, none⟩ = some (.string ⟨#[113]⟩) := World.cell?_setCell_same _ _ _ (gs_new w m2)
  have hB := (gs_newB w m2).setCell (p := ⟨w.heap.size, 0, none⟩) (Nat.le_refl _) (.string ⟨#[113]⟩)
  refine leaves_cons (f := 34) (args := #[.pointer (some ⟨w.heap.size, 0, none⟩)]) (by simp) (by simp [go_sem]) ?_
  refine (gs_idle w.heap.size ⟨#[113]⟩ (show 1 ≤ 255 by decide) _ e1).mono ?_
  rintro r u' w'' ⟨rfl, rfl, rfl⟩
  simp [Leaves, settle, results, Tryd.results27, go_sem, e1]
  exact hB
set_option maxRecDepth 100000 in
set_option maxHeartbeats 8000000 in
theorem gs_105 (b : Nat) (a t d : Int) (w : World) (hok : ok a t d = true) (hc : Dc w b a t d) (hk : gsKind ⟨#[105]⟩ 4) :
    Calls Tryd.prog 27 #[.string ⟨#[105]⟩, .pointer (some ⟨b, 0, none⟩)] w fun r w' => r = .returned (.string ⟨#[105]⟩) ∧ Below w.heap.size w w' := by
  have hmf : ∀ (fn : Fn) (first cap : Array Value) (w : World), (Instr.makeFunc fn first cap).run Tryd.prog w = .ok (.func fn first cap) w := fun _ _ _ _ => rfl
  have HX := Aside0.mk (hc.kept ((Below.refl _ w).alloc (Nat.le_refl _) (.cells #[.string ⟨#[]⟩] 9)) hc.lt)
  have HK := Aside0.mk hk
  have HO := Aside0.mk hok
  clear hc hk hok
  go_enter_defers Tryd.func27, Tryd.ntmps27
  go_wp2_with (first | (go_at_call 33; refine (Valid.calls b a t d true _ HX.out HO.out).mono ?_; rintro r w1 ⟨rfl, rfl⟩) | (go_at_call 35; refine (HK.out _).mono ?_; rintro r w2 ⟨rfl, hd2⟩; obtain ⟨m2, rfl⟩ := hd2.out))
  have e1 : (((w.alloc (.cells #[.string ⟨#[]⟩] 9)).drewN m2).setCell ⟨w.heap.size, 0, none⟩ (.string ⟨#[105]⟩)).cell? ⟨w.heap.size, 0, none⟩ = some (.string ⟨#[105]⟩) := World.cell?_setCell_same _ _ _ (gs_new w m2)
  have hB := (gs_newB w m2).setCell (p := ⟨w.heap.size, 0, none⟩) (Nat.le_refl _) (.string ⟨#[105]⟩)
  refine leaves_cons (f := 34) (args := #[.pointer (some ⟨w.heap.size, 0, none⟩)]) (by simp) (by simp [go_sem]) ?_
  refine (gs_idle w.heap.size ⟨#[105]⟩ (show 1 ≤ 255 by decide) _ e1).mono ?_
  rintro r u' w'' ⟨rfl, rfl, rfl⟩
  simp [Leaves, settle, results, Tryd.results27, go_sem, e1]
  exact hB
set_option maxRecDepth 100000 in
set_option maxHeartbeats 8000000 in
theorem gs_117 (b : Nat) (a t d : Int) (w : World) (hok : ok a t d = true) (hc : Dc w b a t d) (hk : gsKind ⟨#[117]⟩ 9) :
    Calls Tryd.prog 27 #[.string ⟨#[117]⟩, .pointer (some ⟨b, 0, none⟩)] w fun r w' => r = .returned (.string ⟨#[117]⟩) ∧ Below w.heap.size w w' := by
  have hmf : ∀ (fn : Fn) (first cap : Array Value) (w : World), (Instr.makeFunc fn first cap).run Tryd.prog w = .ok (.func fn first cap) w := fun _ _ _ _ => rfl
  have HX := Aside0.mk (hc.kept ((Below.refl _ w).alloc (Nat.le_refl _) (.cells #[.string ⟨#[]⟩] 9)) hc.lt)
  have HK := Aside0.mk hk
  have HO := Aside0.mk hok
  clear hc hk hok
  go_enter_defers Tryd.func27, Tryd.ntmps27
  go_wp2_with (first | (go_at_call 33; refine (Valid.calls b a t d true _ HX.out HO.out).mono ?_; rintro r w1 ⟨rfl, rfl⟩) | (go_at_call 35; refine (HK.out _).mono ?_; rintro r w2 ⟨rfl, hd2⟩; obtain ⟨m2, rfl⟩ := hd2.out))
  have e1 : (((w.alloc (.cells #[.string ⟨#[]⟩] 9)).drewN m2).setCell ⟨w.heap.size, 0, none⟩ (.string ⟨#[117]⟩)).cell? ⟨w.heap.size, 0, none⟩ = some (.string ⟨#[117]⟩) := World.cell?_setCell_same _ _ _ (gs_new w m2)
  have hB := (gs_newB w m2).setCell (p := ⟨w.heap.size, 0, none⟩) (Nat.le_refl _) (.string ⟨#[117]⟩)
  refine leaves_cons (f := 34) (args := #[.pointer (some ⟨w.heap.size, 0, none⟩)]) (by simp) (by simp [go_sem]) ?_
  refine (gs_idle w.heap.size ⟨#[117]⟩ (show 1 ≤ 255 by decide) _ e1).mono ?_
  rintro r u' w'' ⟨rfl, rfl, rfl⟩
  simp [Leaves, settle, results, Tryd.results27, go_sem, e1]
  exact hB
set_option maxRecDepth 100000 in
set_option maxHeartbeats 8000000 in
theorem gs_120 (b : Nat) (a t d : Int) (w : World) (hok : ok a t d = true) (hc : Dc w b a t d) (hk : gsKind ⟨#[120]⟩ 5) :
    Calls Tryd.prog 27 #[.string ⟨#[120]⟩, .pointer (some ⟨b, 0, none⟩)] w fun r w' => r = .returned (.string ⟨#[120]⟩) ∧ Below w.heap.size w w' := by
  have hmf : ∀ (fn : Fn) (first cap : Array Value) (w : World), (Instr.makeFunc fn first cap).run Tryd.prog w = .ok (.func fn first cap) w := fun _ _ _ _ => rfl
  have HX := Aside0.mk (hc.kept ((Below.refl _ w).alloc (Nat.le_refl _) (.cells #[.string ⟨#[]⟩] 9)) hc.lt)
  have HK := Aside0.mk hk
  have HO := Aside0.mk hok
  clear hc hk hok
  go_enter_defers Tryd.func27, Tryd.ntmps27
  go_wp2_with (first | (go_at_call 33; refine (Valid.calls b a t d true _ HX.out HO.out).mono ?_; rintro r w1 ⟨rfl, rfl⟩) | (go_at_call 35; refine (HK.out _).mono ?_; rintro r w2 ⟨rfl, hd2⟩; obtain ⟨m2, rfl⟩ := hd2.out))
  have e1 : (((w.alloc (.cells #[.string ⟨#[]⟩] 9)).drewN m2).setCell ⟨w.heap.size, 0, none⟩ (.string ⟨#[120]⟩)).cell? ⟨w.heap.size, 0, none⟩ = some (.string ⟨#[120]⟩) := World.cell?_setCell_same _ _ _ (gs_new w m2)
  have hB := (gs_newB w m2).setCell (p := ⟨w.heap.size, 0, none⟩) (Nat.le_refl _) (.string ⟨#[120]⟩)
  refine leaves_cons (f := 34) (args := #[.pointer (some ⟨w.heap.size, 0, none⟩)]) (by simp) (by simp [go_sem]) ?_
  refine (gs_idle w.heap.size ⟨#[120]⟩ (show 1 ≤ 255 by decide) _ e1).mono ?_
  rintro r u' w'' ⟨rfl, rfl, rfl⟩
  simp [Leaves, settle, results, Tryd.results27, go_sem, e1]
  exact hB
set_option maxRecDepth 100000 in
set_option maxHeartbeats 8000000 in
theorem gs_116 (b : Nat) (a t d : Int) (w : World) (hok : ok a t d = true) (hc : Dc w b a t d) (hk : gsKind ⟨#[116]⟩ 10) :
    Calls Tryd.prog 27 #[.string ⟨#[116]⟩, .pointer (some ⟨b, 0, none⟩)] w fun r w' => r = .returned (.string ⟨#[116]⟩) ∧ Below w.heap.size w w' := by
  have hmf : ∀ (fn : Fn) (first cap : Array Value) (w : World), (Instr.makeFunc fn first cap).run Tryd.prog w = .ok (.func fn first cap) w := fun _ _ _ _ => rfl
  have HX := Aside0.mk (hc.kept ((Below.refl _ w).alloc (Nat.le_refl _) (.cells #[.string ⟨#[]⟩] 9)) hc.lt)
  have HK := Aside0.mk hk
  have HO := Aside0.mk hok
  clear hc hk hok
  go_enter_defers Tryd.func27, Tryd.ntmps27
  go_wp2_with (first | (go_at_call 33; refine (Valid.calls b a t d true _ HX.out HO.out).mono ?_; rintro r w1 ⟨rfl, rfl⟩) | (go_at_call 35; refine (HK.out _).mono ?_; rintro r w2 ⟨rfl, hd2⟩; obtain ⟨m2, rfl⟩ := hd2.out))
  have e1 : (((w.alloc (.cells #[.string ⟨#[]⟩] 9)).drewN m2).setCell ⟨w.heap.size, 0, none⟩ (.string ⟨#[116]⟩)).cell? ⟨w.heap.size, 0, none⟩ = some (.string ⟨#[116]⟩) := World.cell?_setCell_same _ _ _ (gs_new w m2)
  have hB := (gs_newB w m2).setCell (p := ⟨w.heap.size, 0, none⟩) (Nat.le_refl _) (.string ⟨#[116]⟩)
  refine leaves_cons (f := 34) (args := #[.pointer (some ⟨w.heap.size, 0, none⟩)]) (by simp) (by simp [go_sem]) ?_
  refine (gs_idle w.heap.size ⟨#[116]⟩ (show 1 ≤ 255 by decide) _ e1).mono ?_
  rintro r u' w'' ⟨rfl, rfl, rfl⟩
  simp [Leaves, settle, results, Tryd.results27, go_sem, e1]
  exact hB
set_option maxRecDepth 100000 in
set_option maxHeartbeats 8000000 in
theorem gs_100 (b : Nat) (a t d : Int) (w : World) (hok : ok a t d = true) (hc : Dc w b a t d) (hk : gsKind ⟨#[100]⟩ 11) :
    Calls Tryd.prog 27 #[.string ⟨#[100]⟩, .pointer (some ⟨b, 0, none⟩)] w fun r w' => r = .returned (.string ⟨#[100]⟩) ∧ Below w.heap.size w w' := by
  have hmf : ∀ (fn : Fn) (first cap : Array Value) (w : World), (Instr.makeFunc fn first cap).run Tryd.prog w = .ok (.func fn first cap) w := fun _ _ _ _ => rfl
  have HX := Aside0.mk (hc.kept ((Below.refl _ w).alloc (Nat.le_refl _) (.cells #[.string ⟨#[]⟩] 9)) hc.lt)
  have HK := Aside0.mk hk
  have HO := Aside0.mk hok
  clear hc hk hok
  go_enter_defers Tryd.func27, Tryd.ntmps27
  go_wp2_with (first | (go_at_call 33; refine (Valid.calls b a t d true _ HX.out HO.out).mono ?_; rintro r w1 ⟨rfl, rfl⟩) | (go_at_call 35; refine (HK.out _).mono ?_; rintro r w2 ⟨rfl, hd2⟩; obtain ⟨m2, rfl⟩ := hd2.out))
  have e1 : (((w.alloc (.cells #[.string ⟨#[]⟩] 9)).drewN m2).setCell ⟨w.heap.size, 0, none⟩ (.string ⟨#[100]⟩)).cell? ⟨w.heap.size, 0, none⟩ = some (.string ⟨#[100]⟩) := World.cell?_setCell_same _ _ _ (gs_new w m2)
  have hB := (gs_newB w m2).setCell (p := ⟨w.heap.size, 0, none⟩) (Nat.le_refl _) (.string ⟨#[100]⟩)
  refine leaves_cons (f := 34) (args := #[.pointer (some ⟨w.heap.size, 0, none⟩)]) (by simp) (by simp [go_sem]) ?_
  refine (gs_idle w.heap.size ⟨#[100]⟩ (show 1 ≤ 255 by decide) _ e1).mono ?_
  rintro r u' w'' ⟨rfl, rfl, rfl⟩
  simp [Leaves, settle, results, Tryd.results27, go_sem, e1]
  exact hB
set_option maxRecDepth 100000 in
set_option maxHeartbeats 8000000 in
theorem gs_115 (b : Nat) (a t d : Int) (w : World) (hok : ok a t d = true) (hc : Dc w b a t d) (hk : gsKind ⟨#[115]⟩ 17) :
    Calls Tryd.prog 27 #[.string ⟨#[115]⟩, .pointer (some ⟨b, 0, none⟩)] w fun r w' => r = .returned (.string ⟨#[115]⟩) ∧ Below w.heap.size w w' := by
  have hmf : ∀ (fn : Fn) (first cap : Array Value) (w : World), (Instr.makeFunc fn first cap).run Tryd.prog w = .ok (.func fn first cap) w := fun _ _ _ _ => rfl
  have HX := Aside0.mk (hc.kept ((Below.refl _ w).alloc (Nat.le_refl _) (.cells #[.string ⟨#[]⟩] 9)) hc.lt)
  have HK := Aside0.mk hk
  have HO := Aside0.mk hok
  clear hc hk hok
  go_enter_defers Tryd.func27, Tryd.ntmps27
  go_wp2_with (first | (go_at_call 33; refine (Valid.calls b a t d true _ HX.out HO.out).mono ?_; rintro r w1 ⟨rfl, rfl⟩) | (go_at_call 35; refine (HK.out _).mono ?_; rintro r w2 ⟨rfl, hd2⟩; obtain ⟨m2, rfl⟩ := hd2.out))
  have e1 : (((w.alloc (.cells #[.string ⟨#[]⟩] 9)).drewN m2).setCell ⟨w.heap.size, 0, none⟩ (.string ⟨#[115]⟩)).cell? ⟨w.heap.size, 0, none⟩ = some (.string ⟨#[115]⟩) := World.cell?_setCell_same _ _ _ (gs_new w m2)
  have hB := (gs_newB w m2).setCell (p := ⟨w.heap.size, 0, none⟩) (Nat.le_refl _) (.string ⟨#[115]⟩)
  refine leaves_cons (f := 34) (args := #[.pointer (some ⟨w.heap.size, 0, none⟩)]) (by simp) (by simp [go_sem]) ?_
  refine (gs_idle w.heap.size ⟨#[115]⟩ (show 1 ≤ 255 by decide) _ e1).mono ?_
  rintro r u' w'' ⟨rfl, rfl, rfl⟩
  simp [Leaves, settle, results, Tryd.results27, go_sem, e1]
  exact hB
set_option maxRecDepth 100000 in
set_option maxHeartbeats 8000000 in
theorem gs_103 (b : Nat) (a t d : Int) (w : World) (hok : ok a t d = true) (hc : Dc w b a t d) (hk : gsKind ⟨#[103]⟩ 18) :
    Calls Tryd.prog 27 #[.string ⟨#[103]⟩, .pointer (some ⟨b, 0, none⟩)] w fun r w' => r = .returned (.string ⟨#[103]⟩) ∧ Below w.heap.size w w' := by
  have hmf : ∀ (fn : Fn) (first cap : Array Value) (w : World), (Instr.makeFunc fn first cap).run Tryd.prog w = .ok (.func fn first cap) w := fun _ _ _ _ => rfl
  have HX := Aside0.mk (hc.kept ((Below.refl _ w).alloc (Nat.le_refl _) (.cells #[.string ⟨#[]⟩] 9)) hc.lt)
  have HK := Aside0.mk hk
  have HO := Aside0.mk hok
  clear hc hk hok
  go_enter_defers Tryd.func27, Tryd.ntmps27
  go_wp2_with (first | (go_at_call 33; refine (Valid.calls b a t d true _ HX.out HO.out).mono ?_; rintro r w1 ⟨rfl, rfl⟩) | (go_at_call 35; refine (HK.out _).mono ?_; rintro r w2 ⟨rfl, hd2⟩; obtain ⟨m2, rfl⟩ := hd2.out))
  have e1 : (((w.alloc (.cells #[.string ⟨#[]⟩] 9)).drewN m2).setCell ⟨w.heap.size, 0, none⟩ (.string ⟨#[103]⟩)).cell? ⟨w.heap.size, 0, none⟩ = some (.string ⟨#[103]⟩) := World.cell?_setCell_same _ _ _ (gs_new w m2)
  have hB := (gs_newB w m2).setCell (p := ⟨w.heap.size, 0, none⟩) (Nat.le_refl _) (.string ⟨#[103]⟩)
  refine leaves_cons (f := 34) (args := #[.pointer (some ⟨w.heap.size, 0, none⟩)]) (by simp) (by simp [go_sem]) ?_
  refine (gs_idle w.heap.size ⟨#[103]⟩ (show 1 ≤ 255 by decide) _ e1).mono ?_
  rintro r u' w'' ⟨rfl, rfl, rfl⟩
  simp [Leaves, settle, results, Tryd.results27, go_sem, e1]
  exact hB
set_option maxRecDepth 100000 in
set_option maxHeartbeats 8000000 in
theorem gs_111 (b : Nat) (a t d : Int) (w : World) (hok : ok a t d = true) (hc : Dc w b a t d) (hk : gsKind ⟨#[111]⟩ 17) :
    Calls Tryd.prog 27 #[.string ⟨#[111]⟩, .pointer (some ⟨b, 0, none⟩)] w fun r w' => r = .returned (.string ⟨#[111]⟩) ∧ Below w.heap.size w w' := by
  have hmf : ∀ (fn : Fn) (first cap : Array Value) (w : World), (Instr.makeFunc fn first cap).run Tryd.prog w = .ok (.func fn first cap) w := fun _ _ _ _ => rfl
  have HX := Aside0.mk (hc.kept ((Below.refl _ w).alloc (Nat.le_refl _) (.cells #[.string ⟨#[]⟩] 9)) hc.lt)
  have HK := Aside0.mk hk
  have HO := Aside0.mk hok
  clear hc hk hok
  go_enter_defers Tryd.func27, Tryd.ntmps27
  go_wp2_with (first | (go_at_call 33; refine (Valid.calls b a t d true _ HX.out HO.out).mono ?_; rintro r w1 ⟨rfl, rfl⟩) | (go_at_call 35; refine (HK.out _).mono ?_; rintro r w2 ⟨rfl, hd2⟩; obtain ⟨m2, rfl⟩ := hd2.out))
  have e1 : (((w.alloc (.cells #[.string ⟨#[]⟩] 9)).drewN m2).setCell ⟨w.heap.size, 0, none⟩ (.string ⟨#[111]⟩)).cell? ⟨w.heap.size, 0, none⟩ = some (.string ⟨#[111]⟩) := World.cell?_setCell_same _ _ _ (gs_new w m2)
  have hB := (gs_newB w m2).setCell (p := ⟨w.heap.size, 0, none⟩) (Nat.le_refl _) (.string ⟨#[111]⟩)
  refine leaves_cons (f := 34) (args := #[.pointer (some ⟨w.heap.size, 0, none⟩)]) (by simp) (by simp [go_sem]) ?_
  refine (gs_idle w.heap.size ⟨#[111]⟩ (show 1 ≤ 255 by decide) _ e1).mono ?_
  rintro r u' w'' ⟨rfl, rfl, rfl⟩
  simp [Leaves, settle, results, Tryd.results27, go_sem, e1]
  exact hB
set_option maxRecDepth 100000 in
set_option maxHeartbeats 8000000 in
theorem gs_118 (b : Nat) (a t d : Int) (w : World) (hok : ok a t d = true) (hc : Dc w b a t d) (hk : gsKind ⟨#[118]⟩ 18) :
    Calls Tryd.prog 27 #[.string ⟨#[118]⟩, .pointer (some ⟨b, 0, none⟩)] w fun r w' => r = .returned (.string ⟨#[118]⟩) ∧ Below w.heap.size w w' := by
  have hmf : ∀ (fn : Fn) (first cap : Array Value) (w : World), (Instr.makeFunc fn first cap).run Tryd.prog w = .ok (.func fn first cap) w := fun _ _ _ _ => rfl
  have HX := Aside0.mk (hc.kept ((Below.refl _ w).alloc (Nat.le_refl _) (.cells #[.string ⟨#[]⟩] 9)) hc.lt)
  have HK := Aside0.mk hk
  have HO := Aside0.mk hok
  clear hc hk hok
  go_enter_defers Tryd.func27, Tryd.ntmps27
  go_wp2_with (first | (go_at_call 33; refine (Valid.calls b a t d true _ HX.out HO.out).mono ?_; rintro r w1 ⟨rfl, rfl⟩) | (go_at_call 35; refine (HK.out _).mono ?_; rintro r w2 ⟨rfl, hd2⟩; obtain ⟨m2, rfl⟩ := hd2.out))
  have e1 : (((w.alloc (.cells #[.string ⟨#[]⟩] 9)).drewN m2).setCell ⟨w.heap.size, 0, none⟩ (.string ⟨#[118]⟩)).cell? ⟨w.heap.size, 0, none⟩ = some (.string ⟨#[118]⟩) := World.cell?_setCell_same _ _ _ (gs_new w m2)
  have hB := (gs_newB w m2).setCell (p := ⟨w.heap.size, 0, none⟩) (Nat.le_refl _) (.string ⟨#[118]⟩)
  refine leaves_cons (f := 34) (args := #[.pointer (some ⟨w.heap.size, 0, none⟩)]) (by simp) (by simp [go_sem]) ?_
  refine (gs_idle w.heap.size ⟨#[118]⟩ (show 1 ≤ 255 by decide) _ e1).mono ?_
  rintro r u' w'' ⟨rfl, rfl, rfl⟩
  simp [Leaves, settle, results, Tryd.results27, go_sem, e1]
  exact hB
set_option maxRecDepth 100000 in
set_option maxHeartbeats 8000000 in
theorem gs_104 (b : Nat) (a t d : Int) (w : World) (hok : ok a t d = true) (hc : Dc w b a t d) (hk : gsKind ⟨#[104]⟩ 9) :
    Calls Tryd.prog 27 #[.string ⟨#[104]⟩, .pointer (some ⟨b, 0, none⟩)] w fun r w' => r = .returned (.string ⟨#[104]⟩) ∧ Below w.heap.size w w' := by
  have hmf : ∀ (fn : Fn) (first cap : Array Value) (w : World), (Instr.makeFunc fn first cap).run Tryd.prog w = .ok (.func fn first cap) w := fun _ _ _ _ => rfl
  have HX := Aside0.mk (hc.kept ((Below.refl _ w).alloc (Nat.le_refl _) (.cells #[.string ⟨#[]⟩] 9)) hc.lt)
  have HK := Aside0.mk hk
  have HO := Aside0.mk hok
  clear hc hk hok
  go_enter_defers Tryd.func27, Tryd.ntmps27
  go_wp2_with (first | (go_at_call 33; refine (Valid.calls b a t d true _ HX.out HO.out).mono ?_; rintro r w1 ⟨rfl, rfl⟩) | (go_at_call 35; refine (HK.out _).mono ?_; rintro r w2 ⟨rfl, hd2⟩; obtain ⟨m2, rfl⟩ := hd2.out))
  have e1 : (((w.alloc (.cells #[.string ⟨#[]⟩] 9)).drewN m2).setCell ⟨w.heap.size, 0, none⟩ (.string ⟨#[104]⟩)).cell? ⟨w.heap.size, 0, none⟩ = some (.string ⟨#[104]⟩) := World.cell?_setCell_same _ _ _ (gs_new w m2)
  have hB := (gs_newB w m2).setCell (p := ⟨w.heap.size, 0, none⟩) (Nat.le_refl _) (.string ⟨#[104]⟩)
  refine leaves_cons (f := 34) (args := #[.pointer (some ⟨w.heap.size, 0, none⟩)]) (by simp) (by simp [go_sem]) ?_
  refine (gs_idle w.heap.size ⟨#[104]⟩ (show 1 ≤ 255 by decide) _ e1).mono ?_
  rintro r u' w'' ⟨rfl, rfl, rfl⟩
  simp [Leaves, settle, results, Tryd.results27, go_sem, e1]
  exact hB
theorem gs_lone {c : Int} (h : Given.lone c = true) (b : Nat) (a t d : Int) (w : World) (hok : ok a t d = true) (hc : Dc w b a t d) :
    Calls Tryd.prog 27 #[.string (strOfNums [c]), .pointer (some ⟨b, 0, none⟩)] w fun r w' => r = .returned (.string (strOfNums [c])) ∧ Below w.heap.size w w' := by
  rcases is_lone h with ((((((((((((h | h) | h) | h) | h) | h) | h) | h) | h) | h) | h) | h) | h) | h <;> subst h
  · exact gs_121 b a t d w hok hc (gsKind_of (S := ⟨#[121]⟩) Nat.zero_lt_one (c := 121) rfl (by decide))
  · exact gs_98 b a t d w hok hc (gsKind_of (S := ⟨#[98]⟩) Nat.zero_lt_one (c := 98) rfl (by decide))
  · exact gs_110 b a t d w hok hc (gsKind_of (S := ⟨#[110]⟩) Nat.zero_lt_one (c := 110) rfl (by decide))
  · exact gs_113 b a t d w hok hc (gsKind_of (S := ⟨#[113]⟩) Nat.zero_lt_one (c := 113) rfl (by decide))
  · exact gs_105 b a t d w hok hc (gsKind_of (S := ⟨#[105]⟩) Nat.zero_lt_one (c := 105) rfl (by decide))
  · exact gs_117 b a t d w hok hc (gsKind_of (S := ⟨#[117]⟩) Nat.zero_lt_one (c := 117) rfl (by decide))
  · exact gs_120 b a t d w hok hc (gsKind_of (S := ⟨#[120]⟩) Nat.zero_lt_one (c := 120) rfl (by decide))
  · exact gs_116 b a t d w hok hc (gsKind_of (S := ⟨#[116]⟩) Nat.zero_lt_one (c := 116) rfl (by decide))
  · exact gs_100 b a t d w hok hc (gsKind_of (S := ⟨#[100]⟩) Nat.zero_lt_one (c := 100) rfl (by decide))
  · exact gs_115 b a t d w hok hc (gsKind_of (S := ⟨#[115]⟩) Nat.zero_lt_one (c := 115) rfl (by decide))
  · exact gs_103 b a t d w hok hc (gsKind_of (S := ⟨#[103]⟩) Nat.zero_lt_one (c := 103) rfl (by decide))
  · exact gs_111 b a t d w hok hc (gsKind_of (S := ⟨#[111]⟩) Nat.zero_lt_one (c := 111) rfl (by decide))
  · exact gs_118 b a t d w hok hc (gsKind_of (S := ⟨#[118]⟩) Nat.zero_lt_one (c := 118) rfl (by decide))
  · exact gs_104 b a t d w hok hc (gsKind_of (S := ⟨#[104]⟩) Nat.zero_lt_one (c := 104) rfl (by decide))
end Go.Proofs.YtnojjfklnihmnaaDoor.Given
end
section
namespace Go.Proofs.YtnojjfklnihmnaaDoor.Given
open Go.RowKit
def NoPanic (Q : Exit → Act → World → Prop) : Exit → Act → World → Prop
  | .panic _, _, _ => False
  | e, a, w => Q e a w
theorem NoPanic.le {Q : Exit → Act → World → Prop} : ∀ e a w, NoPanic Q e a w → Q e a w := by
  intro e a w h
  cases e <;> first | exact h | exact h.elim
theorem NoPanic.normal {Q : Exit → Act → World → Prop} {a : Act} {w : World} (h : Q .normal a w) : NoPanic Q .normal a w := h
end Go.Proofs.YtnojjfklnihmnaaDoor.Given
end
section
namespace Go.Proofs.YtnojjfklnihmnaaDoor.Given
open Go.RowKit Go.Proofs.YtnojjfklnihmnaaDoorW.PrintWords Go.Proofs.YtnojjfklnihmnaaDoorW.PrintLast Go.Proofs.YtnojjfklnihmnaaDoor.Pl Go.Proofs.YtnojjfklnihmnaaDoor.Utf Go.Proofs.YtnojjfklnihmnaaDoor.Bm Go.Proofs.YtnojjfklnihmnaaDoor.By Go.Proofs.YtnojjfklnihmnaaDoor.SgT Go.Proofs.YtnojjfklnihmnaaDoor.PFnSgOfParts
set_option linter.unusedVariables false
set_option maxRecDepth 100000 in
set_option maxHeartbeats 8000000 in
theorem gs_arr (S T : ByteArray) (hS : bytesOf S = 91 :: bytesOf T) (W : ByteArray) (hW : W.size ≤ 254) (b : Nat) (a t d : Int) (w : World) (hok : ok a t d = true) (ha : -9223372036854775808 ≤ a) (hc : Dc w b a t d)
    (ih : ∀ (b : Nat) (w : World), Dc w b (a + 1) t d → Calls Tryd.prog 27 #[.string T, .pointer (some ⟨b, 0, none⟩)] w fun r w' => r = .returned (.string W) ∧ Below w.heap.size w w') :
    Calls Tryd.prog 27 #[.string S, .pointer (some ⟨b, 0, none⟩)] w fun r w' => r = .returned (.string (⟨#[97]⟩ ++ W)) ∧ Below w.heap.size w w' := by
  have hmf : ∀ (fn : Fn) (first cap : Array Value) (w : World), (Instr.makeFunc fn first cap).run Tryd.prog w = .ok (.func fn first cap) w := fun _ _ _ _ => rfl
  obtain ⟨h0, h1, h2⟩ := at_zero hS
  have hel : ∀ w : World, Calls Tryd.prog 36 #[.string S] w fun e w' => e = .returned (.string T) ∧ Drawn0 w w' := fun w => dbus_zzType_Elem.calls 5 S T w (by
    unfold dbus_zzType_Elem.f
    rw [kind_is h0 h1 (k := 16) (by decide), Option.bind_some, if_neg (by decide), if_pos (by omega)]
    congr 1
    apply bytesOf_inj
    rw [bytesOf_from, h2])
  have hk := gsKind_of h0 h1 (k := 16) (by decide)
  have ha2 : a ≤ 32 := by unfold ok at hok; simp only [Bool.and_eq_true, decide_eq_true_eq] at hok; exact hok.1.1
  have HX := Aside0.mk (hc.kept ((Below.refl _ w).alloc (Nat.le_refl _) (.cells #[.string ⟨#[]⟩] 9)) hc.lt)
  have HL := Aside0.mk hc.lt
  have HK := Aside0.mk hk
  have HE := Aside0.mk hel
  have HO := Aside0.mk hok
  have HI := Aside0.mk ih
  have HA := Aside0.mk (fun w => EnterArray.calls a t d w ha ha2)
  have HW := Aside0.mk hW
  clear hc hk hok hel ih hW hS h0 h1 h2 ha ha2
  go_enter_defers Tryd.func27, Tryd.ntmps27
  go_wp2_with (first | (go_at_call 33; refine (Valid.calls b a t d true _ HX.out HO.out).mono ?_; rintro r w1 ⟨rfl, rfl⟩) | (go_at_call 35; refine (HK.out _).mono ?_; rintro r w2 ⟨rfl, hd2⟩; obtain ⟨m2, rfl⟩ := hd2.out))
  obtain ⟨w1, hw1⟩ : ∃ w1, (w.alloc (.cells #[.string ⟨#[]⟩] 9)).drewN m2 = w1 := ⟨_, rfl⟩
  obtain ⟨dc0, dc1, dc2⟩ : Dc w1 b a t d := hw1 ▸ HX.out.kept (pw_below_drewN (Below.refl _ _) m2) (by have := HL.out; simp; omega)
  have HB1 : Aside0 (Below w.heap.size w w1) := ⟨hw1 ▸ gs_newB w m2⟩
  have HC1 : Aside0 (w1.cell? ⟨w.heap.size, 0, none⟩ = some (.string ⟨#[]⟩)) := ⟨hw1 ▸ gs_new w m2⟩
  have HF1 : Aside0 (w1.frozen? ⟨w.heap.size, 0, none⟩ = false) := ⟨hw1 ▸ (by simp)⟩
  rw [hw1]
  clear hw1 HX HL HK HO
  have hz1 : 1 + W.size ≤ 9223372036854775807 := by have := HW.out; omega
  refine Code.wp_mono NoPanic.le ?_
  go_region_with (first | (go_at_call 36; refine (HE.out _).mono ?_; rintro r w3 ⟨rfl, hd3⟩; obtain ⟨m3, rfl⟩ := hd3.out) | (go_at_call 41; refine (HA.out _).mono ?_; rintro r w4 ⟨rfl, rfl⟩) | (go_at_call 27; refine (HI.out _ _ (dc_new w1 _ _ _ _ _)).mono ?_; rintro r w5 ⟨rfl, hb5⟩; obtain ⟨c5, f5⟩ := gs_keptA HC1.out hb5 HF1.out))
  all_goals refine NoPanic.normal ?_
  all_goals go_wp2_with fail
  all_goals
   have e1 : (w5.setCell ⟨w.heap.size, 0, none⟩ (.string (⟨#[97]⟩ ++ W))).cell? ⟨w.heap.size, 0, none⟩ = some (.string (⟨#[97]⟩ ++ W)) := World.cell?_setCell_same _ _ _ c5
   have hB := (gs_below HB1.out hb5).setCell (p := ⟨w.heap.size, 0, none⟩) (Nat.le_refl _) (.string (⟨#[97]⟩ ++ W))
   refine leaves_cons (f := 34) (args := #[.pointer (some ⟨w.heap.size, 0, none⟩)]) (by simp) (by simp [go_sem]) ?_
   refine (gs_idle w.heap.size (⟨#[97]⟩ ++ W) (by rw [ByteArray.size_append]; have := HW.out; show 1 + W.size ≤ 255; omega) _ e1).mono ?_
   rintro r u' w'' ⟨rfl, rfl, rfl⟩
   simp [Leaves, settle, results, Tryd.results27, go_sem, e1]
   exact hB
end Go.Proofs.YtnojjfklnihmnaaDoor.Given
end
