/- MtWith at the kinds 6 and 7: the numbers from 0 to 63, and the others, which are refused by a panic. -/
import Derived.Test.YtdooimdefmegaaaDoorPItx1
import Derived.WalkKit
import Derived.Below
import Derived.Tactics
import Derived.Tactics2
import Derived.Defers
import Derived.Recover
import Derived.Laws.Pointers
import Derived.WalkLawsBesides
import Derived.Deep.QuietTactic
import Derived.BigQuiet
import Derived.BigRegion
import Derived.Outline
namespace Go.Proofs.YtdooimdefmegaaaDoor.Given
open Go.RowKit Go.Proofs.YtdooimdefmegaaaDoorW.PrintWords Go.Proofs.YtdooimdefmegaaaDoor.PIt

theorem w64 {x : Int} (h1 : -9223372036854775808 ≤ x) (h2 : x ≤ 9223372036854775807) : wrap64 x = x := by
  unfold wrap64; omega

theorem small_some {n : Int} (h0 : 0 ≤ n) (h1 : n ≤ 63) : ∃ t, strconv_small.f n = some t ∧ t.size ≤ 200 := by
  unfold strconv_small.f
  by_cases h : n < 10
  · rw [if_pos h, w64 (by omega) (by omega), if_pos h0, if_pos (by omega), if_pos (by omega)]
    refine ⟨_, rfl, ?_⟩
    rw [ByteArray.size_extract]
    refine Nat.le_trans (Nat.sub_le _ _) (Nat.le_trans (Nat.min_le_right _ _) ?_)
    decide
  · rw [if_neg h, w64 (x := n * 2) (by omega) (by omega), w64 (x := n * 2 + 2) (by omega) (by omega), if_pos (by omega), if_pos (by omega), if_pos (by omega)]
    refine ⟨_, rfl, ?_⟩
    rw [ByteArray.size_extract]
    refine Nat.le_trans (Nat.sub_le _ _) (Nat.le_trans (Nat.min_le_right _ _) ?_)
    exact Nat.le_refl 200
theorem itoa_some {n : Int} (h0 : 0 ≤ n) (h1 : n ≤ 63) : ∃ t, strconv_Itoa_31.f 1 n = some t ∧ t.size ≤ 200 := by
  obtain ⟨t, ht, hs⟩ := small_some h0 h1
  refine ⟨t, ?_, hs⟩
  unfold strconv_Itoa_31.f strconv_Itoa_34.f strconv_FormatInt.f
  rw [if_pos rfl, if_pos h0, decide_eq_true (by omega), strconv_FormatInt.j0, if_pos rfl, ht]; rfl
theorem itoa_calls {n : Int} (h0 : 0 ≤ n) (h1 : n ≤ 63) : ∃ t : ByteArray, t.size ≤ 200 ∧ ∀ w, Calls Tryd.prog 31 #[.int .i64 n] w fun e w' => e = .returned (.string t) ∧ Below w.heap.size w w' := by
  obtain ⟨t, ht, hs⟩ := itoa_some h0 h1
  exact ⟨t, hs, fun w => strconv_Itoa_31.calls 1 n t w ht⟩

/-- The panic's own value. -/
def rangeText : Value := .iface 9 (.string ⟨#[114, 97, 110, 103, 101, 32, 111, 102, 32, 97, 114, 103, 117, 109, 101, 110, 116, 32, 105, 110, 100, 101, 120, 32, 105, 115, 32, 48, 32, 116, 111, 32, 54, 51]⟩)
def Refused (e : Ending) : Prop := ∃ pv, e = .panicked [{ v := .iface 9 pv, recovered := false }]

/-- A block of two cells that may be written. -/
def Two (w : World) (g : Nat) (A B : Value) : Prop := w.cell? ⟨g, 0, none⟩ = some A ∧ w.cell? ⟨g, 1, none⟩ = some B ∧ w.frozen? ⟨g, 0, none⟩ = false ∧ w.frozen? ⟨g, 1, none⟩ = false ∧ g < w.heap.size
theorem Two.new {w w1 : World} {A B : Value} {y : TypeId} (hb : Below (w.alloc (.cells #[A, B] y)).heap.size (w.alloc (.cells #[A, B] y)) w1) : Two w1 w.heap.size A B := by
  have hl : w.heap.size < (w.alloc (.cells #[A, B] y)).heap.size := by simp
  exact ⟨(hb.cell (p := ⟨w.heap.size, 0, none⟩) hl).trans (by simp), (hb.cell (p := ⟨w.heap.size, 1, none⟩) hl).trans (by simp), (hb.frozen (p := ⟨w.heap.size, 0, none⟩) hl).trans (by simp), (hb.frozen (p := ⟨w.heap.size, 1, none⟩) hl).trans (by simp), Nat.lt_of_lt_of_le hl hb.size⟩
theorem Two.next {w1 w2 : World} {g : Nat} {A B : Value} (h : Two w1 g A B) (hb : Below w1.heap.size w1 w2) : Two w2 g A B := by
  obtain ⟨a, b, c, d, e⟩ := h
  exact ⟨(hb.cell (p := ⟨g, 0, none⟩) e).trans a, (hb.cell (p := ⟨g, 1, none⟩) e).trans b, (hb.frozen (p := ⟨g, 0, none⟩) e).trans c, (hb.frozen (p := ⟨g, 1, none⟩) e).trans d, Nat.lt_of_lt_of_le e hb.size⟩

theorem below_chain {w w1 w2 : World} {o : Obj} (hb : Below (w.alloc o).heap.size (w.alloc o) w1) (h2 : Below w1.heap.size w1 w2) : Below w.heap.size w w2 :=
  (((Below.refl _ w).alloc (Nat.le_refl _) o).trans (hb.mono (by simp))).trans (h2.mono (by have := hb.size; simp at this; omega))

set_option maxRecDepth 100000 in
set_option maxHeartbeats 4000000 in
theorem arg_good (n : Int) (v t : ByteArray) (w : World) (h0 : 0 ≤ n) (h1 : n ≤ 63) (ht : t.size ≤ 200) (hi : ∀ w, Calls Tryd.prog 31 #[.int .i64 n] w fun e w' => e = .returned (.string t) ∧ Below w.heap.size w w') :
    Calls Tryd.prog 24 #[.int .i64 n, .string v] w fun e w' => e = .returned (.agg #[.string (⟨#[97, 114, 103]⟩ ++ t), .string v]) ∧ Below w.heap.size w w' := by
  have HI := Aside0.mk hi
  have HO := Aside0.mk fun w => dbus_WithMatchOption.calls (⟨#[97, 114, 103]⟩ ++ t) v _ _ w rfl
  have g1 : (n < 0) = False := eq_false (by omega)
  have g2 : (63 < n) = False := eq_false (by omega)
  clear hi
  go_enter Tryd.func24, Tryd.ntmps24
  go_wp2_with (first | (go_at_call 31; refine (HI.out _).mono ?_; rintro e w1 ⟨rfl, hb1⟩; have T1 := Aside0.mk (Two.new hb1)) | (go_at_call 29; refine (HO.out _).mono ?_; rintro e w2 ⟨rfl, hb2⟩; obtain ⟨ka, kb, kc, kd, ke⟩ := T1.out.next hb2))
  refine bodyPost_ret (v := .agg #[.string (⟨#[97, 114, 103]⟩ ++ t), .string v]) (by simp [results, Tryd.results24, go_sem, ka, kb]) rfl ⟨rfl, ?_⟩
  exact ((below_chain hb1 hb2).setCell (Nat.le_refl _) _).setCell (Nat.le_refl _) _

set_option maxRecDepth 100000 in
set_option maxHeartbeats 4000000 in
theorem path_good (n : Int) (v t : ByteArray) (w : World) (h0 : 0 ≤ n) (h1 : n ≤ 63) (ht : t.size ≤ 200) (hi : ∀ w, Calls Tryd.prog 31 #[.int .i64 n] w fun e w' => e = .returned (.string t) ∧ Below w.heap.size w w') :
    Calls Tryd.prog 25 #[.int .i64 n, .string v] w fun e w' => e = .returned (.agg #[.string ((⟨#[97, 114, 103]⟩ ++ t) ++ ⟨#[112, 97, 116, 104]⟩), .string v]) ∧ Below w.heap.size w w' := by
  have HI := Aside0.mk hi
  have HO := Aside0.mk fun w => dbus_WithMatchOption.calls ((⟨#[97, 114, 103]⟩ ++ t) ++ ⟨#[112, 97, 116, 104]⟩) v _ _ w rfl
  have g1 : (n < 0) = False := eq_false (by omega)
  have g2 : (63 < n) = False := eq_false (by omega)
  have hz : (⟨#[97, 114, 103]⟩ ++ t : ByteArray).size ≤ 203 := by rw [ByteArray.size_append]; exact Nat.add_le_add (Nat.le_refl 3) ht
  clear hi
  go_enter Tryd.func25, Tryd.ntmps25
  go_wp2_with (first | (go_at_call 31; refine (HI.out _).mono ?_; rintro e w1 ⟨rfl, hb1⟩; have T1 := Aside0.mk (Two.new hb1)) | (go_at_call 29; refine (HO.out _).mono ?_; rintro e w2 ⟨rfl, hb2⟩; obtain ⟨ka, kb, kc, kd, ke⟩ := T1.out.next hb2))
  refine bodyPost_ret (v := .agg #[.string ((⟨#[97, 114, 103]⟩ ++ t) ++ ⟨#[112, 97, 116, 104]⟩), .string v]) (by simp [results, Tryd.results25, go_sem, ka, kb]) rfl ⟨rfl, ?_⟩
  exact ((below_chain hb1 hb2).setCell (Nat.le_refl _) _).setCell (Nat.le_refl _) _

set_option maxRecDepth 100000 in
set_option maxHeartbeats 4000000 in
theorem arg_bad (n : Int) (v : ByteArray) (w : World) (h : n < 0 ∨ 63 < n) :
    Calls Tryd.prog 24 #[.int .i64 n, .string v] w fun e w' => Refused e ∧ Below w.heap.size w w' := by
  by_cases h0 : n < 0
  · have g1 : (n < 0) = True := eq_true h0
    clear h
    go_enter Tryd.func24, Tryd.ntmps24
    go_wp2
    exact ⟨rfl, ⟨_, rfl⟩, (Below.refl _ _).alloc (Nat.le_refl _) _⟩
  · have g1 : (n < 0) = False := eq_false h0
    have g2 : (63 < n) = True := eq_true (by omega)
    clear h
    go_enter Tryd.func24, Tryd.ntmps24
    go_wp2
    exact ⟨rfl, ⟨_, rfl⟩, (Below.refl _ _).alloc (Nat.le_refl _) _⟩

set_option maxRecDepth 100000 in
set_option maxHeartbeats 4000000 in
theorem path_bad (n : Int) (v : ByteArray) (w : World) (h : n < 0 ∨ 63 < n) :
    Calls Tryd.prog 25 #[.int .i64 n, .string v] w fun e w' => Refused e ∧ Below w.heap.size w w' := by
  by_cases h0 : n < 0
  · have g1 : (n < 0) = True := eq_true h0
    clear h
    go_enter Tryd.func25, Tryd.ntmps25
    go_wp2
    exact ⟨rfl, ⟨_, rfl⟩, (Below.refl _ _).alloc (Nat.le_refl _) _⟩
  · have g1 : (n < 0) = False := eq_false h0
    have g2 : (63 < n) = True := eq_true (by omega)
    clear h
    go_enter Tryd.func25, Tryd.ntmps25
    go_wp2
    exact ⟨rfl, ⟨_, rfl⟩, (Below.refl _ _).alloc (Nat.le_refl _) _⟩

set_option maxRecDepth 100000 in
set_option maxHeartbeats 4000000 in
theorem opt_arg_good (n : Int) (v key : ByteArray) (w : World) (h : ∀ w, Calls Tryd.prog 24 #[.int .i64 n, .string v] w fun e w' => e = .returned (.agg #[.string key, .string v]) ∧ Below w.heap.size w w') :
    Calls Tryd.prog 16 #[.int .i64 6, .int .i64 n, .string v] w fun e w' => e = .returned (.agg #[.string key, .string v]) ∧ Below w.heap.size w w' := by
  have HI := Aside0.mk h
  clear h
  go_enter Tryd.func16, Tryd.ntmps16
  go_wp2_with (go_at_call 24; refine (HI.out _).mono ?_; rintro e w1 ⟨rfl, hb1⟩; obtain ⟨ka, kb, kc, kd, ke⟩ := Two.new hb1)
  refine bodyPost_ret (v := .agg #[.string key, .string v]) (by simp [results, Tryd.results16, go_sem, ka, kb]) rfl ⟨rfl, ?_⟩
  exact ((below_chain hb1 (Below.refl _ _)).setCell (Nat.le_refl _) _).setCell (Nat.le_refl _) _

set_option maxRecDepth 100000 in
set_option maxHeartbeats 4000000 in
theorem opt_arg_bad (n : Int) (v : ByteArray) (w : World) (h : ∀ w, Calls Tryd.prog 24 #[.int .i64 n, .string v] w fun e w' => Refused e ∧ Below w.heap.size w w') :
    Calls Tryd.prog 16 #[.int .i64 6, .int .i64 n, .string v] w fun e w' => Refused e ∧ Below w.heap.size w w' := by
  have HI := Aside0.mk h
  clear h
  go_enter Tryd.func16, Tryd.ntmps16
  go_wp2_with (go_at_call 24; refine (HI.out _).mono ?_; rintro e w1 ⟨⟨pv, rfl⟩, hb1⟩)
  exact ⟨rfl, ⟨_, rfl⟩, below_chain hb1 (Below.refl _ _)⟩

set_option maxRecDepth 100000 in
set_option maxHeartbeats 4000000 in
theorem opt_path_good (n : Int) (v key : ByteArray) (w : World) (h : ∀ w, Calls Tryd.prog 25 #[.int .i64 n, .string v] w fun e w' => e = .returned (.agg #[.string key, .string v]) ∧ Below w.heap.size w w') :
    Calls Tryd.prog 16 #[.int .i64 7, .int .i64 n, .string v] w fun e w' => e = .returned (.agg #[.string key, .string v]) ∧ Below w.heap.size w w' := by
  have HI := Aside0.mk h
  clear h
  go_enter Tryd.func16, Tryd.ntmps16
  go_wp2_with (go_at_call 25; refine (HI.out _).mono ?_; rintro e w1 ⟨rfl, hb1⟩; obtain ⟨ka, kb, kc, kd, ke⟩ := Two.new hb1)
  refine bodyPost_ret (v := .agg #[.string key, .string v]) (by simp [results, Tryd.results16, go_sem, ka, kb]) rfl ⟨rfl, ?_⟩
  exact ((below_chain hb1 (Below.refl _ _)).setCell (Nat.le_refl _) _).setCell (Nat.le_refl _) _

set_option maxRecDepth 100000 in
set_option maxHeartbeats 4000000 in
theorem opt_path_bad (n : Int) (v : ByteArray) (w : World) (h : ∀ w, Calls Tryd.prog 25 #[.int .i64 n, .string v] w fun e w' => Refused e ∧ Below w.heap.size w w') :
    Calls Tryd.prog 16 #[.int .i64 7, .int .i64 n, .string v] w fun e w' => Refused e ∧ Below w.heap.size w w' := by
  have HI := Aside0.mk h
  clear h
  go_enter Tryd.func16, Tryd.ntmps16
  go_wp2_with (go_at_call 25; refine (HI.out _).mono ?_; rintro e w1 ⟨⟨pv, rfl⟩, hb1⟩)
  exact ⟨rfl, ⟨_, rfl⟩, below_chain hb1 (Below.refl _ _)⟩

theorem with_idle (p q r : Addr) (w : World) :
    CallsD Tryd.prog 14 #[.pointer (some p), .pointer (some q), .pointer (some r)] .returning w fun e u' w' => e = .returned (.tuple #[]) ∧ u' = .returning ∧ w' = w := by
  refine callsD_of_wpS Tryd.func14 rfl fun c₀ cs hu => ?_
  apply wpS_seq
  apply wpS_region
  simp [wpOpsS, go_sem, recoverD, hu, Tryd.ntmps14, Exit.thenS]
  refine wpS_cond (t := false) (by simp [Act.eval, Array.replicate]) ?_
  simp only [Bool.false_eq_true, if_false]
  refine wpS_of_wp (wp_skip ?_)
  cases c₀
  simp_all [bodyPostS, results, Tryd.results14]

theorem with_caught (b : Nat) (x y z : Value) (u : TypeId) (pv : Value) (w : World) (hx : w.cell? ⟨b, 0, none⟩ = some x) (hy : w.cell? ⟨b + 1, 0, none⟩ = some y) (hz : w.cell? ⟨b + 1 + 1, 0, none⟩ = some z)
    (fx : w.frozen? ⟨b, 0, none⟩ = false) (fy : w.frozen? ⟨b + 1, 0, none⟩ = false) (fz : w.frozen? ⟨b + 1 + 1, 0, none⟩ = false) :
    CallsD Tryd.prog 14 #[.pointer (some ⟨b, 0, none⟩), .pointer (some ⟨b + 1, 0, none⟩), .pointer (some ⟨b + 1 + 1, 0, none⟩)] (.panicking [{ v := .iface u pv, recovered := false }]) w fun e u' w' =>
      e = .returned (.tuple #[]) ∧ u' = .panicking [{ v := .iface u pv, recovered := true }] ∧ w' = ((w.setCell ⟨b, 0, none⟩ (.string ⟨#[]⟩)).setCell ⟨b + 1, 0, none⟩ (.string ⟨#[]⟩)).setCell ⟨b + 1 + 1, 0, none⟩ (.bool false) := by
  refine callsD_of_wpS Tryd.func14 rfl fun c₀ cs hu => ?_
  apply wpS_seq
  apply wpS_region
  simp [wpOpsS, go_sem, recoverD, hu, Tryd.ntmps14, Exit.thenS]
  refine wpS_cond (t := true) (by simp [Act.eval, Array.replicate]) ?_
  simp only [if_true]
  apply wpS_region
  simp [wpOpsS, go_sem, hx, hy, hz, fx, fy, fz, bodyPostS, results, Tryd.results14]

/-- Three blocks of one cell each that may be written. -/
def Three (w : World) (b : Nat) (A B C : Value) : Prop :=
  (w.cell? ⟨b, 0, none⟩ = some A ∧ w.frozen? ⟨b, 0, none⟩ = false) ∧ (w.cell? ⟨b + 1, 0, none⟩ = some B ∧ w.frozen? ⟨b + 1, 0, none⟩ = false) ∧ (w.cell? ⟨b + 1 + 1, 0, none⟩ = some C ∧ w.frozen? ⟨b + 1 + 1, 0, none⟩ = false) ∧ b + 1 + 1 < w.heap.size
theorem Three.next {w w1 : World} {b : Nat} {A B C : Value} {n : Nat} (h : Three w b A B C) (hn : w.heap.size ≤ n) (hb : Below n w w1) : Three w1 b A B C := by
  obtain ⟨⟨a1, a2⟩, ⟨b1, b2⟩, ⟨c1, c2⟩, hl⟩ := h
  have p0 : b < n := by omega
  have p1 : b + 1 < n := by omega
  have p2 : b + 1 + 1 < n := by omega
  exact ⟨⟨(hb.cell (p := ⟨b, 0, none⟩) p0).trans a1, (hb.frozen (p := ⟨b, 0, none⟩) p0).trans a2⟩, ⟨(hb.cell (p := ⟨b + 1, 0, none⟩) p1).trans b1, (hb.frozen (p := ⟨b + 1, 0, none⟩) p1).trans b2⟩, ⟨(hb.cell (p := ⟨b + 1 + 1, 0, none⟩) p2).trans c1, (hb.frozen (p := ⟨b + 1 + 1, 0, none⟩) p2).trans c2⟩, Nat.lt_of_lt_of_le hl hb.size⟩
theorem Three.set0 {w : World} {b : Nat} {A B C : Value} (h : Three w b A B C) (v : Value) : Three (w.setCell ⟨b, 0, none⟩ v) b v B C := by
  obtain ⟨⟨a1, a2⟩, ⟨b1, b2⟩, ⟨c1, c2⟩, hl⟩ := h
  refine ⟨⟨World.cell?_setCell_same _ _ _ a1, by rw [World.frozen?_setCell]; exact a2⟩, ⟨(World.cell?_setCell_other _ _ _ _ (by simp)).trans b1, by rw [World.frozen?_setCell]; exact b2⟩, ⟨(World.cell?_setCell_other _ _ _ _ (by simp [Nat.add_assoc])).trans c1, by rw [World.frozen?_setCell]; exact c2⟩, by simpa [World.setCell] using hl⟩
theorem Three.set1 {w : World} {b : Nat} {A B C : Value} (h : Three w b A B C) (v : Value) : Three (w.setCell ⟨b + 1, 0, none⟩ v) b A v C := by
  obtain ⟨⟨a1, a2⟩, ⟨b1, b2⟩, ⟨c1, c2⟩, hl⟩ := h
  refine ⟨⟨(World.cell?_setCell_other _ _ _ _ (by simp)).trans a1, by rw [World.frozen?_setCell]; exact a2⟩, ⟨World.cell?_setCell_same _ _ _ b1, by rw [World.frozen?_setCell]; exact b2⟩, ⟨(World.cell?_setCell_other _ _ _ _ (by simp)).trans c1, by rw [World.frozen?_setCell]; exact c2⟩, by simpa [World.setCell] using hl⟩
theorem Three.set2 {w : World} {b : Nat} {A B C : Value} (h : Three w b A B C) (v : Value) : Three (w.setCell ⟨b + 1 + 1, 0, none⟩ v) b A B v := by
  obtain ⟨⟨a1, a2⟩, ⟨b1, b2⟩, ⟨c1, c2⟩, hl⟩ := h
  refine ⟨⟨(World.cell?_setCell_other _ _ _ _ (by simp [Nat.add_assoc])).trans a1, by rw [World.frozen?_setCell]; exact a2⟩, ⟨(World.cell?_setCell_other _ _ _ _ (by simp)).trans b1, by rw [World.frozen?_setCell]; exact b2⟩, ⟨World.cell?_setCell_same _ _ _ c1, by rw [World.frozen?_setCell]; exact c2⟩, by simpa [World.setCell] using hl⟩
theorem one_new (w : World) (A : Value) (x : TypeId) : (w.alloc (.cells #[A] x)).cell? ⟨w.heap.size, 0, none⟩ = some A ∧ (w.alloc (.cells #[A] x)).frozen? ⟨w.heap.size, 0, none⟩ = false := ⟨by simp, by simp⟩
theorem Three.new (w : World) (A B C : Value) (x y z : TypeId) : Three (((w.alloc (.cells #[A] x)).alloc (.cells #[B] y)).alloc (.cells #[C] z)) w.heap.size A B C := by
  have h1 := one_new w A x
  have h2 := one_new (w.alloc (.cells #[A] x)) B y
  have h3 := one_new ((w.alloc (.cells #[A] x)).alloc (.cells #[B] y)) C z
  have s1 : (w.alloc (.cells #[A] x)).heap.size = w.heap.size + 1 := by simp
  have s2 : ((w.alloc (.cells #[A] x)).alloc (.cells #[B] y)).heap.size = w.heap.size + 1 + 1 := by simp
  have s3 : (((w.alloc (.cells #[A] x)).alloc (.cells #[B] y)).alloc (.cells #[C] z)).heap.size = w.heap.size + 1 + 1 + 1 := by simp
  generalize hw1 : w.alloc (.cells #[A] x) = W1 at *
  have b2 : Below W1.heap.size W1 (W1.alloc (.cells #[B] y)) := (Below.refl _ _).alloc (Nat.le_refl _) _
  generalize hw2 : W1.alloc (.cells #[B] y) = W2 at *
  have b3 : Below W2.heap.size W2 (W2.alloc (.cells #[C] z)) := (Below.refl _ _).alloc (Nat.le_refl _) _
  generalize hw3 : W2.alloc (.cells #[C] z) = W3 at *
  rw [s1] at h2 b2
  rw [s2] at h3 b3
  have p0 : w.heap.size < w.heap.size + 1 := by omega
  have p0' : w.heap.size < w.heap.size + 1 + 1 := by omega
  have p1 : w.heap.size + 1 < w.heap.size + 1 + 1 := by omega
  exact ⟨⟨(b3.cell (p := ⟨w.heap.size, 0, none⟩) p0').trans ((b2.cell (p := ⟨w.heap.size, 0, none⟩) p0).trans h1.1), (b3.frozen (p := ⟨w.heap.size, 0, none⟩) p0').trans ((b2.frozen (p := ⟨w.heap.size, 0, none⟩) p0).trans h1.2)⟩,
    ⟨(b3.cell (p := ⟨w.heap.size + 1, 0, none⟩) p1).trans h2.1, (b3.frozen (p := ⟨w.heap.size + 1, 0, none⟩) p1).trans h2.2⟩, h3, by omega⟩

theorem below3 {w w1 : World} {A B C : Value} {x y z : TypeId} (hb : Below (((w.alloc (.cells #[A] x)).alloc (.cells #[B] y)).alloc (.cells #[C] z)).heap.size (((w.alloc (.cells #[A] x)).alloc (.cells #[B] y)).alloc (.cells #[C] z)) w1) : Below w.heap.size w w1 :=
  ((((Below.refl _ w).alloc (Nat.le_refl _) _).alloc (by simp) _).alloc (by simp; omega) _).trans (hb.mono (by simp; omega))

set_option maxRecDepth 100000 in
set_option maxHeartbeats 4000000 in
theorem with_good (k n : Int) (v key : ByteArray) (w : World) (h : ∀ w, Calls Tryd.prog 16 #[.int .i64 k, .int .i64 n, .string v] w fun e w' => e = .returned (.agg #[.string key, .string v]) ∧ Below w.heap.size w w') :
    Calls Tryd.prog 12 #[.int .i64 k, .int .i64 n, .string v] w fun e w' => e = .returned (.tuple #[.string key, .string v, .bool true]) ∧ Below w.heap.size w w' := by
  have hmf : ∀ (fn : Fn) (first cap : Array Value) (w : World), (Instr.makeFunc fn first cap).run Tryd.prog w = .ok (.func fn first cap) w := fun _ _ _ _ => rfl
  have HI := Aside0.mk h
  have HD := Aside0.mk fun w => dbus_DoorOption.calls key v key v w rfl
  clear h
  go_enter_defers Tryd.func12, Tryd.ntmps12
  go_wp2_with (first | (go_at_call 16; refine (HI.out _).mono ?_; rintro e w1 ⟨rfl, hb1⟩; have B1 := below3 hb1; have T1 := Aside0.mk ((Three.new _ _ _ _ _ _ _).next (Nat.le_refl _) hb1)) | (go_at_call 15; refine (HD.out _).mono ?_; rintro e w2 ⟨rfl, hb2⟩; have T2 := Aside0.mk (T1.out.next (Nat.le_refl _) hb2); obtain ⟨⟨a1, a2⟩, ⟨b1, b2⟩, ⟨c1, c2⟩, hl⟩ := T1.out.next (Nat.le_refl _) hb2))
  go_region
  go_wp2
  refine leaves_cons (f := 14) (args := #[.pointer (some ⟨w.heap.size, 0, none⟩), .pointer (some ⟨w.heap.size + 1, 0, none⟩), .pointer (some ⟨w.heap.size + 1 + 1, 0, none⟩)]) (by simp) (by simp [go_sem]) ?_
  refine (with_idle ⟨w.heap.size, 0, none⟩ ⟨w.heap.size + 1, 0, none⟩ ⟨w.heap.size + 1 + 1, 0, none⟩ _).mono ?_
  rintro e u' w'' ⟨rfl, rfl, rfl⟩
  have p0 : w.heap.size ≤ w.heap.size := Nat.le_refl _
  have p1 : w.heap.size ≤ w.heap.size + 1 := by omega
  have p2 : w.heap.size ≤ w.heap.size + 1 + 1 := by omega
  have hfin := ((((((B1.trans (hb2.mono B1.size)).setCell (p := ⟨w.heap.size, 0, none⟩) p0 (Value.string key)).setCell (p := ⟨w.heap.size + 1, 0, none⟩) p1 (Value.string v)).setCell (p := ⟨w.heap.size, 0, none⟩) p0 (Value.string key)).setCell (p := ⟨w.heap.size + 1, 0, none⟩) p1 (Value.string v)).setCell (p := ⟨w.heap.size + 1 + 1, 0, none⟩) p2 (Value.bool true)).drew
  obtain ⟨⟨d1, _⟩, ⟨d2, _⟩, ⟨d3, _⟩, _⟩ := ((((T2.out.set0 (Value.string key)).set1 (Value.string v)).set0 (Value.string key)).set1 (Value.string v)).set2 (Value.bool true)
  clear a1 b1 c1 a2 b2 c2 T1 T2 hb1 B1 hb2 hl
  generalize (((((w2.setCell ⟨w.heap.size, 0, none⟩ (Value.string key)).setCell ⟨w.heap.size + 1, 0, none⟩ (Value.string v)).setCell ⟨w.heap.size, 0, none⟩ (Value.string key)).setCell ⟨w.heap.size + 1, 0, none⟩ (Value.string v)).setCell ⟨w.heap.size + 1 + 1, 0, none⟩ (Value.bool true)) = W5 at *
  simp [Leaves, settle, results, Tryd.results12, go_sem, d1, d2, d3, hfin]

set_option maxRecDepth 100000 in
set_option maxHeartbeats 4000000 in
theorem with_bad (k n : Int) (v : ByteArray) (w : World) (h : ∀ w, Calls Tryd.prog 16 #[.int .i64 k, .int .i64 n, .string v] w fun e w' => Refused e ∧ Below w.heap.size w w') :
    Calls Tryd.prog 12 #[.int .i64 k, .int .i64 n, .string v] w fun e w' => e = .returned (.tuple #[.string ⟨#[]⟩, .string ⟨#[]⟩, .bool false]) ∧ Below w.heap.size w w' := by
  have hmf : ∀ (fn : Fn) (first cap : Array Value) (w : World), (Instr.makeFunc fn first cap).run Tryd.prog w = .ok (.func fn first cap) w := fun _ _ _ _ => rfl
  have HI := Aside0.mk h
  clear h
  go_enter_defers Tryd.func12, Tryd.ntmps12
  go_wp2_with (go_at_call 16; refine (HI.out _).mono ?_; rintro e w1 ⟨⟨pv, rfl⟩, hb1⟩; have B1 := below3 hb1; have T1 := Aside0.mk ((Three.new _ _ _ _ _ _ _).next (Nat.le_refl _) hb1))
  obtain ⟨⟨a1, a2⟩, ⟨b1, b2⟩, ⟨c1, c2⟩, hl⟩ := T1.out
  refine leaves_cons (f := 14) (args := #[.pointer (some ⟨w.heap.size, 0, none⟩), .pointer (some ⟨w.heap.size + 1, 0, none⟩), .pointer (some ⟨w.heap.size + 1 + 1, 0, none⟩)]) (by simp) (by simp [go_sem]) ?_
  refine (with_caught w.heap.size _ _ _ 9 pv _ a1 b1 c1 a2 b2 c2).mono ?_
  rintro e u' w'' ⟨rfl, rfl, rfl⟩
  have p0 : w.heap.size ≤ w.heap.size := Nat.le_refl _
  have p1 : w.heap.size ≤ w.heap.size + 1 := by omega
  have p2 : w.heap.size ≤ w.heap.size + 1 + 1 := by omega
  have hfin := ((B1.setCell (p := ⟨w.heap.size, 0, none⟩) p0 (Value.string ⟨#[]⟩)).setCell (p := ⟨w.heap.size + 1, 0, none⟩) p1 (Value.string ⟨#[]⟩)).setCell (p := ⟨w.heap.size + 1 + 1, 0, none⟩) p2 (Value.bool false)
  obtain ⟨⟨d1, _⟩, ⟨d2, _⟩, ⟨d3, _⟩, _⟩ := ((T1.out.set0 (Value.string ⟨#[]⟩)).set1 (Value.string ⟨#[]⟩)).set2 (Value.bool false)
  clear a1 b1 c1 a2 b2 c2 T1 hb1 B1 hl
  generalize (((w1.setCell ⟨w.heap.size, 0, none⟩ (Value.string ⟨#[]⟩)).setCell ⟨w.heap.size + 1, 0, none⟩ (Value.string ⟨#[]⟩)).setCell ⟨w.heap.size + 1 + 1, 0, none⟩ (Value.bool false)) = W5 at *
  simp [Leaves, settle, results, Tryd.results12, go_sem, d1, d2, d3, hfin]

/-- What MtWith says at the kinds 6 and 7: at a number from 0 to 63 the key and the value. -/
def MtWith.f (k n : Int) (v : ByteArray) : Option (ByteArray × ByteArray × Bool) :=
  if k = 6 ∨ k = 7 then
    (if 0 ≤ n ∧ n ≤ 63 then (strconv_Itoa_31.f 1 n).map fun t => (if k = 6 then ⟨#[97, 114, 103]⟩ ++ t else (⟨#[97, 114, 103]⟩ ++ t) ++ ⟨#[112, 97, 116, 104]⟩, v, true)
     else some (⟨#[]⟩, ⟨#[]⟩, false))
  else none

set_option maxRecDepth 100000 in
set_option maxHeartbeats 4000000 in
theorem mw_calls (k n : Int) (v a b : ByteArray) (c : Bool) (w : World) (h : ∀ w, Calls Tryd.prog 12 #[.int .i64 k, .int .i64 n, .string v] w fun e w' => e = .returned (.tuple #[.string a, .string b, .bool c]) ∧ Below w.heap.size w w') :
    Calls Tryd.prog 10 #[.int .i64 k, .int .i64 n, .string v] w fun e w' => e = .returned (.tuple #[.string a, .string b, .bool c]) ∧ Below w.heap.size w w' := by
  have HI := Aside0.mk h
  clear h
  go_enter Tryd.func10, Tryd.ntmps10
  go_wp2_with (go_at_call 12; refine (HI.out _).mono ?_; rintro e w1 ⟨rfl, hb1⟩)
  go_ret3
  exact ⟨rfl, hb1⟩

theorem MtWith.calls (k n : Int) (v r1 r2 : ByteArray) (r3 : Bool) (w : World) (h : MtWith.f k n v = some (r1, r2, r3)) :
    Calls Tryd.prog 10 #[.int .i64 k, .int .i64 n, .string v] w fun e w' => e = .returned (.tuple #[.string r1, .string r2, .bool r3]) ∧ Below w.heap.size w w' := by
  unfold MtWith.f at h
  split at h
  · rename_i hk
    split at h
    · rename_i hn
      obtain ⟨t, ht, hs⟩ := itoa_some hn.1 hn.2
      rw [ht] at h
      simp only [Option.map_some, Option.some.injEq, Prod.mk.injEq] at h
      obtain ⟨rfl, rfl, rfl⟩ := h
      refine mw_calls k n v _ _ _ w fun w => with_good k n v _ w fun w => ?_
      rcases hk with rfl | rfl
      · exact opt_arg_good n v _ w fun w => arg_good n v t w hn.1 hn.2 hs fun w => strconv_Itoa_31.calls 1 n t w ht
      · exact opt_path_good n v _ w fun w => path_good n v t w hn.1 hn.2 hs fun w => strconv_Itoa_31.calls 1 n t w ht
    · rename_i hn
      simp only [Option.some.injEq, Prod.mk.injEq] at h
      obtain ⟨rfl, rfl, rfl⟩ := h
      refine mw_calls k n v _ _ _ w fun w => with_bad k n v w fun w => ?_
      rcases hk with rfl | rfl
      · exact opt_arg_bad n v w fun w => arg_bad n v w (by omega)
      · exact opt_path_bad n v w fun w => path_bad n v w (by omega)
  · cases h
end Go.Proofs.YtdooimdefmegaaaDoor.Given
