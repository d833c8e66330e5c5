/- varNumAs at the three forms of a text. -/
import Derived.Test.YthjbopjclkbhfaaGreatDoorGvC0
import Derived.Test.YthjbopjclkbhfaaGreatDoorGvKd
import Derived.Test.YthjbopjclkbhfaaGreatDoorGvPp
import Derived.LoopTactic
import Derived.Deep.QuietTactic
import Derived.BigQuiet
namespace Go.Proofs.YthjbopjclkbhfaaGreatDoor.Given
open Go.RowKit Go.Proofs.YthjbopjclkbhfaaGreatDoorW.PrintWords
set_option linter.unusedVariables false

set_option maxHeartbeats 8000000 in
set_option maxRecDepth 100000 in
theorem ok_121_10 (s t : ByteArray) (n : Int) (h1 : cutRes s ⟨#[48, 120]⟩ = (t, false)) (h2 : cutRes t ⟨#[48]⟩ = (t, false)) (h3 : t = s) (hI : Is 10 t n) (hn0 : 0 ≤ n) (hn : n ≤ 255) (w : World) (hG : Glob w) :
    Calls Tryz.prog 16 #[.string s, .agg #[.string ⟨#[121]⟩]] w fun e w' => e = .returned (.tuple #[.iface 5 (.int .u8 n), .nilIface]) ∧ Below w.heap.size w w' := by
  have HI := Aside0.mk hI
  have HG := Aside0.mk hG
  subst h3
  have H1 := Aside0.mk h1
  have H2 := Aside0.mk h2
  clear h1 h2
  clear hI hG
  have hw : IntKind.u8.wrap n = n := by unfold IntKind.wrap; simp [IntKind.signed, IntKind.bits]; omega
  go_enter Tryz.func16, Tryz.ntmps16
  go_wp2_with (first
    | (go_at_call 25; refine (ok_u_10_8 _ n HI.out hn _ (HG.out.below ((Below.refl _ _).alloc (Nat.le_refl _) _) (Nat.le_refl _))).mono ?_; rintro e w1 ⟨rfl, hb⟩; obtain ⟨hc, hf⟩ := bcell hb)
    | (go_at_call 24; refine (cut.calls _ _ _).mono ?_; rintro e w1 ⟨he, rfl⟩; (first | rw [H1.out] at he | rw [H2.out] at he); subst he))
  go_ret2
  exact ⟨rfl, below_new hb⟩
set_option maxHeartbeats 8000000 in
set_option maxRecDepth 100000 in
theorem bad_121_10 (s t : ByteArray) (n : Int) (h1 : cutRes s ⟨#[48, 120]⟩ = (t, false)) (h2 : cutRes t ⟨#[48]⟩ = (t, false)) (h3 : t = s) (hI : Is 10 t n) (hn0 : 0 ≤ n) (hn : 255 < n) (w : World) (hG : Glob w) :
    Calls Tryz.prog 16 #[.string s, .agg #[.string ⟨#[121]⟩]] w fun e w' => (∃ x u, e = .returned (.tuple #[.nilIface, .iface x u])) ∧ Below w.heap.size w w' := by
  have HI := Aside0.mk hI
  have HG := Aside0.mk hG
  subst h3
  have H1 := Aside0.mk h1
  have H2 := Aside0.mk h2
  clear h1 h2
  clear hI hG
  go_enter Tryz.func16, Tryz.ntmps16
  go_wp2_with (first
    | (go_at_call 25; refine (bad_u_10_8 _ n HI.out hn _ (HG.out.below ((Below.refl _ _).alloc (Nat.le_refl _) _) (Nat.le_refl _))).mono ?_; rintro e w1 ⟨⟨x, u, rfl⟩, hb⟩; obtain ⟨hc, hf⟩ := bcell hb)
    | (go_at_call 24; refine (cut.calls _ _ _).mono ?_; rintro e w1 ⟨he, rfl⟩; (first | rw [H1.out] at he | rw [H2.out] at he); subst he))
  go_ret2
  exact ⟨⟨_, _, rfl⟩, below_new hb⟩

set_option maxHeartbeats 8000000 in
set_option maxRecDepth 100000 in
theorem ok_121_16 (s t : ByteArray) (n : Int) (h1 : cutRes s ⟨#[48, 120]⟩ = (t, true)) (h2 : cutRes t ⟨#[48]⟩ = (t, false)) (hI : Is 16 t n) (hn0 : 0 ≤ n) (hn : n ≤ 255) (w : World) (hG : Glob w) :
    Calls Tryz.prog 16 #[.string s, .agg #[.string ⟨#[121]⟩]] w fun e w' => e = .returned (.tuple #[.iface 5 (.int .u8 n), .nilIface]) ∧ Below w.heap.size w w' := by
  have HI := Aside0.mk hI
  have HG := Aside0.mk hG
  have H1 := Aside0.mk h1
  have H2 := Aside0.mk h2
  clear h1 h2
  clear hI hG
  have hw : IntKind.u8.wrap n = n := by unfold IntKind.wrap; simp [IntKind.signed, IntKind.bits]; omega
  go_enter Tryz.func16, Tryz.ntmps16
  go_wp2_with (first
    | (go_at_call 25; refine (ok_u_16_8 _ n HI.out hn _ (HG.out.below ((Below.refl _ _).alloc (Nat.le_refl _) _) (Nat.le_refl _))).mono ?_; rintro e w1 ⟨rfl, hb⟩; obtain ⟨hc, hf⟩ := bcell hb)
    | (go_at_call 24; refine (cut.calls _ _ _).mono ?_; rintro e w1 ⟨he, rfl⟩; (first | rw [H1.out] at he | rw [H2.out] at he); subst he))
  go_ret2
  exact ⟨rfl, below_new hb⟩
set_option maxHeartbeats 8000000 in
set_option maxRecDepth 100000 in
theorem bad_121_16 (s t : ByteArray) (n : Int) (h1 : cutRes s ⟨#[48, 120]⟩ = (t, true)) (h2 : cutRes t ⟨#[48]⟩ = (t, false)) (hI : Is 16 t n) (hn0 : 0 ≤ n) (hn : 255 < n) (w : World) (hG : Glob w) :
    Calls Tryz.prog 16 #[.string s, .agg #[.string ⟨#[121]⟩]] w fun e w' => (∃ x u, e = .returned (.tuple #[.nilIface, .iface x u])) ∧ Below w.heap.size w w' := by
  have HI := Aside0.mk hI
  have HG := Aside0.mk hG
  have H1 := Aside0.mk h1
  have H2 := Aside0.mk h2
  clear h1 h2
  clear hI hG
  go_enter Tryz.func16, Tryz.ntmps16
  go_wp2_with (first
    | (go_at_call 25; refine (bad_u_16_8 _ n HI.out hn _ (HG.out.below ((Below.refl _ _).alloc (Nat.le_refl _) _) (Nat.le_refl _))).mono ?_; rintro e w1 ⟨⟨x, u, rfl⟩, hb⟩; obtain ⟨hc, hf⟩ := bcell hb)
    | (go_at_call 24; refine (cut.calls _ _ _).mono ?_; rintro e w1 ⟨he, rfl⟩; (first | rw [H1.out] at he | rw [H2.out] at he); subst he))
  go_ret2
  exact ⟨⟨_, _, rfl⟩, below_new hb⟩

set_option maxHeartbeats 8000000 in
set_option maxRecDepth 100000 in
theorem ok_121_8 (s t : ByteArray) (n : Int) (h1 : cutRes s ⟨#[48, 120]⟩ = (s, false)) (h2 : cutRes s ⟨#[48]⟩ = (t, true)) (h3 : s.size ≠ 1) (hI : Is 8 t n) (hn0 : 0 ≤ n) (hn : n ≤ 255) (w : World) (hG : Glob w) :
    Calls Tryz.prog 16 #[.string s, .agg #[.string ⟨#[121]⟩]] w fun e w' => e = .returned (.tuple #[.iface 5 (.int .u8 n), .nilIface]) ∧ Below w.heap.size w w' := by
  have HI := Aside0.mk hI
  have HG := Aside0.mk hG
  have H1 := Aside0.mk h1
  have H2 := Aside0.mk h2
  clear h1 h2
  clear hI hG
  have hw : IntKind.u8.wrap n = n := by unfold IntKind.wrap; simp [IntKind.signed, IntKind.bits]; omega
  go_enter Tryz.func16, Tryz.ntmps16
  go_wp2_with (first
    | (go_at_call 25; refine (ok_u_8_8 _ n HI.out hn _ (HG.out.below ((Below.refl _ _).alloc (Nat.le_refl _) _) (Nat.le_refl _))).mono ?_; rintro e w1 ⟨rfl, hb⟩; obtain ⟨hc, hf⟩ := bcell hb)
    | (go_at_call 24; refine (cut.calls _ _ _).mono ?_; rintro e w1 ⟨he, rfl⟩; (first | rw [H1.out] at he | rw [H2.out] at he); subst he))
  go_ret2
  exact ⟨rfl, below_new hb⟩
set_option maxHeartbeats 8000000 in
set_option maxRecDepth 100000 in
theorem bad_121_8 (s t : ByteArray) (n : Int) (h1 : cutRes s ⟨#[48, 120]⟩ = (s, false)) (h2 : cutRes s ⟨#[48]⟩ = (t, true)) (h3 : s.size ≠ 1) (hI : Is 8 t n) (hn0 : 0 ≤ n) (hn : 255 < n) (w : World) (hG : Glob w) :
    Calls Tryz.prog 16 #[.string s, .agg #[.string ⟨#[121]⟩]] w fun e w' => (∃ x u, e = .returned (.tuple #[.nilIface, .iface x u])) ∧ Below w.heap.size w w' := by
  have HI := Aside0.mk hI
  have HG := Aside0.mk hG
  have H1 := Aside0.mk h1
  have H2 := Aside0.mk h2
  clear h1 h2
  clear hI hG
  go_enter Tryz.func16, Tryz.ntmps16
  go_wp2_with (first
    | (go_at_call 25; refine (bad_u_8_8 _ n HI.out hn _ (HG.out.below ((Below.refl _ _).alloc (Nat.le_refl _) _) (Nat.le_refl _))).mono ?_; rintro e w1 ⟨⟨x, u, rfl⟩, hb⟩; obtain ⟨hc, hf⟩ := bcell hb)
    | (go_at_call 24; refine (cut.calls _ _ _).mono ?_; rintro e w1 ⟨he, rfl⟩; (first | rw [H1.out] at he | rw [H2.out] at he); subst he))
  go_ret2
  exact ⟨⟨_, _, rfl⟩, below_new hb⟩

set_option maxHeartbeats 8000000 in
set_option maxRecDepth 100000 in
theorem ok_110_10 (s t : ByteArray) (n : Int) (h1 : cutRes s ⟨#[48, 120]⟩ = (t, false)) (h2 : cutRes t ⟨#[48]⟩ = (t, false)) (h3 : t = s) (hI : Is 10 t n) (hn0 : 0 ≤ n) (hn : n ≤ 32767) (w : World) (hG : Glob w) :
    Calls Tryz.prog 16 #[.string s, .agg #[.string ⟨#[110]⟩]] w fun e w' => e = .returned (.tuple #[.iface 75 (.int .i16 n), .nilIface]) ∧ Below w.heap.size w w' := by
  have HI := Aside0.mk hI
  have HG := Aside0.mk hG
  subst h3
  have H1 := Aside0.mk h1
  have H2 := Aside0.mk h2
  clear h1 h2
  clear hI hG
  have hw : IntKind.i16.wrap n = n := by unfold IntKind.wrap; simp [IntKind.signed, IntKind.bits]; omega
  go_enter Tryz.func16, Tryz.ntmps16
  go_wp2_with (first
    | (go_at_call 26; refine (ok_i_10_16 _ n HI.out hn0 hn _).mono ?_; rintro e w1 ⟨rfl, hb⟩; obtain ⟨hc, hf⟩ := bcell hb)
    | (go_at_call 24; refine (cut.calls _ _ _).mono ?_; rintro e w1 ⟨he, rfl⟩; (first | rw [H1.out] at he | rw [H2.out] at he); subst he))
  go_ret2
  exact ⟨rfl, below_new hb⟩
set_option maxHeartbeats 8000000 in
set_option maxRecDepth 100000 in
theorem bad_110_10 (s t : ByteArray) (n : Int) (h1 : cutRes s ⟨#[48, 120]⟩ = (t, false)) (h2 : cutRes t ⟨#[48]⟩ = (t, false)) (h3 : t = s) (hI : Is 10 t n) (hn0 : 0 ≤ n) (hn : 32767 < n) (w : World) (hG : Glob w) :
    Calls Tryz.prog 16 #[.string s, .agg #[.string ⟨#[110]⟩]] w fun e w' => (∃ x u, e = .returned (.tuple #[.nilIface, .iface x u])) ∧ Below w.heap.size w w' := by
  have HI := Aside0.mk hI
  have HG := Aside0.mk hG
  subst h3
  have H1 := Aside0.mk h1
  have H2 := Aside0.mk h2
  clear h1 h2
  clear hI hG
  go_enter Tryz.func16, Tryz.ntmps16
  go_wp2_with (first
    | (go_at_call 26; refine (bad_i_10_16 _ n HI.out hn0 hn _ (HG.out.below ((Below.refl _ _).alloc (Nat.le_refl _) _) (Nat.le_refl _))).mono ?_; rintro e w1 ⟨⟨x, u, rfl⟩, hb⟩; obtain ⟨hc, hf⟩ := bcell hb)
    | (go_at_call 24; refine (cut.calls _ _ _).mono ?_; rintro e w1 ⟨he, rfl⟩; (first | rw [H1.out] at he | rw [H2.out] at he); subst he))
  go_ret2
  exact ⟨⟨_, _, rfl⟩, below_new hb⟩

set_option maxHeartbeats 8000000 in
set_option maxRecDepth 100000 in
theorem ok_110_16 (s t : ByteArray) (n : Int) (h1 : cutRes s ⟨#[48, 120]⟩ = (t, true)) (h2 : cutRes t ⟨#[48]⟩ = (t, false)) (hI : Is 16 t n) (hn0 : 0 ≤ n) (hn : n ≤ 32767) (w : World) (hG : Glob w) :
    Calls Tryz.prog 16 #[.string s, .agg #[.string ⟨#[110]⟩]] w fun e w' => e = .returned (.tuple #[.iface 75 (.int .i16 n), .nilIface]) ∧ Below w.heap.size w w' := by
  have HI := Aside0.mk hI
  have HG := Aside0.mk hG
  have H1 := Aside0.mk h1
  have H2 := Aside0.mk h2
  clear h1 h2
  clear hI hG
  have hw : IntKind.i16.wrap n = n := by unfold IntKind.wrap; simp [IntKind.signed, IntKind.bits]; omega
  go_enter Tryz.func16, Tryz.ntmps16
  go_wp2_with (first
    | (go_at_call 26; refine (ok_i_16_16 _ n HI.out hn0 hn _).mono ?_; rintro e w1 ⟨rfl, hb⟩; obtain ⟨hc, hf⟩ := bcell hb)
    | (go_at_call 24; refine (cut.calls _ _ _).mono ?_; rintro e w1 ⟨he, rfl⟩; (first | rw [H1.out] at he | rw [H2.out] at he); subst he))
  go_ret2
  exact ⟨rfl, below_new hb⟩
set_option maxHeartbeats 8000000 in
set_option maxRecDepth 100000 in
theorem bad_110_16 (s t : ByteArray) (n : Int) (h1 : cutRes s ⟨#[48, 120]⟩ = (t, true)) (h2 : cutRes t ⟨#[48]⟩ = (t, false)) (hI : Is 16 t n) (hn0 : 0 ≤ n) (hn : 32767 < n) (w : World) (hG : Glob w) :
    Calls Tryz.prog 16 #[.string s, .agg #[.string ⟨#[110]⟩]] w fun e w' => (∃ x u, e = .returned (.tuple #[.nilIface, .iface x u])) ∧ Below w.heap.size w w' := by
  have HI := Aside0.mk hI
  have HG := Aside0.mk hG
  have H1 := Aside0.mk h1
  have H2 := Aside0.mk h2
  clear h1 h2
  clear hI hG
  go_enter Tryz.func16, Tryz.ntmps16
  go_wp2_with (first
    | (go_at_call 26; refine (bad_i_16_16 _ n HI.out hn0 hn _ (HG.out.below ((Below.refl _ _).alloc (Nat.le_refl _) _) (Nat.le_refl _))).mono ?_; rintro e w1 ⟨⟨x, u, rfl⟩, hb⟩; obtain ⟨hc, hf⟩ := bcell hb)
    | (go_at_call 24; refine (cut.calls _ _ _).mono ?_; rintro e w1 ⟨he, rfl⟩; (first | rw [H1.out] at he | rw [H2.out] at he); subst he))
  go_ret2
  exact ⟨⟨_, _, rfl⟩, below_new hb⟩

set_option maxHeartbeats 8000000 in
set_option maxRecDepth 100000 in
theorem ok_110_8 (s t : ByteArray) (n : Int) (h1 : cutRes s ⟨#[48, 120]⟩ = (s, false)) (h2 : cutRes s ⟨#[48]⟩ = (t, true)) (h3 : s.size ≠ 1) (hI : Is 8 t n) (hn0 : 0 ≤ n) (hn : n ≤ 32767) (w : World) (hG : Glob w) :
    Calls Tryz.prog 16 #[.string s, .agg #[.string ⟨#[110]⟩]] w fun e w' => e = .returned (.tuple #[.iface 75 (.int .i16 n), .nilIface]) ∧ Below w.heap.size w w' := by
  have HI := Aside0.mk hI
  have HG := Aside0.mk hG
  have H1 := Aside0.mk h1
  have H2 := Aside0.mk h2
  clear h1 h2
  clear hI hG
  have hw : IntKind.i16.wrap n = n := by unfold IntKind.wrap; simp [IntKind.signed, IntKind.bits]; omega
  go_enter Tryz.func16, Tryz.ntmps16
  go_wp2_with (first
    | (go_at_call 26; refine (ok_i_8_16 _ n HI.out hn0 hn _).mono ?_; rintro e w1 ⟨rfl, hb⟩; obtain ⟨hc, hf⟩ := bcell hb)
    | (go_at_call 24; refine (cut.calls _ _ _).mono ?_; rintro e w1 ⟨he, rfl⟩; (first | rw [H1.out] at he | rw [H2.out] at he); subst he))
  go_ret2
  exact ⟨rfl, below_new hb⟩
set_option maxHeartbeats 8000000 in
set_option maxRecDepth 100000 in
theorem bad_110_8 (s t : ByteArray) (n : Int) (h1 : cutRes s ⟨#[48, 120]⟩ = (s, false)) (h2 : cutRes s ⟨#[48]⟩ = (t, true)) (h3 : s.size ≠ 1) (hI : Is 8 t n) (hn0 : 0 ≤ n) (hn : 32767 < n) (w : World) (hG : Glob w) :
    Calls Tryz.prog 16 #[.string s, .agg #[.string ⟨#[110]⟩]] w fun e w' => (∃ x u, e = .returned (.tuple #[.nilIface, .iface x u])) ∧ Below w.heap.size w w' := by
  have HI := Aside0.mk hI
  have HG := Aside0.mk hG
  have H1 := Aside0.mk h1
  have H2 := Aside0.mk h2
  clear h1 h2
  clear hI hG
  go_enter Tryz.func16, Tryz.ntmps16
  go_wp2_with (first
    | (go_at_call 26; refine (bad_i_8_16 _ n HI.out hn0 hn _ (HG.out.below ((Below.refl _ _).alloc (Nat.le_refl _) _) (Nat.le_refl _))).mono ?_; rintro e w1 ⟨⟨x, u, rfl⟩, hb⟩; obtain ⟨hc, hf⟩ := bcell hb)
    | (go_at_call 24; refine (cut.calls _ _ _).mono ?_; rintro e w1 ⟨he, rfl⟩; (first | rw [H1.out] at he | rw [H2.out] at he); subst he))
  go_ret2
  exact ⟨⟨_, _, rfl⟩, below_new hb⟩

set_option maxHeartbeats 8000000 in
set_option maxRecDepth 100000 in
theorem ok_113_10 (s t : ByteArray) (n : Int) (h1 : cutRes s ⟨#[48, 120]⟩ = (t, false)) (h2 : cutRes t ⟨#[48]⟩ = (t, false)) (h3 : t = s) (hI : Is 10 t n) (hn0 : 0 ≤ n) (hn : n ≤ 65535) (w : World) (hG : Glob w) :
    Calls Tryz.prog 16 #[.string s, .agg #[.string ⟨#[113]⟩]] w fun e w' => e = .returned (.tuple #[.iface 72 (.int .u16 n), .nilIface]) ∧ Below w.heap.size w w' := by
  have HI := Aside0.mk hI
  have HG := Aside0.mk hG
  subst h3
  have H1 := Aside0.mk h1
  have H2 := Aside0.mk h2
  clear h1 h2
  clear hI hG
  have hw : IntKind.u16.wrap n = n := by unfold IntKind.wrap; simp [IntKind.signed, IntKind.bits]; omega
  go_enter Tryz.func16, Tryz.ntmps16
  go_wp2_with (first
    | (go_at_call 25; refine (ok_u_10_16 _ n HI.out hn _ (HG.out.below ((Below.refl _ _).alloc (Nat.le_refl _) _) (Nat.le_refl _))).mono ?_; rintro e w1 ⟨rfl, hb⟩; obtain ⟨hc, hf⟩ := bcell hb)
    | (go_at_call 24; refine (cut.calls _ _ _).mono ?_; rintro e w1 ⟨he, rfl⟩; (first | rw [H1.out] at he | rw [H2.out] at he); subst he))
  go_ret2
  exact ⟨rfl, below_new hb⟩
set_option maxHeartbeats 8000000 in
set_option maxRecDepth 100000 in
theorem bad_113_10 (s t : ByteArray) (n : Int) (h1 : cutRes s ⟨#[48, 120]⟩ = (t, false)) (h2 : cutRes t ⟨#[48]⟩ = (t, false)) (h3 : t = s) (hI : Is 10 t n) (hn0 : 0 ≤ n) (hn : 65535 < n) (w : World) (hG : Glob w) :
    Calls Tryz.prog 16 #[.string s, .agg #[.string ⟨#[113]⟩]] w fun e w' => (∃ x u, e = .returned (.tuple #[.nilIface, .iface x u])) ∧ Below w.heap.size w w' := by
  have HI := Aside0.mk hI
  have HG := Aside0.mk hG
  subst h3
  have H1 := Aside0.mk h1
  have H2 := Aside0.mk h2
  clear h1 h2
  clear hI hG
  go_enter Tryz.func16, Tryz.ntmps16
  go_wp2_with (first
    | (go_at_call 25; refine (bad_u_10_16 _ n HI.out hn _ (HG.out.below ((Below.refl _ _).alloc (Nat.le_refl _) _) (Nat.le_refl _))).mono ?_; rintro e w1 ⟨⟨x, u, rfl⟩, hb⟩; obtain ⟨hc, hf⟩ := bcell hb)
    | (go_at_call 24; refine (cut.calls _ _ _).mono ?_; rintro e w1 ⟨he, rfl⟩; (first | rw [H1.out] at he | rw [H2.out] at he); subst he))
  go_ret2
  exact ⟨⟨_, _, rfl⟩, below_new hb⟩

set_option maxHeartbeats 8000000 in
set_option maxRecDepth 100000 in
theorem ok_113_16 (s t : ByteArray) (n : Int) (h1 : cutRes s ⟨#[48, 120]⟩ = (t, true)) (h2 : cutRes t ⟨#[48]⟩ = (t, false)) (hI : Is 16 t n) (hn0 : 0 ≤ n) (hn : n ≤ 65535) (w : World) (hG : Glob w) :
    Calls Tryz.prog 16 #[.string s, .agg #[.string ⟨#[113]⟩]] w fun e w' => e = .returned (.tuple #[.iface 72 (.int .u16 n), .nilIface]) ∧ Below w.heap.size w w' := by
  have HI := Aside0.mk hI
  have HG := Aside0.mk hG
  have H1 := Aside0.mk h1
  have H2 := Aside0.mk h2
  clear h1 h2
  clear hI hG
  have hw : IntKind.u16.wrap n = n := by unfold IntKind.wrap; simp [IntKind.signed, IntKind.bits]; omega
  go_enter Tryz.func16, Tryz.ntmps16
  go_wp2_with (first
    | (go_at_call 25; refine (ok_u_16_16 _ n HI.out hn _ (HG.out.below ((Below.refl _ _).alloc (Nat.le_refl _) _) (Nat.le_refl _))).mono ?_; rintro e w1 ⟨rfl, hb⟩; obtain ⟨hc, hf⟩ := bcell hb)
    | (go_at_call 24; refine (cut.calls _ _ _).mono ?_; rintro e w1 ⟨he, rfl⟩; (first | rw [H1.out] at he | rw [H2.out] at he); subst he))
  go_ret2
  exact ⟨rfl, below_new hb⟩
set_option maxHeartbeats 8000000 in
set_option maxRecDepth 100000 in
theorem bad_113_16 (s t : ByteArray) (n : Int) (h1 : cutRes s ⟨#[48, 120]⟩ = (t, true)) (h2 : cutRes t ⟨#[48]⟩ = (t, false)) (hI : Is 16 t n) (hn0 : 0 ≤ n) (hn : 65535 < n) (w : World) (hG : Glob w) :
    Calls Tryz.prog 16 #[.string s, .agg #[.string ⟨#[113]⟩]] w fun e w' => (∃ x u, e = .returned (.tuple #[.nilIface, .iface x u])) ∧ Below w.heap.size w w' := by
  have HI := Aside0.mk hI
  have HG := Aside0.mk hG
  have H1 := Aside0.mk h1
  have H2 := Aside0.mk h2
  clear h1 h2
  clear hI hG
  go_enter Tryz.func16, Tryz.ntmps16
  go_wp2_with (first
    | (go_at_call 25; refine (bad_u_16_16 _ n HI.out hn _ (HG.out.below ((Below.refl _ _).alloc (Nat.le_refl _) _) (Nat.le_refl _))).mono ?_; rintro e w1 ⟨⟨x, u, rfl⟩, hb⟩; obtain ⟨hc, hf⟩ := bcell hb)
    | (go_at_call 24; refine (cut.calls _ _ _).mono ?_; rintro e w1 ⟨he, rfl⟩; (first | rw [H1.out] at he | rw [H2.out] at he); subst he))
  go_ret2
  exact ⟨⟨_, _, rfl⟩, below_new hb⟩

set_option maxHeartbeats 8000000 in
set_option maxRecDepth 100000 in
theorem ok_113_8 (s t : ByteArray) (n : Int) (h1 : cutRes s ⟨#[48, 120]⟩ = (s, false)) (h2 : cutRes s ⟨#[48]⟩ = (t, true)) (h3 : s.size ≠ 1) (hI : Is 8 t n) (hn0 : 0 ≤ n) (hn : n ≤ 65535) (w : World) (hG : Glob w) :
    Calls Tryz.prog 16 #[.string s, .agg #[.string ⟨#[113]⟩]] w fun e w' => e = .returned (.tuple #[.iface 72 (.int .u16 n), .nilIface]) ∧ Below w.heap.size w w' := by
  have HI := Aside0.mk hI
  have HG := Aside0.mk hG
  have H1 := Aside0.mk h1
  have H2 := Aside0.mk h2
  clear h1 h2
  clear hI hG
  have hw : IntKind.u16.wrap n = n := by unfold IntKind.wrap; simp [IntKind.signed, IntKind.bits]; omega
  go_enter Tryz.func16, Tryz.ntmps16
  go_wp2_with (first
    | (go_at_call 25; refine (ok_u_8_16 _ n HI.out hn _ (HG.out.below ((Below.refl _ _).alloc (Nat.le_refl _) _) (Nat.le_refl _))).mono ?_; rintro e w1 ⟨rfl, hb⟩; obtain ⟨hc, hf⟩ := bcell hb)
    | (go_at_call 24; refine (cut.calls _ _ _).mono ?_; rintro e w1 ⟨he, rfl⟩; (first | rw [H1.out] at he | rw [H2.out] at he); subst he))
  go_ret2
  exact ⟨rfl, below_new hb⟩
set_option maxHeartbeats 8000000 in
set_option maxRecDepth 100000 in
theorem bad_113_8 (s t : ByteArray) (n : Int) (h1 : cutRes s ⟨#[48, 120]⟩ = (s, false)) (h2 : cutRes s ⟨#[48]⟩ = (t, true)) (h3 : s.size ≠ 1) (hI : Is 8 t n) (hn0 : 0 ≤ n) (hn : 65535 < n) (w : World) (hG : Glob w) :
    Calls Tryz.prog 16 #[.string s, .agg #[.string ⟨#[113]⟩]] w fun e w' => (∃ x u, e = .returned (.tuple #[.nilIface, .iface x u])) ∧ Below w.heap.size w w' := by
  have HI := Aside0.mk hI
  have HG := Aside0.mk hG
  have H1 := Aside0.mk h1
  have H2 := Aside0.mk h2
  clear h1 h2
  clear hI hG
  go_enter Tryz.func16, Tryz.ntmps16
  go_wp2_with (first
    | (go_at_call 25; refine (bad_u_8_16 _ n HI.out hn _ (HG.out.below ((Below.refl _ _).alloc (Nat.le_refl _) _) (Nat.le_refl _))).mono ?_; rintro e w1 ⟨⟨x, u, rfl⟩, hb⟩; obtain ⟨hc, hf⟩ := bcell hb)
    | (go_at_call 24; refine (cut.calls _ _ _).mono ?_; rintro e w1 ⟨he, rfl⟩; (first | rw [H1.out] at he | rw [H2.out] at he); subst he))
  go_ret2
  exact ⟨⟨_, _, rfl⟩, below_new hb⟩

set_option maxHeartbeats 8000000 in
set_option maxRecDepth 100000 in
theorem ok_105_10 (s t : ByteArray) (n : Int) (h1 : cutRes s ⟨#[48, 120]⟩ = (t, false)) (h2 : cutRes t ⟨#[48]⟩ = (t, false)) (h3 : t = s) (hI : Is 10 t n) (hn0 : 0 ≤ n) (hn : n ≤ 2147483647) (w : World) (hG : Glob w) :
    Calls Tryz.prog 16 #[.string s, .agg #[.string ⟨#[105]⟩]] w fun e w' => e = .returned (.tuple #[.iface 21 (.int .i32 n), .nilIface]) ∧ Below w.heap.size w w' := by
  have HI := Aside0.mk hI
  have HG := Aside0.mk hG
  subst h3
  have H1 := Aside0.mk h1
  have H2 := Aside0.mk h2
  clear h1 h2
  clear hI hG
  have hw : IntKind.i32.wrap n = n := by unfold IntKind.wrap; simp [IntKind.signed, IntKind.bits]; omega
  go_enter Tryz.func16, Tryz.ntmps16
  go_wp2_with (first
    | (go_at_call 26; refine (ok_i_10_32 _ n HI.out hn0 hn _).mono ?_; rintro e w1 ⟨rfl, hb⟩; obtain ⟨hc, hf⟩ := bcell hb)
    | (go_at_call 24; refine (cut.calls _ _ _).mono ?_; rintro e w1 ⟨he, rfl⟩; (first | rw [H1.out] at he | rw [H2.out] at he); subst he))
  go_ret2
  exact ⟨rfl, below_new hb⟩
set_option maxHeartbeats 8000000 in
set_option maxRecDepth 100000 in
theorem bad_105_10 (s t : ByteArray) (n : Int) (h1 : cutRes s ⟨#[48, 120]⟩ = (t, false)) (h2 : cutRes t ⟨#[48]⟩ = (t, false)) (h3 : t = s) (hI : Is 10 t n) (hn0 : 0 ≤ n) (hn : 2147483647 < n) (w : World) (hG : Glob w) :
    Calls Tryz.prog 16 #[.string s, .agg #[.string ⟨#[105]⟩]] w fun e w' => (∃ x u, e = .returned (.tuple #[.nilIface, .iface x u])) ∧ Below w.heap.size w w' := by
  have HI := Aside0.mk hI
  have HG := Aside0.mk hG
  subst h3
  have H1 := Aside0.mk h1
  have H2 := Aside0.mk h2
  clear h1 h2
  clear hI hG
  go_enter Tryz.func16, Tryz.ntmps16
  go_wp2_with (first
    | (go_at_call 26; refine (bad_i_10_32 _ n HI.out hn0 hn _ (HG.out.below ((Below.refl _ _).alloc (Nat.le_refl _) _) (Nat.le_refl _))).mono ?_; rintro e w1 ⟨⟨x, u, rfl⟩, hb⟩; obtain ⟨hc, hf⟩ := bcell hb)
    | (go_at_call 24; refine (cut.calls _ _ _).mono ?_; rintro e w1 ⟨he, rfl⟩; (first | rw [H1.out] at he | rw [H2.out] at he); subst he))
  go_ret2
  exact ⟨⟨_, _, rfl⟩, below_new hb⟩

set_option maxHeartbeats 8000000 in
set_option maxRecDepth 100000 in
theorem ok_105_16 (s t : ByteArray) (n : Int) (h1 : cutRes s ⟨#[48, 120]⟩ = (t, true)) (h2 : cutRes t ⟨#[48]⟩ = (t, false)) (hI : Is 16 t n) (hn0 : 0 ≤ n) (hn : n ≤ 2147483647) (w : World) (hG : Glob w) :
    Calls Tryz.prog 16 #[.string s, .agg #[.string ⟨#[105]⟩]] w fun e w' => e = .returned (.tuple #[.iface 21 (.int .i32 n), .nilIface]) ∧ Below w.heap.size w w' := by
  have HI := Aside0.mk hI
  have HG := Aside0.mk hG
  have H1 := Aside0.mk h1
  have H2 := Aside0.mk h2
  clear h1 h2
  clear hI hG
  have hw : IntKind.i32.wrap n = n := by unfold IntKind.wrap; simp [IntKind.signed, IntKind.bits]; omega
  go_enter Tryz.func16, Tryz.ntmps16
  go_wp2_with (first
    | (go_at_call 26; refine (ok_i_16_32 _ n HI.out hn0 hn _).mono ?_; rintro e w1 ⟨rfl, hb⟩; obtain ⟨hc, hf⟩ := bcell hb)
    | (go_at_call 24; refine (cut.calls _ _ _).mono ?_; rintro e w1 ⟨he, rfl⟩; (first | rw [H1.out] at he | rw [H2.out] at he); subst he))
  go_ret2
  exact ⟨rfl, below_new hb⟩
set_option maxHeartbeats 8000000 in
set_option maxRecDepth 100000 in
theorem bad_105_16 (s t : ByteArray) (n : Int) (h1 : cutRes s ⟨#[48, 120]⟩ = (t, true)) (h2 : cutRes t ⟨#[48]⟩ = (t, false)) (hI : Is 16 t n) (hn0 : 0 ≤ n) (hn : 2147483647 < n) (w : World) (hG : Glob w) :
    Calls Tryz.prog 16 #[.string s, .agg #[.string ⟨#[105]⟩]] w fun e w' => (∃ x u, e = .returned (.tuple #[.nilIface, .iface x u])) ∧ Below w.heap.size w w' := by
  have HI := Aside0.mk hI
  have HG := Aside0.mk hG
  have H1 := Aside0.mk h1
  have H2 := Aside0.mk h2
  clear h1 h2
  clear hI hG
  go_enter Tryz.func16, Tryz.ntmps16
  go_wp2_with (first
    | (go_at_call 26; refine (bad_i_16_32 _ n HI.out hn0 hn _ (HG.out.below ((Below.refl _ _).alloc (Nat.le_refl _) _) (Nat.le_refl _))).mono ?_; rintro e w1 ⟨⟨x, u, rfl⟩, hb⟩; obtain ⟨hc, hf⟩ := bcell hb)
    | (go_at_call 24; refine (cut.calls _ _ _).mono ?_; rintro e w1 ⟨he, rfl⟩; (first | rw [H1.out] at he | rw [H2.out] at he); subst he))
  go_ret2
  exact ⟨⟨_, _, rfl⟩, below_new hb⟩

set_option maxHeartbeats 8000000 in
set_option maxRecDepth 100000 in
theorem ok_105_8 (s t : ByteArray) (n : Int) (h1 : cutRes s ⟨#[48, 120]⟩ = (s, false)) (h2 : cutRes s ⟨#[48]⟩ = (t, true)) (h3 : s.size ≠ 1) (hI : Is 8 t n) (hn0 : 0 ≤ n) (hn : n ≤ 2147483647) (w : World) (hG : Glob w) :
    Calls Tryz.prog 16 #[.string s, .agg #[.string ⟨#[105]⟩]] w fun e w' => e = .returned (.tuple #[.iface 21 (.int .i32 n), .nilIface]) ∧ Below w.heap.size w w' := by
  have HI := Aside0.mk hI
  have HG := Aside0.mk hG
  have H1 := Aside0.mk h1
  have H2 := Aside0.mk h2
  clear h1 h2
  clear hI hG
  have hw : IntKind.i32.wrap n = n := by unfold IntKind.wrap; simp [IntKind.signed, IntKind.bits]; omega
  go_enter Tryz.func16, Tryz.ntmps16
  go_wp2_with (first
    | (go_at_call 26; refine (ok_i_8_32 _ n HI.out hn0 hn _).mono ?_; rintro e w1 ⟨rfl, hb⟩; obtain ⟨hc, hf⟩ := bcell hb)
    | (go_at_call 24; refine (cut.calls _ _ _).mono ?_; rintro e w1 ⟨he, rfl⟩; (first | rw [H1.out] at he | rw [H2.out] at he); subst he))
  go_ret2
  exact ⟨rfl, below_new hb⟩
set_option maxHeartbeats 8000000 in
set_option maxRecDepth 100000 in
theorem bad_105_8 (s t : ByteArray) (n : Int) (h1 : cutRes s ⟨#[48, 120]⟩ = (s, false)) (h2 : cutRes s ⟨#[48]⟩ = (t, true)) (h3 : s.size ≠ 1) (hI : Is 8 t n) (hn0 : 0 ≤ n) (hn : 2147483647 < n) (w : World) (hG : Glob w) :
    Calls Tryz.prog 16 #[.string s, .agg #[.string ⟨#[105]⟩]] w fun e w' => (∃ x u, e = .returned (.tuple #[.nilIface, .iface x u])) ∧ Below w.heap.size w w' := by
  have HI := Aside0.mk hI
  have HG := Aside0.mk hG
  have H1 := Aside0.mk h1
  have H2 := Aside0.mk h2
  clear h1 h2
  clear hI hG
  go_enter Tryz.func16, Tryz.ntmps16
  go_wp2_with (first
    | (go_at_call 26; refine (bad_i_8_32 _ n HI.out hn0 hn _ (HG.out.below ((Below.refl _ _).alloc (Nat.le_refl _) _) (Nat.le_refl _))).mono ?_; rintro e w1 ⟨⟨x, u, rfl⟩, hb⟩; obtain ⟨hc, hf⟩ := bcell hb)
    | (go_at_call 24; refine (cut.calls _ _ _).mono ?_; rintro e w1 ⟨he, rfl⟩; (first | rw [H1.out] at he | rw [H2.out] at he); subst he))
  go_ret2
  exact ⟨⟨_, _, rfl⟩, below_new hb⟩

set_option maxHeartbeats 8000000 in
set_option maxRecDepth 100000 in
theorem ok_117_10 (s t : ByteArray) (n : Int) (h1 : cutRes s ⟨#[48, 120]⟩ = (t, false)) (h2 : cutRes t ⟨#[48]⟩ = (t, false)) (h3 : t = s) (hI : Is 10 t n) (hn0 : 0 ≤ n) (hn : n ≤ 4294967295) (w : World) (hG : Glob w) :
    Calls Tryz.prog 16 #[.string s, .agg #[.string ⟨#[117]⟩]] w fun e w' => e = .returned (.tuple #[.iface 58 (.int .u32 n), .nilIface]) ∧ Below w.heap.size w w' := by
  have HI := Aside0.mk hI
  have HG := Aside0.mk hG
  subst h3
  have H1 := Aside0.mk h1
  have H2 := Aside0.mk h2
  clear h1 h2
  clear hI hG
  have hw : IntKind.u32.wrap n = n := by unfold IntKind.wrap; simp [IntKind.signed, IntKind.bits]; omega
  go_enter Tryz.func16, Tryz.ntmps16
  go_wp2_with (first
    | (go_at_call 25; refine (ok_u_10_32 _ n HI.out hn _ (HG.out.below ((Below.refl _ _).alloc (Nat.le_refl _) _) (Nat.le_refl _))).mono ?_; rintro e w1 ⟨rfl, hb⟩; obtain ⟨hc, hf⟩ := bcell hb)
    | (go_at_call 24; refine (cut.calls _ _ _).mono ?_; rintro e w1 ⟨he, rfl⟩; (first | rw [H1.out] at he | rw [H2.out] at he); subst he))
  go_ret2
  exact ⟨rfl, below_new hb⟩
set_option maxHeartbeats 8000000 in
set_option maxRecDepth 100000 in
theorem bad_117_10 (s t : ByteArray) (n : Int) (h1 : cutRes s ⟨#[48, 120]⟩ = (t, false)) (h2 : cutRes t ⟨#[48]⟩ = (t, false)) (h3 : t = s) (hI : Is 10 t n) (hn0 : 0 ≤ n) (hn : 4294967295 < n) (w : World) (hG : Glob w) :
    Calls Tryz.prog 16 #[.string s, .agg #[.string ⟨#[117]⟩]] w fun e w' => (∃ x u, e = .returned (.tuple #[.nilIface, .iface x u])) ∧ Below w.heap.size w w' := by
  have HI := Aside0.mk hI
  have HG := Aside0.mk hG
  subst h3
  have H1 := Aside0.mk h1
  have H2 := Aside0.mk h2
  clear h1 h2
  clear hI hG
  go_enter Tryz.func16, Tryz.ntmps16
  go_wp2_with (first
    | (go_at_call 25; refine (bad_u_10_32 _ n HI.out hn _ (HG.out.below ((Below.refl _ _).alloc (Nat.le_refl _) _) (Nat.le_refl _))).mono ?_; rintro e w1 ⟨⟨x, u, rfl⟩, hb⟩; obtain ⟨hc, hf⟩ := bcell hb)
    | (go_at_call 24; refine (cut.calls _ _ _).mono ?_; rintro e w1 ⟨he, rfl⟩; (first | rw [H1.out] at he | rw [H2.out] at he); subst he))
  go_ret2
  exact ⟨⟨_, _, rfl⟩, below_new hb⟩

set_option maxHeartbeats 8000000 in
set_option maxRecDepth 100000 in
theorem ok_117_16 (s t : ByteArray) (n : Int) (h1 : cutRes s ⟨#[48, 120]⟩ = (t, true)) (h2 : cutRes t ⟨#[48]⟩ = (t, false)) (hI : Is 16 t n) (hn0 : 0 ≤ n) (hn : n ≤ 4294967295) (w : World) (hG : Glob w) :
    Calls Tryz.prog 16 #[.string s, .agg #[.string ⟨#[117]⟩]] w fun e w' => e = .returned (.tuple #[.iface 58 (.int .u32 n), .nilIface]) ∧ Below w.heap.size w w' := by
  have HI := Aside0.mk hI
  have HG := Aside0.mk hG
  have H1 := Aside0.mk h1
  have H2 := Aside0.mk h2
  clear h1 h2
  clear hI hG
  have hw : IntKind.u32.wrap n = n := by unfold IntKind.wrap; simp [IntKind.signed, IntKind.bits]; omega
  go_enter Tryz.func16, Tryz.ntmps16
  go_wp2_with (first
    | (go_at_call 25; refine (ok_u_16_32 _ n HI.out hn _ (HG.out.below ((Below.refl _ _).alloc (Nat.le_refl _) _) (Nat.le_refl _))).mono ?_; rintro e w1 ⟨rfl, hb⟩; obtain ⟨hc, hf⟩ := bcell hb)
    | (go_at_call 24; refine (cut.calls _ _ _).mono ?_; rintro e w1 ⟨he, rfl⟩; (first | rw [H1.out] at he | rw [H2.out] at he); subst he))
  go_ret2
  exact ⟨rfl, below_new hb⟩
set_option maxHeartbeats 8000000 in
set_option maxRecDepth 100000 in
theorem bad_117_16 (s t : ByteArray) (n : Int) (h1 : cutRes s ⟨#[48, 120]⟩ = (t, true)) (h2 : cutRes t ⟨#[48]⟩ = (t, false)) (hI : Is 16 t n) (hn0 : 0 ≤ n) (hn : 4294967295 < n) (w : World) (hG : Glob w) :
    Calls Tryz.prog 16 #[.string s, .agg #[.string ⟨#[117]⟩]] w fun e w' => (∃ x u, e = .returned (.tuple #[.nilIface, .iface x u])) ∧ Below w.heap.size w w' := by
  have HI := Aside0.mk hI
  have HG := Aside0.mk hG
  have H1 := Aside0.mk h1
  have H2 := Aside0.mk h2
  clear h1 h2
  clear hI hG
  go_enter Tryz.func16, Tryz.ntmps16
  go_wp2_with (first
    | (go_at_call 25; refine (bad_u_16_32 _ n HI.out hn _ (HG.out.below ((Below.refl _ _).alloc (Nat.le_refl _) _) (Nat.le_refl _))).mono ?_; rintro e w1 ⟨⟨x, u, rfl⟩, hb⟩; obtain ⟨hc, hf⟩ := bcell hb)
    | (go_at_call 24; refine (cut.calls _ _ _).mono ?_; rintro e w1 ⟨he, rfl⟩; (first | rw [H1.out] at he | rw [H2.out] at he); subst he))
  go_ret2
  exact ⟨⟨_, _, rfl⟩, below_new hb⟩

set_option maxHeartbeats 8000000 in
set_option maxRecDepth 100000 in
theorem ok_117_8 (s t : ByteArray) (n : Int) (h1 : cutRes s ⟨#[48, 120]⟩ = (s, false)) (h2 : cutRes s ⟨#[48]⟩ = (t, true)) (h3 : s.size ≠ 1) (hI : Is 8 t n) (hn0 : 0 ≤ n) (hn : n ≤ 4294967295) (w : World) (hG : Glob w) :
    Calls Tryz.prog 16 #[.string s, .agg #[.string ⟨#[117]⟩]] w fun e w' => e = .returned (.tuple #[.iface 58 (.int .u32 n), .nilIface]) ∧ Below w.heap.size w w' := by
  have HI := Aside0.mk hI
  have HG := Aside0.mk hG
  have H1 := Aside0.mk h1
  have H2 := Aside0.mk h2
  clear h1 h2
  clear hI hG
  have hw : IntKind.u32.wrap n = n := by unfold IntKind.wrap; simp [IntKind.signed, IntKind.bits]; omega
  go_enter Tryz.func16, Tryz.ntmps16
  go_wp2_with (first
    | (go_at_call 25; refine (ok_u_8_32 _ n HI.out hn _ (HG.out.below ((Below.refl _ _).alloc (Nat.le_refl _) _) (Nat.le_refl _))).mono ?_; rintro e w1 ⟨rfl, hb⟩; obtain ⟨hc, hf⟩ := bcell hb)
    | (go_at_call 24; refine (cut.calls _ _ _).mono ?_; rintro e w1 ⟨he, rfl⟩; (first | rw [H1.out] at he | rw [H2.out] at he); subst he))
  go_ret2
  exact ⟨rfl, below_new hb⟩
set_option maxHeartbeats 8000000 in
set_option maxRecDepth 100000 in
theorem bad_117_8 (s t : ByteArray) (n : Int) (h1 : cutRes s ⟨#[48, 120]⟩ = (s, false)) (h2 : cutRes s ⟨#[48]⟩ = (t, true)) (h3 : s.size ≠ 1) (hI : Is 8 t n) (hn0 : 0 ≤ n) (hn : 4294967295 < n) (w : World) (hG : Glob w) :
    Calls Tryz.prog 16 #[.string s, .agg #[.string ⟨#[117]⟩]] w fun e w' => (∃ x u, e = .returned (.tuple #[.nilIface, .iface x u])) ∧ Below w.heap.size w w' := by
  have HI := Aside0.mk hI
  have HG := Aside0.mk hG
  have H1 := Aside0.mk h1
  have H2 := Aside0.mk h2
  clear h1 h2
  clear hI hG
  go_enter Tryz.func16, Tryz.ntmps16
  go_wp2_with (first
    | (go_at_call 25; refine (bad_u_8_32 _ n HI.out hn _ (HG.out.below ((Below.refl _ _).alloc (Nat.le_refl _) _) (Nat.le_refl _))).mono ?_; rintro e w1 ⟨⟨x, u, rfl⟩, hb⟩; obtain ⟨hc, hf⟩ := bcell hb)
    | (go_at_call 24; refine (cut.calls _ _ _).mono ?_; rintro e w1 ⟨he, rfl⟩; (first | rw [H1.out] at he | rw [H2.out] at he); subst he))
  go_ret2
  exact ⟨⟨_, _, rfl⟩, below_new hb⟩

set_option maxHeartbeats 8000000 in
set_option maxRecDepth 100000 in
theorem ok_120_10 (s t : ByteArray) (n : Int) (h1 : cutRes s ⟨#[48, 120]⟩ = (t, false)) (h2 : cutRes t ⟨#[48]⟩ = (t, false)) (h3 : t = s) (hI : Is 10 t n) (hn0 : 0 ≤ n) (hn : n ≤ 9223372036854775807) (w : World) (hG : Glob w) :
    Calls Tryz.prog 16 #[.string s, .agg #[.string ⟨#[120]⟩]] w fun e w' => e = .returned (.tuple #[.iface 2 (.int .i64 n), .nilIface]) ∧ Below w.heap.size w w' := by
  have HI := Aside0.mk hI
  have HG := Aside0.mk hG
  subst h3
  have H1 := Aside0.mk h1
  have H2 := Aside0.mk h2
  clear h1 h2
  clear hI hG
  skip
  go_enter Tryz.func16, Tryz.ntmps16
  go_wp2_with (first
    | (go_at_call 26; refine (ok_i_10_64 _ n HI.out hn0 hn _).mono ?_; rintro e w1 ⟨rfl, hb⟩; obtain ⟨hc, hf⟩ := bcell hb)
    | (go_at_call 24; refine (cut.calls _ _ _).mono ?_; rintro e w1 ⟨he, rfl⟩; (first | rw [H1.out] at he | rw [H2.out] at he); subst he))
  go_ret2
  exact ⟨rfl, below_new hb⟩
set_option maxHeartbeats 8000000 in
set_option maxRecDepth 100000 in
theorem bad_120_10 (s t : ByteArray) (n : Int) (h1 : cutRes s ⟨#[48, 120]⟩ = (t, false)) (h2 : cutRes t ⟨#[48]⟩ = (t, false)) (h3 : t = s) (hI : Is 10 t n) (hn0 : 0 ≤ n) (hn : 9223372036854775807 < n) (w : World) (hG : Glob w) :
    Calls Tryz.prog 16 #[.string s, .agg #[.string ⟨#[120]⟩]] w fun e w' => (∃ x u, e = .returned (.tuple #[.nilIface, .iface x u])) ∧ Below w.heap.size w w' := by
  have HI := Aside0.mk hI
  have HG := Aside0.mk hG
  subst h3
  have H1 := Aside0.mk h1
  have H2 := Aside0.mk h2
  clear h1 h2
  clear hI hG
  go_enter Tryz.func16, Tryz.ntmps16
  go_wp2_with (first
    | (go_at_call 26; refine (bad_i_10_64 _ n HI.out hn0 hn _ (HG.out.below ((Below.refl _ _).alloc (Nat.le_refl _) _) (Nat.le_refl _))).mono ?_; rintro e w1 ⟨⟨x, u, rfl⟩, hb⟩; obtain ⟨hc, hf⟩ := bcell hb)
    | (go_at_call 24; refine (cut.calls _ _ _).mono ?_; rintro e w1 ⟨he, rfl⟩; (first | rw [H1.out] at he | rw [H2.out] at he); subst he))
  go_ret2
  exact ⟨⟨_, _, rfl⟩, below_new hb⟩

set_option maxHeartbeats 8000000 in
set_option maxRecDepth 100000 in
theorem ok_120_16 (s t : ByteArray) (n : Int) (h1 : cutRes s ⟨#[48, 120]⟩ = (t, true)) (h2 : cutRes t ⟨#[48]⟩ = (t, false)) (hI : Is 16 t n) (hn0 : 0 ≤ n) (hn : n ≤ 9223372036854775807) (w : World) (hG : Glob w) :
    Calls Tryz.prog 16 #[.string s, .agg #[.string ⟨#[120]⟩]] w fun e w' => e = .returned (.tuple #[.iface 2 (.int .i64 n), .nilIface]) ∧ Below w.heap.size w w' := by
  have HI := Aside0.mk hI
  have HG := Aside0.mk hG
  have H1 := Aside0.mk h1
  have H2 := Aside0.mk h2
  clear h1 h2
  clear hI hG
  skip
  go_enter Tryz.func16, Tryz.ntmps16
  go_wp2_with (first
    | (go_at_call 26; refine (ok_i_16_64 _ n HI.out hn0 hn _).mono ?_; rintro e w1 ⟨rfl, hb⟩; obtain ⟨hc, hf⟩ := bcell hb)
    | (go_at_call 24; refine (cut.calls _ _ _).mono ?_; rintro e w1 ⟨he, rfl⟩; (first | rw [H1.out] at he | rw [H2.out] at he); subst he))
  go_ret2
  exact ⟨rfl, below_new hb⟩
set_option maxHeartbeats 8000000 in
set_option maxRecDepth 100000 in
theorem bad_120_16 (s t : ByteArray) (n : Int) (h1 : cutRes s ⟨#[48, 120]⟩ = (t, true)) (h2 : cutRes t ⟨#[48]⟩ = (t, false)) (hI : Is 16 t n) (hn0 : 0 ≤ n) (hn : 9223372036854775807 < n) (w : World) (hG : Glob w) :
    Calls Tryz.prog 16 #[.string s, .agg #[.string ⟨#[120]⟩]] w fun e w' => (∃ x u, e = .returned (.tuple #[.nilIface, .iface x u])) ∧ Below w.heap.size w w' := by
  have HI := Aside0.mk hI
  have HG := Aside0.mk hG
  have H1 := Aside0.mk h1
  have H2 := Aside0.mk h2
  clear h1 h2
  clear hI hG
  go_enter Tryz.func16, Tryz.ntmps16
  go_wp2_with (first
    | (go_at_call 26; refine (bad_i_16_64 _ n HI.out hn0 hn _ (HG.out.below ((Below.refl _ _).alloc (Nat.le_refl _) _) (Nat.le_refl _))).mono ?_; rintro e w1 ⟨⟨x, u, rfl⟩, hb⟩; obtain ⟨hc, hf⟩ := bcell hb)
    | (go_at_call 24; refine (cut.calls _ _ _).mono ?_; rintro e w1 ⟨he, rfl⟩; (first | rw [H1.out] at he | rw [H2.out] at he); subst he))
  go_ret2
  exact ⟨⟨_, _, rfl⟩, below_new hb⟩

set_option maxHeartbeats 8000000 in
set_option maxRecDepth 100000 in
theorem ok_120_8 (s t : ByteArray) (n : Int) (h1 : cutRes s ⟨#[48, 120]⟩ = (s, false)) (h2 : cutRes s ⟨#[48]⟩ = (t, true)) (h3 : s.size ≠ 1) (hI : Is 8 t n) (hn0 : 0 ≤ n) (hn : n ≤ 9223372036854775807) (w : World) (hG : Glob w) :
    Calls Tryz.prog 16 #[.string s, .agg #[.string ⟨#[120]⟩]] w fun e w' => e = .returned (.tuple #[.iface 2 (.int .i64 n), .nilIface]) ∧ Below w.heap.size w w' := by
  have HI := Aside0.mk hI
  have HG := Aside0.mk hG
  have H1 := Aside0.mk h1
  have H2 := Aside0.mk h2
  clear h1 h2
  clear hI hG
  skip
  go_enter Tryz.func16, Tryz.ntmps16
  go_wp2_with (first
    | (go_at_call 26; refine (ok_i_8_64 _ n HI.out hn0 hn _).mono ?_; rintro e w1 ⟨rfl, hb⟩; obtain ⟨hc, hf⟩ := bcell hb)
    | (go_at_call 24; refine (cut.calls _ _ _).mono ?_; rintro e w1 ⟨he, rfl⟩; (first | rw [H1.out] at he | rw [H2.out] at he); subst he))
  go_ret2
  exact ⟨rfl, below_new hb⟩
set_option maxHeartbeats 8000000 in
set_option maxRecDepth 100000 in
theorem bad_120_8 (s t : ByteArray) (n : Int) (h1 : cutRes s ⟨#[48, 120]⟩ = (s, false)) (h2 : cutRes s ⟨#[48]⟩ = (t, true)) (h3 : s.size ≠ 1) (hI : Is 8 t n) (hn0 : 0 ≤ n) (hn : 9223372036854775807 < n) (w : World) (hG : Glob w) :
    Calls Tryz.prog 16 #[.string s, .agg #[.string ⟨#[120]⟩]] w fun e w' => (∃ x u, e = .returned (.tuple #[.nilIface, .iface x u])) ∧ Below w.heap.size w w' := by
  have HI := Aside0.mk hI
  have HG := Aside0.mk hG
  have H1 := Aside0.mk h1
  have H2 := Aside0.mk h2
  clear h1 h2
  clear hI hG
  go_enter Tryz.func16, Tryz.ntmps16
  go_wp2_with (first
    | (go_at_call 26; refine (bad_i_8_64 _ n HI.out hn0 hn _ (HG.out.below ((Below.refl _ _).alloc (Nat.le_refl _) _) (Nat.le_refl _))).mono ?_; rintro e w1 ⟨⟨x, u, rfl⟩, hb⟩; obtain ⟨hc, hf⟩ := bcell hb)
    | (go_at_call 24; refine (cut.calls _ _ _).mono ?_; rintro e w1 ⟨he, rfl⟩; (first | rw [H1.out] at he | rw [H2.out] at he); subst he))
  go_ret2
  exact ⟨⟨_, _, rfl⟩, below_new hb⟩

set_option maxHeartbeats 8000000 in
set_option maxRecDepth 100000 in
theorem ok_116_10 (s t : ByteArray) (n : Int) (h1 : cutRes s ⟨#[48, 120]⟩ = (t, false)) (h2 : cutRes t ⟨#[48]⟩ = (t, false)) (h3 : t = s) (hI : Is 10 t n) (hn0 : 0 ≤ n) (hn : n ≤ 18446744073709551615) (w : World) (hG : Glob w) :
    Calls Tryz.prog 16 #[.string s, .agg #[.string ⟨#[116]⟩]] w fun e w' => e = .returned (.tuple #[.iface 22 (.int .u64 n), .nilIface]) ∧ Below w.heap.size w w' := by
  have HI := Aside0.mk hI
  have HG := Aside0.mk hG
  subst h3
  have H1 := Aside0.mk h1
  have H2 := Aside0.mk h2
  clear h1 h2
  clear hI hG
  skip
  go_enter Tryz.func16, Tryz.ntmps16
  go_wp2_with (first
    | (go_at_call 25; refine (ok_u_10_64 _ n HI.out hn _ (HG.out.below ((Below.refl _ _).alloc (Nat.le_refl _) _) (Nat.le_refl _))).mono ?_; rintro e w1 ⟨rfl, hb⟩; obtain ⟨hc, hf⟩ := bcell hb)
    | (go_at_call 24; refine (cut.calls _ _ _).mono ?_; rintro e w1 ⟨he, rfl⟩; (first | rw [H1.out] at he | rw [H2.out] at he); subst he))
  go_ret2
  exact ⟨rfl, below_new hb⟩
set_option maxHeartbeats 8000000 in
set_option maxRecDepth 100000 in
theorem bad_116_10 (s t : ByteArray) (n : Int) (h1 : cutRes s ⟨#[48, 120]⟩ = (t, false)) (h2 : cutRes t ⟨#[48]⟩ = (t, false)) (h3 : t = s) (hI : Is 10 t n) (hn0 : 0 ≤ n) (hn : 18446744073709551615 < n) (w : World) (hG : Glob w) :
    Calls Tryz.prog 16 #[.string s, .agg #[.string ⟨#[116]⟩]] w fun e w' => (∃ x u, e = .returned (.tuple #[.nilIface, .iface x u])) ∧ Below w.heap.size w w' := by
  have HI := Aside0.mk hI
  have HG := Aside0.mk hG
  subst h3
  have H1 := Aside0.mk h1
  have H2 := Aside0.mk h2
  clear h1 h2
  clear hI hG
  go_enter Tryz.func16, Tryz.ntmps16
  go_wp2_with (first
    | (go_at_call 25; refine (bad_u_10_64 _ n HI.out hn _ (HG.out.below ((Below.refl _ _).alloc (Nat.le_refl _) _) (Nat.le_refl _))).mono ?_; rintro e w1 ⟨⟨x, u, rfl⟩, hb⟩; obtain ⟨hc, hf⟩ := bcell hb)
    | (go_at_call 24; refine (cut.calls _ _ _).mono ?_; rintro e w1 ⟨he, rfl⟩; (first | rw [H1.out] at he | rw [H2.out] at he); subst he))
  go_ret2
  exact ⟨⟨_, _, rfl⟩, below_new hb⟩

set_option maxHeartbeats 8000000 in
set_option maxRecDepth 100000 in
theorem ok_116_16 (s t : ByteArray) (n : Int) (h1 : cutRes s ⟨#[48, 120]⟩ = (t, true)) (h2 : cutRes t ⟨#[48]⟩ = (t, false)) (hI : Is 16 t n) (hn0 : 0 ≤ n) (hn : n ≤ 18446744073709551615) (w : World) (hG : Glob w) :
    Calls Tryz.prog 16 #[.string s, .agg #[.string ⟨#[116]⟩]] w fun e w' => e = .returned (.tuple #[.iface 22 (.int .u64 n), .nilIface]) ∧ Below w.heap.size w w' := by
  have HI := Aside0.mk hI
  have HG := Aside0.mk hG
  have H1 := Aside0.mk h1
  have H2 := Aside0.mk h2
  clear h1 h2
  clear hI hG
  skip
  go_enter Tryz.func16, Tryz.ntmps16
  go_wp2_with (first
    | (go_at_call 25; refine (ok_u_16_64 _ n HI.out hn _ (HG.out.below ((Below.refl _ _).alloc (Nat.le_refl _) _) (Nat.le_refl _))).mono ?_; rintro e w1 ⟨rfl, hb⟩; obtain ⟨hc, hf⟩ := bcell hb)
    | (go_at_call 24; refine (cut.calls _ _ _).mono ?_; rintro e w1 ⟨he, rfl⟩; (first | rw [H1.out] at he | rw [H2.out] at he); subst he))
  go_ret2
  exact ⟨rfl, below_new hb⟩
set_option maxHeartbeats 8000000 in
set_option maxRecDepth 100000 in
theorem bad_116_16 (s t : ByteArray) (n : Int) (h1 : cutRes s ⟨#[48, 120]⟩ = (t, true)) (h2 : cutRes t ⟨#[48]⟩ = (t, false)) (hI : Is 16 t n) (hn0 : 0 ≤ n) (hn : 18446744073709551615 < n) (w : World) (hG : Glob w) :
    Calls Tryz.prog 16 #[.string s, .agg #[.string ⟨#[116]⟩]] w fun e w' => (∃ x u, e = .returned (.tuple #[.nilIface, .iface x u])) ∧ Below w.heap.size w w' := by
  have HI := Aside0.mk hI
  have HG := Aside0.mk hG
  have H1 := Aside0.mk h1
  have H2 := Aside0.mk h2
  clear h1 h2
  clear hI hG
  go_enter Tryz.func16, Tryz.ntmps16
  go_wp2_with (first
    | (go_at_call 25; refine (bad_u_16_64 _ n HI.out hn _ (HG.out.below ((Below.refl _ _).alloc (Nat.le_refl _) _) (Nat.le_refl _))).mono ?_; rintro e w1 ⟨⟨x, u, rfl⟩, hb⟩; obtain ⟨hc, hf⟩ := bcell hb)
    | (go_at_call 24; refine (cut.calls _ _ _).mono ?_; rintro e w1 ⟨he, rfl⟩; (first | rw [H1.out] at he | rw [H2.out] at he); subst he))
  go_ret2
  exact ⟨⟨_, _, rfl⟩, below_new hb⟩

set_option maxHeartbeats 8000000 in
set_option maxRecDepth 100000 in
theorem ok_116_8 (s t : ByteArray) (n : Int) (h1 : cutRes s ⟨#[48, 120]⟩ = (s, false)) (h2 : cutRes s ⟨#[48]⟩ = (t, true)) (h3 : s.size ≠ 1) (hI : Is 8 t n) (hn0 : 0 ≤ n) (hn : n ≤ 18446744073709551615) (w : World) (hG : Glob w) :
    Calls Tryz.prog 16 #[.string s, .agg #[.string ⟨#[116]⟩]] w fun e w' => e = .returned (.tuple #[.iface 22 (.int .u64 n), .nilIface]) ∧ Below w.heap.size w w' := by
  have HI := Aside0.mk hI
  have HG := Aside0.mk hG
  have H1 := Aside0.mk h1
  have H2 := Aside0.mk h2
  clear h1 h2
  clear hI hG
  skip
  go_enter Tryz.func16, Tryz.ntmps16
  go_wp2_with (first
    | (go_at_call 25; refine (ok_u_8_64 _ n HI.out hn _ (HG.out.below ((Below.refl _ _).alloc (Nat.le_refl _) _) (Nat.le_refl _))).mono ?_; rintro e w1 ⟨rfl, hb⟩; obtain ⟨hc, hf⟩ := bcell hb)
    | (go_at_call 24; refine (cut.calls _ _ _).mono ?_; rintro e w1 ⟨he, rfl⟩; (first | rw [H1.out] at he | rw [H2.out] at he); subst he))
  go_ret2
  exact ⟨rfl, below_new hb⟩
set_option maxHeartbeats 8000000 in
set_option maxRecDepth 100000 in
theorem bad_116_8 (s t : ByteArray) (n : Int) (h1 : cutRes s ⟨#[48, 120]⟩ = (s, false)) (h2 : cutRes s ⟨#[48]⟩ = (t, true)) (h3 : s.size ≠ 1) (hI : Is 8 t n) (hn0 : 0 ≤ n) (hn : 18446744073709551615 < n) (w : World) (hG : Glob w) :
    Calls Tryz.prog 16 #[.string s, .agg #[.string ⟨#[116]⟩]] w fun e w' => (∃ x u, e = .returned (.tuple #[.nilIface, .iface x u])) ∧ Below w.heap.size w w' := by
  have HI := Aside0.mk hI
  have HG := Aside0.mk hG
  have H1 := Aside0.mk h1
  have H2 := Aside0.mk h2
  clear h1 h2
  clear hI hG
  go_enter Tryz.func16, Tryz.ntmps16
  go_wp2_with (first
    | (go_at_call 25; refine (bad_u_8_64 _ n HI.out hn _ (HG.out.below ((Below.refl _ _).alloc (Nat.le_refl _) _) (Nat.le_refl _))).mono ?_; rintro e w1 ⟨⟨x, u, rfl⟩, hb⟩; obtain ⟨hc, hf⟩ := bcell hb)
    | (go_at_call 24; refine (cut.calls _ _ _).mono ?_; rintro e w1 ⟨he, rfl⟩; (first | rw [H1.out] at he | rw [H2.out] at he); subst he))
  go_ret2
  exact ⟨⟨_, _, rfl⟩, below_new hb⟩
end Go.Proofs.YthjbopjclkbhfaaGreatDoor.Given
