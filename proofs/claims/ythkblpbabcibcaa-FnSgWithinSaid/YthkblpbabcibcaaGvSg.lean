import Derived.Test.YthkblpbabcibcaaGvPs

namespace Go.Proofs.Ythkblpbabcibcaa.Given
open Go.RowKit Go.Proofs.YthkblpbabcibcaaW.PrintWords Go.Proofs.Ythkblpbabcibcaa.Pl Go.Proofs.Ythkblpbabcibcaa.Utf Go.Proofs.Ythkblpbabcibcaa.Bm

theorem Empty.calls (s : ByteArray) (w : World) :
    Calls Try.prog 22 #[.agg #[.string s]] w fun e w' => e = .returned (.bool (decide (s.size = 0))) ∧ Below w.heap.size w w' := by
  by_cases h0 : s.size = 0
  · have e := is_empty h0
    rw [decide_eq_true h0]
    clear h0
    go_enter Try.func22, Try.ntmps22
    go_wp2
    go_ret
    exact ⟨rfl, (Below.refl _ _).alloc (Nat.le_refl _) _⟩
  · have e := ne_list (s := s) (by omega)
    rw [decide_eq_false h0]
    clear h0
    go_enter Try.func22, Try.ntmps22
    go_wp2
    go_ret
    exact ⟨rfl, (Below.refl _ _).alloc (Nat.le_refl _) _⟩

theorem String.calls (s : ByteArray) (w : World) :
    Calls Try.prog 23 #[.agg #[.string s]] w fun e w' => e = .returned (.string s) ∧ Below w.heap.size w w' := by
  go_enter Try.func23, Try.ntmps23
  go_wp2
  go_ret
  exact ⟨rfl, (Below.refl _ _).alloc (Nat.le_refl _) _⟩

def SgParse.f (s : ByteArray) : Option (ByteArray × Bool) := some (if psOk s = true then s else ⟨#[]⟩, psOk s)
def SgEmpty.f (s : ByteArray) : Option Bool := some (psOk s && decide (s.size = 0))
def SgBegin.f (s : ByteArray) (a t d : Int) : Option (ByteArray × Bool) :=
  if s.size ≤ 255 ∧ 0 ≤ a ∧ 0 ≤ t ∧ 0 ≤ d then some ((vs 256 s a t d).getD ⟨#[]⟩, (vs 256 s a t d).isSome) else none

theorem below_more {w w1 w2 : World} {o : Obj} (hb : Below w.heap.size w w1) (h2 : Below (w1.alloc o).drew.heap.size (w1.alloc o).drew w2) : Below w.heap.size w w2 :=
  ((hb.alloc hb.size o).drew).trans (h2.mono (by simp; have := hb.size; omega))
theorem below_more' {w w1 w2 : World} {o : Obj} (hb : Below w.heap.size w w1) (h2 : Below (w1.alloc o).heap.size (w1.alloc o) w2) : Below w.heap.size w w2 :=
  (hb.alloc hb.size o).trans (h2.mono (by simp; have := hb.size; omega))

set_option maxRecDepth 100000 in
set_option maxHeartbeats 4000000 in
theorem SgParse.calls (s : ByteArray) (r1 : ByteArray) (r2 : Bool) (w : World) (h : SgParse.f s = some (r1, r2)) :
    Calls Try.prog 14 #[.string s] w fun e w' => e = .returned (.tuple #[.string r1, .bool r2]) ∧ Below w.heap.size w w' := by
  obtain ⟨rfl, rfl⟩ := Prod.mk.inj (Option.some.inj h)
  clear h
  cases hp : psOk s with
  | true =>
    have HP := Aside0.mk fun w => ParseSignature.calls s w
    rw [hp] at HP
    clear hp
    go_enter Try.func14, Try.ntmps14
    go_wp2_with (go_at_call 21; refine (HP.out _).mono ?_; rintro e w1 ⟨v, rfl, rfl, hb⟩)
    go_region_with (go_at_call 23; refine (String.calls _ _).mono ?_; rintro e w2 ⟨rfl, hb2⟩)
    go_wp2
    go_ret2
    exact ⟨rfl, below_more hb hb2⟩
  | false =>
    have HP := Aside0.mk fun w => ParseSignature.calls s w
    rw [hp] at HP
    clear hp
    go_enter Try.func14, Try.ntmps14
    go_wp2_with (go_at_call 21; refine (HP.out _).mono ?_; rintro e w1 ⟨v, rfl, ⟨ty, u, rfl⟩, hb⟩)
    go_region_with (go_at_call 23; refine (String.calls _ _).mono ?_; rintro e w2 ⟨rfl, hb2⟩)
    go_wp2
    go_ret2
    exact ⟨rfl, below_more hb hb2⟩

set_option maxRecDepth 100000 in
set_option maxHeartbeats 4000000 in
theorem SgEmpty.calls (s : ByteArray) (r : Bool) (w : World) (h : SgEmpty.f s = some r) :
    Calls Try.prog 12 #[.string s] w fun e w' => e = .returned (.bool r) ∧ Below w.heap.size w w' := by
  have h := Option.some.inj h
  subst h
  cases hp : psOk s with
  | true =>
    have HP := Aside0.mk fun w => ParseSignature.calls s w
    rw [hp] at HP
    clear hp
    go_enter Try.func12, Try.ntmps12
    go_wp2_with (first | (go_at_call 21; refine (HP.out _).mono ?_; rintro e w1 ⟨v, rfl, rfl, hb⟩) | (go_at_call 22; refine (Empty.calls _ _).mono ?_; rintro e w2 ⟨rfl, hb2⟩))
    go_ret
    refine ⟨?_, below_more' hb hb2⟩
    have he : decide (s.size = 0) = decide (s = ByteArray.empty) := decide_eq_decide.mpr ⟨fun h => empty_of h, fun h => by rw [h]; rfl⟩
    rw [he]
    rfl
  | false =>
    have HP := Aside0.mk fun w => ParseSignature.calls s w
    rw [hp] at HP
    clear hp
    go_enter Try.func12, Try.ntmps12
    go_wp2_with (first | (go_at_call 21; refine (HP.out _).mono ?_; rintro e w1 ⟨v, rfl, ⟨ty, u, rfl⟩, hb⟩) | (go_at_call 22; refine (Empty.calls _ _).mono ?_; rintro e w2 ⟨rfl, hb2⟩))
    go_ret
    exact ⟨rfl, hb.alloc hb.size _⟩

theorem DoorBegin.calls (s : ByteArray) (a t d : Int) (w : World) (hs : s.size ≤ 255) (ha : 0 ≤ a) (ht : 0 ≤ t) (hd : 0 ≤ d) :
    Calls Try.prog 20 #[.string s, .int .i64 a, .int .i64 t, .int .i64 d] w fun e w' => ∃ ev rem, e = .returned (.tuple #[.string rem, ev]) ∧ VsOut (vs 256 s a t d) ev rem ∧ Below w.heap.size w w' := by
  have HC := Aside0.mk fun (b : Nat) (W : World) (hc : Dc W b a t d) => validSingle.calls 256 s a t d b W (by omega) (by omega) (by omega) (by omega) (by omega) hc
  go_enter Try.func20, Try.ntmps20
  go_wp2_with (go_at_call 25; refine (HC.out _ _ ?_).mono ?_; (exact dc_of (by simp) (by simp) (by simp)); rintro e w5 ⟨ev, rem, rfl, ho, hbl⟩)
  go_ret2
  exact ⟨_, _, rfl, ho, below_alloc1 hbl⟩

set_option maxRecDepth 100000 in
set_option maxHeartbeats 4000000 in
theorem SgBegin.calls (s : ByteArray) (a t d : Int) (r1 : ByteArray) (r2 : Bool) (w : World) (h : SgBegin.f s a t d = some (r1, r2)) :
    Calls Try.prog 11 #[.string s, .int .i64 a, .int .i64 t, .int .i64 d] w fun e w' => e = .returned (.tuple #[.string r1, .bool r2]) ∧ Below w.heap.size w w' := by
  unfold SgBegin.f at h
  by_cases hg : s.size ≤ 255 ∧ 0 ≤ a ∧ 0 ≤ t ∧ 0 ≤ d
  case neg => rw [if_neg hg] at h; cases h
  rw [if_pos hg] at h
  obtain ⟨rfl, rfl⟩ := Prod.mk.inj (Option.some.inj h)
  clear h
  have HD := Aside0.mk fun w => DoorBegin.calls s a t d w hg.1 hg.2.1 hg.2.2.1 hg.2.2.2
  clear hg
  cases hv : vs 256 s a t d with
  | none =>
    rw [hv] at HD
    clear hv
    go_enter Try.func11, Try.ntmps11
    go_wp2_with (go_at_call 20; refine (HD.out _).mono ?_; rintro e w1 ⟨ev, rem, rfl, ⟨rfl, ty, u, rfl⟩, hb⟩)
    go_quiet (fail)
    go_wp2
    go_ret2
    exact ⟨rfl, pw_below_drewN hb _⟩
  | some r =>
    rw [hv] at HD
    clear hv
    go_enter Try.func11, Try.ntmps11
    go_wp2_with (go_at_call 20; refine (HD.out _).mono ?_; rintro e w1 ⟨ev, rem, rfl, ⟨rfl, rfl⟩, hb⟩)
    go_quiet (fail)
    go_wp2
    go_ret2
    exact ⟨rfl, pw_below_drewN hb _⟩
end Go.Proofs.Ythkblpbabcibcaa.Given
