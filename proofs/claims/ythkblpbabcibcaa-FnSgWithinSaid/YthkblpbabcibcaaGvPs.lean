import Derived.Test.YthkblpbabcibcaaGvVt
import Derived.Laws.ResultCell

namespace Go.Proofs.Ythkblpbabcibcaa.Given
open Go.RowKit Go.Proofs.YthkblpbabcibcaaW.PrintWords Go.Proofs.Ythkblpbabcibcaa.Pl Go.Proofs.Ythkblpbabcibcaa.Utf Go.Proofs.Ythkblpbabcibcaa.Bm

/-- Whether a text is a signature. -/
def psOk (s : ByteArray) : Bool := decide (s.size ≤ 255) && vsAll (fun x => vs 256 x 0 0 0) s.size s

/-- What ParseSignature hands back. -/
def PsV : Bool → ByteArray → Value → Prop
  | true, s, v => v = .tuple #[.agg #[.string s], .nilIface]
  | false, _, v => ∃ ty u, v = .tuple #[.agg #[.string ⟨#[]⟩], .iface ty u]

theorem ps_ret {P : Program} {fn : Func} {p u : Tmp} {ty : TypeId} {R : Ending → World → Prop} {a : Act} {w : World} {x : Value} {g : Nat} (h : fn.results = #[.cell p ty, .tmp u]) (hd : a.defers = [])
    (hp : (a.tmps.getD p undef) = .pointer (some ⟨g, 0, none⟩)) (hl : (loadVar ty ⟨g, 0, none⟩).run P w = .ok (.agg #[x]) w) (hR : R (.returned (.tuple #[.agg #[x], a.tmps.getD u undef])) w) : bodyPost P fn R Exit.ret a w :=
  bodyPost_ret (v := .tuple #[.agg #[x], a.tmps.getD u undef]) (by rw [results_cell_tmp h, hp]; simp [asAddr, hl, Result.andThen]) hd hR

set_option maxRecDepth 100000 in
set_option maxHeartbeats 4000000 in
theorem ParseSignature.calls (s : ByteArray) (w : World) :
    Calls Try.prog 21 #[.string s] w fun e w' => ∃ v, e = .returned v ∧ PsV (psOk s) s v ∧ Below w.heap.size w w' := by
  by_cases h0 : s.size = 0
  · have r6 := empty_of h0
    have hp : psOk s = true := by rw [psOk, vsAll_end h0, decide_eq_true (by omega)]; rfl
    rw [hp, r6]
    clear hp h0 r6
    go_enter Try.func21, Try.ntmps21
    go_wp2
    try simp only [Exit.inBlock, Exit.then]
    refine ps_ret rfl rfl rfl (x := .string ⟨#[]⟩) (g := w.heap.size) ?_ ?_
    · simp [go_sem]
    · exact ⟨_, rfl, rfl, (Below.refl _ _).alloc (Nat.le_refl _) _⟩
  by_cases h1 : 255 < s.size
  · have hp : psOk s = false := by rw [psOk, decide_eq_false (by omega)]; rfl
    rw [hp]
    have c0 : ((s.size : Int) == 0) = false := by rw [beq_eq_false_iff_ne]; omega
    have c1 : decide (255 < (s.size : Int)) = true := decide_eq_true (by omega)
    have c2 : decide (255 < s.size) = true := decide_eq_true (by omega)
    clear hp h0 h1
    go_enter Try.func21, Try.ntmps21
    go_wp2
    try simp only [Exit.inBlock, Exit.then]
    refine ps_ret rfl rfl rfl (x := .string ⟨#[]⟩) (g := w.heap.size) ?_ ?_
    · simp [go_sem]
    · exact ⟨_, rfl, ⟨_, _, rfl⟩, (Below.refl _ _).alloc (Nat.le_refl _) _⟩
  · have c0 : ((s.size : Int) == 0) = false := by rw [beq_eq_false_iff_ne]; omega
    have c1 : decide (255 < (s.size : Int)) = false := decide_eq_false (by omega)
    have c2 : decide (255 < s.size) = false := decide_eq_false (by omega)
    obtain ⟨V, hV⟩ : ∃ V, vsAll (fun x => vs 256 x 0 0 0) s.size s = V := ⟨_, rfl⟩
    have hp : psOk s = V := by rw [psOk, decide_eq_true (by omega), hV]; rfl
    rw [hp]
    have H0 := Aside0.mk hV
    have hs : s.size ≤ 255 := by omega
    clear hp hV h0 h1
    go_enter Try.func21, Try.ntmps21
    go_wp2
    go_loopw [3, 0] (fun ev x w' => ∃ (xs : ByteArray) (n : Nat), x = .string xs ∧ Below (w.alloc (.cells #[.string s] 45)).heap.size (w.alloc (.cells #[.string s] 45)) w' ∧ xs.size ≤ n ∧ xs.size ≤ s.size ∧ ((ev = .nilIface ∧ Aside0 (vsAll (fun x => vs 256 x 0 0 0) n xs = V)) ∨ (∃ ty u, ev = .iface ty u ∧ V = false ∧ xs = ⟨#[]⟩))) (fun _ x _ => strLen x)
    case atStart => exact ⟨s, s.size, rfl, Below.refl _ _, Nat.le_refl _, Nat.le_refl _, .inl ⟨rfl, H0⟩⟩
    case round =>
      obtain ⟨xs, n, rfl, hbw, hxn, hxm, hcase⟩ := hrel
      have hcell := (hbw.cell (p := ⟨w.heap.size, 0, none⟩) (by simp)).trans (b := _) (c := some (.string s)) (by simp)
      have hfro := (hbw.frozen (p := ⟨w.heap.size, 0, none⟩) (by simp)).trans (b := _) (c := false) (by simp)
      have HB := Aside0.mk (((Below.refl _ w).alloc (Nat.le_refl _) (.cells #[.string s] 45)).trans (hbw.mono (by simp)))
      have hsz := HB.out.size
      rcases hcase with ⟨rfl, hg⟩ | ⟨ty, u, rfl, rfl, rfl⟩
      · by_cases hx0 : xs.size = 0
        · have c5 : ((xs.size : Int) != 0) = false := by rw [bne_eq_false_iff_eq]; omega
          have hVt := hg.out
          rw [vsAll_end hx0] at hVt
          subst hVt
          go_wp2
          try simp only [Exit.inBlock, Exit.then]
          refine ps_ret rfl rfl rfl (x := .string s) (g := w.heap.size) ?_ ?_
          · simp [go_sem, hcell]
          · exact ⟨_, rfl, rfl, HB.out⟩
        · have hxp : 0 < xs.size := by omega
          have c5 : ((xs.size : Int) != 0) = true := by rw [bne_iff_ne]; omega
          have HC := Aside0.mk fun (b : Nat) (W : World) (hd : Dc W b 0 0 0) => validSingle.calls 256 xs 0 0 0 b W (by omega) (by omega) (by omega) (by omega) (by omega) hd
          cases hvs : vs 256 xs 0 0 0 with
          | none =>
            have hVf := hg.out
            rw [vsAll_bad hxp hvs] at hVf
            subst hVf
            rw [hvs] at HC
            clear hvs hg
            go_wp2_with (go_at_call 25; refine (HC.out _ _ ?_).mono ?_; (exact dc_of (by simp) (by simp) (by simp)); rintro e w5 ⟨ev, rem, rfl, ho, hbl⟩)
            obtain ⟨rfl, ty, u, rfl⟩ := ho
            exact ⟨⟨_, n, rfl, hbw.trans ((below_alloc1 hbl).mono hbw.size), Nat.zero_le _, Nat.zero_le _, .inr ⟨ty, u, rfl, trivial, rfl⟩⟩, hxp⟩
          | some r =>
            obtain ⟨n, rfl⟩ : ∃ n', n = n' + 1 := ⟨n - 1, by omega⟩
            have hVn := hg.out
            rw [vsAll_next hxp hvs] at hVn
            have HN := Aside0.mk hVn
            have hrs := vs_small _ _ _ _ _ _ hvs
            rw [hvs] at HC
            clear hvs hg hVn
            go_wp2_with (go_at_call 25; refine (HC.out _ _ ?_).mono ?_; (exact dc_of (by simp) (by simp) (by simp)); rintro e w5 ⟨ev, rem, rfl, ho, hbl⟩)
            obtain ⟨rfl, rfl⟩ := ho
            exact ⟨⟨_, n, rfl, hbw.trans ((below_alloc1 hbl).mono hbw.size), by omega, by omega, .inl ⟨rfl, HN⟩⟩, hrs⟩
      · go_wp2
        try simp only [Exit.inBlock, Exit.then]
        refine ps_ret rfl rfl rfl (x := .string ⟨#[]⟩) (g := w.heap.size) ?_ ?_
        · simp [go_sem, hcell]
        · exact ⟨_, rfl, ⟨_, _, rfl⟩, HB.out.setCell (Nat.le_refl _) _⟩
end Go.Proofs.Ythkblpbabcibcaa.Given
