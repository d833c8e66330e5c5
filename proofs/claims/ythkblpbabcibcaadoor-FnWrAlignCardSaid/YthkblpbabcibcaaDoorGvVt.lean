import Derived.Test.YthkblpbabcibcaaDoorGvVd

namespace Go.Proofs.YthkblpbabcibcaaDoor.Given
open Go.RowKit Go.Proofs.YthkblpbabcibcaaDoorW.PrintWords Go.Proofs.YthkblpbabcibcaaDoor.Pl Go.Proofs.YthkblpbabcibcaaDoor.Utf Go.Proofs.YthkblpbabcibcaaDoor.Bm

def strLen : Value → Nat
  | .string s => s.size
  | _ => 0

theorem ne_list {s : ByteArray} (h : 0 < s.size) : s.toList.isEmpty = false := by
  cases e : s.toList with
  | nil => exact absurd (toList_nil.mp e) (by omega)
  | cons x l => rfl
theorem is_empty {s : ByteArray} (h : s.size = 0) : s.toList.isEmpty = true := by rw [toList_nil.mpr h]; rfl
theorem empty_of {s : ByteArray} (h : s.size = 0) : s = ⟨#[]⟩ := by
  have : s.data = #[] := Array.size_eq_zero_iff.mp h
  cases s; simp at this; rw [this]

theorem vsAll_end {g : ByteArray → Option ByteArray} {n : Nat} {x : ByteArray} (h : x.size = 0) : vsAll g n x = true := by
  cases n with
  | zero => simp [vsAll, h]
  | succ n => rw [vsAll, if_pos h]
theorem vsAll_bad {g : ByteArray → Option ByteArray} {n : Nat} {x : ByteArray} (h : 0 < x.size) (hg : g x = none) : vsAll g n x = false := by
  cases n with
  | zero => simp [vsAll]; intro e; rw [e] at h; exact absurd h (by decide)
  | succ n => rw [vsAll, if_neg (by omega), hg]
theorem vsAll_next {g : ByteArray → Option ByteArray} {n : Nat} {x r : ByteArray} (h : 0 < x.size) (hg : g x = some r) : vsAll g (n + 1) x = vsAll g n r := by
  rw [vsAll, if_neg (by omega), hg]

theorem vs_small : ∀ (k : Nat) (s : ByteArray) (a t d : Int) (r : ByteArray), vs k s a t d = some r → r.size < s.size := by
  intro k
  induction k with
  | zero => intro s a t d r h; cases h
  | succ k ih =>
    intro s a t d r h
    rw [vs] at h
    split at h
    · cases h
    · split at h
      · cases h
      · split at h
        · cases h; rw [ByteArray.size_extract]; omega
        · split at h
          · split at h
            · dsimp only at h
              split at h
              · cases h
              · split at h
                · cases h
                · split at h
                  · cases h
                  · split at h
                    · cases h
                    · split at h
                      · have hb := bm_range (s.extract 1 s.size) 123 125 (s.size - 2) 1 1
                        cases h; rw [ByteArray.size_extract]; omega
                      · cases h
            · have := ih _ _ _ _ _ h; rw [ByteArray.size_extract] at this; omega
          · split at h
            · dsimp only at h
              split at h
              · cases h
              · split at h
                · have hb := bm_range s 40 41 (s.size - 1) 1 1
                  cases h; rw [ByteArray.size_extract]; omega
                · cases h
            · cases h

theorem below_alloc1 {w w3 : World} {o : Obj} (hb : Below (w.alloc o).heap.size (w.alloc o) w3) : Below w.heap.size w w3 :=
  ((Below.refl _ w).alloc (Nat.le_refl _) o).trans (hb.mono (by simp))

set_option maxRecDepth 100000 in
set_option maxHeartbeats 4000000 in
theorem vs_t0 (s : ByteArray) (b : Nat) (w : World) (a t d : Int) (hc : Dc w b a t d) (hv : (decide (a ≤ 32) && decide (t ≤ 32) && decide (d ≤ 32)) = true) (h1 : 0 < s.size) (h40 : bt s 0 = 40)
    (hf : ∀ w : World, Calls Tryd.prog 23 #[.string s, .int .i32 40, .int .i32 41] w fun e w' => e = .returned (.int .i64 (-1)) ∧ Below w.heap.size w w') :
    Calls Tryd.prog 16 #[.string s, .pointer (some ⟨b, 0, none⟩)] w fun e w' => ∃ ev rem, e = .returned (.tuple #[ev, .string rem]) ∧ VsOut none ev rem ∧ Below w.heap.size w w' := by
  have hne := ne_list h1
  have hx6 : ∀ h : 0 < s.size, ((s[0]'h).toNat : Int) = bt s 0 := bt_at s 0
  rw [h40] at hx6
  have HV := Aside0.mk hv
  have q6 : (0 < s.size) = True := eq_true (by omega)
  have qi6 : (0 < (s.size : Int)) = True := eq_true (by omega)
  have HF := Aside0.mk hf
  clear hv hf h1
  go_enter Tryd.func16, Tryd.ntmps16
  go_wp2_with (first | (go_at_call 22; refine (Valid.calls b a t d true _ hc HV.out).mono ?_; rintro e w1 ⟨rfl, rfl⟩) | (go_at_call 23; refine (HF.out _).mono ?_; rintro e w2 ⟨rfl, hb2⟩))
  go_ret2
  exact ⟨_, _, rfl, ⟨rfl, _, _, rfl⟩, hb2⟩

set_option maxRecDepth 100000 in
set_option maxHeartbeats 4000000 in
theorem vs_t1 (k : Nat) (s : ByteArray) (b : Nat) (w : World) (a t d : Int) (hc : Dc w b a t d) (hv : (decide (a ≤ 32) && decide (t ≤ 32) && decide (d ≤ 32)) = true) (h1 : 0 < s.size) (h40 : bt s 0 = 40)
    (hs : s.size ≤ 4611686018427387904) (ht : -4611686018427387904 ≤ t) (q : Nat) (hq : 1 ≤ q) (hq2 : q + 1 ≤ s.size)
    (hf : ∀ w : World, Calls Tryd.prog 23 #[.string s, .int .i32 40, .int .i32 41] w fun e w' => e = .returned (.int .i64 q) ∧ Below w.heap.size w w')
    (m : ByteArray) (hm : s.extract 1 q = m) (V : Bool) (hV : vsAll (fun x => vs k x a (t + 1) d) s.size m = V)
    (ih : ∀ (x : ByteArray) (b : Nat) (w : World), x.size ≤ m.size → Dc w b a (t + 1) d → Calls Tryd.prog 16 #[.string x, .pointer (some ⟨b, 0, none⟩)] w fun e w' => ∃ ev rem, e = .returned (.tuple #[ev, .string rem]) ∧ VsOut (vs k x a (t + 1) d) ev rem ∧ Below w.heap.size w w') :
    Calls Tryd.prog 16 #[.string s, .pointer (some ⟨b, 0, none⟩)] w fun e w' => ∃ ev rem, e = .returned (.tuple #[ev, .string rem]) ∧ VsOut (if V = true then some (s.extract (q + 1) s.size) else none) ev rem ∧ Below w.heap.size w w' := by
  have hne := ne_list h1
  have hx6 : ∀ h : 0 < s.size, ((s[0]'h).toNat : Int) = bt s 0 := bt_at s 0
  rw [h40] at hx6
  have HV := Aside0.mk hv
  have q6 : (0 < s.size) = True := eq_true (by omega)
  have qi6 : (0 < (s.size : Int)) = True := eq_true (by omega)
  have HF := Aside0.mk hf
  have hsl : ∀ wx, (Instr.slice 9 (.string s) (some (.int .i64 1)) (some (.int .i64 (q : Int))) none).run Tryd.prog wx = .ok (.string m) wx := fun wx => by
    have := run_slice_string (P := Tryd.prog) wx 9 s .i64 .i64 1 (q : Int) Tryd.underlying9 (by omega) (by omega) (by omega)
    rw [this, ← hm]; rfl
  have hms : m.size ≤ s.size := by rw [← hm, ByteArray.size_extract]; omega
  have g2 : ((q : Int) == -1) = false := by rw [beq_eq_false_iff_ne]; omega
  have ht2 : t ≤ 32 := by simp only [Bool.and_eq_true, decide_eq_true_eq] at hv; exact hv.1.2
  have HS := Aside0.mk fun (w : World) => EnterStruct.calls a t d w (by omega) ht2
  have IH := Aside0.mk ih
  have H0 := Aside0.mk hV
  have HM := Aside0.mk hms
  clear hv hf h1 hm ih hV hms ht ht2
  go_enter Tryd.func16, Tryd.ntmps16
  go_wp2_with (first | (go_at_call 22; refine (Valid.calls b a t d true _ hc HV.out).mono ?_; rintro e w1 ⟨rfl, rfl⟩) | (go_at_call 23; refine (HF.out _).mono ?_; rintro e w2 ⟨rfl, hb2⟩))
  have hc2 := hc.kept hb2 hc.lt
  go_loopw [4, 0] (fun ev x w' => ∃ (xs : ByteArray) (n : Nat), x = .string xs ∧ Below w1.heap.size w1 w' ∧ Dc w' b a t d ∧ xs.size ≤ n ∧ xs.size ≤ m.size ∧ ((ev = .nilIface ∧ Aside0 (vsAll (fun x => vs k x a (t + 1) d) n xs = V)) ∨ (∃ ty u, ev = .iface ty u ∧ V = false ∧ xs = ⟨#[]⟩))) (fun _ x _ => strLen x)
  case atStart => exact ⟨m, s.size, rfl, hb2, hc2, HM.out, Nat.le_refl _, .inl ⟨rfl, H0⟩⟩
  case round =>
    obtain ⟨xs, n, rfl, hbw, hcw, hxn, hxm, hcase⟩ := hrel
    rcases hcase with ⟨rfl, hg⟩ | ⟨ty, u, rfl, rfl, rfl⟩
    · by_cases hx0 : xs.size = 0
      · have r6 := is_empty hx0
        have hVt := hg.out
        rw [vsAll_end hx0] at hVt
        subst hVt
        go_wp2
        go_ret2
        exact ⟨_, _, rfl, ⟨rfl, rfl⟩, hbw⟩
      · have hxp : 0 < xs.size := by omega
        have r6 := ne_list hxp
        cases hvs : vs k xs a (t + 1) d with
        | none =>
          have hVf := hg.out
          rw [vsAll_bad hxp hvs] at hVf
          subst hVf
          have HC := Aside0.mk (IH.out xs)
          rw [hvs] at HC
          have hn := World.new_ne _ _ hcw.c0
          obtain ⟨c0, c1, c2⟩ := hcw
          clear hvs
          go_wp2_with (first | (go_at_call 26; refine (HS.out _).mono ?_; rintro e x3 ⟨rfl, rfl⟩) | (go_at_call 16; refine (HC.out _ _ hxm ?_).mono ?_; (exact dc_of (by simp) (by simp) (by simp)); rintro e w5 ⟨ev, rem, rfl, ho, hbl⟩))
          obtain ⟨rfl, ty, u, rfl⟩ := ho
          obtain ⟨k0, k1, k2⟩ := dc_keep (below_alloc1 hbl) c0 c1 c2
          exact ⟨⟨_, n, rfl, hbw.trans ((below_alloc1 hbl).mono hbw.size), ⟨k0, k1, k2⟩, Nat.zero_le _, Nat.zero_le _, .inr ⟨ty, u, rfl, trivial, rfl⟩⟩, hxp⟩
        | some r =>
          obtain ⟨n, rfl⟩ : ∃ n', n = n' + 1 := ⟨n - 1, by omega⟩
          have hVn := hg.out
          rw [vsAll_next hxp hvs] at hVn
          have HN := Aside0.mk hVn
          have hrs := vs_small _ _ _ _ _ _ hvs
          have HC := Aside0.mk (IH.out xs)
          rw [hvs] at HC
          have hn := World.new_ne _ _ hcw.c0
          obtain ⟨c0, c1, c2⟩ := hcw
          clear hvs hVn hg
          go_wp2_with (first | (go_at_call 26; refine (HS.out _).mono ?_; rintro e x3 ⟨rfl, rfl⟩) | (go_at_call 16; refine (HC.out _ _ hxm ?_).mono ?_; (exact dc_of (by simp) (by simp) (by simp)); rintro e w5 ⟨ev, rem, rfl, ho, hbl⟩))
          obtain ⟨rfl, rfl⟩ := ho
          obtain ⟨k0, k1, k2⟩ := dc_keep (below_alloc1 hbl) c0 c1 c2
          exact ⟨⟨_, n, rfl, hbw.trans ((below_alloc1 hbl).mono hbw.size), ⟨k0, k1, k2⟩, by omega, by omega, .inl ⟨rfl, HN⟩⟩, hrs⟩
    · go_wp2
      go_ret2
      exact ⟨_, _, rfl, ⟨rfl, _, _, rfl⟩, hbw⟩

theorem as_bad {k : Nat} {x : ByteArray} {a t d : Int} (h : vs k x a t d = none) {b : Nat} {w : World}
    (H : Calls Tryd.prog 16 #[.string x, .pointer (some ⟨b, 0, none⟩)] w fun e w' => ∃ ev rem, e = .returned (.tuple #[ev, .string rem]) ∧ VsOut (vs k x a t d) ev rem ∧ Below w.heap.size w w') :
    Calls Tryd.prog 16 #[.string x, .pointer (some ⟨b, 0, none⟩)] w fun e w' => ∃ ty u rem, e = .returned (.tuple #[.iface ty u, .string rem]) ∧ Below w.heap.size w w' := by
  refine H.mono ?_
  rintro e w' ⟨ev, rem, rfl, ho, hb⟩
  rw [h] at ho
  obtain ⟨rfl, ty, u, rfl⟩ := ho
  exact ⟨ty, u, _, rfl, hb⟩
theorem as_good {k : Nat} {x r : ByteArray} {a t d : Int} (h : vs k x a t d = some r) {b : Nat} {w : World}
    (H : Calls Tryd.prog 16 #[.string x, .pointer (some ⟨b, 0, none⟩)] w fun e w' => ∃ ev rem, e = .returned (.tuple #[ev, .string rem]) ∧ VsOut (vs k x a t d) ev rem ∧ Below w.heap.size w w') :
    Calls Tryd.prog 16 #[.string x, .pointer (some ⟨b, 0, none⟩)] w fun e w' => e = .returned (.tuple #[.nilIface, .string r]) ∧ Below w.heap.size w w' := by
  refine H.mono ?_
  rintro e w' ⟨ev, rem, rfl, ho, hb⟩
  rw [h] at ho
  obtain ⟨rfl, rfl⟩ := ho
  exact ⟨rfl, hb⟩
theorem as_some {x r : ByteArray} {b : Nat} {w : World}
    (H : Calls Tryd.prog 16 #[.string x, .pointer (some ⟨b, 0, none⟩)] w fun e w' => e = .returned (.tuple #[.nilIface, .string r]) ∧ Below w.heap.size w w') :
    Calls Tryd.prog 16 #[.string x, .pointer (some ⟨b, 0, none⟩)] w fun e w' => ∃ rem, e = .returned (.tuple #[.nilIface, .string rem]) ∧ Below w.heap.size w w' := by
  refine H.mono ?_
  rintro e w' ⟨rfl, hb⟩
  exact ⟨_, rfl, hb⟩

set_option maxRecDepth 100000 in
set_option maxHeartbeats 4000000 in
theorem vs_zero (k : Nat) (s : ByteArray) (b : Nat) (w : World) (a t d : Int) (h0 : s.size = 0) :
    Calls Tryd.prog 16 #[.string s, .pointer (some ⟨b, 0, none⟩)] w fun e w' => ∃ ev rem, e = .returned (.tuple #[ev, .string rem]) ∧ VsOut (vs k s a t d) ev rem ∧ Below w.heap.size w w' := by
  have hvs : vs k s a t d = none := by
    cases k with
    | zero => rfl
    | succ k => rw [vs, if_pos h0]
  rw [hvs, empty_of h0]
  clear hvs
  go_enter Tryd.func16, Tryd.ntmps16
  go_wp2
  go_ret2
  exact ⟨_, _, rfl, ⟨rfl, _, _, rfl⟩, Below.refl _ _⟩

set_option maxRecDepth 100000 in
set_option maxHeartbeats 4000000 in
theorem vs_deep (s : ByteArray) (b : Nat) (w : World) (a t d : Int) (hc : Dc w b a t d) (hpos : 0 < s.size) (hv : (decide (a ≤ 32) && decide (t ≤ 32) && decide (d ≤ 32)) = false) :
    Calls Tryd.prog 16 #[.string s, .pointer (some ⟨b, 0, none⟩)] w fun e w' => ∃ ev rem, e = .returned (.tuple #[ev, .string rem]) ∧ VsOut none ev rem ∧ Below w.heap.size w w' := by
  have hne := ne_list hpos
  have HV := Aside0.mk hv
  clear hv
  go_enter Tryd.func16, Tryd.ntmps16
  go_wp2_with (go_at_call 22; refine (Valid.calls b a t d false _ hc HV.out).mono ?_; rintro e w1 ⟨rfl, rfl⟩)
  go_ret2
  exact ⟨_, _, rfl, ⟨rfl, _, _, rfl⟩, Below.refl _ _⟩

theorem sz {s : ByteArray} {i j : Nat} (h : j ≤ s.size) : (s.extract i j).size = j - i := by rw [ByteArray.size_extract]; omega

theorem bt_tail (s : ByteArray) (h : 1 < s.size) : bt (s.extract 1 s.size) 0 = bt s 1 := by
  have h1 : 0 < (s.extract 1 s.size).size := by rw [sz (Nat.le_refl _)]; omega
  unfold bt
  rw [dif_pos (show (0 : Int).toNat < (s.extract 1 s.size).size from h1), dif_pos (show (1 : Int).toNat < s.size from h)]
  simp [ByteArray.getElem_extract]

theorem vs_step (k : Nat) (ih : VsGood k) : VsGood (k + 1) := by
  intro s a t d b w hk hs ha ht hd hc
  by_cases h0 : s.size = 0
  · exact vs_zero _ s b w a t d h0
  have hpos : 0 < s.size := by omega
  cases hv : (decide (a ≤ 32) && decide (t ≤ 32) && decide (d ≤ 32)) with
  | false =>
    rw [show vs (k + 1) s a t d = none by rw [vs, if_neg h0, if_pos hv]]
    exact vs_deep s b w a t d hc hpos hv
  | true =>
    have hb3 : a ≤ 32 ∧ t ≤ 32 ∧ d ≤ 32 := by
      simp only [Bool.and_eq_true, decide_eq_true_eq] at hv; exact ⟨hv.1.1, hv.1.2, hv.2⟩
    have hvn : ¬ (decide (a ≤ 32) && decide (t ≤ 32) && decide (d ≤ 32)) = false := by rw [hv]; decide
    cases hl : lone (bt s 0) with
    | true =>
      rw [show vs (k + 1) s a t d = some (s.extract 1 s.size) by rw [vs, if_neg h0, if_neg hvn, if_pos hl]]
      refine (vs_lone s b w a t d hc hv hpos hl).mono ?_
      rintro e w' ⟨rfl, hb⟩
      exact ⟨_, _, rfl, ⟨rfl, rfl⟩, hb⟩
    | false =>
      have hln : ¬ lone (bt s 0) = true := by rw [hl]; decide
      by_cases h97 : bt s 0 = 97
      · by_cases hb : 1 < s.size ∧ bt s 1 = 123
        · have hsz : (s.extract 1 s.size).size = s.size - 1 := sz (Nat.le_refl _)
          have hf := fm_some (s.extract 1 s.size) 123 125 (by omega) (by omega) (by omega) (by omega) ((bt_tail s hb.1).trans hb.2)
          rw [hsz, show s.size - 1 - 1 = s.size - 2 by omega] at hf
          have hr := bm_range (s.extract 1 s.size) 123 125 (s.size - 2) 1 1
          have hfc := fun w => findMatching.calls (s.extract 1 s.size) 123 125 _ w hf
          have hun : vs (k + 1) s a t d = (let i := bm (s.extract 1 s.size) 123 125 (s.size - 2) 1 1
              if i = -1 then none
              else
                let m := s.extract 2 (i + 1).toNat
                if m.size = 0 then none
                else match vs k (m.extract 0 1) (a + 1) t (d + 1) with
                  | none => none
                  | some _ => match vs k (m.extract 1 m.size) (a + 1) t (d + 1) with
                    | none => none
                    | some r => if r.size = 0 then some (s.extract (i + 2).toNat s.size) else none) := by
            rw [vs, if_neg h0, if_neg hvn, if_neg hln, if_pos h97, if_pos hb]
            rfl
          rw [hun]
          clear hun hf
          generalize bm (s.extract 1 s.size) 123 125 (s.size - 2) 1 1 = i at hr hfc
          dsimp only
          by_cases hi : i = -1
          · rw [if_pos hi]
            rw [hi] at hfc
            exact vs_d0 s b w a t d hc hv hs h97 hb.1 hb.2 hfc
          · rw [if_neg hi]
            obtain ⟨q, rfl⟩ : ∃ q : Nat, i = q := ⟨i.toNat, by omega⟩
            rw [show ((q : Int) + 1).toNat = q + 1 by omega, show ((q : Int) + 2).toNat = q + 2 by omega]
            have hq : 1 ≤ q := by omega
            have hq2 : q + 2 ≤ s.size := by omega
            have hmz : (s.extract 2 (q + 1)).size = q + 1 - 2 := sz (by omega)
            generalize hm : s.extract 2 (q + 1) = m at hmz
            by_cases hm0 : m.size = 0
            · rw [if_pos hm0]
              exact vs_d1 s b w a t d hc hv hs h97 hb.1 hb.2 q hq hq2 hfc m hm hm0
            · rw [if_neg hm0]
              have hm1 : 0 < m.size := by omega
              have ih1 := fun (b : Nat) (w : World) (hc : Dc w b (a + 1) t (d + 1)) => ih (m.extract 0 1) (a + 1) t (d + 1) b w (by rw [sz (by omega)]; omega) (by rw [sz (by omega)]; omega) (by omega) ht (by omega) hc
              have ih2 := fun (b : Nat) (w : World) (hc : Dc w b (a + 1) t (d + 1)) => ih (m.extract 1 m.size) (a + 1) t (d + 1) b w (by rw [sz (by omega)]; omega) (by rw [sz (by omega)]; omega) (by omega) ht (by omega) hc
              cases e1 : vs k (m.extract 0 1) (a + 1) t (d + 1) with
              | none => exact vs_d2 s b w a t d hc hv hs h97 hb.1 hb.2 q hq hq2 hfc m hm hm1 ha hd (fun b w hc => as_bad e1 (ih1 b w hc))
              | some r1 =>
                cases e2 : vs k (m.extract 1 m.size) (a + 1) t (d + 1) with
                | none => exact vs_d3 s b w a t d hc hv hs h97 hb.1 hb.2 q hq hq2 hfc m hm hm1 ha hd (fun b w hc => as_some (as_good e1 (ih1 b w hc))) (fun b w hc => as_bad e2 (ih2 b w hc))
                | some r =>
                  dsimp only
                  by_cases hr0 : r.size = 0
                  · rw [if_pos hr0]
                    exact vs_d5 s b w a t d hc hv hs h97 hb.1 hb.2 q hq hq2 hfc m hm hm1 ha hd r hr0 (fun b w hc => as_some (as_good e1 (ih1 b w hc))) (fun b w hc => as_good e2 (ih2 b w hc))
                  · rw [if_neg hr0]
                    exact vs_d4 s b w a t d hc hv hs h97 hb.1 hb.2 q hq hq2 hfc m hm hm1 ha hd r (by omega) (fun b w hc => as_some (as_good e1 (ih1 b w hc))) (fun b w hc => as_good e2 (ih2 b w hc))
        · rw [show vs (k + 1) s a t d = vs k (s.extract 1 s.size) (a + 1) t d by rw [vs, if_neg h0, if_neg hvn, if_neg hln, if_pos h97, if_neg hb]]
          exact vs_arr k ih s b w a t d hc hv hpos hk hs ha ht hd h97 hb
      · by_cases h40 : bt s 0 = 40
        · have hf := fm_some s 40 41 hs (by omega) (by omega) hpos h40
          have hr := bm_range s 40 41 (s.size - 1) 1 1
          have hfc := fun w => findMatching.calls s 40 41 _ w hf
          have hun : vs (k + 1) s a t d = (let i := bm s 40 41 (s.size - 1) 1 1
              if i = -1 then none
              else if vsAll (fun x => vs k x a (t + 1) d) s.size (s.extract 1 i.toNat) = true then some (s.extract (i + 1).toNat s.size) else none) := by
            rw [vs, if_neg h0, if_neg hvn, if_neg hln, if_neg h97, if_pos h40]
          rw [hun]
          clear hun hf
          generalize bm s 40 41 (s.size - 1) 1 1 = i at hr hfc
          dsimp only
          by_cases hi : i = -1
          · rw [if_pos hi]
            rw [hi] at hfc
            exact vs_t0 s b w a t d hc hv hpos h40 hfc
          · rw [if_neg hi]
            obtain ⟨q, rfl⟩ : ∃ q : Nat, i = q := ⟨i.toNat, by omega⟩
            rw [show ((q : Int) + 1).toNat = q + 1 by omega, Int.toNat_natCast]
            have hmz : (s.extract 1 q).size = q - 1 := sz (by omega)
            exact vs_t1 k s b w a t d hc hv hpos h40 hs ht q (by omega) (by omega) hfc (s.extract 1 q) rfl _ rfl
              (fun x b w hx hc => ih x a (t + 1) d b w (by omega) (by omega) ha (by omega) hd hc)
        · rw [show vs (k + 1) s a t d = none by rw [vs, if_neg h0, if_neg hvn, if_neg hln, if_neg h97, if_neg h40]]
          exact vs_other s b w a t d hc hv hpos hl (by rw [beq_eq_false_iff_ne]; exact h97) (by rw [beq_eq_false_iff_ne]; exact h40)

theorem validSingle.calls : ∀ k, VsGood k := by
  intro k
  induction k with
  | zero => intro s a t d b w hk; omega
  | succ k ih => exact vs_step k ih
end Go.Proofs.YthkblpbabcibcaaDoor.Given
