/- Part of the proof of LawFnSgOfParts. -/
import Derived.Test.YtnojjfklnihmnaaDoorSgA
set_option linter.unusedVariables false
set_option linter.unusedSimpArgs false
section
namespace Go.Proofs.YtnojjfklnihmnaaDoor.Given
open Go.RowKit Go.Proofs.YtnojjfklnihmnaaDoorW.PrintWords Go.Proofs.YtnojjfklnihmnaaDoor.Pl Go.Proofs.YtnojjfklnihmnaaDoor.Utf Go.Proofs.YtnojjfklnihmnaaDoor.Bm
theorem dc_of {w : World} {b : Nat} {a t d : Int} (h0 : w.cell? ⟨b, 0, none⟩ = some (.int .i64 a)) (h1 : w.cell? ⟨b, 1, none⟩ = some (.int .i64 t)) (h2 : w.cell? ⟨b, 2, none⟩ = some (.int .i64 d)) : Dc w b a t d := ⟨h0, h1, h2⟩
theorem dc_keep {W w : World} {b : Nat} {a t d : Int} (hb : Below W.heap.size W w) (h0 : W.cell? ⟨b, 0, none⟩ = some (.int .i64 a)) (h1 : W.cell? ⟨b, 1, none⟩ = some (.int .i64 t)) (h2 : W.cell? ⟨b, 2, none⟩ = some (.int .i64 d)) :
    w.cell? ⟨b, 0, none⟩ = some (.int .i64 a) ∧ w.cell? ⟨b, 1, none⟩ = some (.int .i64 t) ∧ w.cell? ⟨b, 2, none⟩ = some (.int .i64 d) := by
  have h : Dc W b a t d := ⟨h0, h1, h2⟩
  obtain ⟨k0, k1, k2⟩ := h.kept hb h.lt
  exact ⟨k0, k1, k2⟩
theorem below_one {w w3 : World} {o : Obj} (hb : Below (w.alloc o).drew.heap.size (w.alloc o).drew w3) : Below w.heap.size w w3 :=
  ((Below.refl _ w).alloc (Nat.le_refl _) o).drew.trans (hb.mono (by simp))
set_option maxRecDepth 100000 in
set_option maxHeartbeats 4000000 in
theorem vs_arr (k : Nat) (ih : VsGood k) (s : ByteArray) (b : Nat) (w : World) (a t d : Int) (hc : Dc w b a t d) (hv : (decide (a ≤ 32) && decide (t ≤ 32) && decide (d ≤ 32)) = true) (hpos : 0 < s.size) (hk : s.size < k + 1) (hs : s.size ≤ 4611686018427387904) (ha : -4611686018427387904 ≤ a) (ht : -4611686018427387904 ≤ t) (hd : -4611686018427387904 ≤ d)
    (h97 : bt s 0 = 97) (hb : ¬ (1 < s.size ∧ bt s 1 = 123)) :
    Calls Tryd.prog 61 #[.string s, .pointer (some ⟨b, 0, none⟩)] w fun e w' => ∃ ev rem, e = .returned (.tuple #[ev, .string rem]) ∧ VsOut (vs k (s.extract 1 s.size) (a + 1) t d) ev rem ∧ Below w.heap.size w w' := by
  have hne : s.toList.isEmpty = false := by
    cases e : s.toList with
    | nil => exact absurd (toList_nil.mp e) (by omega)
    | cons x l => rfl
  have hx6 : ∀ h : 0 < s.size, ((s[0]'h).toNat : Int) = bt s 0 := bt_at s 0
  rw [h97] at hx6
  have ha2 : a ≤ 32 := by simp only [Bool.and_eq_true, decide_eq_true_eq] at hv; exact hv.1.1
  have HV := Aside0.mk hv
  have IH := Aside0.mk fun (b : Nat) (w : World) (hc : Dc w b (a + 1) t d) => ih (s.extract 1 s.size) (a + 1) t d b w (by rw [ByteArray.size_extract]; omega) (by rw [ByteArray.size_extract]; omega) (by omega) ht hd hc
  have HA := Aside0.mk fun (w : World) => EnterArray.calls a t d w (by omega) ha2
  have q6 := eq_true hpos
  have qi6 : (0 < (s.size : Int)) = True := eq_true (by omega)
  have q7 : (1 ≤ s.size) = True := eq_true (by omega)
  have qi7 : (1 ≤ (s.size : Int)) = True := eq_true (by omega)
  have q8 : s.size - 0 = s.size := by omega
  have hx7 : ∀ h : 1 < s.size, ((s[1]'h).toNat : Int) = bt s 1 := bt_at s 1
  obtain ⟨c0, c1, c2⟩ := hc
  have two : (decide ((1 : Int) < s.size) = false) ∨ (decide ((1 : Int) < s.size) = true ∧ (1 < s.size) ∧ (bt s 1 == 123) = false) := by
    by_cases z : 1 < s.size
    · exact .inr ⟨decide_eq_true (by omega), z, by rw [beq_eq_false_iff_ne]; exact fun e => hb ⟨z, e⟩⟩
    · exact .inl (decide_eq_false (by omega))
  have hn := World.new_ne w _ c0
  clear ih hv hb hk ha ht hd ha2 hpos hs
  rcases two with z | ⟨z, z1, z2⟩
  · clear hx7
    go_enter Tryd.func61, Tryd.ntmps61
    go_wp2_with (go_at_call 33; refine (Valid.calls b a t d true _ ⟨c0, c1, c2⟩ HV.out).mono ?_; rintro e w1 ⟨rfl, rfl⟩)
    go_region_held3 (fun w' => w'.cell? ⟨b, 0, none⟩ = some (.int .i64 a) ∧ w'.cell? ⟨b, 1, none⟩ = some (.int .i64 t) ∧ w'.cell? ⟨b, 2, none⟩ = some (.int .i64 d)) (go_keep)
      (first | (go_at_call 41; refine (HA.out _).mono ?_; rintro e w2 ⟨rfl, rfl⟩) | (go_at_call 61; refine (IH.out _ _ ?_).mono ?_; (exact dc_of (by simp) (by simp) (by simp)); rintro e w3 ⟨ev, rem, rfl, ho, hbl⟩; obtain ⟨k0, k1, k2⟩ := dc_keep hbl (b := b) (a := a) (t := t) (d := d) (by simp [*]) (by simp [*]) (by simp [*])))
    go_wp2
    go_ret2
    exact ⟨_, _, rfl, ho, below_one hbl⟩
  · have z3 : (1 < (s.size : Int)) = True := eq_true (by omega)
    go_enter Tryd.func61, Tryd.ntmps61
    go_wp2_with (go_at_call 33; refine (Valid.calls b a t d true _ ⟨c0, c1, c2⟩ HV.out).mono ?_; rintro e w1 ⟨rfl, rfl⟩)
    go_region_held3 (fun w' => w'.cell? ⟨b, 0, none⟩ = some (.int .i64 a) ∧ w'.cell? ⟨b, 1, none⟩ = some (.int .i64 t) ∧ w'.cell? ⟨b, 2, none⟩ = some (.int .i64 d)) (go_keep)
      (first | (go_at_call 41; refine (HA.out _).mono ?_; rintro e w2 ⟨rfl, rfl⟩) | (go_at_call 61; refine (IH.out _ _ ?_).mono ?_; (exact dc_of (by simp) (by simp) (by simp)); rintro e w3 ⟨ev, rem, rfl, ho, hbl⟩; obtain ⟨k0, k1, k2⟩ := dc_keep hbl (b := b) (a := a) (t := t) (d := d) (by simp [*]) (by simp [*]) (by simp [*])))
    go_wp2
    go_ret2
    exact ⟨_, _, rfl, ho, below_one hbl⟩
end Go.Proofs.YtnojjfklnihmnaaDoor.Given
end
section
namespace Go.Proofs.YtnojjfklnihmnaaDoor.Given
open Go.RowKit Go.Proofs.YtnojjfklnihmnaaDoorW.PrintWords Go.Proofs.YtnojjfklnihmnaaDoor.Pl Go.Proofs.YtnojjfklnihmnaaDoor.Utf Go.Proofs.YtnojjfklnihmnaaDoor.Bm
theorem bm_range (s : ByteArray) (L R : Int) : ∀ (d pos : Nat) (n : Int), bm s L R d pos n = -1 ∨ ((pos : Int) ≤ bm s L R d pos n ∧ bm s L R d pos n < pos + d) := by
  intro d
  induction d with
  | zero => intro pos n; exact .inl rfl
  | succ d ih =>
    intro pos n
    rw [bm]
    have h1 := ih (pos + 1) (n + 1)
    have h2 := ih (pos + 1) (n - 1)
    have h3 := ih (pos + 1) n
    split
    · omega
    · split
      · split
        · omega
        · omega
      · omega
theorem fm_some (s : ByteArray) (L R : Int) (hs : s.size ≤ 4611686018427387904) (hL : L ≤ 127) (hR : R ≤ 127) (h0 : 0 < s.size) (hb : bt s 0 = L) : findMatching.f s L R = some (bm s L R (s.size - 1) 1 1) := by
  rw [findMatching.f, if_pos hs, fm_first s L R hL hR h0 hb]
set_option maxRecDepth 100000 in
set_option maxHeartbeats 4000000 in
theorem vs_other (s : ByteArray) (b : Nat) (w : World) (a t d : Int) (hc : Dc w b a t d) (hv : (decide (a ≤ 32) && decide (t ≤ 32) && decide (d ≤ 32)) = true) (hpos : 0 < s.size)
    (h0 : lone (bt s 0) = false) (h97 : (bt s 0 == 97) = false) (h40 : (bt s 0 == 40) = false) :
    Calls Tryd.prog 61 #[.string s, .pointer (some ⟨b, 0, none⟩)] w fun e w' => ∃ ev rem, e = .returned (.tuple #[ev, .string rem]) ∧ VsOut none ev rem ∧ Below w.heap.size w w' := by
  have hne : s.toList.isEmpty = false := by
    cases e : s.toList with
    | nil => exact absurd (toList_nil.mp e) (by omega)
    | cons x l => rfl
  have hx6 : ∀ h : 0 < s.size, ((s[0]'h).toNat : Int) = bt s 0 := bt_at s 0
  have q6 := eq_true hpos
  have qi6 : (0 < (s.size : Int)) = True := eq_true (by omega)
  have HV := Aside0.mk hv
  obtain ⟨⟨l1, l2, l3, l4, l5, l6, l7⟩, ⟨m1, m2, m3, m4, m5, m6, m7⟩⟩ := no_lone h0
  clear hv h0 hpos
  go_enter Tryd.func61, Tryd.ntmps61
  go_wp2_with (go_at_call 33; refine (Valid.calls b a t d true _ hc HV.out).mono ?_; rintro e w1 ⟨rfl, rfl⟩)
  go_ret2
  exact ⟨_, _, rfl, ⟨rfl, _, _, rfl⟩, Below.refl _ _⟩
theorem below_two {w w3 : World} {o o' : Obj} (hb : Below ((w.alloc o).alloc o').drew.heap.size ((w.alloc o).alloc o').drew w3) : Below w.heap.size w w3 :=
  (((Below.refl _ w).alloc (Nat.le_refl _) o).alloc (by simp) o').drew.trans (hb.mono (by simp; omega))
set_option maxRecDepth 100000 in
set_option maxHeartbeats 4000000 in
theorem vs_d0 (s : ByteArray) (b : Nat) (w : World) (a t d : Int) (hc : Dc w b a t d) (hv : (decide (a ≤ 32) && decide (t ≤ 32) && decide (d ≤ 32)) = true) (hs : s.size ≤ 4611686018427387904)
    (h97 : bt s 0 = 97) (h1 : 1 < s.size) (hb : bt s 1 = 123)
    (hf : ∀ w : World, Calls Tryd.prog 62 #[.string (s.extract 1 s.size), .int .i32 123, .int .i32 125] w fun e w' => e = .returned (.int .i64 (-1)) ∧ Below w.heap.size w w') :
    Calls Tryd.prog 61 #[.string s, .pointer (some ⟨b, 0, none⟩)] w fun e w' => ∃ ev rem, e = .returned (.tuple #[ev, .string rem]) ∧ VsOut none ev rem ∧ Below w.heap.size w w' := by
  have hne : s.toList.isEmpty = false := by
    cases e : s.toList with
    | nil => exact absurd (toList_nil.mp e) (by omega)
    | cons x l => rfl
  have hx6 : ∀ h : 0 < s.size, ((s[0]'h).toNat : Int) = bt s 0 := bt_at s 0
  have hx7 : ∀ h : 1 < s.size, ((s[1]'h).toNat : Int) = bt s 1 := bt_at s 1
  rw [h97] at hx6
  rw [hb] at hx7
  have HV := Aside0.mk hv
  have q6 : (0 < s.size) = True := eq_true (by omega)
  have qi6 : (0 < (s.size : Int)) = True := eq_true (by omega)
  have q7 : (1 ≤ s.size) = True := eq_true (by omega)
  have qi7 : (1 ≤ (s.size : Int)) = True := eq_true (by omega)
  have q8 : s.size - 0 = s.size := by omega
  have q9 : (1 < s.size) = True := eq_true h1
  have qi9 : (1 < (s.size : Int)) = True := eq_true (by omega)
  have qd9 : decide (1 < (s.size : Int)) = true := decide_eq_true (by omega)
  have HF := Aside0.mk hf
  clear hv h1 hs hf
  go_enter Tryd.func61, Tryd.ntmps61
  go_wp2_with (first | (go_at_call 33; refine (Valid.calls b a t d true _ hc HV.out).mono ?_; rintro e w1 ⟨rfl, rfl⟩) | (go_at_call 62; refine (HF.out _).mono ?_; rintro e w2 ⟨rfl, hb2⟩))
  go_ret2
  exact ⟨_, _, rfl, ⟨rfl, _, _, rfl⟩, hb2⟩
set_option maxRecDepth 100000 in
set_option maxHeartbeats 4000000 in
theorem vs_d1 (s : ByteArray) (b : Nat) (w : World) (a t d : Int) (hc : Dc w b a t d) (hv : (decide (a ≤ 32) && decide (t ≤ 32) && decide (d ≤ 32)) = true) (hs : s.size ≤ 4611686018427387904)
    (h97 : bt s 0 = 97) (h1 : 1 < s.size) (hb : bt s 1 = 123) (q : Nat) (hq : 1 ≤ q) (hq2 : q + 2 ≤ s.size)
    (hf : ∀ w : World, Calls Tryd.prog 62 #[.string (s.extract 1 s.size), .int .i32 123, .int .i32 125] w fun e w' => e = .returned (.int .i64 q) ∧ Below w.heap.size w w') (m : ByteArray) (hm : s.extract 2 (q + 1) = m) (h0 : m.size = 0) :
    Calls Tryd.prog 61 #[.string s, .pointer (some ⟨b, 0, none⟩)] w fun e w' => ∃ ev rem, e = .returned (.tuple #[ev, .string rem]) ∧ VsOut none ev rem ∧ Below w.heap.size w w' := by
  have hne : s.toList.isEmpty = false := by
    cases e : s.toList with
    | nil => exact absurd (toList_nil.mp e) (by omega)
    | cons x l => rfl
  have hx6 : ∀ h : 0 < s.size, ((s[0]'h).toNat : Int) = bt s 0 := bt_at s 0
  have hx7 : ∀ h : 1 < s.size, ((s[1]'h).toNat : Int) = bt s 1 := bt_at s 1
  rw [h97] at hx6
  rw [hb] at hx7
  have HV := Aside0.mk hv
  have q6 : (0 < s.size) = True := eq_true (by omega)
  have qi6 : (0 < (s.size : Int)) = True := eq_true (by omega)
  have q7 : (1 ≤ s.size) = True := eq_true (by omega)
  have qi7 : (1 ≤ (s.size : Int)) = True := eq_true (by omega)
  have q8 : s.size - 0 = s.size := by omega
  have q9 : (1 < s.size) = True := eq_true h1
  have qi9 : (1 < (s.size : Int)) = True := eq_true (by omega)
  have qd9 : decide (1 < (s.size : Int)) = true := decide_eq_true (by omega)
  have HF := Aside0.mk hf
  have hsl : ∀ wx, (Instr.slice 9 (.string s) (some (.int .i64 2)) (some (.int .i64 ((q : Int) + 1))) none).run Tryd.prog wx = .ok (.string m) wx := fun wx => by
    have := run_slice_string (P := Tryd.prog) wx 9 s .i64 .i64 2 ((q : Int) + 1) Tryd.underlying9 (by omega) (by omega) (by omega)
    rw [this, ← hm, show ((q : Int) + 1).toNat = q + 1 by omega]; rfl
  have g1 : (q : Int) + 1 + 1 = q + 2 := by omega
  have g2 : ((q : Int) == -1) = false := by rw [beq_eq_false_iff_ne]; omega
  clear hv h1 hf hm
  go_enter Tryd.func61, Tryd.ntmps61
  go_wp2_with (first | (go_at_call 33; refine (Valid.calls b a t d true _ hc HV.out).mono ?_; rintro e w1 ⟨rfl, rfl⟩) | (go_at_call 62; refine (HF.out _).mono ?_; rintro e w2 ⟨rfl, hb2⟩))
  go_ret2
  exact ⟨_, _, rfl, ⟨rfl, _, _, rfl⟩, hb2⟩
set_option maxRecDepth 100000 in
set_option maxHeartbeats 4000000 in
theorem vs_d2 (s : ByteArray) (b : Nat) (w : World) (a t d : Int) (hc : Dc w b a t d) (hv : (decide (a ≤ 32) && decide (t ≤ 32) && decide (d ≤ 32)) = true) (hs : s.size ≤ 4611686018427387904)
    (h97 : bt s 0 = 97) (h1 : 1 < s.size) (hb : bt s 1 = 123) (q : Nat) (hq : 1 ≤ q) (hq2 : q + 2 ≤ s.size)
    (hf : ∀ w : World, Calls Tryd.prog 62 #[.string (s.extract 1 s.size), .int .i32 123, .int .i32 125] w fun e w' => e = .returned (.int .i64 q) ∧ Below w.heap.size w w') (m : ByteArray) (hm : s.extract 2 (q + 1) = m) (h0 : 0 < m.size) (ha : -4611686018427387904 ≤ a) (hd : -4611686018427387904 ≤ d)
    (ih1 : ∀ (b : Nat) (w : World), Dc w b (a + 1) t (d + 1) → Calls Tryd.prog 61 #[.string (m.extract 0 1), .pointer (some ⟨b, 0, none⟩)] w fun e w' => ∃ ty u rem, e = .returned (.tuple #[.iface ty u, .string rem]) ∧ Below w.heap.size w w') :
    Calls Tryd.prog 61 #[.string s, .pointer (some ⟨b, 0, none⟩)] w fun e w' => ∃ ev rem, e = .returned (.tuple #[ev, .string rem]) ∧ VsOut none ev rem ∧ Below w.heap.size w w' := by
  have hne : s.toList.isEmpty = false := by
    cases e : s.toList with
    | nil => exact absurd (toList_nil.mp e) (by omega)
    | cons x l => rfl
  have hx6 : ∀ h : 0 < s.size, ((s[0]'h).toNat : Int) = bt s 0 := bt_at s 0
  have hx7 : ∀ h : 1 < s.size, ((s[1]'h).toNat : Int) = bt s 1 := bt_at s 1
  rw [h97] at hx6
  rw [hb] at hx7
  have HV := Aside0.mk hv
  have q6 : (0 < s.size) = True := eq_true (by omega)
  have qi6 : (0 < (s.size : Int)) = True := eq_true (by omega)
  have q7 : (1 ≤ s.size) = True := eq_true (by omega)
  have qi7 : (1 ≤ (s.size : Int)) = True := eq_true (by omega)
  have q8 : s.size - 0 = s.size := by omega
  have q9 : (1 < s.size) = True := eq_true h1
  have qi9 : (1 < (s.size : Int)) = True := eq_true (by omega)
  have qd9 : decide (1 < (s.size : Int)) = true := decide_eq_true (by omega)
  have HF := Aside0.mk hf
  have hsl : ∀ wx, (Instr.slice 9 (.string s) (some (.int .i64 2)) (some (.int .i64 ((q : Int) + 1))) none).run Tryd.prog wx = .ok (.string m) wx := fun wx => by
    have := run_slice_string (P := Tryd.prog) wx 9 s .i64 .i64 2 ((q : Int) + 1) Tryd.underlying9 (by omega) (by omega) (by omega)
    rw [this, ← hm, show ((q : Int) + 1).toNat = q + 1 by omega]; rfl
  have g1 : (q : Int) + 1 + 1 = q + 2 := by omega
  have g2 : ((q : Int) == -1) = false := by rw [beq_eq_false_iff_ne]; omega
  have m6 : (1 ≤ m.size) = True := eq_true (by omega)
  have mi6 : (1 ≤ (m.size : Int)) = True := eq_true (by omega)
  have m7 : ((m.size : Int) == 0) = false := by rw [beq_eq_false_iff_ne]; omega
  have ha2 : a ≤ 32 := by simp only [Bool.and_eq_true, decide_eq_true_eq] at hv; exact hv.1.1
  have hd2 : d ≤ 32 := by simp only [Bool.and_eq_true, decide_eq_true_eq] at hv; exact hv.2
  have HA := Aside0.mk fun (w : World) => EnterArray.calls a t d w (by omega) ha2
  have HD := Aside0.mk fun (w : World) => EnterDictEntry.calls (a + 1) t d w (by omega) hd2
  have IH1 := Aside0.mk ih1
  clear hv h1 hf hm ih1 ha2 hd2
  go_enter Tryd.func61, Tryd.ntmps61
  go_wp2_with (first | (go_at_call 33; refine (Valid.calls b a t d true _ hc HV.out).mono ?_; rintro e w1 ⟨rfl, rfl⟩) | (go_at_call 62; refine (HF.out _).mono ?_; rintro e w2 ⟨rfl, hb2⟩))
  · obtain ⟨c0, c1, c2⟩ := hc.kept hb2 hc.lt
    have hn := World.new_ne w2 _ c0
    go_region_with (first | (go_at_call 41; refine (HA.out _).mono ?_; rintro e x3 ⟨rfl, rfl⟩) | (go_at_call 44; refine (HD.out _).mono ?_; rintro e x4 ⟨rfl, rfl⟩) | (go_at_call 61; refine (IH1.out _ _ ?_).mono ?_; (exact dc_of (by simp) (by simp) (by simp)); rintro e w5 ⟨ty, u, rem, rfl, hbl⟩))
    go_wp2
    go_ret2
    exact ⟨_, _, rfl, ⟨rfl, _, _, rfl⟩, hb2.trans ((below_two hbl).mono hb2.size)⟩
set_option maxRecDepth 100000 in
set_option maxHeartbeats 4000000 in
theorem vs_d3 (s : ByteArray) (b : Nat) (w : World) (a t d : Int) (hc : Dc w b a t d) (hv : (decide (a ≤ 32) && decide (t ≤ 32) && decide (d ≤ 32)) = true) (hs : s.size ≤ 4611686018427387904)
    (h97 : bt s 0 = 97) (h1 : 1 < s.size) (hb : bt s 1 = 123) (q : Nat) (hq : 1 ≤ q) (hq2 : q + 2 ≤ s.size)
    (hf : ∀ w : World, Calls Tryd.prog 62 #[.string (s.extract 1 s.size), .int .i32 123, .int .i32 125] w fun e w' => e = .returned (.int .i64 q) ∧ Below w.heap.size w w') (m : ByteArray) (hm : s.extract 2 (q + 1) = m) (h0 : 0 < m.size) (ha : -4611686018427387904 ≤ a) (hd : -4611686018427387904 ≤ d)
    (ih1 : ∀ (b : Nat) (w : World), Dc w b (a + 1) t (d + 1) → Calls Tryd.prog 61 #[.string (m.extract 0 1), .pointer (some ⟨b, 0, none⟩)] w fun e w' => ∃ rem, e = .returned (.tuple #[.nilIface, .string rem]) ∧ Below w.heap.size w w') (ih2 : ∀ (b : Nat) (w : World), Dc w b (a + 1) t (d + 1) → Calls Tryd.prog 61 #[.string (m.extract 1 m.size), .pointer (some ⟨b, 0, none⟩)] w fun e w' => ∃ ty u rem, e = .returned (.tuple #[.iface ty u, .string rem]) ∧ Below w.heap.size w w') :
    Calls Tryd.prog 61 #[.string s, .pointer (some ⟨b, 0, none⟩)] w fun e w' => ∃ ev rem, e = .returned (.tuple #[ev, .string rem]) ∧ VsOut none ev rem ∧ Below w.heap.size w w' := by
  have hne : s.toList.isEmpty = false := by
    cases e : s.toList with
    | nil => exact absurd (toList_nil.mp e) (by omega)
    | cons x l => rfl
  have hx6 : ∀ h : 0 < s.size, ((s[0]'h).toNat : Int) = bt s 0 := bt_at s 0
  have hx7 : ∀ h : 1 < s.size, ((s[1]'h).toNat : Int) = bt s 1 := bt_at s 1
  rw [h97] at hx6
  rw [hb] at hx7
  have HV := Aside0.mk hv
  have q6 : (0 < s.size) = True := eq_true (by omega)
  have qi6 : (0 < (s.size : Int)) = True := eq_true (by omega)
  have q7 : (1 ≤ s.size) = True := eq_true (by omega)
  have qi7 : (1 ≤ (s.size : Int)) = True := eq_true (by omega)
  have q8 : s.size - 0 = s.size := by omega
  have q9 : (1 < s.size) = True := eq_true h1
  have qi9 : (1 < (s.size : Int)) = True := eq_true (by omega)
  have qd9 : decide (1 < (s.size : Int)) = true := decide_eq_true (by omega)
  have HF := Aside0.mk hf
  have hsl : ∀ wx, (Instr.slice 9 (.string s) (some (.int .i64 2)) (some (.int .i64 ((q : Int) + 1))) none).run Tryd.prog wx = .ok (.string m) wx := fun wx => by
    have := run_slice_string (P := Tryd.prog) wx 9 s .i64 .i64 2 ((q : Int) + 1) Tryd.underlying9 (by omega) (by omega) (by omega)
    rw [this, ← hm, show ((q : Int) + 1).toNat = q + 1 by omega]; rfl
  have g1 : (q : Int) + 1 + 1 = q + 2 := by omega
  have g2 : ((q : Int) == -1) = false := by rw [beq_eq_false_iff_ne]; omega
  have m6 : (1 ≤ m.size) = True := eq_true (by omega)
  have mi6 : (1 ≤ (m.size : Int)) = True := eq_true (by omega)
  have m7 : ((m.size : Int) == 0) = false := by rw [beq_eq_false_iff_ne]; omega
  have ha2 : a ≤ 32 := by simp only [Bool.and_eq_true, decide_eq_true_eq] at hv; exact hv.1.1
  have hd2 : d ≤ 32 := by simp only [Bool.and_eq_true, decide_eq_true_eq] at hv; exact hv.2
  have HA := Aside0.mk fun (w : World) => EnterArray.calls a t d w (by omega) ha2
  have HD := Aside0.mk fun (w : World) => EnterDictEntry.calls (a + 1) t d w (by omega) hd2
  have IH1 := Aside0.mk ih1
  have IH2 := Aside0.mk ih2
  clear hv h1 hf hm ih1 ih2 ha2 hd2
  go_enter Tryd.func61, Tryd.ntmps61
  go_wp2_with (first | (go_at_call 33; refine (Valid.calls b a t d true _ hc HV.out).mono ?_; rintro e w1 ⟨rfl, rfl⟩) | (go_at_call 62; refine (HF.out _).mono ?_; rintro e w2 ⟨rfl, hb2⟩))
  · obtain ⟨c0, c1, c2⟩ := hc.kept hb2 hc.lt
    have hn := World.new_ne w2 _ c0
    go_region_with (first | (go_at_call 41; refine (HA.out _).mono ?_; rintro e x3 ⟨rfl, rfl⟩) | (go_at_call 44; refine (HD.out _).mono ?_; rintro e x4 ⟨rfl, rfl⟩) | (go_at_call 61; refine (IH1.out _ _ ?_).mono ?_; (exact dc_of (by simp) (by simp) (by simp)); rintro e w5 ⟨rem, rfl, hbl⟩))
    go_wp2
    have hb3 := hb2.trans ((below_two hbl).mono hb2.size)
    obtain ⟨c0, c1, c2⟩ := dc_keep (below_two hbl) c0 c1 c2
    have hn := World.new_ne w5 _ c0
    clear hbl
    go_region_with (first | (go_at_call 41; refine (HA.out _).mono ?_; rintro e x3 ⟨rfl, rfl⟩) | (go_at_call 44; refine (HD.out _).mono ?_; rintro e x4 ⟨rfl, rfl⟩) | (go_at_call 61; refine (IH2.out _ _ ?_).mono ?_; (exact dc_of (by simp) (by simp) (by simp)); rintro e w6 ⟨ty, u, rem, rfl, hbl⟩))
    go_wp2
    go_ret2
    exact ⟨_, _, rfl, ⟨rfl, _, _, rfl⟩, hb3.trans ((below_two hbl).mono hb3.size)⟩
set_option maxRecDepth 100000 in
set_option maxHeartbeats 4000000 in
theorem vs_d4 (s : ByteArray) (b : Nat) (w : World) (a t d : Int) (hc : Dc w b a t d) (hv : (decide (a ≤ 32) && decide (t ≤ 32) && decide (d ≤ 32)) = true) (hs : s.size ≤ 4611686018427387904)
    (h97 : bt s 0 = 97) (h1 : 1 < s.size) (hb : bt s 1 = 123) (q : Nat) (hq : 1 ≤ q) (hq2 : q + 2 ≤ s.size)
    (hf : ∀ w : World, Calls Tryd.prog 62 #[.string (s.extract 1 s.size), .int .i32 123, .int .i32 125] w fun e w' => e = .returned (.int .i64 q) ∧ Below w.heap.size w w') (m : ByteArray) (hm : s.extract 2 (q + 1) = m) (h0 : 0 < m.size) (ha : -4611686018427387904 ≤ a) (hd : -4611686018427387904 ≤ d)
    (r : ByteArray) (hr : 0 < r.size) (ih1 : ∀ (b : Nat) (w : World), Dc w b (a + 1) t (d + 1) → Calls Tryd.prog 61 #[.string (m.extract 0 1), .pointer (some ⟨b, 0, none⟩)] w fun e w' => ∃ rem, e = .returned (.tuple #[.nilIface, .string rem]) ∧ Below w.heap.size w w') (ih2 : ∀ (b : Nat) (w : World), Dc w b (a + 1) t (d + 1) → Calls Tryd.prog 61 #[.string (m.extract 1 m.size), .pointer (some ⟨b, 0, none⟩)] w fun e w' => e = .returned (.tuple #[.nilIface, .string r]) ∧ Below w.heap.size w w') :
    Calls Tryd.prog 61 #[.string s, .pointer (some ⟨b, 0, none⟩)] w fun e w' => ∃ ev rem, e = .returned (.tuple #[ev, .string rem]) ∧ VsOut none ev rem ∧ Below w.heap.size w w' := by
  have hne : s.toList.isEmpty = false := by
    cases e : s.toList with
    | nil => exact absurd (toList_nil.mp e) (by omega)
    | cons x l => rfl
  have hx6 : ∀ h : 0 < s.size, ((s[0]'h).toNat : Int) = bt s 0 := bt_at s 0
  have hx7 : ∀ h : 1 < s.size, ((s[1]'h).toNat : Int) = bt s 1 := bt_at s 1
  rw [h97] at hx6
  rw [hb] at hx7
  have HV := Aside0.mk hv
  have q6 : (0 < s.size) = True := eq_true (by omega)
  have qi6 : (0 < (s.size : Int)) = True := eq_true (by omega)
  have q7 : (1 ≤ s.size) = True := eq_true (by omega)
  have qi7 : (1 ≤ (s.size : Int)) = True := eq_true (by omega)
  have q8 : s.size - 0 = s.size := by omega
  have q9 : (1 < s.size) = True := eq_true h1
  have qi9 : (1 < (s.size : Int)) = True := eq_true (by omega)
  have qd9 : decide (1 < (s.size : Int)) = true := decide_eq_true (by omega)
  have HF := Aside0.mk hf
  have hsl : ∀ wx, (Instr.slice 9 (.string s) (some (.int .i64 2)) (some (.int .i64 ((q : Int) + 1))) none).run Tryd.prog wx = .ok (.string m) wx := fun wx => by
    have := run_slice_string (P := Tryd.prog) wx 9 s .i64 .i64 2 ((q : Int) + 1) Tryd.underlying9 (by omega) (by omega) (by omega)
    rw [this, ← hm, show ((q : Int) + 1).toNat = q + 1 by omega]; rfl
  have g1 : (q : Int) + 1 + 1 = q + 2 := by omega
  have g2 : ((q : Int) == -1) = false := by rw [beq_eq_false_iff_ne]; omega
  have m6 : (1 ≤ m.size) = True := eq_true (by omega)
  have mi6 : (1 ≤ (m.size : Int)) = True := eq_true (by omega)
  have m7 : ((m.size : Int) == 0) = false := by rw [beq_eq_false_iff_ne]; omega
  have ha2 : a ≤ 32 := by simp only [Bool.and_eq_true, decide_eq_true_eq] at hv; exact hv.1.1
  have hd2 : d ≤ 32 := by simp only [Bool.and_eq_true, decide_eq_true_eq] at hv; exact hv.2
  have HA := Aside0.mk fun (w : World) => EnterArray.calls a t d w (by omega) ha2
  have HD := Aside0.mk fun (w : World) => EnterDictEntry.calls (a + 1) t d w (by omega) hd2
  have IH1 := Aside0.mk ih1
  have IH2 := Aside0.mk ih2
  have r6 : r.toList.isEmpty = false := by
    cases e : r.toList with
    | nil => exact absurd (toList_nil.mp e) (by omega)
    | cons x l => rfl
  clear hv h1 hf hm ih1 ih2 ha2 hd2
  go_enter Tryd.func61, Tryd.ntmps61
  go_wp2_with (first | (go_at_call 33; refine (Valid.calls b a t d true _ hc HV.out).mono ?_; rintro e w1 ⟨rfl, rfl⟩) | (go_at_call 62; refine (HF.out _).mono ?_; rintro e w2 ⟨rfl, hb2⟩))
  · obtain ⟨c0, c1, c2⟩ := hc.kept hb2 hc.lt
    have hn := World.new_ne w2 _ c0
    go_region_with (first | (go_at_call 41; refine (HA.out _).mono ?_; rintro e x3 ⟨rfl, rfl⟩) | (go_at_call 44; refine (HD.out _).mono ?_; rintro e x4 ⟨rfl, rfl⟩) | (go_at_call 61; refine (IH1.out _ _ ?_).mono ?_; (exact dc_of (by simp) (by simp) (by simp)); rintro e w5 ⟨rem, rfl, hbl⟩))
    go_wp2
    have hb3 := hb2.trans ((below_two hbl).mono hb2.size)
    obtain ⟨c0, c1, c2⟩ := dc_keep (below_two hbl) c0 c1 c2
    have hn := World.new_ne w5 _ c0
    clear hbl
    go_region_with (first | (go_at_call 41; refine (HA.out _).mono ?_; rintro e x3 ⟨rfl, rfl⟩) | (go_at_call 44; refine (HD.out _).mono ?_; rintro e x4 ⟨rfl, rfl⟩) | (go_at_call 61; refine (IH2.out _ _ ?_).mono ?_; (exact dc_of (by simp) (by simp) (by simp)); rintro e w6 ⟨rfl, hbl⟩))
    go_wp2
    go_ret2
    exact ⟨_, _, rfl, ⟨rfl, _, _, rfl⟩, hb3.trans ((below_two hbl).mono hb3.size)⟩
set_option maxRecDepth 100000 in
set_option maxHeartbeats 4000000 in
theorem vs_d5 (s : ByteArray) (b : Nat) (w : World) (a t d : Int) (hc : Dc w b a t d) (hv : (decide (a ≤ 32) && decide (t ≤ 32) && decide (d ≤ 32)) = true) (hs : s.size ≤ 4611686018427387904)
    (h97 : bt s 0 = 97) (h1 : 1 < s.size) (hb : bt s 1 = 123) (q : Nat) (hq : 1 ≤ q) (hq2 : q + 2 ≤ s.size)
    (hf : ∀ w : World, Calls Tryd.prog 62 #[.string (s.extract 1 s.size), .int .i32 123, .int .i32 125] w fun e w' => e = .returned (.int .i64 q) ∧ Below w.heap.size w w') (m : ByteArray) (hm : s.extract 2 (q + 1) = m) (h0 : 0 < m.size) (ha : -4611686018427387904 ≤ a) (hd : -4611686018427387904 ≤ d)
    (r : ByteArray) (hr : r.size = 0) (ih1 : ∀ (b : Nat) (w : World), Dc w b (a + 1) t (d + 1) → Calls Tryd.prog 61 #[.string (m.extract 0 1), .pointer (some ⟨b, 0, none⟩)] w fun e w' => ∃ rem, e = .returned (.tuple #[.nilIface, .string rem]) ∧ Below w.heap.size w w') (ih2 : ∀ (b : Nat) (w : World), Dc w b (a + 1) t (d + 1) → Calls Tryd.prog 61 #[.string (m.extract 1 m.size), .pointer (some ⟨b, 0, none⟩)] w fun e w' => e = .returned (.tuple #[.nilIface, .string r]) ∧ Below w.heap.size w w') :
    Calls Tryd.prog 61 #[.string s, .pointer (some ⟨b, 0, none⟩)] w fun e w' => ∃ ev rem, e = .returned (.tuple #[ev, .string rem]) ∧ VsOut (some (s.extract (q + 2) s.size)) ev rem ∧ Below w.heap.size w w' := by
  have hne : s.toList.isEmpty = false := by
    cases e : s.toList with
    | nil => exact absurd (toList_nil.mp e) (by omega)
    | cons x l => rfl
  have hx6 : ∀ h : 0 < s.size, ((s[0]'h).toNat : Int) = bt s 0 := bt_at s 0
  have hx7 : ∀ h : 1 < s.size, ((s[1]'h).toNat : Int) = bt s 1 := bt_at s 1
  rw [h97] at hx6
  rw [hb] at hx7
  have HV := Aside0.mk hv
  have q6 : (0 < s.size) = True := eq_true (by omega)
  have qi6 : (0 < (s.size : Int)) = True := eq_true (by omega)
  have q7 : (1 ≤ s.size) = True := eq_true (by omega)
  have qi7 : (1 ≤ (s.size : Int)) = True := eq_true (by omega)
  have q8 : s.size - 0 = s.size := by omega
  have q9 : (1 < s.size) = True := eq_true h1
  have qi9 : (1 < (s.size : Int)) = True := eq_true (by omega)
  have qd9 : decide (1 < (s.size : Int)) = true := decide_eq_true (by omega)
  have HF := Aside0.mk hf
  have hsl : ∀ wx, (Instr.slice 9 (.string s) (some (.int .i64 2)) (some (.int .i64 ((q : Int) + 1))) none).run Tryd.prog wx = .ok (.string m) wx := fun wx => by
    have := run_slice_string (P := Tryd.prog) wx 9 s .i64 .i64 2 ((q : Int) + 1) Tryd.underlying9 (by omega) (by omega) (by omega)
    rw [this, ← hm, show ((q : Int) + 1).toNat = q + 1 by omega]; rfl
  have g1 : (q : Int) + 1 + 1 = q + 2 := by omega
  have g2 : ((q : Int) == -1) = false := by rw [beq_eq_false_iff_ne]; omega
  have m6 : (1 ≤ m.size) = True := eq_true (by omega)
  have mi6 : (1 ≤ (m.size : Int)) = True := eq_true (by omega)
  have m7 : ((m.size : Int) == 0) = false := by rw [beq_eq_false_iff_ne]; omega
  have ha2 : a ≤ 32 := by simp only [Bool.and_eq_true, decide_eq_true_eq] at hv; exact hv.1.1
  have hd2 : d ≤ 32 := by simp only [Bool.and_eq_true, decide_eq_true_eq] at hv; exact hv.2
  have HA := Aside0.mk fun (w : World) => EnterArray.calls a t d w (by omega) ha2
  have HD := Aside0.mk fun (w : World) => EnterDictEntry.calls (a + 1) t d w (by omega) hd2
  have IH1 := Aside0.mk ih1
  have IH2 := Aside0.mk ih2
  have r6 : r.toList.isEmpty = true := by rw [toList_nil.mpr hr]; rfl
  clear hv h1 hf hm ih1 ih2 ha2 hd2
  go_enter Tryd.func61, Tryd.ntmps61
  go_wp2_with (first | (go_at_call 33; refine (Valid.calls b a t d true _ hc HV.out).mono ?_; rintro e w1 ⟨rfl, rfl⟩) | (go_at_call 62; refine (HF.out _).mono ?_; rintro e w2 ⟨rfl, hb2⟩))
  · obtain ⟨c0, c1, c2⟩ := hc.kept hb2 hc.lt
    have hn := World.new_ne w2 _ c0
    go_region_with (first | (go_at_call 41; refine (HA.out _).mono ?_; rintro e x3 ⟨rfl, rfl⟩) | (go_at_call 44; refine (HD.out _).mono ?_; rintro e x4 ⟨rfl, rfl⟩) | (go_at_call 61; refine (IH1.out _ _ ?_).mono ?_; (exact dc_of (by simp) (by simp) (by simp)); rintro e w5 ⟨rem, rfl, hbl⟩))
    go_wp2
    have hb3 := hb2.trans ((below_two hbl).mono hb2.size)
    obtain ⟨c0, c1, c2⟩ := dc_keep (below_two hbl) c0 c1 c2
    have hn := World.new_ne w5 _ c0
    clear hbl
    go_region_with (first | (go_at_call 41; refine (HA.out _).mono ?_; rintro e x3 ⟨rfl, rfl⟩) | (go_at_call 44; refine (HD.out _).mono ?_; rintro e x4 ⟨rfl, rfl⟩) | (go_at_call 61; refine (IH2.out _ _ ?_).mono ?_; (exact dc_of (by simp) (by simp) (by simp)); rintro e w6 ⟨rfl, hbl⟩))
    go_wp2
    go_ret2
    exact ⟨_, _, rfl, ⟨rfl, rfl⟩, hb3.trans ((below_two hbl).mono hb3.size)⟩
end Go.Proofs.YtnojjfklnihmnaaDoor.Given
end
