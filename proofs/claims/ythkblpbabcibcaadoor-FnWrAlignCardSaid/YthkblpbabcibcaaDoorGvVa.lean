import Derived.Test.YthkblpbabcibcaaDoorGvVs

namespace Go.Proofs.YthkblpbabcibcaaDoor.Given
open Go.RowKit Go.Proofs.YthkblpbabcibcaaDoorW.PrintWords Go.Proofs.YthkblpbabcibcaaDoor.Pl Go.Proofs.YthkblpbabcibcaaDoor.Utf Go.Proofs.YthkblpbabcibcaaDoor.Bm

theorem dc_of {w : World} {b : Nat} {a t d : Int} (h0 : w.cell? ⟨b, 0, none⟩ = some (.int .i64 a)) (h1 : w.cell? ⟨b, 1, none⟩ = some (.int .i64 t)) (h2 : w.cell? ⟨b, 2, none⟩ = some (.int .i64 d)) : Dc w b a t d := ⟨h0, h1, h2⟩

theorem dc_keep {W w : World} {b : Nat} {a t d : Int} (hb : Below W.heap.size W w) (h0 : W.cell? ⟨b, 0, none⟩ = some (.int .i64 a)) (h1 : W.cell? ⟨b, 1, none⟩ = some (.int .i64 t)) (h2 : W.cell? ⟨b, 2, none⟩ = some (.int .i64 d)) :
    w.cell? ⟨b, 0, none⟩ = some (.int .i64 a) ∧ w.cell? ⟨b, 1, none⟩ = some (.int .i64 t) ∧ w.cell? ⟨b, 2, none⟩ = some (.int .i64 d) := by
  have h : Dc W b a t d := ⟨h0, h1, h2⟩
  obtain ⟨k0, k1, k2⟩ := h.kept hb h.lt
  exact ⟨k0, k1, k2⟩

theorem below_one {w w3 : World} {o : Obj} (hb : Below (w.alloc o).drew.heap.size (w.alloc o).drew w3) : Below w.heap.size w w3 :=
  ((Below.refl _ w).alloc (Nat.le_refl _) o).drew.trans (hb.mono (by simp))

set_option maxRecDepth 100000 in
set_option maxHeartbeats 4000000 in
theorem vs_arr (k : Nat) (ih : VsGood k) (s : ByteArray) (b : Nat) (w : World) (a t d : Int) (hc : Dc w b a t d) (hv : (decide (a ≤ 32) && decide (t ≤ 32) && decide (d ≤ 32)) = true) (hpos : 0 < s.size) (hk : s.size < k + 1) (hs : s.size ≤ 4611686018427387904) (ha : -4611686018427387904 ≤ a) (ht : -4611686018427387904 ≤ t) (hd : -4611686018427387904 ≤ d)
    (h97 : bt s 0 = 97) (hb : ¬ (1 < s.size ∧ bt s 1 = 123)) :
    Calls Tryd.prog 16 #[.string s, .pointer (some ⟨b, 0, none⟩)] w fun e w' => ∃ ev rem, e = .returned (.tuple #[ev, .string rem]) ∧ VsOut (vs k (s.extract 1 s.size) (a + 1) t d) ev rem ∧ Below w.heap.size w w' := by
  have hne : s.toList.isEmpty = false := by
    cases e : s.toList with
    | nil => exact absurd (toList_nil.mp e) (by omega)
    | cons x l => rfl
  have hx6 : ∀ h : 0 < s.size, ((s[0]'h).toNat : Int) = bt s 0 := bt_at s 0
  rw [h97] at hx6
  have ha2 : a ≤ 32 := by simp only [Bool.and_eq_true, decide_eq_true_eq] at hv; exact hv.1.1
  have HV := Aside0.mk hv
  have IH := Aside0.mk fun (b : Nat) (w : World) (hc : Dc w b (a + 1) t d) => ih (s.extract 1 s.size) (a + 1) t d b w (by rw [ByteArray.size_extract]; omega) (by rw [ByteArray.size_extract]; omega) (by omega) ht hd hc
  have HA := Aside0.mk fun (w : World) => EnterArray.calls a t d w (by omega) ha2
  have q6 := eq_true hpos
  have qi6 : (0 < (s.size : Int)) = True := eq_true (by omega)
  have q7 : (1 ≤ s.size) = True := eq_true (by omega)
  have qi7 : (1 ≤ (s.size : Int)) = True := eq_true (by omega)
  have q8 : s.size - 0 = s.size := by omega
  have hx7 : ∀ h : 1 < s.size, ((s[1]'h).toNat : Int) = bt s 1 := bt_at s 1
  obtain ⟨c0, c1, c2⟩ := hc
  have two : (decide ((1 : Int) < s.size) = false) ∨ (decide ((1 : Int) < s.size) = true ∧ (1 < s.size) ∧ (bt s 1 == 123) = false) := by
    by_cases z : 1 < s.size
    · exact .inr ⟨decide_eq_true (by omega), z, by rw [beq_eq_false_iff_ne]; exact fun e => hb ⟨z, e⟩⟩
    · exact .inl (decide_eq_false (by omega))
  have hn := World.new_ne w _ c0
  clear ih hv hb hk ha ht hd ha2 hpos hs
  rcases two with z | ⟨z, z1, z2⟩
  · clear hx7
    go_enter Tryd.func16, Tryd.ntmps16
    go_wp2_with (go_at_call 22; refine (Valid.calls b a t d true _ ⟨c0, c1, c2⟩ HV.out).mono ?_; rintro e w1 ⟨rfl, rfl⟩)
    go_region_held3 (fun w' => w'.cell? ⟨b, 0, none⟩ = some (.int .i64 a) ∧ w'.cell? ⟨b, 1, none⟩ = some (.int .i64 t) ∧ w'.cell? ⟨b, 2, none⟩ = some (.int .i64 d)) (go_keep)
      (first | (go_at_call 24; refine (HA.out _).mono ?_; rintro e w2 ⟨rfl, rfl⟩) | (go_at_call 16; refine (IH.out _ _ ?_).mono ?_; (exact dc_of (by simp) (by simp) (by simp)); rintro e w3 ⟨ev, rem, rfl, ho, hbl⟩; obtain ⟨k0, k1, k2⟩ := dc_keep hbl (b := b) (a := a) (t := t) (d := d) (by simp [*]) (by simp [*]) (by simp [*])))
    go_wp2
    go_ret2
    exact ⟨_, _, rfl, ho, below_one hbl⟩
  · have z3 : (1 < (s.size : Int)) = True := eq_true (by omega)
    go_enter Tryd.func16, Tryd.ntmps16
    go_wp2_with (go_at_call 22; refine (Valid.calls b a t d true _ ⟨c0, c1, c2⟩ HV.out).mono ?_; rintro e w1 ⟨rfl, rfl⟩)
    go_region_held3 (fun w' => w'.cell? ⟨b, 0, none⟩ = some (.int .i64 a) ∧ w'.cell? ⟨b, 1, none⟩ = some (.int .i64 t) ∧ w'.cell? ⟨b, 2, none⟩ = some (.int .i64 d)) (go_keep)
      (first | (go_at_call 24; refine (HA.out _).mono ?_; rintro e w2 ⟨rfl, rfl⟩) | (go_at_call 16; refine (IH.out _ _ ?_).mono ?_; (exact dc_of (by simp) (by simp) (by simp)); rintro e w3 ⟨ev, rem, rfl, ho, hbl⟩; obtain ⟨k0, k1, k2⟩ := dc_keep hbl (b := b) (a := a) (t := t) (d := d) (by simp [*]) (by simp [*]) (by simp [*])))
    go_wp2
    go_ret2
    exact ⟨_, _, rfl, ho, below_one hbl⟩
end Go.Proofs.YthkblpbabcibcaaDoor.Given
