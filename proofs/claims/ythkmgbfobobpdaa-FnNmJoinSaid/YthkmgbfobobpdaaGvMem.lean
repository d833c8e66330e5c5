import Derived.Test.YthkmgbfobobpdaaNmPl
import Derived.Test.YthkmgbfobobpdaaPNlx1
import Derived.LoopTactic
import Derived.Outline
namespace Go.Proofs.Ythkmgbfobobpdaa.Given
open Go.RowKit Go.Proofs.YthkmgbfobobpdaaW.PrintWords Go.Proofs.Ythkmgbfobobpdaa.PNl Go.Proofs.Ythkmgbfobobpdaa.Pl Go.Proofs.Ythkmgbfobobpdaa.Utf Go.Proofs.Ythkmgbfobobpdaa.NmPl

def IsMember.f (s : ByteArray) : Option Bool := if s.size ≤ 1099511627776 then some (okMember (bytesOf s)) else none
theorem ret_b {a b : Bool} (h : a = b) : Ending.returned (.bool a) = .returned (.bool b) := by rw [h]
theorem below_it {B : Nat} {w W : World} (h : Below B w W) (hB : B ≤ W.heap.size) (s : ByteArray) (pos : Nat) : Below B w (W.iter s pos) := h.alloc hB _

theorem below_drawn {B : Nat} {w w1 w' : World} (h : Below B w w1) (hd : Drawn0 w1 w') : Below B w w' := by
  obtain ⟨⟨m, rfl⟩⟩ := hd
  exact pw_below_drewN h m
theorem iter_drawn {w1 W : World} {s : ByteArray} {m p : Nat} (hd : Drawn0 ((w1.drewN m).iter s p) W) : ∃ m', W = (w1.drewN m').iter s p := by
  obtain ⟨⟨n, rfl⟩⟩ := hd
  exact ⟨m + n, by rw [← World.drewN_drewN]; rfl⟩
theorem head_bytes (s : ByteArray) (h : 0 < s.size) : ∃ t, bytesOf s = bt s 0 :: t := by
  have := bytesOf_drop s 0 h
  rw [List.drop_zero] at this
  exact ⟨_, this⟩
theorem member_long {s : ByteArray} (h : 255 < s.size) : okMember (bytesOf s) = false := by
  unfold okMember; rw [bytesOf_length, decide_eq_false (by omega)]; rfl
theorem member_empty {s : ByteArray} (h : s.size = 0) : okMember (bytesOf s) = false := by
  have : bytesOf s = [] := List.length_eq_zero_iff.mp (by rw [bytesOf_length]; exact h)
  rw [this]; rfl
theorem member_bad {s : ByteArray} (h : (bytesOf s).all mc = false) : okMember (bytesOf s) = false := by
  unfold okMember elemOk; rw [h]; simp
theorem member_dig {s : ByteArray} (h0 : 0 < s.size) (h : 48 ≤ bt s 0 ∧ bt s 0 ≤ 57) : okMember (bytesOf s) = false := by
  obtain ⟨t, e⟩ := head_bytes s h0
  unfold okMember elemOk; rw [e]; simp [dig, h]
theorem member_good {s : ByteArray} (h0 : 0 < s.size) (h1 : s.size ≤ 255) (h : ¬ (48 ≤ bt s 0 ∧ bt s 0 ≤ 57)) (hm : (bytesOf s).all mc = true) : okMember (bytesOf s) = true := by
  obtain ⟨t, e⟩ := head_bytes s h0
  unfold okMember elemOk; rw [hm, bytesOf_length, decide_eq_true h1, e]; simp [dig]; omega
theorem dot_bad {s : ByteArray} {q : Nat} (hq : q < s.size) (h : bt s (q : Int) = 46) : okMember (bytesOf s) = false :=
  member_bad (not_all q hq (by rw [h]; decide))

set_option maxRecDepth 100000 in
set_option maxHeartbeats 2000000 in
theorem IsMember.calls (s : ByteArray) (r : Bool) (w : World) (h : IsMember.f s = some r) :
    Calls Try.prog 59 #[.string s] w fun e w' => e = .returned (.bool r) ∧ Below w.heap.size w w' := by
  unfold IsMember.f at h
  by_cases hs : s.size ≤ 1099511627776
  case neg => rw [if_neg hs] at h; cases h
  rw [if_pos hs] at h
  have hr := Option.some.inj h
  clear h
  by_cases h0 : s.size = 0
  · rw [member_empty h0] at hr
    subst hr
    have c0 : ((s.size : Int) == 0) = true := by rw [beq_iff_eq]; omega
    clear h0 hs
    go_enter Try.func59, Try.ntmps59
    go_wp2
    go_ret
    exact ⟨rfl, Below.refl _ _⟩
  have c0 : ((s.size : Int) == 0) = false := by rw [beq_eq_false_iff_ne]; omega
  by_cases h1 : 255 < s.size
  · rw [member_long h1] at hr
    subst hr
    have c1 : decide (255 < (s.size : Int)) = true := decide_eq_true (by omega)
    have c2 : decide (255 < s.size) = true := decide_eq_true h1
    clear h0 h1 hs
    go_enter Try.func59, Try.ntmps59
    go_wp2
    go_ret
    exact ⟨rfl, Below.refl _ _⟩
  have c1 : decide (255 < (s.size : Int)) = false := decide_eq_false (by omega)
  have c2 : decide (255 < s.size) = false := decide_eq_false h1
  have hpos : 0 < s.size := by omega
  obtain ⟨q, hq, hq2⟩ := index_f s 46 (by omega)
  obtain ⟨k, hk⟩ := Ev.rounds hq
  have HK := Aside0.mk hk
  have HR := Aside0.mk hr
  clear hk hq hr h0
  rcases hq2 with ⟨rfl, hno⟩ | ⟨p, rfl, hp, hdot, _⟩
  · clear hno
    have hx6 : ∀ h : 0 < s.size, ((s[0]'h).toNat : Int) = bt s 0 := bt_at s 0
    have q6 := eq_true hpos
    have qi6 : (0 < (s.size : Int)) = True := eq_true (by omega)
    by_cases hd : 48 ≤ bt s 0 ∧ bt s 0 ≤ 57
    · have c3 : decide (48 ≤ bt s 0) = true := decide_eq_true hd.1
      have c4 : decide (bt s 0 ≤ 57) = true := decide_eq_true hd.2
      have hg := member_dig hpos hd
      rw [HR.out] at hg
      subst hg
      clear hd
      go_enter Try.func59, Try.ntmps59
      go_wp2_with (go_at_call 62; refine (dbus_zzIndex.calls k s _ _ _ HK.out).mono ?_; rintro e w1 ⟨rfl, hd⟩)
      go_ret
      exact ⟨rfl, hd.below⟩
    · have hgood := fun hm => member_good hpos (by omega) hd hm
      have HG := Aside0.mk hgood
      clear hgood
      have two : (decide (48 ≤ bt s 0) = true ∧ decide (bt s 0 ≤ 57) = false) ∨ decide (48 ≤ bt s 0) = false := by
        by_cases z : 48 ≤ bt s 0
        · exact .inl ⟨decide_eq_true z, decide_eq_false (by omega)⟩
        · exact .inr (decide_eq_false z)
      clear hd hpos h1
      rcases two with ⟨c3, c4⟩ | c3
      all_goals
        go_enter Try.func59, Try.ntmps59
        go_wp2_with (go_at_call 62; refine (dbus_zzIndex.calls k s _ _ _ HK.out).mono ?_; rintro e w1 ⟨rfl, hd⟩)
        have hb1 := Aside0.mk hd.below
        clear hd
        go_loopw [5] (fun _ w' => ∃ m pos : Nat, w' = (w1.drewN m).iter s pos ∧ pos ≤ s.size ∧ Aside0 (McTo s pos)) (fun _ w' => s.size - w'.iterPos w1.heap.size)
        case atStart => exact ⟨0, 0, rfl, by omega, Aside0.mk (fun j hj _ => by omega)⟩
        case round =>
          obtain ⟨m, pos, rfl, hpos, hm⟩ := hrel
          by_cases hp : pos < s.size
          · have hnx : ∀ ty, (Instr.next (.pointer (some ⟨w1.heap.size, 0, none⟩)) true ty).run Try.prog ((w1.drewN m).iter s pos) = _ := fun ty => run_next_any (w1.drewN m) s pos ty hp
            cases hmc : mc ((Utf8.decode s pos).1 : Int) with
            | true =>
              obtain ⟨hr1, hr2⟩ := rune_yes hp hmc
              have hmn := Aside0.mk (hm.out.next hp hmc)
              have hw : pos + (Utf8.decode s pos).2 ≤ s.size := by omega
              have hw2 : pos < pos + (Utf8.decode s pos).2 := by omega
              clear hr1 hr2
              go_wp2_with (go_at_call 58; refine (dbus_isMemberChar.calls _ _ _ (mc_f _)).mono ?_; rintro e w2 ⟨rfl, hd⟩)
              obtain ⟨m', rfl⟩ := iter_drawn hd
              go_roundw
              case rel => exact ⟨m', _, rfl, hw, hmn⟩
              case measure =>
                have e1 := World.iterPos_iter (w1.drewN m') s (pos + (Utf8.decode s pos).2)
                have e2 := World.iterPos_iter (w1.drewN m) s pos
                have e3 : (w1.drewN m').heap.size = w1.heap.size := rfl
                have e4 : (w1.drewN m).heap.size = w1.heap.size := rfl
                rw [e3] at e1
                rw [e4] at e2
                rw [e1, e2]
                omega
            | false =>
              have hbad := member_bad (not_all pos hp (rune_no hp hmc))
              rw [HR.out] at hbad
              subst hbad
              go_wp2_with (go_at_call 58; refine (dbus_isMemberChar.calls _ _ _ (mc_f _)).mono ?_; rintro e w2 ⟨rfl, hd⟩)
              go_ret
              exact ⟨rfl, below_drawn (below_it (pw_below_drewN hb1.out m) hb1.out.size _ _) hd⟩
          · obtain rfl : pos = s.size := by omega
            have hnx : ∀ ty, (Instr.next (.pointer (some ⟨w1.heap.size, 0, none⟩)) true ty).run Try.prog ((w1.drewN m).iter s s.size) = _ := fun ty => run_next_end (w1.drewN m) s s.size ty hp
            have hg := HG.out hm.out.all
            rw [HR.out] at hg
            subst hg
            go_wp2
            go_ret
            exact ⟨rfl, below_it (pw_below_drewN hb1.out m) hb1.out.size _ _⟩
  · have hd := dot_bad hp hdot
    rw [HR.out] at hd
    subst hd
    have c3 : ((p : Int) != -1) = true := by rw [bne_iff_ne]; omega
    clear hdot hp
    go_enter Try.func59, Try.ntmps59
    go_wp2_with (go_at_call 62; refine (dbus_zzIndex.calls k s _ _ _ HK.out).mono ?_; rintro e w1 ⟨rfl, hd⟩)
    go_ret
    exact ⟨rfl, hd.below⟩
end Go.Proofs.Ythkmgbfobobpdaa.Given
