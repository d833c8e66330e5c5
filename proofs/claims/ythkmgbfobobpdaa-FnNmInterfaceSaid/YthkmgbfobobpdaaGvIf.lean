import Derived.Test.YthkmgbfobobpdaaGvMem
import Derived.BigQuiet
namespace Go.Proofs.Ythkmgbfobobpdaa.Given
open Go.RowKit Go.Proofs.YthkmgbfobobpdaaW.PrintWords Go.Proofs.Ythkmgbfobobpdaa.PNl Go.Proofs.Ythkmgbfobobpdaa.Pl Go.Proofs.Ythkmgbfobobpdaa.Utf Go.Proofs.Ythkmgbfobobpdaa.NmPl

def IsInterface.f (s : ByteArray) : Option Bool := if s.size ≤ 1099511627776 then some (okIface (bytesOf s)) else none
theorem empty_bytes {s : ByteArray} (h : s.size = 0) : bytesOf s = [] := List.length_eq_zero_iff.mp (by rw [bytesOf_length]; exact h)
theorem iface_empty {s : ByteArray} (h : s.size = 0) : okIface (bytesOf s) = false := by rw [empty_bytes h]; decide
theorem iface_long {s : ByteArray} (h : 255 < s.size) : okIface (bytesOf s) = false := by
  unfold okIface; rw [bytesOf_length, decide_eq_false (by omega)]; rfl
theorem iface_dot {s : ByteArray} (h0 : 0 < s.size) (h : bt s 0 = 46) : okIface (bytesOf s) = false := by
  obtain ⟨t, e⟩ := head_bytes s h0
  unfold okIface; rw [e, h, splitL_cons_eq]; simp [elemOk]
theorem iface_few {s : ByteArray} (h : (splitL 46 (bytesOf s)).length < 2) : okIface (bytesOf s) = false := by
  unfold okIface; rw [decide_eq_false (show ¬ 2 ≤ (splitL 46 (bytesOf s)).length by omega)]; simp
theorem iface_elem {s v : ByteArray} {i : Nat} (hv : ((splitL 46 (bytesOf s)).map strOfNums)[i]? = some v) (hsub : ∀ p, p ∈ splitL 46 (bytesOf s) → bytesOf (strOfNums p) = p) (h : elemOk (bytesOf v) = false) : okIface (bytesOf s) = false := by
  rw [List.getElem?_map] at hv
  obtain ⟨p, hp, rfl⟩ := Option.map_eq_some_iff.mp hv
  have hm : p ∈ splitL 46 (bytesOf s) := List.mem_iff_getElem?.mpr ⟨i, hp⟩
  rw [hsub p hm] at h
  have : (splitL 46 (bytesOf s)).all elemOk = false := List.all_eq_false.mpr ⟨p, hm, by rw [h]; decide⟩
  unfold okIface; rw [this]; simp
theorem iface_good {s : ByteArray} (h1 : s.size ≤ 255) (h2 : 2 ≤ (splitL 46 (bytesOf s)).length) (h : (splitL 46 (bytesOf s)).all elemOk = true) : okIface (bytesOf s) = true := by
  unfold okIface; rw [bytesOf_length, decide_eq_true h1, decide_eq_true h2, h]; rfl
theorem splitL_len (c : Int) (l : List Int) : (splitL c l).length ≤ l.length + 1 := by
  induction l with
  | nil => exact Nat.le_refl _
  | cons x t ih =>
    by_cases e : x = c
    · subst e; rw [splitL_cons_eq]; simp; exact ih
    · obtain ⟨p, ps, e1, e2⟩ := splitL_cons_ne e t
      rw [e2]; rw [e1] at ih; simp at ih ⊢; omega
theorem splitL_mem (c : Int) (P : Int → Prop) : ∀ (l : List Int), (∀ x, x ∈ l → P x) → ∀ p, p ∈ splitL c l → ∀ x, x ∈ p → P x := by
  intro l
  induction l with
  | nil => intro _ p hp x hx; simp [splitL] at hp; subst hp; cases hx
  | cons y t ih =>
    intro h p hp x hx
    have iht := ih (fun z hz => h z (List.mem_cons_of_mem _ hz))
    by_cases e : y = c
    · subst e
      rw [splitL_cons_eq] at hp
      rcases List.mem_cons.mp hp with rfl | hp
      · cases hx
      · exact iht p hp x hx
    · obtain ⟨q, qs, e1, e2⟩ := splitL_cons_ne e t
      rw [e2] at hp
      rcases List.mem_cons.mp hp with rfl | hp
      · rcases List.mem_cons.mp hx with rfl | hx
        · exact h x (List.mem_cons_self ..)
        · exact iht q (by rw [e1]; exact List.mem_cons_self ..) x hx
      · exact iht p (by rw [e1]; exact List.mem_cons_of_mem _ hp) x hx
theorem bytes_back (l : List Int) (h : ∀ x, x ∈ l → 0 ≤ x ∧ x ≤ 255) : bytesOf (strOfNums l) = l := by
  unfold bytesOf strOfNums
  simp only [List.map_map]
  have : ∀ x, x ∈ l → ((fun b : UInt8 => (b.toNat : Int)) ∘ fun n : Int => UInt8.ofNat n.toNat) x = x := by
    intro x hx
    obtain ⟨h0, h1⟩ := h x hx
    simp only [Function.comp, UInt8.toNat_ofNat']
    omega
  exact (List.map_congr_left this).trans (List.map_id' l)
theorem bytes_range (s : ByteArray) : ∀ x, x ∈ bytesOf s → 0 ≤ x ∧ x ≤ 255 := by
  intro x hx
  unfold bytesOf at hx
  obtain ⟨b, _, rfl⟩ := List.mem_map.mp hx
  have := b.toNat_lt
  omega
theorem parts_back (c : Int) (s : ByteArray) : ∀ p, p ∈ splitL c (bytesOf s) → bytesOf (strOfNums p) = p := fun p hp => bytes_back p (splitL_mem c _ _ (bytes_range s) p hp)

/-- The first parts of a text are elements of names. -/
def ElemsTo (P : List Int → Bool) (l : List ByteArray) (i : Nat) : Prop := ∀ j v, j < i → l[j]? = some v → P (bytesOf v) = true
theorem ElemsTo.next {P : List Int → Bool} {l : List ByteArray} {i : Nat} (h : ElemsTo P l i) {v : ByteArray} (hv : l[i]? = some v) (hP : P (bytesOf v) = true) : ElemsTo P l (i + 1) := by
  intro j u hj hu
  by_cases e : j = i
  · subst e; rw [hv] at hu; rw [← Option.some.inj hu]; exact hP
  · exact h j u (by omega) hu
theorem ElemsTo.all {P : List Int → Bool} {s : ByteArray} {c : Int} {n : Nat} (hn : n = ((splitL c (bytesOf s)).map strOfNums).length) (h : ElemsTo P ((splitL c (bytesOf s)).map strOfNums) n) : (splitL c (bytesOf s)).all P = true := by
  rw [List.all_eq_true]
  intro p hp
  obtain ⟨j, hj⟩ := List.mem_iff_getElem?.mp hp
  have hlt : j < n := by
    rw [hn, List.length_map]
    exact (List.getElem?_eq_some_iff.mp hj).1
  have := h j (strOfNums p) hlt (by rw [List.getElem?_map, hj]; rfl)
  rw [parts_back c s p hp] at this
  exact this
theorem elem_empty {v : ByteArray} (h : v.size = 0) : elemOk (bytesOf v) = false := by rw [empty_bytes h]; rfl
theorem elem_dig {v : ByteArray} (h0 : 0 < v.size) (h : 48 ≤ bt v 0 ∧ bt v 0 ≤ 57) : elemOk (bytesOf v) = false := by
  obtain ⟨t, e⟩ := head_bytes v h0
  unfold elemOk; rw [e]; simp [dig, h]
theorem elem_bad {v : ByteArray} (h : (bytesOf v).all mc = false) : elemOk (bytesOf v) = false := by
  unfold elemOk; rw [h]; simp
theorem elem_good {v : ByteArray} (h0 : 0 < v.size) (h : ¬ (48 ≤ bt v 0 ∧ bt v 0 ≤ 57)) (hm : (bytesOf v).all mc = true) : elemOk (bytesOf v) = true := by
  obtain ⟨t, e⟩ := head_bytes v h0
  unfold elemOk; rw [hm, e]; simp [dig]; omega

set_option maxRecDepth 100000 in
set_option maxHeartbeats 4000000 in
theorem IsInterface.calls (s : ByteArray) (r : Bool) (w : World) (h : IsInterface.f s = some r) :
    Calls Try.prog 55 #[.string s] w fun e w' => e = .returned (.bool r) ∧ Below w.heap.size w w' := by
  unfold IsInterface.f at h
  by_cases hs : s.size ≤ 1099511627776
  case neg => rw [if_neg hs] at h; cases h
  rw [if_pos hs] at h
  have hr := Option.some.inj h
  clear h
  by_cases h0 : s.size = 0
  · rw [iface_empty h0] at hr
    subst hr
    have c0 : ((s.size : Int) == 0) = true := by rw [beq_iff_eq]; omega
    clear h0 hs
    go_enter Try.func55, Try.ntmps55
    go_wp2
    go_ret
    exact ⟨rfl, Below.refl _ _⟩
  have c0 : ((s.size : Int) == 0) = false := by rw [beq_eq_false_iff_ne]; omega
  by_cases h1 : 255 < s.size
  · rw [iface_long h1] at hr
    subst hr
    have c1 : decide (255 < (s.size : Int)) = true := decide_eq_true (by omega)
    have c2 : decide (255 < s.size) = true := decide_eq_true h1
    clear h0 h1 hs
    go_enter Try.func55, Try.ntmps55
    go_wp2
    go_ret
    exact ⟨rfl, Below.refl _ _⟩
  have c1 : decide (255 < (s.size : Int)) = false := decide_eq_false (by omega)
  have c2 : decide (255 < s.size) = false := decide_eq_false h1
  have hpos : 0 < s.size := by omega
  have hx6 : ∀ h : 0 < s.size, ((s[0]'h).toNat : Int) = bt s 0 := bt_at s 0
  have q6 := eq_true hpos
  have qi6 : (0 < (s.size : Int)) = True := eq_true (by omega)
  by_cases hdot : bt s 0 = 46
  · rw [iface_dot hpos hdot] at hr
    subst hr
    have c3 : (bt s 0 == 46) = true := by rw [beq_iff_eq]; exact hdot
    clear h0 h1 hs hdot hpos
    go_enter Try.func55, Try.ntmps55
    go_wp2
    go_ret
    exact ⟨rfl, Below.refl _ _⟩
  have c3 : (bt s 0 == 46) = false := by rw [beq_eq_false_iff_ne]; exact hdot
  obtain ⟨k, hk⟩ := Ev.rounds (split_f s 46 hs)
  have HK := Aside0.mk hk
  have HR := Aside0.mk hr
  have HS := Aside0.mk (show s.size ≤ 255 by omega)
  clear hk hr h0 h1 hdot hpos hs
  obtain ⟨l, hl⟩ : ∃ l, (splitL ((46 : UInt8).toNat : Int) (bytesOf s)).map strOfNums = l := ⟨_, rfl⟩
  rw [hl] at HK
  have HL := Aside0.mk hl
  clear hl
  by_cases hfew : l.length < 2
  · have hf : okIface (bytesOf s) = false := iface_few (by have := HL.out; rw [← this, List.length_map] at hfew; exact hfew)
    rw [HR.out] at hf
    subst hf
    have c4 : decide ((l.length : Int) < 2) = true := decide_eq_true (by omega)
    have c5 : decide (l.length < 2) = true := decide_eq_true hfew
    clear hfew
    go_enter Try.func55, Try.ntmps55
    go_wp2_with (go_at_call 57; refine (dbus_zzSplit.calls k s _ _ _ HK.out).mono ?_; rintro e w1 ⟨v, rfl, ho, hb⟩; obtain ⟨A, c, eo⟩ := Kd.R_slice ho; subst eo)
    go_ret
    exact ⟨rfl, hb⟩
  have c4 : decide ((l.length : Int) < 2) = false := decide_eq_false (by omega)
  have c5 : decide (l.length < 2) = false := decide_eq_false hfew
  have HF := Aside0.mk hfew
  clear hfew
  have hlen : l.length ≤ 256 := by
    have := splitL_len ((46 : UInt8).toNat : Int) (bytesOf s)
    rw [← HL.out, List.length_map]
    rw [bytesOf_length] at this
    have := HS.out
    omega
  go_enter Try.func55, Try.ntmps55
  go_wp2_with (go_at_call 57; refine (dbus_zzSplit.calls k s _ _ _ HK.out).mono ?_; rintro e w1 ⟨v, rfl, ho, hb⟩; obtain ⟨A, c, eo⟩ := Kd.R_slice ho; subst eo; have HO := Aside0.mk ho; have HB := Aside0.mk hb; clear ho hb)
  go_loopw [28] (fun v28 w' => ∃ i : Nat, v28 = .int .i64 (i : Int) ∧ i ≤ l.length ∧ Aside0 (ElemsTo elemOk l i) ∧ Aside0 (Kd.R Kd.string 9 w' w.heap.size (fun _ => True) (.slice A l.length c) l) ∧ Aside0 (Below w.heap.size w w')) (fun v28 _ => l.length - (intOf v28).toNat)
  case atStart => exact ⟨0, rfl, by omega, Aside0.mk (fun j v hj _ => by omega), HO, HB⟩
  case round =>
    obtain ⟨i, rfl, hi, hel, hO, hB⟩ := hrel
    by_cases hlt : i < l.length
    · have hp1 : (0 : Int) ≤ (i : Int) := by omega
      have hp2 : (i : Int) < (l.length : Int) := by omega
      obtain ⟨ad, e, hcell⟩ := Kd.at_string (Kd.R_reads' hO.out).2.2 (i : Int) hp1 hp2
      cases e
      have c6 : decide ((i : Int) < (l.length : Int)) = true := decide_eq_true hp2
      obtain ⟨v, hv⟩ : ∃ v, l[i]? = some v := ⟨l[i], List.getElem?_eq_getElem hlt⟩
      have hrd : rdOf ByteArray.empty l (i : Int) = v := by
        unfold rdOf; rw [Int.toNat_natCast, List.getD_eq_getElem?_getD, hv]; rfl
      rw [hrd, Int.toNat_natCast] at hcell
      have HV := Aside0.mk hv
      clear hv hrd c0 c1 c2 hx6 q6 qi6 c3 c4 c5
      obtain ⟨wo, rfl⟩ : ∃ wo : World, wo = wr := ⟨_, rfl⟩
      have hbad : elemOk (bytesOf v) = false → r = false := by
        intro he
        have e := HL.out
        have h2 := HV.out
        rw [← e] at h2
        have := iface_elem h2 (parts_back 46 s) he
        rw [HR.out] at this
        exact this
      have HBAD := Aside0.mk hbad
      clear hbad
      by_cases v0 : v.size = 0
      · have hr := HBAD.out (elem_empty v0)
        subst hr
        have d0 : ((v.size : Int) == 0) = true := by rw [beq_iff_eq]; omega
        clear v0
        go_wp2
        go_ret
        exact ⟨rfl, hB.out⟩
      have d0 : ((v.size : Int) == 0) = false := by rw [beq_eq_false_iff_ne]; omega
      have hpos : 0 < v.size := by omega
      have hx6 : ∀ h : 0 < v.size, ((v[0]'h).toNat : Int) = bt v 0 := bt_at v 0
      have q6 := eq_true hpos
      have qi6 : (0 < (v.size : Int)) = True := eq_true (by omega)
      by_cases hd : 48 ≤ bt v 0 ∧ bt v 0 ≤ 57
      · have hr := HBAD.out (elem_dig hpos hd)
        subst hr
        have d1 : decide (48 ≤ bt v 0) = true := decide_eq_true hd.1
        have d2 : decide (bt v 0 ≤ 57) = true := decide_eq_true hd.2
        clear hd v0 hpos
        go_wp2
        go_ret
        exact ⟨rfl, hB.out⟩
      have hgood := fun hm => elem_good hpos hd hm
      have HG := Aside0.mk hgood
      clear hgood
      have two : (decide (48 ≤ bt v 0) = true ∧ decide (bt v 0 ≤ 57) = false) ∨ decide (48 ≤ bt v 0) = false := by
        by_cases z : 48 ≤ bt v 0
        · exact .inl ⟨decide_eq_true z, decide_eq_false (by omega)⟩
        · exact .inr (decide_eq_false z)
      have hBs := hB.out.size
      clear hd v0 hpos
      rcases two with ⟨d1, d2⟩ | d1
      all_goals
        go_wp2
        go_loopw [7] (fun _ w' => ∃ m pos : Nat, w' = (wo.drewN m).iter v pos ∧ pos ≤ v.size ∧ Aside0 (McTo v pos)) (fun _ w' => v.size - w'.iterPos wo.heap.size)
        case atStart => exact ⟨0, 0, rfl, by omega, Aside0.mk (fun j hj _ => by omega)⟩
        case round =>
          obtain ⟨m, pos, rfl, hpos, hm⟩ := hrel
          by_cases hp : pos < v.size
          · have hnx : ∀ ty, (Instr.next (.pointer (some ⟨wo.heap.size, 0, none⟩)) true ty).run Try.prog ((wo.drewN m).iter v pos) = _ := fun ty => run_next_any (wo.drewN m) v pos ty hp
            cases hmc : mc ((Utf8.decode v pos).1 : Int) with
            | true =>
              obtain ⟨hr1, hr2⟩ := rune_yes hp hmc
              have hmn := Aside0.mk (hm.out.next hp hmc)
              have hw : pos + (Utf8.decode v pos).2 ≤ v.size := by omega
              have hw2 : pos < pos + (Utf8.decode v pos).2 := by omega
              clear hr1 hr2
              go_wp2_with (go_at_call 58; refine (dbus_isMemberChar.calls _ _ _ (mc_f _)).mono ?_; rintro e w2 ⟨rfl, hd⟩)
              obtain ⟨m', rfl⟩ := iter_drawn hd
              go_roundw
              case rel => exact ⟨m', _, rfl, hw, hmn⟩
              case measure =>
                have e1 := World.iterPos_iter (wo.drewN m') v (pos + (Utf8.decode v pos).2)
                have e2 := World.iterPos_iter (wo.drewN m) v pos
                have e3 : (wo.drewN m').heap.size = wo.heap.size := rfl
                have e4 : (wo.drewN m).heap.size = wo.heap.size := rfl
                rw [e3] at e1
                rw [e4] at e2
                rw [e1, e2]
                omega
            | false =>
              have hr := HBAD.out (elem_bad (not_all pos hp (rune_no hp hmc)))
              subst hr
              go_wp2_with (go_at_call 58; refine (dbus_isMemberChar.calls _ _ _ (mc_f _)).mono ?_; rintro e w2 ⟨rfl, hd⟩)
              go_ret
              exact ⟨rfl, below_drawn (below_it (pw_below_drewN hB.out m) hBs _ _) hd⟩
          · obtain rfl : pos = v.size := by omega
            have hnx : ∀ ty, (Instr.next (.pointer (some ⟨wo.heap.size, 0, none⟩)) true ty).run Try.prog ((wo.drewN m).iter v v.size) = _ := fun ty => run_next_end (wo.drewN m) v v.size ty hp
            have hg := HG.out hm.out.all
            have hnext := Aside0.mk (hel.out.next HV.out hg)
            clear hg
            go_wp2
            go_roundw
            case rel => exact ⟨i + 1, by go_num, by omega, hnext, Aside0.mk (Kd.R_alloc (Kd.R_drewN hO.out m) _), Aside0.mk (below_it (pw_below_drewN hB.out m) hBs _ _)⟩
            case measure => simp [intOf]; omega
    · obtain rfl : i = l.length := by omega
      have c6 : decide ((l.length : Int) < (l.length : Int)) = false := decide_eq_false (by omega)
      have hg : okIface (bytesOf s) = true := by
        have e := HL.out
        have hn : l.length = ((splitL 46 (bytesOf s)).map strOfNums).length := by rw [← e]; rfl
        have h2 : ElemsTo elemOk ((splitL 46 (bytesOf s)).map strOfNums) l.length := by have := hel.out; rw [← e] at this ⊢; exact this
        exact iface_good HS.out (by have := HF.out; rw [hn, List.length_map] at this; omega) (ElemsTo.all hn h2)
      rw [HR.out] at hg
      subst hg
      go_wp2
      go_ret
      exact ⟨rfl, hB.out⟩
end Go.Proofs.Ythkmgbfobobpdaa.Given
