import Derived.Test.YthkmgbfobobpdaaGvIf
namespace Go.Proofs.Ythkmgbfobobpdaa.Given
open Go.RowKit Go.Proofs.YthkmgbfobobpdaaW.PrintWords Go.Proofs.Ythkmgbfobobpdaa.PNl Go.Proofs.Ythkmgbfobobpdaa.Pl Go.Proofs.Ythkmgbfobobpdaa.Utf Go.Proofs.Ythkmgbfobobpdaa.NmPl

def IsPath.f (s : ByteArray) : Option Bool := if s.size ≤ 1099511627776 then some (okPath (bytesOf s)) else none
def pathElem (p : List Int) : Bool := !p.isEmpty && p.all mc
theorem okPath_def (c : Int) (t : List Int) : okPath (c :: t) = (decide (c = 47) && (t.isEmpty || (splitL 47 t).all pathElem)) := rfl
theorem tail_bytes (s : ByteArray) (h : 0 < s.size) : bytesOf s = bt s 0 :: bytesOf (s.extract 1 s.size) := by
  have := bytesOf_drop s 0 h
  rw [List.drop_zero] at this
  rw [this, bytesOf_extract, List.take_of_length_le (by rw [bytesOf_length]; exact Nat.le_refl _)]
  rfl
theorem path_empty {s : ByteArray} (h : s.size = 0) : okPath (bytesOf s) = false := by rw [empty_bytes h]; rfl
theorem path_head {s : ByteArray} (h0 : 0 < s.size) (h : bt s 0 ≠ 47) : okPath (bytesOf s) = false := by
  rw [tail_bytes s h0, okPath_def, decide_eq_false h]; rfl
theorem path_root {s : ByteArray} (h0 : s.size = 1) (h : bt s 0 = 47) : okPath (bytesOf s) = true := by
  rw [tail_bytes s (by omega), okPath_def, decide_eq_true h, empty_bytes (s := s.extract 1 s.size) (by rw [ByteArray.size_extract]; omega)]; rfl
theorem split_end (c : Int) (a : List Int) : ∃ p ps, splitL c (a ++ [c]) = (p :: ps) ++ [[]] := by
  induction a with
  | nil => exact ⟨[], [], by rw [List.nil_append, splitL_cons_eq]; rfl⟩
  | cons x a ih =>
    obtain ⟨p, ps, ih⟩ := ih
    rw [List.cons_append]
    by_cases e : x = c
    · subst e
      exact ⟨[], p :: ps, by rw [splitL_cons_eq, ih]; rfl⟩
    · obtain ⟨q, qs, e1, e2⟩ := splitL_cons_ne e (a ++ [c])
      rw [ih, List.cons_append] at e1
      injection e1 with e3 e4
      exact ⟨x :: p, ps, by rw [e2, ← e3, ← e4]; rfl⟩
theorem path_end {s : ByteArray} (h0 : 2 ≤ s.size) (h : bt s ((s.size - 1 : Nat) : Int) = 47) : okPath (bytesOf s) = false := by
  rw [tail_bytes s (by omega), okPath_def]
  have e : bytesOf (s.extract 1 s.size) = (bytesOf (s.extract 1 s.size)).dropLast ++ [47] := by
    have hne : bytesOf (s.extract 1 s.size) ≠ [] := by
      intro z
      have := congrArg List.length z
      rw [bytesOf_length, ByteArray.size_extract] at this
      simp at this; omega
    have hl : (bytesOf (s.extract 1 s.size)).length = s.size - 1 := by rw [bytesOf_length, ByteArray.size_extract]; omega
    have h1 : (bytesOf (s.extract 1 s.size))[(bytesOf (s.extract 1 s.size)).length - 1]? = some 47 := by
      rw [hl, bytesOf_extract, List.take_of_length_le (by rw [bytesOf_length]; exact Nat.le_refl _), List.getElem?_drop, show 1 + (s.size - 1 - 1) = s.size - 1 by omega, bytesOf_get s _ (by omega), h]
    have h2 : (bytesOf (s.extract 1 s.size)).getLast hne = 47 := by
      rw [List.getLast_eq_getElem]
      rw [List.getElem?_eq_getElem (by omega)] at h1
      exact Option.some.inj h1
    have h3 := List.dropLast_concat_getLast hne
    rw [h2] at h3
    exact h3.symm
  obtain ⟨p, ps, hs⟩ := split_end 47 (bytesOf (s.extract 1 s.size)).dropLast
  rw [e, hs]
  have : ((p :: ps) ++ [[]]).all pathElem = false := by
    rw [List.all_append]; simp [pathElem]
  rw [this]
  simp
theorem path_elem {s v : ByteArray} {i : Nat} (h0 : 2 ≤ s.size) (hv : ((splitL 47 (bytesOf (s.extract 1 s.size))).map strOfNums)[i]? = some v) (h : pathElem (bytesOf v) = false) : okPath (bytesOf s) = false := by
  rw [tail_bytes s (by omega), okPath_def]
  rw [List.getElem?_map] at hv
  obtain ⟨p, hp, rfl⟩ := Option.map_eq_some_iff.mp hv
  have hm := List.mem_iff_getElem?.mpr ⟨i, hp⟩
  rw [parts_back 47 _ p hm] at h
  have : (splitL 47 (bytesOf (s.extract 1 s.size))).all pathElem = false := List.all_eq_false.mpr ⟨p, hm, by rw [h]; decide⟩
  have hne : (bytesOf (s.extract 1 s.size)).isEmpty = false := by
    cases hb : bytesOf (s.extract 1 s.size) with
    | nil =>
      have := congrArg List.length hb
      rw [bytesOf_length, ByteArray.size_extract] at this
      simp at this; omega
    | cons _ _ => rfl
  rw [this, hne]
  simp
theorem path_good {s : ByteArray} (h0 : 2 ≤ s.size) (h1 : bt s 0 = 47) (h : (splitL 47 (bytesOf (s.extract 1 s.size))).all pathElem = true) : okPath (bytesOf s) = true := by
  rw [tail_bytes s (by omega), okPath_def, decide_eq_true h1, h]; simp
theorem pelem_empty {v : ByteArray} (h : v.size = 0) : pathElem (bytesOf v) = false := by rw [empty_bytes h]; rfl
theorem pelem_bad {v : ByteArray} (h : (bytesOf v).all mc = false) : pathElem (bytesOf v) = false := by
  unfold pathElem; rw [h]; simp
theorem pelem_good {v : ByteArray} (h0 : 0 < v.size) (hm : (bytesOf v).all mc = true) : pathElem (bytesOf v) = true := by
  obtain ⟨t, e⟩ := head_bytes v h0
  unfold pathElem; rw [hm, e]; rfl

set_option maxRecDepth 100000 in
set_option maxHeartbeats 4000000 in
theorem IsPath.calls (s : ByteArray) (r : Bool) (w : World) (h : IsPath.f s = some r) :
    Calls Try.prog 44 #[.string s] w fun e w' => e = .returned (.bool r) ∧ Below w.heap.size w w' := by
  unfold IsPath.f at h
  by_cases hs : s.size ≤ 1099511627776
  case neg => rw [if_neg hs] at h; cases h
  rw [if_pos hs] at h
  have hr := Option.some.inj h
  clear h
  by_cases h0 : s.size = 0
  · rw [path_empty h0] at hr
    subst hr
    have c0 : ((s.size : Int) == 0) = true := by rw [beq_iff_eq]; omega
    clear h0 hs
    go_enter Try.func44, Try.ntmps44
    go_wp2
    go_ret
    exact ⟨rfl, Below.refl _ _⟩
  have c0 : ((s.size : Int) == 0) = false := by rw [beq_eq_false_iff_ne]; omega
  have hpos : 0 < s.size := by omega
  have hx6 : ∀ h : 0 < s.size, ((s[0]'h).toNat : Int) = bt s 0 := bt_at s 0
  have q6 := eq_true hpos
  have qi6 : (0 < (s.size : Int)) = True := eq_true (by omega)
  by_cases hh : bt s 0 = 47
  case neg =>
    rw [path_head hpos hh] at hr
    subst hr
    have c3 : (bt s 0 != 47) = true := by rw [bne_iff_ne]; exact hh
    clear h0 hs hh hpos
    go_enter Try.func44, Try.ntmps44
    go_wp2
    go_ret
    exact ⟨rfl, Below.refl _ _⟩
  have c3 : (bt s 0 != 47) = false := by rw [bne_eq_false_iff_eq]; exact hh
  have hx7 : ∀ h : s.size - 1 < s.size, ((s[s.size - 1]'h).toNat : Int) = bt s ((s.size - 1 : Nat) : Int) := bt_at s ((s.size - 1 : Nat) : Int)
  by_cases h1 : s.size = 1
  · rw [path_root h1 hh] at hr
    subst hr
    have hb : s.size - 1 = 0 := by omega
    have c4 : ((s.size : Int) != 1) = false := by rw [bne_eq_false_iff_eq]; omega
    have c5 : (s.toList == ([47] : List UInt8)) = true := by
      rw [beq_iff_eq]
      have e := tail_bytes s hpos
      rw [hh, empty_bytes (s := s.extract 1 s.size) (by rw [ByteArray.size_extract]; omega)] at e
      have : s = strOfNums [47] := by rw [← str_bytes s, e]
      rw [this, ByteArray.toList_eq]; decide
    have c6 : (bt s 0 == 47) = true := by rw [beq_iff_eq]; exact hh
    clear h0 hs hh hpos
    go_enter Try.func44, Try.ntmps44
    go_wp2
    go_ret
    exact ⟨rfl, Below.refl _ _⟩
  have h2 : 2 ≤ s.size := by omega
  have c4 : ((s.size : Int) != 1) = true := by rw [bne_iff_ne]; omega
  by_cases hlast : bt s ((s.size - 1 : Nat) : Int) = 47
  · rw [path_end h2 hlast] at hr
    subst hr
    have c6 : (bt s ((s.size - 1 : Nat) : Int) == 47) = true := by rw [beq_iff_eq]; exact hlast
    clear h0 hh hpos hlast
    go_enter Try.func44, Try.ntmps44
    go_wp2
    go_ret
    exact ⟨rfl, Below.refl _ _⟩
  have c6 : (bt s ((s.size - 1 : Nat) : Int) == 47) = false := by rw [beq_eq_false_iff_ne]; exact hlast
  have c5 : (s.toList == ([47] : List UInt8)) = false := by
    rw [beq_eq_false_iff_ne]
    intro z
    have := congrArg List.length z
    rw [toList_length] at this
    simp at this; omega
  have hsx : (s.extract 1 s.size).size ≤ 1099511627776 := by rw [ByteArray.size_extract]; omega
  obtain ⟨k, hk⟩ := Ev.rounds (split_f (s.extract 1 s.size) 47 hsx)
  have HK := Aside0.mk hk
  have HR := Aside0.mk hr
  have H2 := Aside0.mk h2
  have HH := Aside0.mk hh
  clear hk hr h0 h1 hlast hh hsx
  obtain ⟨l, hl⟩ : ∃ l, (splitL ((47 : UInt8).toNat : Int) (bytesOf (s.extract 1 s.size))).map strOfNums = l := ⟨_, rfl⟩
  rw [hl] at HK
  have HL := Aside0.mk hl
  clear hl
  have hlen : l.length ≤ 1099511627777 := by
    have := splitL_len ((47 : UInt8).toNat : Int) (bytesOf (s.extract 1 s.size))
    rw [← HL.out, List.length_map]
    rw [bytesOf_length, ByteArray.size_extract] at this
    omega
  go_enter Try.func44, Try.ntmps44
  go_wp2_with (go_at_call 57; refine (dbus_zzSplit.calls k (s.extract 1 s.size) _ _ _ HK.out).mono ?_; rintro e w1 ⟨v, rfl, ho, hb⟩; obtain ⟨A, c, eo⟩ := Kd.R_slice ho; subst eo; have HO := Aside0.mk ho; have HB := Aside0.mk hb; clear ho hb)
  go_loopw [34] (fun v34 w' => ∃ i : Nat, v34 = .int .i64 (i : Int) ∧ i ≤ l.length ∧ Aside0 (ElemsTo pathElem l i) ∧ Aside0 (Kd.R Kd.string 9 w' w.heap.size (fun _ => True) (.slice A l.length c) l) ∧ Aside0 (Below w.heap.size w w')) (fun v34 _ => l.length - (intOf v34).toNat)
  case atStart => exact ⟨0, rfl, by omega, Aside0.mk (fun j v hj _ => by omega), HO, HB⟩
  case round =>
    obtain ⟨i, rfl, hi, hel, hO, hB⟩ := hrel
    by_cases hlt : i < l.length
    · have hp1 : (0 : Int) ≤ (i : Int) := by omega
      have hp2 : (i : Int) < (l.length : Int) := by omega
      obtain ⟨ad, e, hcell⟩ := Kd.at_string (Kd.R_reads' hO.out).2.2 (i : Int) hp1 hp2
      cases e
      have c16 : decide ((i : Int) < (l.length : Int)) = true := decide_eq_true hp2
      obtain ⟨v, hv⟩ : ∃ v, l[i]? = some v := ⟨l[i], List.getElem?_eq_getElem hlt⟩
      have hrd : rdOf ByteArray.empty l (i : Int) = v := by
        unfold rdOf; rw [Int.toNat_natCast, List.getD_eq_getElem?_getD, hv]; rfl
      rw [hrd, Int.toNat_natCast] at hcell
      have HV := Aside0.mk hv
      clear hv hrd c0 hx6 q6 qi6 c3 c4 c5 c6 hx7
      obtain ⟨wo, rfl⟩ : ∃ wo : World, wo = wr := ⟨_, rfl⟩
      have hbad : pathElem (bytesOf v) = false → r = false := by
        intro he
        have e := HL.out
        have h2 := HV.out
        rw [← e] at h2
        have := path_elem H2.out h2 he
        rw [HR.out] at this
        exact this
      have HBAD := Aside0.mk hbad
      clear hbad
      by_cases v0 : v.size = 0
      · have hr := HBAD.out (pelem_empty v0)
        subst hr
        have d0 : ((v.size : Int) == 0) = true := by rw [beq_iff_eq]; omega
        clear v0
        go_wp2
        go_ret
        exact ⟨rfl, hB.out⟩
      have d0 : ((v.size : Int) == 0) = false := by rw [beq_eq_false_iff_ne]; omega
      have HG := Aside0.mk (fun hm => pelem_good (v := v) (by omega) hm)
      have hBs := hB.out.size
      clear v0
      go_wp2
      go_loopw [8] (fun _ w' => ∃ m pos : Nat, w' = (wo.drewN m).iter v pos ∧ pos ≤ v.size ∧ Aside0 (McTo v pos)) (fun _ w' => v.size - w'.iterPos wo.heap.size)
      case atStart => exact ⟨0, 0, rfl, by omega, Aside0.mk (fun j hj _ => by omega)⟩
      case round =>
        obtain ⟨m, pos, rfl, hpos, hm⟩ := hrel
        by_cases hp : pos < v.size
        · have hnx : ∀ ty, (Instr.next (.pointer (some ⟨wo.heap.size, 0, none⟩)) true ty).run Try.prog ((wo.drewN m).iter v pos) = _ := fun ty => run_next_any (wo.drewN m) v pos ty hp
          cases hmc : mc ((Utf8.decode v pos).1 : Int) with
          | true =>
            obtain ⟨hr1, hr2⟩ := rune_yes hp hmc
            have hmn := Aside0.mk (hm.out.next hp hmc)
            have hw : pos + (Utf8.decode v pos).2 ≤ v.size := by omega
            have hw2 : pos < pos + (Utf8.decode v pos).2 := by omega
            clear hr1 hr2
            go_wp2_with (go_at_call 58; refine (dbus_isMemberChar.calls _ _ _ (mc_f _)).mono ?_; rintro e w2 ⟨rfl, hd⟩)
            obtain ⟨m', rfl⟩ := iter_drawn hd
            go_roundw
            case rel => exact ⟨m', _, rfl, hw, hmn⟩
            case measure =>
              have e1 := World.iterPos_iter (wo.drewN m') v (pos + (Utf8.decode v pos).2)
              have e2 := World.iterPos_iter (wo.drewN m) v pos
              have e3 : (wo.drewN m').heap.size = wo.heap.size := rfl
              have e4 : (wo.drewN m).heap.size = wo.heap.size := rfl
              rw [e3] at e1
              rw [e4] at e2
              rw [e1, e2]
              omega
          | false =>
            have hr := HBAD.out (pelem_bad (not_all pos hp (rune_no hp hmc)))
            subst hr
            go_wp2_with (go_at_call 58; refine (dbus_isMemberChar.calls _ _ _ (mc_f _)).mono ?_; rintro e w2 ⟨rfl, hd⟩)
            go_ret
            exact ⟨rfl, below_drawn (below_it (pw_below_drewN hB.out m) hBs _ _) hd⟩
        · obtain rfl : pos = v.size := by omega
          have hnx : ∀ ty, (Instr.next (.pointer (some ⟨wo.heap.size, 0, none⟩)) true ty).run Try.prog ((wo.drewN m).iter v v.size) = _ := fun ty => run_next_end (wo.drewN m) v v.size ty hp
          have hg := HG.out hm.out.all
          have hnext := Aside0.mk (hel.out.next HV.out hg)
          clear hg
          go_wp2
          go_roundw
          case rel => exact ⟨i + 1, by go_num, by omega, hnext, Aside0.mk (Kd.R_alloc (Kd.R_drewN hO.out m) _), Aside0.mk (below_it (pw_below_drewN hB.out m) hBs _ _)⟩
          case measure => simp [intOf]; omega
    · obtain rfl : i = l.length := by omega
      have c16 : decide ((l.length : Int) < (l.length : Int)) = false := decide_eq_false (by omega)
      have hg : okPath (bytesOf s) = true := by
        have e := HL.out
        have hn : l.length = ((splitL 47 (bytesOf (s.extract 1 s.size))).map strOfNums).length := by rw [← e]; rfl
        have h2 : ElemsTo pathElem ((splitL 47 (bytesOf (s.extract 1 s.size))).map strOfNums) l.length := by have := hel.out; rw [← e] at this ⊢; exact this
        exact path_good H2.out HH.out (ElemsTo.all hn h2)
      rw [HR.out] at hg
      subst hg
      go_wp2
      go_ret
      exact ⟨rfl, hB.out⟩
end Go.Proofs.Ythkmgbfobobpdaa.Given
