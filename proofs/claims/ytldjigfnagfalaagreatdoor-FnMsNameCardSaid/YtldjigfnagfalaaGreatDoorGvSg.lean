/- Part of the proof of LawFnMsName. -/
import Derived.Test.YtldjigfnagfalaaGreatDoorGvIf
import Derived.Test.YtldjigfnagfalaaGreatDoorPNlx0
import Derived.Deep.WholeRow
import Derived.Lib.BufferWrite
import Derived.Laws.CopyOwn
set_option linter.unusedVariables false
set_option linter.unusedSimpArgs false
section
namespace Go.Proofs.YtldjigfnagfalaaGreatDoor.Given
open Go.RowKit Go.Proofs.YtldjigfnagfalaaGreatDoorW.PrintWords Go.Proofs.YtldjigfnagfalaaGreatDoor.PNl Go.Proofs.YtldjigfnagfalaaGreatDoor.Pl Go.Proofs.YtldjigfnagfalaaGreatDoor.Utf Go.Proofs.YtldjigfnagfalaaGreatDoor.NmPl
def IsPath.f (s : ByteArray) : Option Bool := if s.size ≤ 1099511627776 then some (okPath (bytesOf s)) else none
def pathElem (p : List Int) : Bool := !p.isEmpty && p.all mc
theorem okPath_def (c : Int) (t : List Int) : okPath (c :: t) = (decide (c = 47) && (t.isEmpty || (splitL 47 t).all pathElem)) := rfl
theorem tail_bytes (s : ByteArray) (h : 0 < s.size) : bytesOf s = bt s 0 :: bytesOf (s.extract 1 s.size) := by
  have := bytesOf_drop s 0 h
  rw [List.drop_zero] at this
  rw [this, bytesOf_extract, List.take_of_length_le (by rw [bytesOf_length]; exact Nat.le_refl _)]
  rfl
theorem path_empty {s : ByteArray} (h : s.size = 0) : okPath (bytesOf s) = false := by rw [empty_bytes h]; rfl
theorem path_head {s : ByteArray} (h0 : 0 < s.size) (h : bt s 0 ≠ 47) : okPath (bytesOf s) = false := by
  rw [tail_bytes s h0, okPath_def, decide_eq_false h]; rfl
theorem path_root {s : ByteArray} (h0 : s.size = 1) (h : bt s 0 = 47) : okPath (bytesOf s) = true := by
  rw [tail_bytes s (by omega), okPath_def, decide_eq_true h, empty_bytes (s := s.extract 1 s.size) (by rw [ByteArray.size_extract]; omega)]; rfl
theorem split_end (c : Int) (a : List Int) : ∃ p ps, splitL c (a ++ [c]) = (p :: ps) ++ [[]] := by
  induction a with
  | nil => exact ⟨[], [], by rw [List.nil_append, splitL_cons_eq]; rfl⟩
  | cons x a ih =>
    obtain ⟨p, ps, ih⟩ := ih
    rw [List.cons_append]
    by_cases e : x = c
    · subst e
      exact ⟨[], p :: ps, by rw [splitL_cons_eq, ih]; rfl⟩
    · obtain ⟨q, qs, e1, e2⟩ := splitL_cons_ne e (a ++ [c])
      rw [ih, List.cons_append] at e1
      injection e1 with e3 e4
      exact ⟨x :: p, ps, by rw [e2, ← e3, ← e4]; rfl⟩
theorem path_end {s : ByteArray} (h0 : 2 ≤ s.size) (h : bt s ((s.size - 1 : Nat) : Int) = 47) : okPath (bytesOf s) = false := by
  rw [tail_bytes s (by omega), okPath_def]
  have e : bytesOf (s.extract 1 s.size) = (bytesOf (s.extract 1 s.size)).dropLast ++ [47] := by
    have hne : bytesOf (s.extract 1 s.size) ≠ [] := by
      intro z
      have := congrArg List.length z
      rw [bytesOf_length, ByteArray.size_extract] at this
      simp at this; omega
    have hl : (bytesOf (s.extract 1 s.size)).length = s.size - 1 := by rw [bytesOf_length, ByteArray.size_extract]; omega
    have h1 : (bytesOf (s.extract 1 s.size))[(bytesOf (s.extract 1 s.size)).length - 1]? = some 47 := by
      rw [hl, bytesOf_extract, List.take_of_length_le (by rw [bytesOf_length]; exact Nat.le_refl _), List.getElem?_drop, show 1 + (s.size - 1 - 1) = s.size - 1 by omega, bytesOf_get s _ (by omega), h]
    have h2 : (bytesOf (s.extract 1 s.size)).getLast hne = 47 := by
      rw [List.getLast_eq_getElem]
      rw [List.getElem?_eq_getElem (by omega)] at h1
      exact Option.some.inj h1
    have h3 := List.dropLast_concat_getLast hne
    rw [h2] at h3
    exact h3.symm
  obtain ⟨p, ps, hs⟩ := split_end 47 (bytesOf (s.extract 1 s.size)).dropLast
  rw [e, hs]
  have : ((p :: ps) ++ [[]]).all pathElem = false := by
    rw [List.all_append]; simp [pathElem]
  rw [this]
  simp
theorem path_elem {s v : ByteArray} {i : Nat} (h0 : 2 ≤ s.size) (hv : ((splitL 47 (bytesOf (s.extract 1 s.size))).map strOfNums)[i]? = some v) (h : pathElem (bytesOf v) = false) : okPath (bytesOf s) = false := by
  rw [tail_bytes s (by omega), okPath_def]
  rw [List.getElem?_map] at hv
  obtain ⟨p, hp, rfl⟩ := Option.map_eq_some_iff.mp hv
  have hm := List.mem_iff_getElem?.mpr ⟨i, hp⟩
  rw [parts_back 47 _ p hm] at h
  have : (splitL 47 (bytesOf (s.extract 1 s.size))).all pathElem = false := List.all_eq_false.mpr ⟨p, hm, by rw [h]; decide⟩
  have hne : (bytesOf (s.extract 1 s.size)).isEmpty = false := by
    cases hb : bytesOf (s.extract 1 s.size) with
    | nil =>
      have := congrArg List.length hb
      rw [bytesOf_length, ByteArray.size_extract] at this
      simp at this; omega
    | cons _ _ => rfl
  rw [this, hne]
  simp
theorem path_good {s : ByteArray} (h0 : 2 ≤ s.size) (h1 : bt s 0 = 47) (h : (splitL 47 (bytesOf (s.extract 1 s.size))).all pathElem = true) : okPath (bytesOf s) = true := by
  rw [tail_bytes s (by omega), okPath_def, decide_eq_true h1, h]; simp
theorem pelem_empty {v : ByteArray} (h : v.size = 0) : pathElem (bytesOf v) = false := by rw [empty_bytes h]; rfl
theorem pelem_bad {v : ByteArray} (h : (bytesOf v).all mc = false) : pathElem (bytesOf v) = false := by
  unfold pathElem; rw [h]; simp
theorem pelem_good {v : ByteArray} (h0 : 0 < v.size) (hm : (bytesOf v).all mc = true) : pathElem (bytesOf v) = true := by
  obtain ⟨t, e⟩ := head_bytes v h0
  unfold pathElem; rw [hm, e]; rfl
set_option maxRecDepth 100000 in
set_option maxHeartbeats 4000000 in
theorem IsPath.calls (s : ByteArray) (r : Bool) (w : World) (h : IsPath.f s = some r) :
    Calls Tryz.prog 53 #[.string s] w fun e w' => e = .returned (.bool r) ∧ Below w.heap.size w w' := by
  unfold IsPath.f at h
  by_cases hs : s.size ≤ 1099511627776
  case neg => rw [if_neg hs] at h; cases h
  rw [if_pos hs] at h
  have hr := Option.some.inj h
  clear h
  by_cases h0 : s.size = 0
  · rw [path_empty h0] at hr
    subst hr
    have c0 : ((s.size : Int) == 0) = true := by rw [beq_iff_eq]; omega
    clear h0 hs
    go_enter Tryz.func53, Tryz.ntmps53
    go_wp2
    go_ret
    exact ⟨rfl, Below.refl _ _⟩
  have c0 : ((s.size : Int) == 0) = false := by rw [beq_eq_false_iff_ne]; omega
  have hpos : 0 < s.size := by omega
  have hx6 : ∀ h : 0 < s.size, ((s[0]'h).toNat : Int) = bt s 0 := bt_at s 0
  have q6 := eq_true hpos
  have qi6 : (0 < (s.size : Int)) = True := eq_true (by omega)
  by_cases hh : bt s 0 = 47
  case neg =>
    rw [path_head hpos hh] at hr
    subst hr
    have c3 : (bt s 0 != 47) = true := by rw [bne_iff_ne]; exact hh
    clear h0 hs hh hpos
    go_enter Tryz.func53, Tryz.ntmps53
    go_wp2
    go_ret
    exact ⟨rfl, Below.refl _ _⟩
  have c3 : (bt s 0 != 47) = false := by rw [bne_eq_false_iff_eq]; exact hh
  have hx7 : ∀ h : s.size - 1 < s.size, ((s[s.size - 1]'h).toNat : Int) = bt s ((s.size - 1 : Nat) : Int) := bt_at s ((s.size - 1 : Nat) : Int)
  by_cases h1 : s.size = 1
  · rw [path_root h1 hh] at hr
    subst hr
    have hb : s.size - 1 = 0 := by omega
    have c4 : ((s.size : Int) != 1) = false := by rw [bne_eq_false_iff_eq]; omega
    have c5 : (s.toList == ([47] : List UInt8)) = true := by
      rw [beq_iff_eq]
      have e := tail_bytes s hpos
      rw [hh, empty_bytes (s := s.extract 1 s.size) (by rw [ByteArray.size_extract]; omega)] at e
      have : s = strOfNums [47] := by rw [← str_bytes s, e]
      rw [this, ByteArray.toList_eq]; decide
    have c6 : (bt s 0 == 47) = true := by rw [beq_iff_eq]; exact hh
    clear h0 hs hh hpos
    go_enter Tryz.func53, Tryz.ntmps53
    go_wp2
    go_ret
    exact ⟨rfl, Below.refl _ _⟩
  have h2 : 2 ≤ s.size := by omega
  have c4 : ((s.size : Int) != 1) = true := by rw [bne_iff_ne]; omega
  by_cases hlast : bt s ((s.size - 1 : Nat) : Int) = 47
  · rw [path_end h2 hlast] at hr
    subst hr
    have c6 : (bt s ((s.size - 1 : Nat) : Int) == 47) = true := by rw [beq_iff_eq]; exact hlast
    clear h0 hh hpos hlast
    go_enter Tryz.func53, Tryz.ntmps53
    go_wp2
    go_ret
    exact ⟨rfl, Below.refl _ _⟩
  have c6 : (bt s ((s.size - 1 : Nat) : Int) == 47) = false := by rw [beq_eq_false_iff_ne]; exact hlast
  have c5 : (s.toList == ([47] : List UInt8)) = false := by
    rw [beq_eq_false_iff_ne]
    intro z
    have := congrArg List.length z
    rw [toList_length] at this
    simp at this; omega
  have hsx : (s.extract 1 s.size).size ≤ 1099511627776 := by rw [ByteArray.size_extract]; omega
  obtain ⟨k, hk⟩ := Ev.rounds (split_f (s.extract 1 s.size) 47 hsx)
  have HK := Aside0.mk hk
  have HR := Aside0.mk hr
  have H2 := Aside0.mk h2
  have HH := Aside0.mk hh
  clear hk hr h0 h1 hlast hh hsx
  obtain ⟨l, hl⟩ : ∃ l, (splitL ((47 : UInt8).toNat : Int) (bytesOf (s.extract 1 s.size))).map strOfNums = l := ⟨_, rfl⟩
  rw [hl] at HK
  have HL := Aside0.mk hl
  clear hl
  have hlen : l.length ≤ 1099511627777 := by
    have := splitL_len ((47 : UInt8).toNat : Int) (bytesOf (s.extract 1 s.size))
    rw [← HL.out, List.length_map]
    rw [bytesOf_length, ByteArray.size_extract] at this
    omega
  go_enter Tryz.func53, Tryz.ntmps53
  go_wp2_with (go_at_call 85; refine (dbus_zzSplit.calls k (s.extract 1 s.size) _ _ _ HK.out).mono ?_; rintro e w1 ⟨v, rfl, ho, hb⟩; obtain ⟨A, c, eo⟩ := Kd.R_slice ho; subst eo; have HO := Aside0.mk ho; have HB := Aside0.mk hb; clear ho hb)
  go_loopw [34] (fun v34 w' => ∃ i : Nat, v34 = .int .i64 (i : Int) ∧ i ≤ l.length ∧ Aside0 (ElemsTo pathElem l i) ∧ Aside0 (Kd.R Kd.string 9 w' w.heap.size (fun _ => True) (.slice A l.length c) l) ∧ Aside0 (Below w.heap.size w w')) (fun v34 _ => l.length - (intOf v34).toNat)
  case atStart => exact ⟨0, rfl, by omega, Aside0.mk (fun j v hj _ => by omega), HO, HB⟩
  case round =>
    obtain ⟨i, rfl, hi, hel, hO, hB⟩ := hrel
    by_cases hlt : i < l.length
    · have hp1 : (0 : Int) ≤ (i : Int) := by omega
      have hp2 : (i : Int) < (l.length : Int) := by omega
      obtain ⟨ad, e, hcell⟩ := Kd.at_string (Kd.R_reads' hO.out).2.2 (i : Int) hp1 hp2
      cases e
      have c16 : decide ((i : Int) < (l.length : Int)) = true := decide_eq_true hp2
      obtain ⟨v, hv⟩ : ∃ v, l[i]? = some v := ⟨l[i], List.getElem?_eq_getElem hlt⟩
      have hrd : rdOf ByteArray.empty l (i : Int) = v := by
        unfold rdOf; rw [Int.toNat_natCast, List.getD_eq_getElem?_getD, hv]; rfl
      rw [hrd, Int.toNat_natCast] at hcell
      have HV := Aside0.mk hv
      clear hv hrd c0 hx6 q6 qi6 c3 c4 c5 c6 hx7
      obtain ⟨wo, rfl⟩ : ∃ wo : World, wo = wr := ⟨_, rfl⟩
      have hbad : pathElem (bytesOf v) = false → r = false := by
        intro he
        have e := HL.out
        have h2 := HV.out
        rw [← e] at h2
        have := path_elem H2.out h2 he
        rw [HR.out] at this
        exact this
      have HBAD := Aside0.mk hbad
      clear hbad
      by_cases v0 : v.size = 0
      · have hr := HBAD.out (pelem_empty v0)
        subst hr
        have d0 : ((v.size : Int) == 0) = true := by rw [beq_iff_eq]; omega
        clear v0
        go_wp2
        go_ret
        exact ⟨rfl, hB.out⟩
      have d0 : ((v.size : Int) == 0) = false := by rw [beq_eq_false_iff_ne]; omega
      have HG := Aside0.mk (fun hm => pelem_good (v := v) (by omega) hm)
      have hBs := hB.out.size
      clear v0
      go_wp2
      go_loopw [8] (fun _ w' => ∃ m pos : Nat, w' = (wo.drewN m).iter v pos ∧ pos ≤ v.size ∧ Aside0 (McTo v pos)) (fun _ w' => v.size - w'.iterPos wo.heap.size)
      case atStart => exact ⟨0, 0, rfl, by omega, Aside0.mk (fun j hj _ => by omega)⟩
      case round =>
        obtain ⟨m, pos, rfl, hpos, hm⟩ := hrel
        by_cases hp : pos < v.size
        · have hnx : ∀ ty, (Instr.next (.pointer (some ⟨wo.heap.size, 0, none⟩)) true ty).run Tryz.prog ((wo.drewN m).iter v pos) = _ := fun ty => run_next_any (wo.drewN m) v pos ty hp
          cases hmc : mc ((Utf8.decode v pos).1 : Int) with
          | true =>
            obtain ⟨hr1, hr2⟩ := rune_yes hp hmc
            have hmn := Aside0.mk (hm.out.next hp hmc)
            have hw : pos + (Utf8.decode v pos).2 ≤ v.size := by omega
            have hw2 : pos < pos + (Utf8.decode v pos).2 := by omega
            clear hr1 hr2
            go_wp2_with (go_at_call 86; refine (dbus_isMemberChar.calls _ _ _ (mc_f _)).mono ?_; rintro e w2 ⟨rfl, hd⟩)
            obtain ⟨m', rfl⟩ := iter_drawn hd
            go_roundw
            case rel => exact ⟨m', _, rfl, hw, hmn⟩
            case measure =>
              have e1 := World.iterPos_iter (wo.drewN m') v (pos + (Utf8.decode v pos).2)
              have e2 := World.iterPos_iter (wo.drewN m) v pos
              have e3 : (wo.drewN m').heap.size = wo.heap.size := rfl
              have e4 : (wo.drewN m).heap.size = wo.heap.size := rfl
              rw [e3] at e1
              rw [e4] at e2
              rw [e1, e2]
              omega
          | false =>
            have hr := HBAD.out (pelem_bad (not_all pos hp (rune_no hp hmc)))
            subst hr
            go_wp2_with (go_at_call 86; refine (dbus_isMemberChar.calls _ _ _ (mc_f _)).mono ?_; rintro e w2 ⟨rfl, hd⟩)
            go_ret
            exact ⟨rfl, below_drawn (below_it (pw_below_drewN hB.out m) hBs _ _) hd⟩
        · obtain rfl : pos = v.size := by omega
          have hnx : ∀ ty, (Instr.next (.pointer (some ⟨wo.heap.size, 0, none⟩)) true ty).run Tryz.prog ((wo.drewN m).iter v v.size) = _ := fun ty => run_next_end (wo.drewN m) v v.size ty hp
          have hg := HG.out hm.out.all
          have hnext := Aside0.mk (hel.out.next HV.out hg)
          clear hg
          go_wp2
          go_roundw
          case rel => exact ⟨i + 1, by go_num, by omega, hnext, Aside0.mk (Kd.R_alloc (Kd.R_drewN hO.out m) _), Aside0.mk (below_it (pw_below_drewN hB.out m) hBs _ _)⟩
          case measure => simp [intOf]; omega
    · obtain rfl : i = l.length := by omega
      have c16 : decide ((l.length : Int) < (l.length : Int)) = false := decide_eq_false (by omega)
      have hg : okPath (bytesOf s) = true := by
        have e := HL.out
        have hn : l.length = ((splitL 47 (bytesOf (s.extract 1 s.size))).map strOfNums).length := by rw [← e]; rfl
        have h2 : ElemsTo pathElem ((splitL 47 (bytesOf (s.extract 1 s.size))).map strOfNums) l.length := by have := hel.out; rw [← e] at this ⊢; exact this
        exact path_good H2.out HH.out (ElemsTo.all hn h2)
      rw [HR.out] at hg
      subst hg
      go_wp2
      go_ret
      exact ⟨rfl, hB.out⟩
end Go.Proofs.YtldjigfnagfalaaGreatDoor.Given
end
section
namespace Go.Proofs.YtldjigfnagfalaaGreatDoor.Given
open Go.RowKit Go.Proofs.YtldjigfnagfalaaGreatDoorW.PrintWords
set_option linter.unusedVariables false
structure Plain (S : ByteArray) : Prop where
  asc : Asc S
  nz : ∀ (i : Nat) (hi : i < S.size), (S[i]'hi) ≠ 0
  short : S.size ≤ 300
def textRow (S : ByteArray) : Array Value := (Lib.byteCells (S.data.toList ++ [0])).toArray
theorem pd_pd (n q : Nat) (h : 0 < n) : pd n (q + pd n q) = 0 := by
  have h1 := Nat.mod_lt q h
  unfold pd
  by_cases h0 : q % n = 0
  · rw [h0]; simp [h0]
  · rw [Nat.mod_eq_of_lt (show n - q % n < n by omega)]
    have : (q + (n - q % n)) % n = 0 := by
      have h2 := Nat.div_add_mod q n
      rw [show q + (n - q % n) = n * (q / n + 1) by rw [Nat.mul_add]; omega]
      exact Nat.mul_mod_right _ _
    rw [this]; simp
theorem copy_text (S : ByteArray) (W : World) : (Builtin.copy_ #[24, 9] 3 #[.slice (some ⟨W.heap.size, 0, none⟩) (S.size + 1) (S.size + 1), .string S]).run Tryz.prog (W.alloc (.cells (Array.replicate (S.size + 1) (.int .u8 0)) 5)) =
    .ok (goInt S.size) (W.alloc (.cells (textRow S) 5)) := by
  rw [Lib.run_copy_row_string (P := Tryz.prog) _ 24 9 3 5 W.heap.size 0 _ _ S _ 5 Tryz.underlying24 info5 (heap_alloc_new W _) (by omega) (by simp)]
  congr 1
  rw [World.setRow_alloc_new]
  congr 2
  unfold textRow
  rw [Lib.byteCells_append]
  congr 1
  simp [Lib.byteCells]
theorem text_cells (S : ByteArray) (W : World) : ∀ j v, (Lib.byteCells (S.data.toList ++ [0]))[j]? = some v → (W.alloc (.cells (textRow S) 5)).cell? ((⟨W.heap.size, 0, none⟩ : Addr).add j) = some v := by
  intro j v hj
  rw [Lib.addr_add, Lib.cell_of_heap (heap_alloc_new W _), Nat.zero_add]
  unfold textRow
  simpa using hj
theorem text_len (S : ByteArray) : S.data.toList.length = S.size := Array.length_toList
theorem text_last (S : ByteArray) (W : World) : (W.alloc (.cells (textRow S) 5)).cell? ⟨W.heap.size, S.size, none⟩ = some (.int .u8 0) := by
  have := text_cells S W S.size (.int .u8 0) (by simp [Lib.byteCells, List.getElem?_append, text_len])
  rwa [Lib.addr_add, Nat.zero_add] at this
theorem text_set (S : ByteArray) (W : World) : (W.alloc (.cells (textRow S) 5)).setCell ⟨W.heap.size, S.size, none⟩ (.int .u8 0) = W.alloc (.cells (textRow S) 5) := by
  have h := text_last S W
  have hg := heap_alloc_new W (.cells (textRow S) 5)
  rw [setCell_eq_setRow _ W.heap.size S.size (textRow S) 5 (0, 0) _ hg]
  have hz : S.size < (textRow S).size := by unfold textRow; simp [Lib.byteCells, text_len]
  have hs : (textRow S).setIfInBounds S.size (.int .u8 0) = textRow S := by
    apply Array.ext (by simp)
    intro i h1 h2
    rw [Array.getElem_setIfInBounds]
    split
    · rename_i hi
      subst hi
      rw [Lib.cell_of_heap hg, Array.getElem?_eq_getElem hz] at h
      exact (Option.some.inj h).symm
    · rfl
  rw [hs]
  exact setRow_self _ _ _ 5 (0, 0) hg
attribute [local go_sem] me_write
set_option maxHeartbeats 16000000 in
set_option maxRecDepth 100000 in
theorem ef_s (big : Bool) (e b : Nat) (S : ByteArray) (hS : Plain S) (w : World) (B : Nat) (f : Value) (q : Nat) (dep : Int) (bs : List UInt8) (h : Ef w B e b (ordOf big) f q bs) (hd0 : 0 ≤ dep) (hd : dep ≤ 64) (hq : q < 288230376151711744) (hl : bs.length ≤ 800000) :
    Calls Tryz.prog 36 #[.pointer (some ⟨e, 0, none⟩), .agg #[.iface 9 (.string S), .string ⟨#[115]⟩], .int .i64 dep] w fun r w' => r = .returned (.tuple #[]) ∧ Eg w w' B e b (ordOf big) f (q + pd 4 q + 4 + (S.size + 1)) (bs ++ List.replicate (pd 4 q) 0 ++ cntBytes big S.size ++ (S.data.toList ++ [0])) := by
  obtain ⟨hA, hbx, hle, hlb⟩ := h.boxed (.cells #[.iface 9 (.string S), .string ⟨#[115]⟩] 102)
  have hne : e ≠ w.heap.size := by omega
  have hneb : b ≠ w.heap.size := by omega
  have hp4 : pd 4 q < 4 := pd_lt (by decide)
  have hp0 : pd 4 (q + pd 4 q) = 0 := pd_pd 4 q (by decide)
  have hsz := hS.short
  have HA := Aside0.mk hA
  have HBX := Aside0.mk hbx
  have HS := Aside0.mk hS
  clear h hA hbx hS
  go_enter Tryz.func36, Tryz.ntmps36
  go_wp2_with fail
  refine (zType _ _ _).mono ?_
  rintro r w1 ⟨rfl, hb1⟩
  have HA := Aside0.mk (HA.out.old hb1)
  have HBX : Aside0 (w1.heap[w.heap.size]? = some (.cells #[.iface 9 (.string S), .string ⟨#[115]⟩] 102)) := ⟨(hb1.block w.heap.size (by simp)).trans HBX.out⟩
  clear hb1
  go_wp2_with fail
  refine (align_s _).mono ?_
  rintro r w2 ⟨rfl, rfl⟩
  go_wp2_with fail
  refine (align_ef w1 B e b (ordOf big) f q bs HA.out.ef 4 4 rfl (by decide) (by omega) (by omega)).mono ?_
  rintro r w3 ⟨rfl, hE3⟩
  have HBX := Aside0.mk (hE3.box HBX.out hne hneb (by intro c fz hc; cases hc))
  have HA := Aside0.mk (HA.out.trans hE3)
  clear hE3
  obtain ⟨x0, x1⟩ := boxed_cells HBX.out
  go_wp2_with fail
  refine (zKind_s _ _).mono ?_
  rintro r w4 ⟨rfl, hb4⟩
  have HBX : Aside0 (w4.heap[w.heap.size]? = some (.cells #[.iface 9 (.string S), .string ⟨#[115]⟩] 102)) := ⟨(hb4.block w.heap.size (Lib.lt_of_heap HBX.out)).trans HBX.out⟩
  have HA := Aside0.mk (HA.out.old hb4)
  clear hb4 x0 x1
  obtain ⟨x0, x1⟩ := boxed_cells HBX.out
  go_wp2_with fail
  refine (zStr_s S _ _).mono ?_
  rintro r w5 ⟨rfl, hb5⟩
  have HBX : Aside0 (w5.heap[w.heap.size]? = some (.cells #[.iface 9 (.string S), .string ⟨#[115]⟩] 102)) := ⟨(hb5.block w.heap.size (Lib.lt_of_heap HBX.out)).trans HBX.out⟩
  have HA := Aside0.mk (HA.out.old hb5)
  clear hb5 x0 x1
  go_wp2_with fail
  refine (valid_ascii S HS.out.asc (by omega) _).mono ?_
  rintro r w6 ⟨rfl, m6, hm6⟩
  have hb6 : Below w5.heap.size w5 w6 := hm6 ▸ below_drewN (Below.refl _ _) m6
  have HBX : Aside0 (w6.heap[w.heap.size]? = some (.cells #[.iface 9 (.string S), .string ⟨#[115]⟩] 102)) := ⟨(hb6.block w.heap.size (Lib.lt_of_heap HBX.out)).trans HBX.out⟩
  have HA := Aside0.mk (HA.out.old hb6)
  clear hb6 hm6
  go_wp2_with fail
  refine (index0 S HS.out.nz _).mono ?_
  rintro r w7 ⟨rfl, rfl⟩
  obtain ⟨x0, x1⟩ := boxed_cells HBX.out
  go_wp2_with fail
  refine (zType _ _ _).mono ?_
  rintro r w7 ⟨rfl, hb7⟩
  have HBX : Aside0 (w7.heap[w.heap.size]? = some (.cells #[.iface 9 (.string S), .string ⟨#[115]⟩] 102)) := ⟨(hb7.block w.heap.size (Lib.lt_of_heap HBX.out)).trans HBX.out⟩
  have HA := Aside0.mk (HA.out.old hb7)
  clear hb7 x0 x1
  have hwv : IntKind.u32.wrap (S.size : Int) = S.size := by unfold IntKind.wrap; simp [IntKind.signed, IntKind.bits]; omega
  go_wp2_with fail
  refine (valueOf_117 (.int .u32 S.size) _).mono ?_
  rintro r w8 ⟨rfl, hb8⟩
  have HBX : Aside0 (w8.heap[w.heap.size]? = some (.cells #[.iface 9 (.string S), .string ⟨#[115]⟩] 102)) := ⟨(hb8.block w.heap.size (Lib.lt_of_heap HBX.out)).trans HBX.out⟩
  have HA := Aside0.mk (HA.out.old hb8)
  clear hb8 hwv
  go_wp2_with fail
  refine (ef_u big e b S.size (by omega) w8 B f _ dep _ HA.out.ef hd0 hd (by omega) (by rw [List.length_append, List.length_replicate]; omega)).mono ?_
  rintro r w9 ⟨rfl, hE9⟩
  rw [hp0, Nat.add_zero, List.replicate_zero, List.append_nil] at hE9
  have HBX := Aside0.mk (hE9.box HBX.out hne hneb (by intro c fz hc; cases hc))
  have HA := Aside0.mk (HA.out.trans hE9)
  clear hE9
  obtain ⟨x0, x1⟩ := boxed_cells HBX.out
  go_wp2_with fail
  refine (zLen_s S _ _).mono ?_
  rintro r w10 ⟨rfl, hb10⟩
  have HA := Aside0.mk (HA.out.old hb10)
  clear hb10 x0 x1 HBX
  have hmk : ∀ W, (Instr.makeSlice 24 (.int .i64 ((S.size : Int) + 1)) (.int .i64 ((S.size : Int) + 1))).run Tryz.prog W = .ok (.slice (some ⟨W.heap.size, 0, none⟩) (S.size + 1) (S.size + 1)) (W.alloc (.cells (Array.replicate (S.size + 1) (.int .u8 0)) 5)) := by
    have h := mkB (S.size + 1) (by omega)
    rwa [show ((S.size + 1 : Nat) : Int) = (S.size : Int) + 1 by omega] at h
  have hcp := copy_text S w10
  have hlc := text_last S w10
  have hfz : (w10.alloc (.cells (textRow S) 5)).frozen? ⟨w10.heap.size, S.size, none⟩ = false := Lib.frozen_of_heap (heap_alloc_new w10 _) _
  have hst := text_set S w10
  have hle10 : e < w10.heap.size := Lib.lt_of_heap HA.out.ef.enc
  obtain ⟨c0, -, -, -, -, -⟩ := ef_cells HA.out.ef.enc
  have HW := Aside0.mk ((HA.out.ef.takes (S.data.toList ++ [0]) (by simp only [List.length_append, List.length_replicate, cntBytes_length, text_len, List.length_cons, List.length_nil]; omega)) (w10.alloc (.cells (textRow S) 5)) w10.heap.size (S.size + 1) ((Below.refl _ _).alloc (Nat.le_refl _) _) (Nat.le_refl _) (text_cells S w10))
  rw [show ((S.data.toList ++ [0] : List UInt8)).length = S.size + 1 by rw [List.length_append, text_len]; rfl] at HW
  go_wp2_with fail
  refine (HW.out).mono ?_
  rintro r w11 ⟨rfl, hr⟩
  obtain ⟨d3, f3⟩ := HA.out.ef.hR w11 hr
  have HR := Aside0.mk hr
  clear hr HW hmk hcp hlc hfz hst c0
  go_wp2_with fail
  refine bodyPost_end (results_none (by rfl) _ _ _) rfl ⟨rfl, HA.out.trans (HA.out.ef.step HR.out (q + pd 4 q + 4 + (S.size + 1)) _ ?_)⟩
  first | rfl | (congr 1)
set_option maxHeartbeats 16000000 in
set_option maxRecDepth 100000 in
theorem ef_o (big : Bool) (e b : Nat) (S : ByteArray) (hS : Plain S) (hP : IsPath.f S = some true) (w : World) (B : Nat) (f : Value) (q : Nat) (dep : Int) (bs : List UInt8) (h : Ef w B e b (ordOf big) f q bs) (hd0 : 0 ≤ dep) (hd : dep ≤ 64) (hq : q < 288230376151711744) (hl : bs.length ≤ 800000) :
    Calls Tryz.prog 36 #[.pointer (some ⟨e, 0, none⟩), .agg #[.iface 135 (.string S), .string ⟨#[111]⟩], .int .i64 dep] w fun r w' => r = .returned (.tuple #[]) ∧ Eg w w' B e b (ordOf big) f (q + pd 4 q + 4 + (S.size + 1)) (bs ++ List.replicate (pd 4 q) 0 ++ cntBytes big S.size ++ (S.data.toList ++ [0])) := by
  obtain ⟨hA, hbx, hle, hlb⟩ := h.boxed (.cells #[.iface 135 (.string S), .string ⟨#[111]⟩] 102)
  have hne : e ≠ w.heap.size := by omega
  have hneb : b ≠ w.heap.size := by omega
  have hp4 : pd 4 q < 4 := pd_lt (by decide)
  have hp0 : pd 4 (q + pd 4 q) = 0 := pd_pd 4 q (by decide)
  have hsz := hS.short
  have HA := Aside0.mk hA
  have HBX := Aside0.mk hbx
  have HS := Aside0.mk hS
  clear h hA hbx hS
  go_enter Tryz.func36, Tryz.ntmps36
  go_wp2_with fail
  refine (zType _ _ _).mono ?_
  rintro r w1 ⟨rfl, hb1⟩
  have HA := Aside0.mk (HA.out.old hb1)
  have HBX : Aside0 (w1.heap[w.heap.size]? = some (.cells #[.iface 135 (.string S), .string ⟨#[111]⟩] 102)) := ⟨(hb1.block w.heap.size (by simp)).trans HBX.out⟩
  clear hb1
  go_wp2_with fail
  refine (align_o _).mono ?_
  rintro r w2 ⟨rfl, rfl⟩
  go_wp2_with fail
  refine (align_ef w1 B e b (ordOf big) f q bs HA.out.ef 4 4 rfl (by decide) (by omega) (by omega)).mono ?_
  rintro r w3 ⟨rfl, hE3⟩
  have HBX := Aside0.mk (hE3.box HBX.out hne hneb (by intro c fz hc; cases hc))
  have HA := Aside0.mk (HA.out.trans hE3)
  clear hE3
  obtain ⟨x0, x1⟩ := boxed_cells HBX.out
  go_wp2_with fail
  refine (zKind_o _ _).mono ?_
  rintro r w4 ⟨rfl, hb4⟩
  have HBX : Aside0 (w4.heap[w.heap.size]? = some (.cells #[.iface 135 (.string S), .string ⟨#[111]⟩] 102)) := ⟨(hb4.block w.heap.size (Lib.lt_of_heap HBX.out)).trans HBX.out⟩
  have HA := Aside0.mk (HA.out.old hb4)
  clear hb4 x0 x1
  obtain ⟨x0, x1⟩ := boxed_cells HBX.out
  go_wp2_with fail
  refine (zStr_o S _ _).mono ?_
  rintro r w5 ⟨rfl, hb5⟩
  have HBX : Aside0 (w5.heap[w.heap.size]? = some (.cells #[.iface 135 (.string S), .string ⟨#[111]⟩] 102)) := ⟨(hb5.block w.heap.size (Lib.lt_of_heap HBX.out)).trans HBX.out⟩
  have HA := Aside0.mk (HA.out.old hb5)
  clear hb5 x0 x1
  go_wp2_with fail
  refine (valid_ascii S HS.out.asc (by omega) _).mono ?_
  rintro r w6 ⟨rfl, m6, hm6⟩
  have hb6 : Below w5.heap.size w5 w6 := hm6 ▸ below_drewN (Below.refl _ _) m6
  have HBX : Aside0 (w6.heap[w.heap.size]? = some (.cells #[.iface 135 (.string S), .string ⟨#[111]⟩] 102)) := ⟨(hb6.block w.heap.size (Lib.lt_of_heap HBX.out)).trans HBX.out⟩
  have HA := Aside0.mk (HA.out.old hb6)
  clear hb6 hm6
  go_wp2_with fail
  refine (index0 S HS.out.nz _).mono ?_
  rintro r w7 ⟨rfl, rfl⟩
  obtain ⟨x0, x1⟩ := boxed_cells HBX.out
  go_wp2_with fail
  refine (zType _ _ _).mono ?_
  rintro r w7 ⟨rfl, hb7⟩
  have HBX : Aside0 (w7.heap[w.heap.size]? = some (.cells #[.iface 135 (.string S), .string ⟨#[111]⟩] 102)) := ⟨(hb7.block w.heap.size (Lib.lt_of_heap HBX.out)).trans HBX.out⟩
  have HA := Aside0.mk (HA.out.old hb7)
  clear hb7 x0 x1
  have hwv : IntKind.u32.wrap (S.size : Int) = S.size := by unfold IntKind.wrap; simp [IntKind.signed, IntKind.bits]; omega
  go_wp2_with fail
  refine (IsPath.calls S true _ hP).mono ?_
  rintro r w8 ⟨rfl, hb8⟩
  have HBX : Aside0 (w8.heap[w.heap.size]? = some (.cells #[.iface 135 (.string S), .string ⟨#[111]⟩] 102)) := ⟨(hb8.block w.heap.size (Lib.lt_of_heap HBX.out)).trans HBX.out⟩
  have HA := Aside0.mk (HA.out.old hb8)
  clear hb8
  go_wp2_with fail
  refine (valueOf_117 (.int .u32 S.size) _).mono ?_
  rintro r w8 ⟨rfl, hb8⟩
  have HBX : Aside0 (w8.heap[w.heap.size]? = some (.cells #[.iface 135 (.string S), .string ⟨#[111]⟩] 102)) := ⟨(hb8.block w.heap.size (Lib.lt_of_heap HBX.out)).trans HBX.out⟩
  have HA := Aside0.mk (HA.out.old hb8)
  clear hb8 hwv
  go_wp2_with fail
  refine (ef_u big e b S.size (by omega) w8 B f _ dep _ HA.out.ef hd0 hd (by omega) (by rw [List.length_append, List.length_replicate]; omega)).mono ?_
  rintro r w9 ⟨rfl, hE9⟩
  rw [hp0, Nat.add_zero, List.replicate_zero, List.append_nil] at hE9
  have HBX := Aside0.mk (hE9.box HBX.out hne hneb (by intro c fz hc; cases hc))
  have HA := Aside0.mk (HA.out.trans hE9)
  clear hE9
  obtain ⟨x0, x1⟩ := boxed_cells HBX.out
  go_wp2_with fail
  refine (zLen_o S _ _).mono ?_
  rintro r w10 ⟨rfl, hb10⟩
  have HA := Aside0.mk (HA.out.old hb10)
  clear hb10 x0 x1 HBX
  have hmk : ∀ W, (Instr.makeSlice 24 (.int .i64 ((S.size : Int) + 1)) (.int .i64 ((S.size : Int) + 1))).run Tryz.prog W = .ok (.slice (some ⟨W.heap.size, 0, none⟩) (S.size + 1) (S.size + 1)) (W.alloc (.cells (Array.replicate (S.size + 1) (.int .u8 0)) 5)) := by
    have h := mkB (S.size + 1) (by omega)
    rwa [show ((S.size + 1 : Nat) : Int) = (S.size : Int) + 1 by omega] at h
  have hcp := copy_text S w10
  have hlc := text_last S w10
  have hfz : (w10.alloc (.cells (textRow S) 5)).frozen? ⟨w10.heap.size, S.size, none⟩ = false := Lib.frozen_of_heap (heap_alloc_new w10 _) _
  have hst := text_set S w10
  have hle10 : e < w10.heap.size := Lib.lt_of_heap HA.out.ef.enc
  obtain ⟨c0, -, -, -, -, -⟩ := ef_cells HA.out.ef.enc
  have HW := Aside0.mk ((HA.out.ef.takes (S.data.toList ++ [0]) (by simp only [List.length_append, List.length_replicate, cntBytes_length, text_len, List.length_cons, List.length_nil]; omega)) (w10.alloc (.cells (textRow S) 5)) w10.heap.size (S.size + 1) ((Below.refl _ _).alloc (Nat.le_refl _) _) (Nat.le_refl _) (text_cells S w10))
  rw [show ((S.data.toList ++ [0] : List UInt8)).length = S.size + 1 by rw [List.length_append, text_len]; rfl] at HW
  go_wp2_with fail
  refine (HW.out).mono ?_
  rintro r w11 ⟨rfl, hr⟩
  obtain ⟨d3, f3⟩ := HA.out.ef.hR w11 hr
  have HR := Aside0.mk hr
  clear hr HW hmk hcp hlc hfz hst c0
  go_wp2_with fail
  refine bodyPost_end (results_none (by rfl) _ _ _) rfl ⟨rfl, HA.out.trans (HA.out.ef.step HR.out (q + pd 4 q + 4 + (S.size + 1)) _ ?_)⟩
  first | rfl | (congr 1)
end Go.Proofs.YtldjigfnagfalaaGreatDoor.Given
end
section
namespace Go.Proofs.YtldjigfnagfalaaGreatDoor.Given
open Go.RowKit Go.Proofs.YtldjigfnagfalaaGreatDoorW.PrintWords
set_option linter.unusedVariables false
attribute [local go_sem] me_write as_111_111 as_111_158 as_158_111 as_158_158 ai_113
set_option maxHeartbeats 8000000 in
theorem zField_g (S t : ByteArray) (w : World) : Calls Tryz.prog 61 #[.agg #[.iface 111 (.agg #[.string S]), .string t], .int .i64 0] w fun e w' => e = .returned (.agg #[.iface 9 (.string S), .string ⟨#[115]⟩]) ∧ Below w.heap.size w w' := by
  go_enter Tryz.func61, Tryz.ntmps61
  go_wp2_with fail
  refine (valueOf_s S _).mono ?_
  rintro r w1 ⟨rfl, hb1⟩
  obtain ⟨hc1, hf1⟩ := bcell hb1
  have hz := hb1.size
  go_wp2_with fail
  refine bodyPost_ret (v := .agg #[.iface 9 (.string S), .string ⟨#[115]⟩]) (by simp [results, go_sem, hc1]) rfl ⟨rfl, ?_⟩
  have hb := below_step (w := w) (by repeat (first | exact Below.refl _ _ | apply below_alloc | apply below_drew)) hb1
  exact (hb.setCell (by simp) _).setCell (by simp) _
theorem copy_textg (S : ByteArray) (W : World) (g : Nat) (hg : W.heap[g]? = some (.cells (Array.replicate (S.size + 1) (.int .u8 0)) 5)) : (Builtin.copy_ #[24, 9] 3 #[.slice (some ⟨g, 0, none⟩) (S.size + 1) (S.size + 1), .string S]).run Tryz.prog W =
    .ok (goInt S.size) (W.setRow g (textRow S)) := by
  rw [Lib.run_copy_row_string (P := Tryz.prog) W 24 9 3 5 g 0 _ _ S _ 5 Tryz.underlying24 info5 hg (by omega) (by simp)]
  congr 1
  unfold textRow
  rw [Lib.byteCells_append]
  congr 1
  simp [Lib.byteCells]
theorem text_cellsg (S : ByteArray) (W : World) (g : Nat) (hg : W.heap[g]? = some (.cells (textRow S) 5)) : ∀ j v, (Lib.byteCells (S.data.toList ++ [0]))[j]? = some v → W.cell? ((⟨g, 0, none⟩ : Addr).add j) = some v := by
  intro j v hj
  rw [Lib.addr_add, Lib.cell_of_heap hg, Nat.zero_add]
  unfold textRow
  simpa using hj
theorem text_lastg (S : ByteArray) (W : World) (g : Nat) (hg : W.heap[g]? = some (.cells (textRow S) 5)) : W.cell? ⟨g, S.size, none⟩ = some (.int .u8 0) := by
  have := text_cellsg S W g hg S.size (.int .u8 0) (by simp [Lib.byteCells, List.getElem?_append, text_len])
  rwa [Lib.addr_add, Nat.zero_add] at this
theorem text_setg (S : ByteArray) (W : World) (g : Nat) (hg : W.heap[g]? = some (.cells (textRow S) 5)) : W.setCell ⟨g, S.size, none⟩ (.int .u8 0) = W := by
  have h := text_lastg S W g hg
  rw [setCell_eq_setRow _ g S.size (textRow S) 5 (0, 0) _ hg]
  have hz : S.size < (textRow S).size := by unfold textRow; simp [Lib.byteCells, text_len]
  have hs : (textRow S).setIfInBounds S.size (.int .u8 0) = textRow S := by
    apply Array.ext (by simp)
    intro i h1 h2
    rw [Array.getElem_setIfInBounds]
    split
    · rename_i hi
      subst hi
      rw [Lib.cell_of_heap hg, Array.getElem?_eq_getElem hz] at h
      exact (Option.some.inj h).symm
    · rfl
  rw [hs]
  exact setRow_self _ _ _ 5 (0, 0) hg
theorem pd_one (q : Nat) : pd 1 q = 0 := by unfold pd; omega
def sigBytes (S : ByteArray) : List UInt8 := [UInt8.ofNat S.size] ++ (S.data.toList ++ [0])
theorem sigBytes_len (S : ByteArray) : (sigBytes S).length = S.size + 2 := by
  unfold sigBytes
  rw [List.length_append, List.length_append, text_len]
  simp
  omega
theorem boxed_block {W W' : World} {x : Nat} {ob : Obj} (h : W.heap[x]? = some ob) (hb : Below W.heap.size W W') : W'.heap[x]? = some ob := (hb.block x (Lib.lt_of_heap h)).trans h
set_option maxHeartbeats 16000000 in
set_option maxRecDepth 100000 in
theorem ef_g (big : Bool) (e b : Nat) (S : ByteArray) (hS : S.size ≤ 200) (w : World) (B : Nat) (f : Value) (q : Nat) (dep : Int) (bs : List UInt8) (h : Ef w B e b (ordOf big) f q bs) (hd0 : 0 ≤ dep) (hd : dep ≤ 64) (hq : q < 288230376151711744) (hl : bs.length ≤ 800000) :
    Calls Tryz.prog 36 #[.pointer (some ⟨e, 0, none⟩), .agg #[.iface 111 (.agg #[.string S]), .string ⟨#[103]⟩], .int .i64 dep] w fun r w' => r = .returned (.tuple #[]) ∧ Eg w w' B e b (ordOf big) f (q + 1 + (S.size + 1)) (bs ++ [UInt8.ofNat S.size] ++ (S.data.toList ++ [0])) := by
  obtain ⟨hA, hbx, hle, hlb⟩ := h.boxed (.cells #[.iface 111 (.agg #[.string S]), .string ⟨#[103]⟩] 102)
  have hne : e ≠ w.heap.size := by omega
  have hneb : b ≠ w.heap.size := by omega
  have HA := Aside0.mk hA
  have HBX := Aside0.mk hbx
  clear h hA hbx
  go_enter Tryz.func36, Tryz.ntmps36
  go_wp2_with fail
  refine (zType _ _ _).mono ?_
  rintro r w1 ⟨rfl, hb1⟩
  have HA := Aside0.mk (HA.out.old hb1)
  have HBX := Aside0.mk (boxed_block HBX.out hb1)
  clear hb1
  go_wp2_with fail
  refine (align_g _).mono ?_
  rintro r w2 ⟨rfl, rfl⟩
  go_wp2_with fail
  refine (align_ef w1 B e b (ordOf big) f q bs HA.out.ef 1 1 rfl (by decide) (by omega) (by omega)).mono ?_
  rintro r w3 ⟨rfl, hE3⟩
  rw [pd_one, Nat.add_zero, List.replicate_zero, List.append_nil] at hE3
  have HBX := Aside0.mk (hE3.box HBX.out hne hneb (by intro c fz hc; cases hc))
  have HA := Aside0.mk (HA.out.trans hE3)
  clear hE3
  obtain ⟨x0, x1⟩ := boxed_cells HBX.out
  go_wp2_with fail
  refine (zKind_g _ _).mono ?_
  rintro r w4 ⟨rfl, hb4⟩
  have HBX := Aside0.mk (boxed_block HBX.out hb4)
  have HA := Aside0.mk (HA.out.old hb4)
  clear hb4 x0 x1
  obtain ⟨x0, x1⟩ := boxed_cells HBX.out
  go_wp2_with fail
  refine (zType _ _ _).mono ?_
  rintro r w5 ⟨rfl, hb5⟩
  have HBX := Aside0.mk (boxed_block HBX.out hb5)
  have HA := Aside0.mk (HA.out.old hb5)
  clear hb5 x0 x1
  obtain ⟨x0, x1⟩ := boxed_cells HBX.out
  go_wp2_with fail
  refine (zField_g S _ _).mono ?_
  rintro r w6 ⟨rfl, hb6⟩
  have HA := Aside0.mk (HA.out.old hb6)
  clear hb6 x0 x1 HBX
  have hle6 : e < w6.heap.size := Lib.lt_of_heap HA.out.ef.enc
  have hlb6 : b < w6.heap.size := HA.out.ef.buf.lt
  have HA := Aside0.mk (HA.out.old ((Below.refl _ _).alloc (Nat.le_refl _) (.cells #[.iface 9 (.string S), .string ⟨#[115]⟩] 102)))
  have HBX : Aside0 ((w6.alloc (.cells #[.iface 9 (.string S), .string ⟨#[115]⟩] 102)).heap[w6.heap.size]? = some (.cells #[.iface 9 (.string S), .string ⟨#[115]⟩] 102)) := ⟨heap_alloc_new w6 _⟩
  have hnx : e ≠ w6.heap.size := by omega
  have hnbx : b ≠ w6.heap.size := by omega
  go_wp2_with fail
  refine (zLen_s S _ _).mono ?_
  rintro r w7 ⟨rfl, hb7⟩
  have HBX := Aside0.mk (boxed_block HBX.out hb7)
  have HA := Aside0.mk (HA.out.old hb7)
  clear hb7
  have hwv : IntKind.u8.wrap (S.size : Int) = S.size := by unfold IntKind.wrap; simp [IntKind.signed, IntKind.bits]; omega
  go_wp2_with fail
  refine (valueOf_121 (.int .u8 S.size) _).mono ?_
  rintro r w8 ⟨rfl, hb8⟩
  have HBX := Aside0.mk (boxed_block HBX.out hb8)
  have HA := Aside0.mk (HA.out.old hb8)
  clear hb8 hwv
  go_wp2_with fail
  refine (ef_y e b S.size (by omega) w8 B (ordOf big) f _ dep _ HA.out.ef hd0 hd (by omega) (by omega)).mono ?_
  rintro r w9 ⟨rfl, hE9⟩
  have HBX := Aside0.mk (hE9.box HBX.out hnx hnbx (by intro c fz hc; cases hc))
  have HA := Aside0.mk (HA.out.trans hE9)
  clear hE9
  obtain ⟨x0, x1⟩ := boxed_cells HBX.out
  go_wp2_with fail
  refine (zLen_s S _ _).mono ?_
  rintro r w10 ⟨rfl, hb10⟩
  have HBX := Aside0.mk (boxed_block HBX.out hb10)
  have HA := Aside0.mk (HA.out.old hb10)
  clear hb10 x0 x1
  have hmk : ∀ W, (Instr.makeSlice 24 (.int .i64 ((S.size : Int) + 1)) (.int .i64 ((S.size : Int) + 1))).run Tryz.prog W = .ok (.slice (some ⟨W.heap.size, 0, none⟩) (S.size + 1) (S.size + 1)) (W.alloc (.cells (Array.replicate (S.size + 1) (.int .u8 0)) 5)) := by
    have h := mkB (S.size + 1) (by omega)
    rwa [show ((S.size + 1 : Nat) : Int) = (S.size : Int) + 1 by omega] at h
  have HBX := Aside0.mk (boxed_block HBX.out ((Below.refl w10.heap.size w10).alloc (Nat.le_refl _) (.cells (Array.replicate (S.size + 1) (.int .u8 0)) 5)))
  obtain ⟨x0, x1⟩ := boxed_cells HBX.out
  go_wp2_with fail
  refine (zStr_s S _ _).mono ?_
  rintro r w11 ⟨rfl, hb11⟩
  clear x0 x1 hmk HBX
  have hg : w11.heap[w10.heap.size]? = some (.cells (Array.replicate (S.size + 1) (.int .u8 0)) 5) := boxed_block (heap_alloc_new w10 _) hb11
  have hB11 : Below w10.heap.size w10 (w11.setRow w10.heap.size (textRow S)) := below_setRow (((Below.refl _ _).alloc (Nat.le_refl _) _).trans (hb11.mono (by simp))) (Nat.le_refl _) _
  clear hb11
  have hg2 : (w11.setRow w10.heap.size (textRow S)).heap[w10.heap.size]? = some (.cells (textRow S) 5) := setRow_heap _ _ _ _ 5 (0, 0) hg
  have hcp := copy_textg S w11 w10.heap.size hg
  have hlc := text_lastg S _ w10.heap.size hg2
  have hfz : (w11.setRow w10.heap.size (textRow S)).frozen? ⟨w10.heap.size, S.size, none⟩ = false := Lib.frozen_of_heap hg2 _
  have hst := text_setg S _ w10.heap.size hg2
  have HE11 := Aside0.mk (HA.out.old hB11)
  obtain ⟨c0, -, -, -, -, -⟩ := ef_cells HE11.out.ef.enc
  have HW := Aside0.mk ((HA.out.ef.takes (S.data.toList ++ [0]) (by simp only [List.length_append, text_len, List.length_cons, List.length_nil]; omega)) (w11.setRow w10.heap.size (textRow S)) w10.heap.size (S.size + 1) hB11 (Nat.le_refl _) (text_cellsg S _ w10.heap.size hg2))
  rw [show ((S.data.toList ++ [0] : List UInt8)).length = S.size + 1 by rw [List.length_append, text_len]; rfl] at HW
  clear hB11 hg hg2
  go_wp2_with fail
  refine (HW.out).mono ?_
  rintro r w12 ⟨rfl, hr⟩
  obtain ⟨d3, f3⟩ := HA.out.ef.hR w12 hr
  have HR := Aside0.mk hr
  clear hr HW hcp hlc hfz hst c0
  go_wp2_with fail
  refine bodyPost_end (results_none (by rfl) _ _ _) rfl ⟨rfl, HA.out.trans (HA.out.ef.step HR.out (q + 1 + (S.size + 1)) _ ?_)⟩
  first | rfl | (congr 1)
end Go.Proofs.YtldjigfnagfalaaGreatDoor.Given
end
