/- VtUnquote of a text in marks without backslashes. -/
import Derived.Test.YtgljkbhjbefikaaDoorGvPu
import Derived.Test.YtgljkbhjbefikaaDoorShelf
import Derived.Test.YtgljkbhjbefikaaDoorUqp
import Derived.LoopTactic
import Derived.Deep.QuietTactic
import Derived.BigQuiet
import Derived.Lib.BufferOld
namespace Go.Proofs.YtgljkbhjbefikaaDoor.Given
open Go.RowKit Go.Proofs.YtgljkbhjbefikaaDoorW.PrintWords Go.Proofs.YtgljkbhjbefikaaDoor.Uq
/-- What VtUnquote answers of a text in marks without backslashes. -/
def unq.f (s : ByteArray) : Option (ByteArray × Bool) :=
  if s.size < 2 then none else if 1099511627776 < s.size then none
  else if (s.extract 1 (s.size - 1)).data.toList.any (fun c => c.toNat == 92) = true then none
  else if vdF (s.extract 1 (s.size - 1)).size (s.extract 1 (s.size - 1)).data.toList = true then some (s.extract 1 (s.size - 1), true) else some (⟨#[]⟩, false)
def Tabs (w : World) : Prop := Lib.Utf8Tabs 1 2 w
theorem Tabs.below {w w' : World} {n : Nat} (h : Tabs w) (hb : Below n w w') (hn : w.heap.size ≤ n) : Tabs w' :=
  ⟨fun c hc => (hb.cell (p := ⟨1, c, none⟩) (Nat.lt_of_lt_of_le (block_lt_of_cell (h.1 c hc)) hn)).trans (h.1 c hc), fun i hi => ⟨(hb.cell (p := ⟨2, 2 * i, none⟩) (Nat.lt_of_lt_of_le (block_lt_of_cell (h.2 i hi).1) hn)).trans (h.2 i hi).1, (hb.cell (p := ⟨2, 2 * i + 1, none⟩) (Nat.lt_of_lt_of_le (block_lt_of_cell (h.2 i hi).2) hn)).trans (h.2 i hi).2⟩⟩

/-- What stands behind so much written. -/
structure St (w : World) (I : ByteArray) (q : Bool) (T : ByteArray) (p : List UInt8) (wr : World) : Prop where
  list : p ++ T.data.toList = I.data.toList
  val : ∃ d, T.size ≤ d ∧ vdF d T.data.toList = q
  buf : Lib.IsBuffer 69 5 w.heap.size w.heap.size (Lib.byteCells p) wr
  bel : Below w.heap.size w wr
def sz : Value → Nat
  | .string t => t.size
  | _ => 0
theorem go_eq {T : ByteArray} (h0 : T.size ≠ 0) : Lib.decodeGo T = Lib.decodeL T.data.toList := by
  unfold Lib.decodeGo
  rw [if_neg h0, ← Lib.decodeL_drop T 0, List.drop_zero]
theorem ne_nil {T : ByteArray} (h0 : T.size ≠ 0) : T.data.toList ≠ [] := by
  intro h
  apply h0
  have := congrArg List.length h
  rw [Array.length_toList] at this
  exact this
theorem len_eq (T : ByteArray) : T.data.toList.length = T.size := by rw [Array.length_toList]; rfl
theorem ext_drop (T : ByteArray) (K : Nat) : (T.extract K T.size).data.toList = T.data.toList.drop K := by
  rw [ByteArray.data_extract, Array.toList_extract, List.extract_eq_take_drop, List.take_of_length_le]
  rw [List.length_drop, len_eq]; exact Nat.le_refl _
theorem St.val1 {w wr : World} {I T : ByteArray} {q : Bool} {p : List UInt8} (h : St w I q T p wr) (h0 : T.size ≠ 0) : ∃ d, T.size ≤ d + 1 ∧ (if (Lib.decodeGo T).1 = 65533 ∧ (Lib.decodeGo T).2 = 1 then false else vdF d (T.data.toList.drop (Lib.decodeGo T).2)) = q := by
  obtain ⟨d, hd, hv⟩ := h.val
  obtain ⟨d, rfl⟩ : ∃ m, d = m + 1 := ⟨d - 1, by omega⟩
  refine ⟨d, hd, ?_⟩
  rw [go_eq h0]
  simp only [vdF, if_neg (ne_nil h0)] at hv
  exact hv
theorem St.bad {w wr : World} {I T : ByteArray} {q : Bool} {p : List UInt8} (h : St w I q T p wr) (h0 : T.size ≠ 0) (hb : (Lib.decodeGo T).1 = 65533 ∧ (Lib.decodeGo T).2 = 1) : q = false := by
  obtain ⟨d, _, hv⟩ := h.val1 h0
  rw [if_pos hb] at hv
  exact hv.symm
theorem St.done {w wr : World} {I T : ByteArray} {q : Bool} {p : List UInt8} (h : St w I q T p wr) (h0 : T.size = 0) : q = true ∧ I = ⟨p.toArray⟩ := by
  have hn : T.data.toList = [] := by
    apply List.eq_nil_of_length_eq_zero
    rw [len_eq]; exact h0
  obtain ⟨d, _, hv⟩ := h.val
  rw [hn] at hv
  refine ⟨?_, ?_⟩
  · cases d with
    | zero => exact hv.symm
    | succ d => simp only [vdF, if_true] at hv; exact hv.symm
  · have := h.list
    rw [hn, List.append_nil] at this
    rw [this]
theorem St.width {w wr : World} {I T : ByteArray} {q : Bool} {p : List UInt8} (h : St w I q T p wr) (h0 : T.size ≠ 0) (hno : ∀ c ∈ I.data.toList, c.toNat ≠ 92) : (Lib.decodeGo T).1 ≠ 92 ∧ (Lib.decodeGo T).1 ≤ 1114111 ∧ 1 ≤ (Lib.decodeGo T).2 ∧ (Lib.decodeGo T).2 ≤ T.size := by
  rw [go_eq h0, ← len_eq]
  refine dec_ne _ (ne_nil h0) 92 (by decide) (fun c hc => hno c ?_)
  rw [← h.list]
  exact List.mem_append_right _ hc
theorem St.step {w wr w2 : World} {I T : ByteArray} {q : Bool} {p : List UInt8} (h : St w I q T p wr) (h0 : T.size ≠ 0) (hg : ¬ ((Lib.decodeGo T).1 = 65533 ∧ (Lib.decodeGo T).2 = 1))
    (hb : Lib.IsBuffer 69 5 w.heap.size w.heap.size (Lib.byteCells p ++ Lib.runeCells ((Lib.decodeGo T).1 : Int)) w2) (hbel : Below w.heap.size w w2) :
    St w I q (T.extract (Lib.decodeGo T).2 T.size) (p ++ T.data.toList.take (Lib.decodeGo T).2) w2 := by
  obtain ⟨d, hd, hv⟩ := h.val1 h0
  rw [if_neg hg] at hv
  have he : Lib.encodeRune ((Lib.decodeGo T).1 : Int) = T.data.toList.take (Lib.decodeGo T).2 := by
    rw [go_eq h0] at hg ⊢
    exact Lib.encode_decode _ (ne_nil h0) hg
  have hw : 1 ≤ (Lib.decodeGo T).2 := by
    have := dec_w T 0 (by omega)
    unfold Lib.decodeGo
    rw [if_neg h0]; exact this.1
  refine ⟨?_, ⟨d, ?_, ?_⟩, ?_, hbel⟩
  · rw [ext_drop, List.append_assoc, List.take_append_drop]; exact h.list
  · rw [← len_eq, ext_drop, List.length_drop, len_eq]; omega
  · rw [ext_drop]; exact hv
  · rw [Lib.byteCells_append, ← he, Lib.byteCells_encodeRune]; exact hb

theorem step_end {w wr w5 w6 : World} {I T : ByteArray} {q : Bool} {p : List UInt8} {R : Int} {K : Nat} (HS : Aside0 (St w I q T p wr)) (H0 : Aside0 (T.size ≠ 0)) (HRK : Aside0 (((Lib.decodeGo T).1 : Int) = R ∧ (Lib.decodeGo T).2 = K)) (HG : Aside0 (¬ ((Lib.decodeGo T).1 = 65533 ∧ (Lib.decodeGo T).2 = 1)))
    (HB5 : Aside0 (Below wr.heap.size wr w5)) (HB6 : Aside0 (Lib.IsBuffer 69 5 w.heap.size w.heap.size (Lib.byteCells p ++ Lib.runeCells R) w6)) (HL6 : Aside0 (Below w.heap.size w5 w6)) (hsw : w.heap.size ≤ wr.heap.size) :
    ∃ (T' : ByteArray) (p' : List UInt8), Value.string (T.extract K T.size) = .string T' ∧ Aside0 (St w I q T' p' w6) := by
  obtain ⟨hR, hK⟩ := HRK.out
  subst hR; subst hK
  exact ⟨_, _, rfl, ⟨HS.out.step H0.out HG.out HB6.out ((HS.out.bel.trans (HB5.out.mono hsw)).trans HL6.out)⟩⟩
theorem meas_end {T : ByteArray} {K : Nat} (H0 : Aside0 (T.size ≠ 0)) (h1 : (1 : Int) ≤ (K : Int)) (h2 : (K : Int) ≤ (T.size : Int)) : sz (.string (T.extract K T.size)) < sz (.string T) := by
  have := H0.out
  show (T.extract K T.size).size < T.size
  rw [ByteArray.size_extract]; omega

set_option maxRecDepth 100000 in
set_option maxHeartbeats 8000000 in
theorem pstr.calls (s I : ByteArray) (q : Bool) (hI : s.extract 1 (s.size - 1) = I) (h2 : 2 ≤ s.size) (hs : s.size ≤ 1099511627776) (hno : ∀ c ∈ I.data.toList, c.toNat ≠ 92) (hq : vdF I.size I.data.toList = q) (w : World) (hT : Tabs w) :
    Calls Tryd.prog 26 #[.string s] w fun e w' => ∃ v : Value, e = .returned (.tuple #[.string (if q = true then I else ⟨#[]⟩), v]) ∧ IsErr v (if q = true then none else some 0) ∧ Below w.heap.size w w' := by
  have hsz : I.size = s.size - 2 := by rw [← hI, ByteArray.size_extract]; omega
  have hstart : Aside0 (St w I q I [] (w.alloc (.cells #[.slice none 0 0, .int .i64 0, .int .i8 0] 69))) := ⟨⟨rfl, ⟨I.size, Nat.le_refl _, hq⟩, Lib.fresh_isBuffer 69 5 w, (Below.refl _ _).alloc (Nat.le_refl _) _⟩⟩
  have HT := Aside0.mk hT
  have HN := Aside0.mk hno
  clear hT hno hq
  have e1 : wrap64 ((s.size : Int) - 1) = (s.size : Int) - 1 := by unfold wrap64; omega
  have e2 : ((s.size : Int) - 1).toNat = s.size - 1 := by omega
  have g1 : (1 : Int) ≤ (s.size : Int) - 1 := by omega
  have g2 : (s.size : Int) - 1 ≤ (s.size : Int) := by omega
  go_enter Tryd.func26, Tryd.ntmps26
  go_wp2
  go_loopw [0] (fun v wr => ∃ (T : ByteArray) (p : List UInt8), v = .string T ∧ Aside0 (St w I q T p wr)) (fun v _ => sz v)
  case atStart => exact ⟨I, [], by first | rfl | (rw [hI]; done) | simp [hI], hstart⟩
  case round =>
    obtain ⟨T, p, rfl, hst⟩ := hrel
    have hTw := (HT.out).below hst.out.bel (Nat.le_refl _)
    have hsw : w.heap.size ≤ wr.heap.size := hst.out.bel.size
    clear hstart
    by_cases h0 : T.size = 0
    · obtain ⟨hq1, hIp⟩ := hst.out.done h0
      have HB := Aside0.mk hst.out.buf
      have HL := Aside0.mk hst.out.bel
      have HIP := Aside0.mk hIp
      subst hq1
      clear hst hIp hI hTw
      have h0b : ((T.size : Int) != 0) = false := by rw [bne_eq_false_iff_eq]; omega
      clear h0
      go_wp2_with (go_at_call 41; refine (Tryd.Buffer_String w.heap.size w.heap.size p _ HB.out).mono ?_; rintro e W2 ⟨rfl, n, rfl⟩)
      go_ret2
      exact ⟨_, by rw [HIP.out]; rfl, rfl, HL.out.trans ⟨rfl, rfl, rfl, Nat.le_refl _, fun _ _ => rfl⟩⟩
    · obtain ⟨w1, w2, w3, w4⟩ := hst.out.width h0 HN.out
      obtain ⟨R, hR⟩ : ∃ R : Int, ((Lib.decodeGo T).1 : Int) = R := ⟨_, rfl⟩
      obtain ⟨K, hK⟩ : ∃ K : Nat, (Lib.decodeGo T).2 = K := ⟨_, rfl⟩
      have hdec := fun W h => Tryd.utf8_DecodeRuneInString T W h
      rw [hR, hK] at hdec
      have hR0 : 0 ≤ R := by omega
      have hR1 : R ≤ 1114111 := by omega
      have hR92 : (R != 92) = true := by rw [bne_iff_ne]; omega
      have h0b : ((T.size : Int) != 0) = true := by rw [bne_iff_ne]; omega
      have hK1 : (1 : Int) ≤ (K : Int) := by omega
      have hK2 : (K : Int) ≤ (T.size : Int) := by omega
      have hK0 : (0 : Int) ≤ (K : Int) := by omega
      have HRK := Aside0.mk (And.intro hR hK)
      have HDEC := Aside0.mk hdec
      have HTW := Aside0.mk hTw
      have H0 := Aside0.mk h0
      by_cases hbad : R = 65533 ∧ K = 1
      · have hq1 := hst.out.bad h0 (by omega)
        subst hq1
        have b1 : (R == 65533) = true := by rw [beq_iff_eq]; exact hbad.1
        have b2 : ((K : Int) == 1) = true := by rw [beq_iff_eq]; omega
        have HL := Aside0.mk hst.out.bel
        clear hst hbad hR hK hdec hTw h0 w1 w2 w3 w4 hI
        go_wp2_with (first
          | (go_at_call 39; refine (HDEC.out _ HTW.out).mono ?_; rintro e w5 ⟨rfl, hb5⟩; have HB5 := Aside0.mk hb5; clear hb5)
          | (go_at_call 37; refine (errNew.calls _ _ _ rfl).mono ?_; rintro e w6 ⟨v6, rfl, hv6, hb6⟩; have HV6 := Aside0.mk hv6; have HB6 := Aside0.mk hb6; clear hv6 hb6))
        go_ret2
        exact ⟨_, rfl, HV6.out, HL.out.trans ((HB5.out.mono hsw).trans (HB6.out.mono (Nat.le_trans hsw HB5.out.size)))⟩
      · have hgood : ¬ ((Lib.decodeGo T).1 = 65533 ∧ (Lib.decodeGo T).2 = 1) := by omega
        have HG := Aside0.mk hgood
        have HS := hst
        have hlim : (Lib.byteCells p).length + 4 ≤ 140737488355328 := by
          rw [Lib.byteCells_length]
          have hl := congrArg List.length hst.out.list
          rw [List.length_append, len_eq, len_eq] at hl
          omega
        have hbuf := hst.out.buf
        have HBUF := Aside0.mk hbuf
        have HLIM := Aside0.mk hlim
        clear hst hgood hdec hTw h0 w1 w2 w3 w4 hI hlim hbuf hR hK
        by_cases hr : R = 65533
        · have b1 : (R == 65533) = true := by rw [beq_iff_eq]; exact hr
          have b2 : ((K : Int) == 1) = false := by rw [beq_eq_false_iff_ne]; omega
          clear hr hbad
          go_wp2_with (first
            | (go_at_call 39; refine (HDEC.out _ HTW.out).mono ?_; rintro e w5 ⟨rfl, hb5⟩; have HB5 := Aside0.mk hb5; clear hb5)
            | (go_at_call 40; refine (Tryd.Buffer_WriteRune_k w.heap.size w.heap.size _ R (by omega) (by omega) _ (HBUF.out.old HB5.out) (Nat.le_trans hsw HB5.out.size) (Lib.byteCells_one _) HLIM.out).mono ?_; rintro e w6 ⟨rfl, hb6, hl6, hk6⟩; have HB6 := Aside0.mk hb6; have HL6 := Aside0.mk hl6; clear hb6 hl6 hk6))
          go_roundw
          case rel => exact step_end HS H0 HRK HG HB5 HB6 HL6 hsw
          case measure => exact meas_end H0 hK1 hK2
        · have b1 : (R == 65533) = false := by rw [beq_eq_false_iff_ne]; exact hr
          clear hr hbad
          go_wp2_with (first
            | (go_at_call 39; refine (HDEC.out _ HTW.out).mono ?_; rintro e w5 ⟨rfl, hb5⟩; have HB5 := Aside0.mk hb5; clear hb5)
            | (go_at_call 40; refine (Tryd.Buffer_WriteRune_k w.heap.size w.heap.size _ R (by omega) (by omega) _ (HBUF.out.old HB5.out) (Nat.le_trans hsw HB5.out.size) (Lib.byteCells_one _) HLIM.out).mono ?_; rintro e w6 ⟨rfl, hb6, hl6, hk6⟩; have HB6 := Aside0.mk hb6; have HL6 := Aside0.mk hl6; clear hb6 hl6 hk6))
          go_roundw
          case rel => exact step_end HS H0 HRK HG HB5 HB6 HL6 hsw
          case measure => exact meas_end H0 hK1 hK2

set_option maxRecDepth 100000 in
set_option maxHeartbeats 8000000 in
theorem unq.calls (a0 : ByteArray) (r1 : ByteArray) (r2 : Bool) (w : World) (hG : Tabs w) (h : unq.f a0 = some (r1, r2)) :
    Calls Tryd.prog 9 #[.string a0] w fun e w' => e = .returned (.tuple #[.string r1, .bool r2]) ∧ Below w.heap.size w w' := by
  unfold unq.f at h
  by_cases h1 : a0.size < 2
  · rw [if_pos h1] at h; cases h
  rw [if_neg h1] at h
  by_cases h2 : 1099511627776 < a0.size
  · rw [if_pos h2] at h; cases h
  rw [if_neg h2] at h
  obtain ⟨I, hI⟩ : ∃ I, a0.extract 1 (a0.size - 1) = I := ⟨_, rfl⟩
  rw [hI] at h
  by_cases h3 : I.data.toList.any (fun c => c.toNat == 92) = true
  · rw [if_pos h3] at h; cases h
  rw [if_neg h3] at h
  have hno : ∀ c ∈ I.data.toList, c.toNat ≠ 92 := by
    intro c hc e
    exact h3 (List.any_eq_true.2 ⟨c, hc, by rw [beq_iff_eq]; exact e⟩)
  have hp := fun W hW => pstr.calls a0 I _ hI (by omega) (by omega) hno rfl W hW
  have hdoor : ∀ (W : World) (hW : Tabs W), Calls Tryd.prog 17 #[.string a0] W fun e w' => ∃ v : Value, e = .returned (.tuple #[.string (if vdF I.size I.data.toList = true then I else ⟨#[]⟩), v]) ∧ IsErr v (if vdF I.size I.data.toList = true then none else some 0) ∧ Below W.heap.size W w' := by
    intro W hW
    have hpw := hp W hW
    generalize (if vdF I.size I.data.toList = true then I else ⟨#[]⟩) = S0 at hpw ⊢
    generalize (if vdF I.size I.data.toList = true then none else some (0 : Int)) = E0 at hpw ⊢
    have HP := Aside0.mk hpw
    clear hpw hp h hI h3 hno
    go_enter Tryd.func17, Tryd.ntmps17
    go_wp2_with (go_at_call 26; refine HP.out.mono ?_; rintro e w5 ⟨v5, rfl, hv5, hb5⟩; have HV5 := Aside0.mk hv5; have HB5 := Aside0.mk hb5; clear hv5 hb5)
    go_ret2
    exact ⟨_, rfl, HV5.out, HB5.out⟩
  have hlen : ((a0.size : Int) < 2) = False := eq_false (by omega)
  have hlen2 : (a0.size < 2) = False := eq_false h1
  obtain ⟨q, hq⟩ : ∃ q, vdF I.size I.data.toList = q := ⟨_, rfl⟩
  rw [hq] at h
  have HD := Aside0.mk (hdoor w hG)
  rw [hq] at HD
  clear hp hI h3 hno hdoor hq
  cases q with
  | true =>
    rw [if_pos rfl] at h
    have e := Option.some.inj h
    obtain ⟨rfl, rfl⟩ := Prod.mk.inj e
    clear h e
    go_enter Tryd.func9, Tryd.ntmps9
    go_wp2_with (go_at_call 17; refine HD.out.mono ?_; rintro e w5 ⟨v5, rfl, hv5, hb5⟩; obtain rfl : v5 = .nilIface := hv5; have HB5 := Aside0.mk hb5; clear hb5)
    repeat (go_quiet (fail); try go_wp2)
    go_ret2
    exact ⟨rfl, HB5.out.trans ⟨rfl, rfl, rfl, Nat.le_refl _, fun _ _ => rfl⟩⟩
  | false =>
    rw [if_neg (by decide)] at h
    have e := Option.some.inj h
    obtain ⟨rfl, rfl⟩ := Prod.mk.inj e
    clear h e
    have hu37 := Tryd.underlying37
    go_enter Tryd.func9, Tryd.ntmps9
    go_wp2_with (go_at_call 17; refine HD.out.mono ?_; rintro e w5 ⟨v5, rfl, ⟨et_, eu_, rfl⟩, hb5⟩; have HB5 := Aside0.mk hb5; clear hb5)
    repeat (go_quiet (fail); try go_wp2)
    go_ret2
    exact ⟨rfl, HB5.out.trans ⟨rfl, rfl, rfl, Nat.le_refl _, fun _ _ => rfl⟩⟩
end Go.Proofs.YtgljkbhjbefikaaDoor.Given
