/- typeFor over the words of trees: the type's own text. -/
import Derived.Test.YthkblpbabcibcaaDoorTyw
import Derived.Test.YthkblpbabcibcaaDoorSgB
import Derived.Test.YthkblpbabcibcaaDoorPThx1
import Derived.Test.YthkblpbabcibcaaDoorPThx3
import Derived.Outline
import Derived.Handy
namespace Go.Proofs.YthkblpbabcibcaaDoor.Given
open Go.RowKit Go.Proofs.YthkblpbabcibcaaDoorW.PrintWords Go.Proofs.YthkblpbabcibcaaDoor.Pl Go.Proofs.YthkblpbabcibcaaDoor.Utf Go.Proofs.YthkblpbabcibcaaDoor.Bm Go.Proofs.YthkblpbabcibcaaDoor.By Go.Proofs.YthkblpbabcibcaaDoor.SgT Go.Proofs.YthkblpbabcibcaaDoor.PTh

theorem vs_word {s : ByteArray} {x : Tr} (hx : wf x true) (h : bytesOf s = word x) {k : Nat} (hk : s.size < k) (a t d : Int) (hf : fits x a t d = true) :
    vs k s a t d = some ⟨#[]⟩ := by
  have h1 := vs_list k s a t d
  have hl : (word x).length < k := by
    have := congrArg List.length h
    rw [bytesOf_length] at this; omega
  have h2 := (vsL_word x).1 hx k [] a t d hl
  rw [List.append_nil, hf, if_pos rfl] at h2
  rw [h, h2] at h1
  cases hv : vs k s a t d with
  | none => rw [hv] at h1; cases h1
  | some r =>
    rw [hv] at h1
    have h3 : bytesOf r = [] := Option.some.inj h1
    rw [empty_of (bytesOf_nil.mp h3)]

/-- What the program's reader hands back for a type. -/
theorem read_word {s : ByteArray} {x : Tr} (hx : wf x true) (h : bytesOf s = word x) (hs : s.size ≤ 4611686018427387904) (hf : fits x 0 0 0 = true) (b : Nat) (w : World) (hc : Dc w b 0 0 0) :
    Calls Tryd.prog 16 #[.string s, .pointer (some ⟨b, 0, none⟩)] w fun e w' => e = .returned (.tuple #[.nilIface, .string ⟨#[]⟩]) ∧ Below w.heap.size w w' := by
  refine (validSingle.calls (s.size + 1) s 0 0 0 b w (by omega) hs (by decide) (by decide) (by decide) hc).mono fun e w' ⟨ev, rem, he, ho, hb⟩ => ?_
  rw [vs_word hx h (by omega) 0 0 0 hf] at ho
  obtain ⟨rfl, rfl⟩ := ho
  exact ⟨he, hb⟩

theorem sig_lone {c : Int} (h : Given.lone c = true) : dbus_zzSigToType.f c = some (strOfNums [c], true) := by
  rcases is_lone h with ((((((((((((h | h) | h) | h) | h) | h) | h) | h) | h) | h) | h) | h) | h) | h <;> (subst h; rfl)
theorem sig_a : dbus_zzSigToType.f 97 = some (⟨#[]⟩, false) := rfl
theorem sig_o : dbus_zzSigToType.f 40 = some (⟨#[]⟩, false) := rfl

theorem tf_new (w : World) : Dc (w.alloc (.cells #[.int .i64 0, .int .i64 0, .int .i64 0] 45)) w.heap.size 0 0 0 := Dc.fresh w 0 0 0 45

theorem _root_.Go.RowKit.Below.step2 {w w1 w2 : World} {o : Obj} (hb : Below (w.alloc o).heap.size (w.alloc o) w1) (hd : Drawn0 w1 w2) : Below w.heap.size w w2 :=
  (((Below.refl _ w).alloc (Nat.le_refl _) o).trans (hb.mono (by simp))).trans (hd.below.mono (by have := hb.size; simp at this; omega))

theorem _root_.Go.RowKit.Below.step1 {w w1 w2 : World} (hb : Below w.heap.size w w1) (hd : Below w1.heap.size w1 w2) : Below w.heap.size w w2 := hb.trans (hd.mono hb.size)
theorem _root_.Go.RowKit.Below.step0 {w w1 w2 : World} (hb : Below w.heap.size w w1) (hd : Drawn0 w1 w2) : Below w.heap.size w w2 := hb.step1 hd.below

set_option maxRecDepth 100000 in
set_option maxHeartbeats 4000000 in
theorem tf_lone (s : ByteArray) (c : Int) (w : World) (hb : bytesOf s = [c]) (hl : Given.lone c = true)
    (hv : ∀ (b : Nat) (w : World), Dc w b 0 0 0 → Calls Tryd.prog 16 #[.string s, .pointer (some ⟨b, 0, none⟩)] w fun e w' => e = .returned (.tuple #[.nilIface, .string ⟨#[]⟩]) ∧ Below w.heap.size w w') :
    Calls Tryd.prog 12 #[.string s] w fun e w' => e = .returned (.string (strOfNums [c])) ∧ Below w.heap.size w w' := by
  have hsz : s.size = 1 := by have := congrArg List.length hb; rw [bytesOf_length] at this; simpa using this
  have hpos : 0 < s.size := by omega
  have hc0 : bt s 0 = c := by
    have := bytesOf_cons s hpos
    rw [hb] at this; exact (List.cons.inj this).1.symm
  have hx6 : ∀ h : 0 < s.size, ((s[0]'h).toNat : Int) = c := fun h => by rw [← hc0]; exact bt_at s 0 h
  have q6 : (0 < s.size) = True := eq_true hpos
  have qi6 : (0 < (s.size : Int)) = True := eq_true (by omega)
  have HV := Aside0.mk hv
  have HZ := Aside0.mk fun w => dbus_zzSigToType.calls c _ _ w (sig_lone hl)
  clear hv hb hl hc0 hsz hpos
  go_enter Tryd.func12, Tryd.ntmps12
  go_wp2_with (first | (go_at_call 16; refine (HV.out _ _ (tf_new _)).mono ?_; rintro e w1 ⟨rfl, hb1⟩) | (go_at_call 17; refine (HZ.out _).mono ?_; rintro e w2 ⟨rfl, hd2⟩))
  go_ret
  exact ⟨rfl, hb1.step2 hd2⟩

set_option maxRecDepth 100000 in
set_option maxHeartbeats 4000000 in
theorem tf_str (s : ByteArray) (w : World) (hpos : 0 < s.size) (hc0 : bt s 0 = 40)
    (hv : ∀ (b : Nat) (w : World), Dc w b 0 0 0 → Calls Tryd.prog 16 #[.string s, .pointer (some ⟨b, 0, none⟩)] w fun e w' => e = .returned (.tuple #[.nilIface, .string ⟨#[]⟩]) ∧ Below w.heap.size w w') :
    Calls Tryd.prog 12 #[.string s] w fun e w' => e = .returned (.string ⟨#[91, 42]⟩) ∧ Below w.heap.size w w' := by
  have hx6 : ∀ h : 0 < s.size, ((s[0]'h).toNat : Int) = 40 := fun h => by rw [← hc0]; exact bt_at s 0 h
  have q6 : (0 < s.size) = True := eq_true hpos
  have qi6 : (0 < (s.size : Int)) = True := eq_true (by omega)
  have HV := Aside0.mk hv
  have HZ := Aside0.mk fun w => dbus_zzSigToType.calls 40 _ _ w sig_o
  clear hv hc0 hpos
  go_enter Tryd.func12, Tryd.ntmps12
  go_wp2_with (first | (go_at_call 16; refine (HV.out _ _ (tf_new _)).mono ?_; rintro e w1 ⟨rfl, hb1⟩) | (go_at_call 17; refine (HZ.out _).mono ?_; rintro e w2 ⟨rfl, hd2⟩))
  go_ret
  exact ⟨rfl, hb1.step2 hd2⟩

set_option maxRecDepth 100000 in
set_option maxHeartbeats 4000000 in
theorem tf_arr (s : ByteArray) (w : World) (hpos : 1 < s.size) (hs : s.size ≤ 4611686018427387904) (hc0 : bt s 0 = 97) (hc1 : bt s 1 ≠ 123) (T : ByteArray) (hT : 1 + T.size ≤ 9223372036854775807)
    (hv : ∀ (b : Nat) (w : World), Dc w b 0 0 0 → Calls Tryd.prog 16 #[.string s, .pointer (some ⟨b, 0, none⟩)] w fun e w' => e = .returned (.tuple #[.nilIface, .string ⟨#[]⟩]) ∧ Below w.heap.size w w')
    (ih : ∀ w : World, Calls Tryd.prog 12 #[.string (s.extract 1 s.size)] w fun e w' => e = .returned (.string T) ∧ Below w.heap.size w w') :
    Calls Tryd.prog 12 #[.string s] w fun e w' => e = .returned (.string (⟨#[91]⟩ ++ T)) ∧ Below w.heap.size w w' := by
  have hx6 : ∀ h : 0 < s.size, ((s[0]'h).toNat : Int) = 97 := fun h => by rw [← hc0]; exact bt_at s 0 h
  have hx7 : ∀ h : 1 < s.size, ((s[1]'h).toNat : Int) = bt s 1 := bt_at s 1
  have q6 : (0 < s.size) = True := eq_true (by omega)
  have qi6 : (0 < (s.size : Int)) = True := eq_true (by omega)
  have q7 : (1 < s.size) = True := eq_true (by omega)
  have qi7 : (1 < (s.size : Int)) = True := eq_true (by omega)
  have q8 : (1 ≤ s.size) = True := eq_true (by omega)
  have qi8 : (1 ≤ (s.size : Int)) = True := eq_true (by omega)
  have q9 : s.size - 0 = s.size := by omega
  have c1 : (bt s 1 == 123) = false := beq_eq_false_iff_ne.mpr hc1
  have HV := Aside0.mk hv
  have HZ := Aside0.mk fun w => dbus_zzSigToType.calls 97 _ _ w sig_a
  have HI := Aside0.mk ih
  have HS := Aside0.mk fun w => dbus_zzSliceOf.calls T (⟨#[91]⟩ ++ T) w (by unfold dbus_zzSliceOf.f; rw [if_pos hT])
  clear hv hc0 hpos hc1 hs ih hT
  go_enter Tryd.func12, Tryd.ntmps12
  go_wp2_with (first | (go_at_call 16; refine (HV.out _ _ (tf_new _)).mono ?_; rintro e w1 ⟨rfl, hb1⟩) | (go_at_call 17; refine (HZ.out _).mono ?_; rintro e w2 ⟨rfl, hd2⟩) | (go_at_call 12; refine (HI.out _).mono ?_; rintro e w3 ⟨rfl, hb3⟩) | (go_at_call 20; refine (HS.out _).mono ?_; rintro e w4 ⟨rfl, hd4⟩))
  go_ret
  exact ⟨rfl, ((hb1.step2 hd2).step1 hb3).step0 hd4⟩

theorem last_at (s : ByteArray) (hs : s.size ≤ 4611686018427387904) (h : 0 < s.size) (hc : bt s ((s.size - 1 : Nat) : Int) = 125) : strings_LastIndexByte.f 1 s 125 = some ((s.size - 1 : Nat) : Int) := by
  unfold strings_LastIndexByte.f bytealg_LastIndexByteString.f
  have e : wrap64 ((s.size : Int) - 1) = ((s.size - 1 : Nat) : Int) := by rw [w64 (by omega) (by omega)]; omega
  rw [e, bytealg_LastIndexByteString.l0, if_pos (by omega), if_pos (by omega), if_pos (by omega), if_pos hc]; rfl

set_option maxRecDepth 100000 in
set_option maxHeartbeats 4000000 in
theorem tf_dict (s : ByteArray) (w : World) (q : Nat) (hpos : 3 ≤ q) (hq : s.size = q + 1) (hs : s.size ≤ 4611686018427387904) (hc0 : bt s 0 = 97) (hc1 : bt s 1 = 123) (hc2 : Given.lone (bt s 2) = true) (hcl : bt s (q : Int) = 125) (T : ByteArray) (hT : 2 + T.size ≤ 9223372036854775807)
    (hv : ∀ (b : Nat) (w : World), Dc w b 0 0 0 → Calls Tryd.prog 16 #[.string s, .pointer (some ⟨b, 0, none⟩)] w fun e w' => e = .returned (.tuple #[.nilIface, .string ⟨#[]⟩]) ∧ Below w.heap.size w w')
    (ih : ∀ w : World, Calls Tryd.prog 12 #[.string (s.extract 3 q)] w fun e w' => e = .returned (.string T) ∧ Below w.heap.size w w') :
    Calls Tryd.prog 12 #[.string s] w fun e w' => e = .returned (.string ((⟨#[123]⟩ ++ strOfNums [bt s 2]) ++ T)) ∧ Below w.heap.size w w' := by
  have hx6 : ∀ h : 0 < s.size, ((s[0]'h).toNat : Int) = 97 := fun h => by rw [← hc0]; exact bt_at s 0 h
  have hx7 : ∀ h : 1 < s.size, ((s[1]'h).toNat : Int) = 123 := fun h => by rw [← hc1]; exact bt_at s 1 h
  have hx8 : ∀ h : 2 < s.size, ((s[2]'h).toNat : Int) = bt s 2 := bt_at s 2
  have q6 : (0 < s.size) = True := eq_true (by omega)
  have qi6 : (0 < (s.size : Int)) = True := eq_true (by omega)
  have q7 : (1 < s.size) = True := eq_true (by omega)
  have qi7 : (1 < (s.size : Int)) = True := eq_true (by omega)
  have q8 : (2 < s.size) = True := eq_true (by omega)
  have qi8 : (2 < (s.size : Int)) = True := eq_true (by omega)
  have HV := Aside0.mk hv
  have HZ := Aside0.mk fun w => dbus_zzSigToType.calls 97 _ _ w sig_a
  have HK := Aside0.mk fun w => dbus_zzSigToType.calls (bt s 2) _ _ w (sig_lone hc2)
  have HI := Aside0.mk ih
  have HL := Aside0.mk fun w => strings_LastIndexByte.calls 1 s 125 (q : Int) w (by
    have := last_at s hs (by omega) (by rw [hq]; exact hcl)
    rw [this, hq]; rfl)
  have HM := Aside0.mk fun w => dbus_zzMapOf.calls (strOfNums [bt s 2]) T ((⟨#[123]⟩ ++ strOfNums [bt s 2]) ++ T) w (by
    unfold dbus_zzMapOf.f
    have e1 : (strOfNums [bt s 2]).size = 1 := rfl
    have e2 : ((⟨#[123]⟩ : ByteArray) ++ strOfNums [bt s 2]).size = 2 := by rw [ByteArray.size_append, e1]; rfl
    rw [e1, e2, if_pos (by omega), if_pos hT])
  have hsl : ∀ wx, (Instr.slice 9 (.string s) (some (.int .i64 3)) (some (.int .i64 (q : Int))) none).run Tryd.prog wx = .ok (.string (s.extract 3 q)) wx := fun wx => by
    have := run_slice_string (P := Tryd.prog) wx 9 s .i64 .i64 3 (q : Int) Tryd.underlying9 (by omega) (by omega) (by omega)
    rw [this]; rfl
  clear hv hc0 hc1 hc2 hcl hpos hs ih hT hq
  generalize bt s 2 = key at *
  go_enter Tryd.func12, Tryd.ntmps12
  go_wp2_with (first | (go_at_call 16; refine (HV.out _ _ (tf_new _)).mono ?_; rintro e w1 ⟨rfl, hb1⟩) | (go_at_call 18; refine (HL.out _).mono ?_; rintro e w5 ⟨rfl, hd5⟩) | (go_at_call 17; (with_reducible refine (HZ.out _).mono ?_); rintro e w2 ⟨rfl, hd2⟩) | (go_at_call 17; (with_reducible refine (HK.out _).mono ?_); rintro e w6 ⟨rfl, hd6⟩) | (go_at_call 12; refine (HI.out _).mono ?_; rintro e w3 ⟨rfl, hb3⟩) | (go_at_call 19; refine (HM.out _).mono ?_; rintro e w4 ⟨rfl, hd4⟩))
  go_ret
  exact ⟨rfl, (((hb1.step2 hd2).step0 hd5).step0 hd6 |>.step1 hb3).step0 hd4⟩

theorem word_ne {x : Tr} (h : wf x true) {s : ByteArray} (e : bytesOf s = word x) : 0 < s.size := by
  have h1 := word_len h
  rw [← e, bytesOf_length] at h1; omega

theorem strOf_append (a b : List Int) : strOfNums (a ++ b) = strOfNums a ++ strOfNums b := by
  apply bytesOf_inj
  rw [bytesOf_append]
  unfold bytesOf strOfNums
  simp
theorem strOf_size (a : List Int) : (strOfNums a).size = a.length := by
  unfold strOfNums; simp [ByteArray.size]

/-- typeFor, over the words of trees. -/
theorem typeFor.calls : ∀ (x : Tr), wf x true → ∀ (s : ByteArray) (w : World), bytesOf s = word x → s.size ≤ 4611686018427387904 → fits x 0 0 0 = true →
    Calls Tryd.prog 12 #[.string s] w fun e w' => e = .returned (.string (strOfNums (tyw x))) ∧ Below w.heap.size w w' := by
  intro x
  induction x with
  | nil => intro h; cases h
  | cons x xs => intro h; cases h.1
  | lone c =>
    intro hx s w e hs hf
    exact tf_lone s c w e hx.2 fun b w hc => read_word hx e hs hf b w hc
  | arr x ih =>
    intro hx s w e hs hf
    have hv := fun (b : Nat) (w : World) (hc : Dc w b 0 0 0) => read_word hx e hs hf b w hc
    have hpos := word_ne hx e
    have e0 := bytesOf_cons s hpos
    rw [e, word] at e0
    obtain ⟨h0, h1⟩ := List.cons.inj e0
    have hf' : fits x 0 0 0 = true := by
      rw [fits, Bool.and_eq_true] at hf
      exact fits_less hf.2 (by omega) (by omega) (by omega)
    have ex : bytesOf (s.extract 1 s.size) = word x := by rw [bytesOf_from, e]; rfl
    have hp1 := word_ne hx.2 ex
    rw [ByteArray.size_extract] at hp1
    have hlen : s.size = (word x).length + 1 := by rw [← bytesOf_length, e]; rfl
    have hT := tyw_len x hx.2
    have c1 : bt s 1 ≠ 123 := by
      obtain ⟨c, r, ew, hc, _⟩ := head_wf hx.2
      have h2 := bytesOf_drop s 1 (by omega)
      rw [e, show List.drop 1 (word (.arr x)) = word x from rfl, ew] at h2
      have h3 : bt s 1 = c := (List.cons.inj h2).1.symm
      rw [h3]; exact hc
    have hgo := tf_arr s w (by omega) hs h0.symm c1 (strOfNums (tyw x)) (by rw [strOf_size]; omega) hv (fun w => ih hx.2 _ w ex (by rw [ByteArray.size_extract]; omega) hf')
    exact hgo
  | dict key x ih =>
    intro hx s w e hs hf
    have hv := fun (b : Nat) (w : World) (hc : Dc w b 0 0 0) => read_word hx e hs hf b w hc
    have hpos := word_ne hx e
    have hlen : s.size = (word x).length + 4 := by rw [← bytesOf_length, e]; simp [word]
    have hw := word_len hx.2.2
    have hT := tyw_len x hx.2.2
    have g : ∀ (i : Nat), i < s.size → (word (.dict key x))[i]? = some (bt s (i : Int)) := fun i hi => by rw [← e]; exact bytesOf_get s i hi
    have g0 := g 0 (by omega)
    have g1 := g 1 (by omega)
    have g2 := g 2 (by omega)
    have gl := g ((word x).length + 3) (by omega)
    have ew : word (.dict key x) = 97 :: 123 :: key :: (word x ++ [125]) := rfl
    rw [ew] at g0 g1 g2 gl
    have h0 : bt s 0 = 97 := (Option.some.inj g0).symm
    have h1 : bt s 1 = 123 := (Option.some.inj g1).symm
    have h2 : bt s 2 = key := (Option.some.inj g2).symm
    have hl : bt s (((word x).length + 3 : Nat) : Int) = 125 := by
      rw [show (97 :: 123 :: key :: (word x ++ [125]))[(word x).length + 3]? = (word x ++ [125])[(word x).length]? from rfl, List.getElem?_append_right (Nat.le_refl _), Nat.sub_self] at gl
      exact (Option.some.inj gl).symm
    have hf' : fits x 0 0 0 = true := by
      rw [fits, Bool.and_eq_true] at hf
      exact fits_less hf.2 (by omega) (by omega) (by omega)
    have ex : bytesOf (s.extract 3 ((word x).length + 3)) = word x := by
      rw [bytesOf_extract, e, ew]
      rw [show (word x).length + 3 = ((word x).length + 2) + 1 from rfl, List.take_succ_cons, List.take_succ_cons, List.take_succ_cons, List.take_left]; rfl
    have hgo := tf_dict s w ((word x).length + 3) (by omega) (by omega) hs h0 h1 (by rw [h2]; exact basic_lone hx.2.1) hl (strOfNums (tyw x)) (by rw [strOf_size]; omega) hv (fun w => ih hx.2.2 _ w ex (by rw [ByteArray.size_extract]; omega) hf')
    rw [h2] at hgo
    have et : strOfNums (tyw (.dict key x)) = (⟨#[123]⟩ ++ strOfNums [key]) ++ strOfNums (tyw x) := by
      rw [show tyw (.dict key x) = [123] ++ ([key] ++ tyw x) from rfl, strOf_append, strOf_append, ByteArray.append_assoc]; rfl
    rw [et]
    exact hgo
  | str xs ih =>
    intro hx s w e hs hf
    have hpos := word_ne hx e
    have e0 := bytesOf_cons s hpos
    rw [e, word] at e0
    exact tf_str s w hpos (List.cons.inj e0).1.symm fun b w hc => read_word hx e hs hf b w hc
end Go.Proofs.YthkblpbabcibcaaDoor.Given
