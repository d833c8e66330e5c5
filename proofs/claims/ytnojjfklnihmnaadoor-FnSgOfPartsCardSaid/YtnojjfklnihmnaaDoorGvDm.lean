/- Part of the proof of LawFnSgOfParts. -/
import Derived.Test.YtnojjfklnihmnaaDoorGvTy
set_option linter.unusedVariables false
set_option linter.unusedSimpArgs false
section
namespace Go.Proofs.YtnojjfklnihmnaaDoor.Given
open Go.RowKit Go.Proofs.YtnojjfklnihmnaaDoorW.PrintWords Go.Proofs.YtnojjfklnihmnaaDoorW.PrintLast Go.Proofs.YtnojjfklnihmnaaDoor.Pl Go.Proofs.YtnojjfklnihmnaaDoor.By Go.Proofs.YtnojjfklnihmnaaDoor.SgT Go.Proofs.YtnojjfklnihmnaaDoor.PFnSgOfParts
set_option linter.unusedVariables false
theorem below_step {w W W' : World} (h : Below w.heap.size w W) (hb : Below W.heap.size W W') : Below w.heap.size w W' := h.trans (hb.mono h.size)
theorem below_new {w w1 : World} {o : Obj} (hb : Below (w.alloc o).heap.size (w.alloc o) w1) : Below w.heap.size w w1 :=
  ((Below.refl _ _).alloc (Nat.le_refl _) _).trans (hb.mono (by simp))
theorem vs_word {s : ByteArray} {x : Tr} (hx : wf x true) (rest : List Int) (h : bytesOf s = word x ++ rest) {k : Nat} (hk : s.size < k) (a t d : Int) (hf : fits x a t d = true) :
    ∃ r, vs k s a t d = some r ∧ bytesOf r = rest := by
  have h1 := vs_list k s a t d
  have hl : (word x).length < k := by
    have := congrArg List.length h
    rw [bytesOf_length, List.length_append] at this; omega
  have h2 := (vsL_word x).1 hx k rest a t d hl
  rw [hf, if_pos rfl] at h2
  rw [h, h2] at h1
  cases hv : vs k s a t d with
  | none => rw [hv] at h1; cases h1
  | some r =>
    rw [hv] at h1
    exact ⟨r, rfl, Option.some.inj h1⟩
theorem read_first {s : ByteArray} {x : Tr} (hx : wf x true) (rest : List Int) (h : bytesOf s = word x ++ rest) (hs : s.size ≤ 4611686018427387904) (hf : fits x 0 0 0 = true) (b : Nat) (w : World) (hc : Dc w b 0 0 0) :
    Calls Tryd.prog 61 #[.string s, .pointer (some ⟨b, 0, none⟩)] w fun e w' => e = .returned (.tuple #[.nilIface, .string (strOfNums rest)]) ∧ Below w.heap.size w w' := by
  refine (validSingle.calls (s.size + 1) s 0 0 0 b w (by omega) hs (by decide) (by decide) (by decide) hc).mono fun e w' ⟨ev, rem, he, ho, hb⟩ => ?_
  obtain ⟨r, hr, hb2⟩ := vs_word hx rest h (k := s.size + 1) (by omega) 0 0 0 hf
  rw [hr] at ho
  obtain ⟨rfl, rfl⟩ := ho
  refine ⟨?_, hb⟩
  rw [he, ← hb2, str_bytes]
set_option maxRecDepth 100000 in
set_option maxHeartbeats 4000000 in
theorem doorOne.calls {s : ByteArray} {x : Tr} (hx : wf x true) (rest : List Int) (h : bytesOf s = word x ++ rest) (hs : s.size ≤ 1000000) (hf : fits x 0 0 0 = true) (w : World) :
    Calls Tryd.prog 58 #[.string s] w fun e w' => e = .returned (.tuple #[.string (strOfNums (word x)), .string (strOfNums rest)]) ∧ Below w.heap.size w w' := by
  have hlen : s.size = (word x).length + rest.length := by rw [← bytesOf_length, h, List.length_append]
  have hrs : (strOfNums rest).size = rest.length := strOf_size rest
  have hex : s.extract 0 (word x).length = strOfNums (word x) := by
    rw [← str_bytes (s.extract 0 _), bytesOf_extract, h, List.take_left]; rfl
  have HR := Aside0.mk fun b w hc => read_first hx rest h (by omega) hf b w hc
  clear h hx hf
  go_enter Tryd.func58, Tryd.ntmps58
  go_wp2_with (go_at_call 61; refine (HR.out _ _ (Dc.fresh _ _ _ _ _)).mono ?_; rintro e w1 ⟨rfl, hb1⟩)
  go_ret2
  exact ⟨rfl, below_new hb1⟩
theorem sig_lone {c : Int} (h : Given.lone c = true) : dbus_zzSigToType.f c = some (strOfNums [c], true) := by
  rcases is_lone h with ((((((((((((h | h) | h) | h) | h) | h) | h) | h) | h) | h) | h) | h) | h) | h <;> (subst h; rfl)
set_option maxRecDepth 100000 in
set_option maxHeartbeats 4000000 in
theorem dt_lone (s : ByteArray) (c : Int) (hb : bytesOf s = [c]) (hl : Given.lone c = true) (w : World) :
    Calls Tryd.prog 50 #[.string s] w fun e w' => e = .returned (.string (strOfNums [c])) ∧ Below w.heap.size w w' := by
  obtain ⟨h0, h1, h2⟩ := at_zero hb
  have hx6 : ∀ h : 0 < s.size, ((s[0]'h).toNat : Int) = c := fun h => by rw [← h1]; exact bt_at s 0 h
  have q6 : (0 < s.size) = True := eq_true h0
  have qi6 : (0 < (s.size : Int)) = True := eq_true (by omega)
  have c1 : (c == 97) = false := beq_eq_false_iff_ne.mpr (lone_ne hl).1
  have c2 : (c == 40) = false := beq_eq_false_iff_ne.mpr (lone_ne hl).2.1
  have HZ := Aside0.mk fun w => dbus_zzSigToType.calls c _ _ w (sig_lone hl)
  clear hb hl h0 h1 h2
  go_enter Tryd.func50, Tryd.ntmps50
  go_wp2_with (go_at_call 59; refine (HZ.out _).mono ?_; rintro e w2 ⟨rfl, hd2⟩)
  go_ret
  exact ⟨rfl, hd2.below⟩
set_option maxRecDepth 100000 in
set_option maxHeartbeats 4000000 in
theorem dt_arr (s T : ByteArray) (c : Int) (r : List Int) (hb : bytesOf s = 97 :: c :: r) (hc : c ≠ 123) (hT : T.size ≤ 1000000) (w : World)
    (ih : ∀ w : World, Calls Tryd.prog 50 #[.string (s.extract 1 s.size)] w fun e w' => e = .returned (.string T) ∧ Below w.heap.size w w') :
    Calls Tryd.prog 50 #[.string s] w fun e w' => e = .returned (.string (⟨#[91]⟩ ++ T)) ∧ Below w.heap.size w w' := by
  obtain ⟨h0, h1, h2⟩ := at_zero hb
  obtain ⟨h4, h5, h6⟩ := at_drop (p := 1) h2
  have hx6 : ∀ h : 0 < s.size, ((s[0]'h).toNat : Int) = 97 := fun h => by rw [← h1]; exact bt_at s 0 h
  have hx7 : ∀ h : 1 < s.size, ((s[1]'h).toNat : Int) = c := fun h => by rw [← h5]; exact bt_at s 1 h
  have q6 : (0 < s.size) = True := eq_true (by omega)
  have qi6 : (0 < (s.size : Int)) = True := eq_true (by omega)
  have q7 : (1 < s.size) = True := eq_true (by omega)
  have qi7 : (1 < (s.size : Int)) = True := eq_true (by omega)
  have q8 : (1 ≤ s.size) = True := eq_true (by omega)
  have qi8 : (1 ≤ (s.size : Int)) = True := eq_true (by omega)
  have q9 : s.size - 0 = s.size := by omega
  have c1 : (c == 123) = false := beq_eq_false_iff_ne.mpr hc
  have HI := Aside0.mk ih
  have HS := Aside0.mk fun w => dbus_zzSliceOf.calls T (⟨#[91]⟩ ++ T) w (by unfold dbus_zzSliceOf.f; rw [if_pos (by omega)])
  clear hb hc h0 h1 h2 h4 h5 h6 ih hT
  go_enter Tryd.func50, Tryd.ntmps50
  go_wp2_with (first | (go_at_call 50; refine (HI.out _).mono ?_; rintro e w3 ⟨rfl, hb3⟩) | (go_at_call 45; refine (HS.out _).mono ?_; rintro e w4 ⟨rfl, hd4⟩))
  go_ret
  exact ⟨rfl, hb3.trans (hd4.below.mono hb3.size)⟩
set_option maxRecDepth 100000 in
set_option maxHeartbeats 8000000 in
theorem dt_dict (s K T : ByteArray) (r : List Int) (hb : bytesOf s = 97 :: 123 :: r) (hs : 4 ≤ s.size) (hs2 : s.size ≤ 1000000) (hK : K.size ≤ 1000000) (hT : T.size ≤ 1000000) (w : World)
    (ihk : ∀ w : World, Calls Tryd.prog 50 #[.string (s.extract 2 3)] w fun e w' => e = .returned (.string K) ∧ Below w.heap.size w w')
    (ih : ∀ w : World, Calls Tryd.prog 50 #[.string (s.extract 3 (s.size - 1))] w fun e w' => e = .returned (.string T) ∧ Below w.heap.size w w') :
    Calls Tryd.prog 50 #[.string s] w fun e w' => e = .returned (.string ((⟨#[123]⟩ ++ K) ++ T)) ∧ Below w.heap.size w w' := by
  obtain ⟨h0, h1, h2⟩ := at_zero hb
  obtain ⟨h4, h5, h6⟩ := at_drop (p := 1) h2
  have hx6 : ∀ h : 0 < s.size, ((s[0]'h).toNat : Int) = 97 := fun h => by rw [← h1]; exact bt_at s 0 h
  have hx7 : ∀ h : 1 < s.size, ((s[1]'h).toNat : Int) = 123 := fun h => by rw [← h5]; exact bt_at s 1 h
  have q6 : (0 < s.size) = True := eq_true (by omega)
  have qi6 : (0 < (s.size : Int)) = True := eq_true (by omega)
  have q7 : (1 < s.size) = True := eq_true (by omega)
  have qi7 : (1 < (s.size : Int)) = True := eq_true (by omega)
  have HI := Aside0.mk ih
  have HK := Aside0.mk ihk
  have HM := Aside0.mk fun w => dbus_zzMapOf.calls K T ((⟨#[123]⟩ ++ K) ++ T) w (by unfold dbus_zzMapOf.f; rw [if_pos (by omega), if_pos (by rw [ByteArray.size_append]; show 1 + K.size + T.size ≤ _; omega)])
  have hsl : ∀ wx, (Instr.slice 9 (.string s) (some (.int .i64 3)) (some (.int .i64 ((s.size : Int) - 1))) none).run Tryd.prog wx = .ok (.string (s.extract 3 (s.size - 1))) wx := fun wx => by
    have := run_slice_string (P := Tryd.prog) wx 9 s .i64 .i64 3 ((s.size : Int) - 1) Tryd.underlying9 (by omega) (by omega) (by omega)
    rw [this, show ((s.size : Int) - 1).toNat = s.size - 1 by omega]; rfl
  have hwr : IntKind.i64.wrap ((s.size : Int) - 1) = (s.size : Int) - 1 := by unfold IntKind.wrap; simp [IntKind.signed, IntKind.bits]; omega
  have hsk : ∀ wx, (Instr.slice 9 (.string s) (some (.int .i64 2)) (some (.int .i64 3)) none).run Tryd.prog wx = .ok (.string (s.extract 2 3)) wx := fun wx => by
    have := run_slice_string (P := Tryd.prog) wx 9 s .i64 .i64 2 3 Tryd.underlying9 (by omega) (by omega) (by omega)
    rw [this]; rfl
  clear hb h0 h1 h2 h4 h5 h6 ih ihk hT hK
  go_enter Tryd.func50, Tryd.ntmps50
  go_wp2_with fail
  go_region_with (first | (go_at_call 50; (with_reducible refine (HK.out _).mono ?_); rintro e w5 ⟨rfl, hb5⟩) | (go_at_call 50; (with_reducible refine (HI.out _).mono ?_); rintro e w3 ⟨rfl, hb3⟩) | (go_at_call 46; refine (HM.out _).mono ?_; rintro e w4 ⟨rfl, hd4⟩))
  all_goals go_wp2_with fail
  all_goals go_ret
  all_goals exact ⟨rfl, below_step (below_step (below_step (Below.refl _ _).drew hb5) hb3) hd4.below⟩
theorem fits_less {x : Tr} : ∀ {a t d a' t' d' : Int}, fits x a' t' d' = true → a ≤ a' → t ≤ t' → d ≤ d' → fits x a t d = true := by
  induction x with
  | nil => intros; rfl
  | cons x xs ih1 ih2 =>
    intro a t d a' t' d' h h1 h2 h3
    rw [fits, Bool.and_eq_true] at h ⊢
    exact ⟨ih1 h.1 h1 h2 h3, ih2 h.2 h1 h2 h3⟩
  | lone c =>
    intro a t d a' t' d' h h1 h2 h3
    rw [fits] at h ⊢
    unfold ok at h ⊢
    simp only [Bool.and_eq_true, decide_eq_true_eq] at h ⊢
    omega
  | arr x ih =>
    intro a t d a' t' d' h h1 h2 h3
    rw [fits, Bool.and_eq_true] at h ⊢
    refine ⟨?_, ih h.2 (by omega) h2 h3⟩
    have := h.1
    unfold ok at this ⊢
    simp only [Bool.and_eq_true, decide_eq_true_eq] at this ⊢
    omega
  | dict k x ih =>
    intro a t d a' t' d' h h1 h2 h3
    rw [fits, Bool.and_eq_true] at h ⊢
    refine ⟨?_, ih h.2 (by omega) h2 (by omega)⟩
    have := h.1
    unfold ok at this ⊢
    simp only [Bool.and_eq_true, decide_eq_true_eq] at this ⊢
    omega
  | str xs ih =>
    intro a t d a' t' d' h h1 h2 h3
    rw [fits, Bool.and_eq_true] at h ⊢
    refine ⟨?_, ih h.2 h1 (by omega) h3⟩
    have := h.1
    unfold ok at this ⊢
    simp only [Bool.and_eq_true, decide_eq_true_eq] at this ⊢
    omega
def wd (l : List Tr) : List Int := (l.map word).flatten
theorem wd_kids (x : Tr) : ∀ b, wf x b → b = false → wd (kidsX x) = word x := by
  induction x with
  | nil => intro b _ _; rfl
  | cons x xs _ ih =>
    intro b h _
    show word x ++ wd (kidsX xs) = _
    rw [ih _ h.2.2 rfl]; rfl
  | lone c => intro b h e; exact absurd (h.1.symm.trans e) (by decide)
  | arr x ih => intro b h e; exact absurd (h.1.symm.trans e) (by decide)
  | dict k x ih => intro b h e; exact absurd (h.1.symm.trans e) (by decide)
  | str xs ih => intro b h e; exact absurd (h.1.symm.trans e) (by decide)
theorem wd_drop {xs : List Tr} {j : Nat} {x : Tr} (h : xs[j]? = some x) : wd (xs.drop j) = word x ++ wd (xs.drop (j + 1)) := by
  obtain ⟨hj, he⟩ := List.getElem?_eq_some_iff.1 h
  rw [List.drop_eq_getElem_cons hj, he]; rfl
theorem wd_sub (xs : List Tr) (j : Nat) : ∀ c ∈ wd (xs.drop j), c ∈ wd xs := by
  intro c hc
  unfold wd at *
  rw [List.mem_flatten] at *
  obtain ⟨l, hl, hcl⟩ := hc
  refine ⟨l, ?_, hcl⟩
  rw [List.map_drop] at hl
  exact List.mem_of_mem_drop hl
theorem wd_len (xs : List Tr) (j : Nat) : (wd (xs.drop j)).length ≤ (wd xs).length := by
  induction xs generalizing j with
  | nil => simp
  | cons x xs ih =>
    cases j with
    | zero => exact Nat.le_refl _
    | succ j =>
      have := ih j
      show (wd (xs.drop j)).length ≤ (word x ++ wd xs).length
      rw [List.length_append]; omega
theorem tys_len (xs : List Tr) : (cat (xs.map fun x => strOfNums (tyS x))).size ≤ (wd xs).length := by
  induction xs with
  | nil => exact Nat.le_refl _
  | cons x xs ih =>
    have := tyS_le x
    show (strOfNums (tyS x) ++ cat (xs.map fun x => strOfNums (tyS x))).size ≤ (word x ++ wd xs).length
    rw [ByteArray.size_append, strOf_size, List.length_append]; omega
theorem not_empty {l : List Int} (h : l ≠ []) : ((strOfNums l).toList == []) = false := by
  rw [beq_eq_false_iff_ne]
  intro e
  rw [toList_nil, strOf_size] at e
  exact h (List.eq_nil_of_length_eq_zero e)
def strSz : Value → Nat
  | .string s => s.size
  | _ => 0
set_option maxRecDepth 100000 in
set_option maxHeartbeats 8000000 in
theorem dt_str (s : ByteArray) (xs : List Tr) (hw : ∀ x ∈ xs, wf x true) (hf : ∀ x ∈ xs, fits x 0 0 0 = true) (hb : bytesOf s = 40 :: (wd xs ++ [41])) (hs : s.size ≤ 1000000) (w : World)
    (ih : ∀ x ∈ xs, ∀ w : World, Calls Tryd.prog 50 #[.string (strOfNums (word x))] w fun e w' => e = .returned (.string (strOfNums (tyS x))) ∧ Below w.heap.size w w') :
    Calls Tryd.prog 50 #[.string s] w fun e w' => e = .returned (.string ((⟨#[40]⟩ ++ cat (xs.map fun x => strOfNums (tyS x))) ++ ⟨#[41]⟩)) ∧ Below w.heap.size w w' := by
  obtain ⟨h0, h1, h2⟩ := at_zero hb
  have hx6 : ∀ h : 0 < s.size, ((s[0]'h).toNat : Int) = 40 := fun h => by rw [← h1]; exact bt_at s 0 h
  have q6 : (0 < s.size) = True := eq_true (by omega)
  have qi6 : (0 < (s.size : Int)) = True := eq_true (by omega)
  have hlen : s.size = (wd xs).length + 2 := by rw [← bytesOf_length, hb]; simp
  have hbw : Bytes (wd xs) := by
    intro c hc
    have hc2 : c ∈ bytesOf s := by rw [hb]; simp [hc]
    have := List.mem_map.1 hc2
    obtain ⟨u, _, rfl⟩ := this
    have := u.toNat_lt
    constructor <;> omega
  have hsl : s.extract 1 (s.size - 1) = strOfNums (wd xs) := by
    rw [← str_bytes (s.extract 1 _), bytesOf_extract, hb]
    congr 1
    rw [show s.size - 1 = ((wd xs).length) + 1 by omega, List.take_succ_cons, List.take_left]; rfl
  have HX := Aside0.mk (And.intro hw hf)
  have HBW := Aside0.mk hbw
  have HI := Aside0.mk ih
  have HLEN := Aside0.mk hlen
  have hwr : wrap64 ((s.size : Int) - 1) = (s.size : Int) - 1 := w64 (by omega) (by omega)
  have hto : ((s.size : Int) - 1).toNat = s.size - 1 := by omega
  have g1 : (1 : Int) ≤ (s.size : Int) - 1 := by omega
  have g2 : (s.size : Int) - 1 ≤ (s.size : Int) := by omega
  clear hb h0 h1 h2 ih hw hf hbw hlen
  go_enter Tryd.func50, Tryd.ntmps50
  go_wp2_with fail
  go_loopw [3, 4] (fun t r wr => ∃ j : Nat, j ≤ xs.length ∧ t = .string (⟨#[40]⟩ ++ cat ((xs.map fun x => strOfNums (tyS x)).take j)) ∧ r = .string (strOfNums (wd (xs.drop j))) ∧ Aside0 (Below w.heap.size w wr)) (fun _ r _ => strSz r)
  case atStart => exact ⟨0, Nat.zero_le _, rfl, rfl, ⟨Below.refl _ _⟩⟩
  case round =>
    obtain ⟨j, hj, rfl, rfl, HB⟩ := hrel
    by_cases hlt : j < xs.length
    · obtain ⟨x, hx⟩ : ∃ x, xs[j]? = some x := ⟨_, List.getElem?_eq_getElem hlt⟩
      have hm := List.mem_of_getElem? hx
      have hwx := HX.out.1 x hm
      have hpos := word_len hwx
      have hwl := wd_len xs j
      rw [wd_drop hx] at hwl ⊢
      rw [List.length_append] at hwl
      have hLn := HLEN.out
      have hne : ((strOfNums (word x ++ wd (xs.drop (j + 1)))).toList == []) = false := not_empty fun e => by
        have := congrArg List.length e
        rw [List.length_append] at this
        simp only [List.length_nil] at this
        omega
      have hby : Bytes (word x ++ wd (xs.drop (j + 1))) := by
        rw [← wd_drop hx]
        exact fun c hc => HBW.out c (wd_sub xs j c hc)
      have HO := Aside0.mk fun w => doorOne.calls hwx (wd (xs.drop (j + 1))) (bytes_str hby) (by rw [strOf_size, List.length_append]; omega) (HX.out.2 x hm) w
      have HIx := Aside0.mk (HI.out x hm)
      have HCT := Aside0.mk (cat_take (l := xs.map fun x => strOfNums (tyS x)) (i := j) (s := strOfNums (tyS x)) (by rw [List.getElem?_map, hx]; rfl))
      have hz1 : ¬ 9223372036854775807 < 1 + (cat ((xs.map fun x => strOfNums (tyS x)).take j)).size + (strOfNums (tyS x)).size := by
        have h1 := cat_le (xs.map fun x => strOfNums (tyS x)) (j + 1)
        rw [HCT.out, ByteArray.size_append] at h1
        have h2 := tys_len xs
        omega
      have HLT := Aside0.mk (And.intro hlt hpos)
      clear hx hm hwx hpos hwl hLn hby
      go_wp2_with fail
      refine (HO.out _).mono ?_
      rintro r w3 ⟨rfl, hb3⟩
      have HB := Aside0.mk (below_step HB.out hb3)
      clear hb3
      go_wp2_with fail
      refine (HIx.out _).mono ?_
      rintro r w4 ⟨rfl, hb4⟩
      have HB := Aside0.mk (below_step HB.out hb4)
      clear hb4
      go_wp2_with fail
      go_roundw
      case rel => exact ⟨j + 1, by have := HLT.out; omega, by rw [HCT.out, ByteArray.append_assoc], rfl, HB⟩
      case measure =>
        show (strOfNums (wd (xs.drop (j + 1)))).size < (strOfNums (word x ++ wd (xs.drop (j + 1)))).size
        rw [strOf_size, strOf_size, List.length_append]
        have := HLT.out.2
        omega
    · obtain rfl : j = xs.length := by omega
      have hz : (xs.map fun x => strOfNums (tyS x)).take xs.length = xs.map fun x => strOfNums (tyS x) := List.take_of_length_le (by rw [List.length_map]; exact Nat.le_refl _)
      rw [hz, List.drop_length]
      have hz1 : ¬ 9223372036854775807 < 1 + (cat (xs.map fun x => strOfNums (tyS x))).size + 1 := by have h2 := tys_len xs; have := HLEN.out; omega
      have he : ((strOfNums (wd [])).toList == []) = true := by rw [beq_iff_eq, toList_nil]; rfl
      go_wp2_with fail
      go_ret
      exact ⟨rfl, HB.out⟩
theorem doorType.calls (x : Tr) : (wf x true → fits x 0 0 0 = true → (word x).length ≤ 1000000 → ∀ w : World, Calls Tryd.prog 50 #[.string (strOfNums (word x))] w fun e w' => e = .returned (.string (strOfNums (tyS x))) ∧ Below w.heap.size w w') ∧
    (∀ b, wf x b → b = false → fits x 0 0 0 = true → (word x).length ≤ 1000000 → ∀ y ∈ kidsX x, ∀ w : World, Calls Tryd.prog 50 #[.string (strOfNums (word y))] w fun e w' => e = .returned (.string (strOfNums (tyS y))) ∧ Below w.heap.size w w') := by
  induction x with
  | nil => exact ⟨fun h => (by cases h), fun _ _ _ _ _ y hy => (by cases hy)⟩
  | cons x xs ih1 ih2 =>
    refine ⟨fun h => (by cases h.1), fun b h e hf hl y hy => ?_⟩
    rw [fits, Bool.and_eq_true] at hf
    rw [word, List.length_append] at hl
    rcases List.mem_cons.1 hy with rfl | hy
    · exact ih1.1 h.2.1 hf.1 (by omega)
    · exact ih2.2 _ h.2.2 rfl hf.2 (by omega) y hy
  | lone c =>
    refine ⟨fun h hf hl w => ?_, fun b h e => absurd (h.1.symm.trans e) (by decide)⟩
    exact dt_lone _ c (bytes_str (word_bytes (.lone c) _ h)) h.2 w
  | arr x ih =>
    refine ⟨fun h hf hl w => ?_, fun b h e => absurd (h.1.symm.trans e) (by decide)⟩
    rw [fits, Bool.and_eq_true] at hf
    have hfx := fits_less hf.2 (a := 0) (t := 0) (d := 0) (by decide) (by decide) (by decide)
    obtain ⟨c, r, ec, hc, _⟩ := head_wf h.2
    have eb : bytesOf (strOfNums (word (.arr x))) = 97 :: c :: r := by rw [bytes_str (word_bytes _ _ h), word, ec]
    have hl2 : (word x).length ≤ 1000000 := by simp only [word, List.length_cons] at hl; omega
    have hty := tyS_le x
    rw [show strOfNums (tyS (.arr x)) = ⟨#[91]⟩ ++ strOfNums (tyS x) from strOf_append [91] (tyS x)]
    refine dt_arr _ (strOfNums (tyS x)) c r eb hc (by rw [strOf_size]; omega) w fun w => ?_
    have ex : (strOfNums (word (.arr x))).extract 1 (strOfNums (word (.arr x))).size = strOfNums (word x) := by
      apply bytesOf_inj
      rw [bytesOf_from, eb, bytes_str (word_bytes _ _ h.2), ec]; rfl
    rw [ex]
    exact ih.1 h.2 hfx hl2 w
  | dict k x ih =>
    refine ⟨fun h hf hl w => ?_, fun b h e => absurd (h.1.symm.trans e) (by decide)⟩
    rw [fits, Bool.and_eq_true] at hf
    have hfx := fits_less hf.2 (a := 0) (t := 0) (d := 0) (by decide) (by decide) (by decide)
    have eb : bytesOf (strOfNums (word (.dict k x))) = 97 :: 123 :: k :: (word x ++ [125]) := bytes_str (word_bytes _ _ h)
    have hsz : (strOfNums (word (.dict k x))).size = (word x).length + 4 := by rw [strOf_size]; simp [word]
    have hl2 : (word x).length ≤ 999996 := by rw [← strOf_size, hsz] at hl; omega
    have hty := tyS_le x
    rw [show strOfNums (tyS (.dict k x)) = (⟨#[123]⟩ ++ strOfNums [k]) ++ strOfNums (tyS x) by rw [show tyS (.dict k x) = ([123] ++ [k]) ++ tyS x from rfl, strOf_append, strOf_append]; rfl]
    have hpos := word_len h.2.2
    refine dt_dict _ (strOfNums [k]) (strOfNums (tyS x)) _ eb (by omega) (by omega) (by rw [strOf_size]; show 1 ≤ _; omega) (by rw [strOf_size]; omega) w (fun w => ?_) fun w => ?_
    · have ex : (strOfNums (word (.dict k x))).extract 2 3 = strOfNums [k] := by
        rw [← str_bytes ((strOfNums (word (.dict k x))).extract 2 3), bytesOf_extract, eb]; rfl
      rw [ex]
      exact dt_lone _ k (bytes_str (Bytes.nil.cons (lone_byte (basic_lone h.2.1)))) (basic_lone h.2.1) w
    · have ex : (strOfNums (word (.dict k x))).extract 3 ((strOfNums (word (.dict k x))).size - 1) = strOfNums (word x) := by
        rw [← str_bytes ((strOfNums (word (.dict k x))).extract 3 _), bytesOf_extract, eb, hsz]
        congr 1
        rw [show (word x).length + 4 - 1 = (word x).length + 2 + 1 from rfl, List.take_succ_cons, List.take_succ_cons, List.take_succ_cons, List.take_left]; rfl
      rw [ex]
      exact ih.1 h.2.2 hfx (by omega) w
  | str xs ih =>
    refine ⟨fun h hf hl w => ?_, fun b h e => absurd (h.1.symm.trans e) (by decide)⟩
    rw [fits, Bool.and_eq_true] at hf
    have hfx := fits_less hf.2 (a := 0) (t := 0) (d := 0) (by decide) (by decide) (by decide)
    have hl2 : (word xs).length ≤ 999998 := by simp only [word, List.length_cons, List.length_append, List.length_nil] at hl; omega
    have eb : bytesOf (strOfNums (word (.str xs))) = 40 :: (wd (kidsX xs) ++ [41]) := by rw [bytes_str (word_bytes _ _ h), wd_kids xs _ h.2.2 rfl]; rfl
    have et : strOfNums (tyS (.str xs)) = (⟨#[40]⟩ ++ cat ((kidsX xs).map fun x => strOfNums (tyS x))) ++ ⟨#[41]⟩ := by
      rw [← kids_map, cat_tys xs _ h.2.2 rfl, show tyS (.str xs) = ([40] ++ tyS xs) ++ [41] by simp [tyS], strOf_append, strOf_append]; rfl
    rw [et]
    refine dt_str _ (kidsX xs) (fun y hy => (kid_facts xs y hy).1 _ h.2.2) (fun y hy => (kid_facts xs y hy).2.1 _ _ _ hfx) eb (by rw [strOf_size]; exact hl) w fun y hy w => ?_
    exact ih.2 _ h.2.2 rfl hfx (by omega) y hy w
end Go.Proofs.YtnojjfklnihmnaaDoor.Given
end
section
namespace Go.Proofs.YtnojjfklnihmnaaDoor.Given
open Go.RowKit Go.Proofs.YtnojjfklnihmnaaDoorW.PrintWords Go.Proofs.YtnojjfklnihmnaaDoorW.PrintLast Go.Proofs.YtnojjfklnihmnaaDoor.Pl Go.Proofs.YtnojjfklnihmnaaDoor.By Go.Proofs.YtnojjfklnihmnaaDoor.SgT Go.Proofs.YtnojjfklnihmnaaDoor.PFnSgOfParts
set_option linter.unusedVariables false
theorem below_alloc' {w W : World} (h : Below w.heap.size w W) (o : Obj) : Below w.heap.size w (W.alloc o) := h.alloc h.size o
theorem row_one {w : World} {T : TypeId} {v : Value} {x : Tr} {g : Nat} (hc : w.cell? ⟨g, 0, none⟩ = some (.iface T v)) (ht : Ty w T v x) : Row w (some ⟨g, 0, none⟩) [(T, v)] [x] := by
  refine ⟨rfl, fun _ => ⟨_, rfl⟩, fun ad ha i e he => ?_, fun i e y he hy => ?_⟩
  · obtain rfl := Option.some.inj ha
    cases i with
    | zero => obtain rfl := Option.some.inj he; exact hc
    | succ i => cases he
  · cases i with
    | zero => obtain rfl := Option.some.inj he; obtain rfl := Option.some.inj hy; exact ht
    | succ i => cases he
theorem sigs_one (x : Tr) : sigs [x] = strOfNums (word x) := by
  show strOfNums (word x) ++ ⟨#[]⟩ = _
  exact ByteArray.append_empty
set_option maxHeartbeats 4000000 in
theorem mkVar.calls {w : World} {T : TypeId} {v : Value} {x : Tr} (hg : Gd x) (ht : Ty w T v x) : Calls Tryd.prog 48 #[.iface T v] w fun r w' => r = .returned (.agg #[.string (strOfNums (word x)), .iface T v]) ∧ Below w.heap.size w w' := by
  have h57 : ∀ w, Calls Tryd.prog 57 #[.iface T v, .agg #[.string (strOfNums (word x))]] w fun r w' => r = .returned (.agg #[.string (strOfNums (word x)), .iface T v]) ∧ Below w.heap.size w w' := fun w => by
    go_enter Tryd.func57, Tryd.ntmps57
    go_wp2_with fail
    refine bodyPost_ret (v := .agg #[.string (strOfNums (word x)), .iface T v]) (by simp [results, go_sem]) rfl ⟨rfl, ?_⟩
    repeat (first | exact Below.refl _ _ | apply below_alloc')
  have H57 := Aside0.mk h57
  have HG := Aside0.mk hg
  have HT := Aside0.mk ht
  clear h57 hg ht
  go_enter Tryd.func48, Tryd.ntmps48
  go_wp2_with fail
  obtain ⟨wB, hwB⟩ : ∃ wB, (w.alloc (.cells #[.string ⟨#[]⟩, .nilIface] 87)).alloc (.cells #[.iface T v] 20) = wB := ⟨_, rfl⟩
  have hbB : Below w.heap.size w wB := hwB ▸ below_alloc' (below_alloc' (Below.refl _ _) _) _
  have hrB : wB.heap[w.heap.size]? = some (.cells #[.string ⟨#[]⟩, .nilIface] 87) := by rw [← hwB, Below.heap_alloc _ _ _ (by simp)]; exact heap_alloc_new w _
  have hgB : wB.cell? ⟨w.heap.size + 1, 0, none⟩ = some (.iface T v) := by
    have h := heap_alloc_new (w.alloc (.cells #[.string ⟨#[]⟩, .nilIface] 87)) (.cells #[.iface T v] 20)
    rw [hwB, show (w.alloc (.cells #[.string ⟨#[]⟩, .nilIface] 87)).heap.size = w.heap.size + 1 by simp] at h
    exact (blk_cell h 0).trans rfl
  have HS := Aside0.mk (sigOf.calls (some ⟨w.heap.size + 1, 0, none⟩) [(T, v)] [x] 1 (Nat.le_refl _) (fun y hy => by rw [List.mem_singleton] at hy; exact hy ▸ HG.out) (show 1 ≤ 1000 by decide) wB (row_one hgB (HT.out.old hbB)))
  rw [hwB]
  clear hwB hgB
  rw [sigs_one] at HS
  refine (HS.out).mono ?_
  rintro r w1 ⟨rfl, hb1⟩
  have hB1 := below_step hbB hb1
  have hr1 := boxed_block hrB hb1
  clear hb1 hrB hbB HS
  go_wp2_with fail
  refine (H57.out _).mono ?_
  rintro r w2 ⟨rfl, hb2⟩
  have hB2 := below_step hB1 hb2
  have hr2 := boxed_block hr1 hb2
  obtain ⟨d0, f0⟩ : w2.cell? ⟨w.heap.size, 0, none⟩ = some (.string ⟨#[]⟩) ∧ w2.frozen? ⟨w.heap.size, 0, none⟩ = false := ⟨(blk_cell hr2 0).trans rfl, blk_frozen hr2 0⟩
  obtain ⟨d1, f1⟩ : w2.cell? ⟨w.heap.size, 1, none⟩ = some .nilIface ∧ w2.frozen? ⟨w.heap.size, 1, none⟩ = false := ⟨(blk_cell hr2 1).trans rfl, blk_frozen hr2 1⟩
  clear hb2 hB1 hr1 hr2 H57
  go_wp2_with fail
  refine bodyPost_ret (v := .agg #[.string (strOfNums (word x)), .iface T v]) (by simp [results, go_sem, d0, d1]) rfl ⟨rfl, (hB2.setCell (p := ⟨w.heap.size, 0, none⟩) (Nat.le_refl _) _).setCell (p := ⟨w.heap.size, 1, none⟩) (Nat.le_refl _) _⟩
set_option maxHeartbeats 4000000 in
theorem valueOf.calls {w : World} {T : TypeId} {v : Value} {x : Tr} (hg : Gd x) (ht : Ty w T v x) : Calls Tryd.prog 52 #[.iface T v] w fun r w' => r = .returned (.agg #[.iface T v, .string (strOfNums (tyS x))]) ∧ Below w.heap.size w w' := by
  have hbA : Below w.heap.size w (w.alloc (.cells #[.nilIface, .string ⟨#[]⟩] 103)) := (Below.refl _ w).alloc (Nat.le_refl _) _
  have hrA : (w.alloc (.cells #[.nilIface, .string ⟨#[]⟩] 103)).heap[w.heap.size]? = some (.cells #[.nilIface, .string ⟨#[]⟩] 103) := heap_alloc_new w _
  have HT := Aside0.mk (typeOf.calls ht hg.wf (by have := hg.len; omega) _ hbA)
  have HA := Aside0.mk (And.intro hbA hrA)
  clear ht hg hbA hrA
  go_enter Tryd.func52, Tryd.ntmps52
  go_wp2_with (go_at_call 28; refine (HT.out).mono ?_; rintro e w1 ⟨rfl, hb⟩; have hr2 := boxed_block HA.out.2 hb; obtain ⟨d0, f0⟩ : w1.cell? ⟨w.heap.size, 0, none⟩ = some .nilIface ∧ w1.frozen? ⟨w.heap.size, 0, none⟩ = false := ⟨(blk_cell hr2 0).trans rfl, blk_frozen hr2 0⟩; obtain ⟨d1, f1⟩ : w1.cell? ⟨w.heap.size, 1, none⟩ = some (.string ⟨#[]⟩) ∧ w1.frozen? ⟨w.heap.size, 1, none⟩ = false := ⟨(blk_cell hr2 1).trans rfl, blk_frozen hr2 1⟩)
  refine bodyPost_ret (v := .agg #[.iface T v, .string (strOfNums (tyS x))]) (by simp [results, go_sem, d0, d1]) rfl ⟨rfl, ?_⟩
  exact ((below_step HA.out.1 hb).setCell (p := ⟨w.heap.size, 0, none⟩) (Nat.le_refl _) _).setCell (p := ⟨w.heap.size, 1, none⟩) (Nat.le_refl _) _
set_option maxHeartbeats 4000000 in
theorem iface.calls (i : Value) (s : ByteArray) (w : World) : Calls Tryd.prog 53 #[.agg #[i, .string s]] w fun r w' => r = .returned i ∧ Below w.heap.size w w' := by
  go_enter Tryd.func53, Tryd.ntmps53
  go_wp2
  go_ret
  exact ⟨rfl, (Below.refl _ _).alloc (Nat.le_refl _) _⟩
set_option maxHeartbeats 8000000 in
theorem makeMap.calls (S K E : ByteArray) (k : Int) (hS : bytesOf S = 123 :: k :: bytesOf E) (hK : bytesOf K = [k]) (w : World) : Calls Tryd.prog 49 #[.string S] w fun r w' =>
    ∃ p, r = .returned (.agg #[.iface 94 (.pointer (some ⟨p, 0, none⟩)), .string S]) ∧ w.heap.size ≤ p ∧ w'.heap[p]? = some (.cells #[.string K, .string E, .slice none 0 0, .slice none 0 0] 97) ∧ Below w.heap.size w w' := by
  obtain ⟨h0, h1, h2⟩ := at_zero hS
  obtain ⟨h4, h5, h6⟩ := at_drop (p := 1) h2
  have hk := gsKind_of h0 h1 (k := 14) (by decide)
  have hel : ∀ w : World, Calls Tryd.prog 36 #[.string S] w fun e w' => e = .returned (.string E) ∧ Drawn0 w w' := fun w => dbus_zzType_Elem.calls 5 S E w (by
    unfold dbus_zzType_Elem.f
    rw [kind_is h0 h1 (k := 14) (by decide), Option.bind_some, if_pos rfl, if_pos (by omega)]
    congr 1
    apply bytesOf_inj
    rw [bytesOf_from]
    exact h6)
  have hky : ∀ w : World, Calls Tryd.prog 43 #[.string S] w fun e w' => e = .returned (.string K) ∧ Drawn0 w w' := fun w => dbus_zzType_Key.calls S K w (by
    unfold dbus_zzType_Key.f
    rw [if_pos (by decide), if_pos (by omega)]
    congr 1
    apply bytesOf_inj
    rw [bytesOf_extract, hS, hK]
    rfl)
  have HK := Aside0.mk hk
  have HE := Aside0.mk hel
  have HKy := Aside0.mk hky
  clear hk hel hky hS hK h0 h1 h2 h4 h5 h6
  go_enter Tryd.func49, Tryd.ntmps49
  go_wp2_with (first | (go_at_call 35; refine (HK.out _).mono ?_; rintro r w2 ⟨rfl, hd2⟩; obtain ⟨m2, rfl⟩ := hd2.out) | (go_at_call 43; refine (HKy.out _).mono ?_; rintro r w3 ⟨rfl, hd3⟩; obtain ⟨m3, rfl⟩ := hd3.out) | (go_at_call 36; refine (HE.out _).mono ?_; rintro r w4 ⟨rfl, hd4⟩; obtain ⟨m4, rfl⟩ := hd4.out))
  refine bodyPost_ret (v := .agg #[.iface 94 (.pointer (some ⟨w.heap.size + 1, 0, none⟩)), .string S]) (by simp [results, go_sem]) rfl ⟨w.heap.size + 1, rfl, by omega, ?_, ?_⟩
  · have h := heap_alloc_new ((((w.alloc (.cells #[.nilIface, .string ⟨#[]⟩] 103)).drewN (m2 + m3 + m4)).setCell ⟨w.heap.size, 0, none⟩ (.iface 94 (.pointer (some ⟨w.heap.size + 1, 0, none⟩)))).setCell ⟨w.heap.size, 1, none⟩ (.string S)) (.cells #[.string K, .string E, .slice none 0 0, .slice none 0 0] 97)
    simpa using h
  · exact ((((pw_below_drewN ((Below.refl _ w).alloc (Nat.le_refl _) _) _).setCell (p := ⟨w.heap.size, 0, none⟩) (Nat.le_refl _) _).setCell (p := ⟨w.heap.size, 1, none⟩) (Nat.le_refl _) _)).alloc (by simp) _
end Go.Proofs.YtnojjfklnihmnaaDoor.Given
end
section
namespace Go.Proofs.YtnojjfklnihmnaaDoor.Given
open Go.RowKit Go.Proofs.YtnojjfklnihmnaaDoorW.PrintWords Go.Proofs.YtnojjfklnihmnaaDoorW.PrintLast Go.Proofs.YtnojjfklnihmnaaDoor.Pl Go.Proofs.YtnojjfklnihmnaaDoor.By Go.Proofs.YtnojjfklnihmnaaDoor.SgT Go.Proofs.YtnojjfklnihmnaaDoor.PFnSgOfParts
set_option linter.unusedVariables false
inductive KeyV : Int → TypeId → Value → Prop
  | y (n : Int) : KeyV 121 5 (.int .u8 n)
  | n (n : Int) : KeyV 110 64 (.int .i16 n)
  | q (n : Int) : KeyV 113 82 (.int .u16 n)
  | i (n : Int) : KeyV 105 21 (.int .i32 n)
  | u (n : Int) : KeyV 117 83 (.int .u32 n)
  | x (n : Int) : KeyV 120 2 (.int .i64 n)
  | t (n : Int) : KeyV 116 22 (.int .u64 n)
  | d (n : Nat) : KeyV 100 84 (.float .f64 n)
  | s (s : ByteArray) : KeyV 115 9 (.string s)
  | o (s : ByteArray) : KeyV 111 85 (.string s)
  | h (n : Int) : KeyV 104 89 (.int .u32 n)
theorem eqG (T T' : TypeId) (x y : Value) (o o' : Operand) : eqGuard .eql 20 o o' (.iface T x) (.iface T' y) = pure () := rfl
theorem eq5 (x y : Int) (w : World) : (binOp .eql 20 (.iface 5 (.int .u8 x)) (.iface 5 (.int .u8 y))).run Tryd.prog w = .ok (.bool (x == y)) w := by kernel_rfl
theorem eq64 (x y : Int) (w : World) : (binOp .eql 20 (.iface 64 (.int .i16 x)) (.iface 64 (.int .i16 y))).run Tryd.prog w = .ok (.bool (x == y)) w := by kernel_rfl
theorem eq82 (x y : Int) (w : World) : (binOp .eql 20 (.iface 82 (.int .u16 x)) (.iface 82 (.int .u16 y))).run Tryd.prog w = .ok (.bool (x == y)) w := by kernel_rfl
theorem eq21 (x y : Int) (w : World) : (binOp .eql 20 (.iface 21 (.int .i32 x)) (.iface 21 (.int .i32 y))).run Tryd.prog w = .ok (.bool (x == y)) w := by kernel_rfl
theorem eq83 (x y : Int) (w : World) : (binOp .eql 20 (.iface 83 (.int .u32 x)) (.iface 83 (.int .u32 y))).run Tryd.prog w = .ok (.bool (x == y)) w := by kernel_rfl
theorem eq2 (x y : Int) (w : World) : (binOp .eql 20 (.iface 2 (.int .i64 x)) (.iface 2 (.int .i64 y))).run Tryd.prog w = .ok (.bool (x == y)) w := by kernel_rfl
theorem eq22 (x y : Int) (w : World) : (binOp .eql 20 (.iface 22 (.int .u64 x)) (.iface 22 (.int .u64 y))).run Tryd.prog w = .ok (.bool (x == y)) w := by kernel_rfl
theorem eq84 (x y : Nat) (w : World) : (binOp .eql 20 (.iface 84 (.float .f64 x)) (.iface 84 (.float .f64 y))).run Tryd.prog w = .ok (.bool (FloatKind.f64.format.order x y == some .eq)) w := by kernel_rfl
theorem eq9 (x y : ByteArray) (w : World) : (binOp .eql 20 (.iface 9 (.string x)) (.iface 9 (.string y))).run Tryd.prog w = .ok (.bool (x == y)) w := by kernel_rfl
theorem eq85 (x y : ByteArray) (w : World) : (binOp .eql 20 (.iface 85 (.string x)) (.iface 85 (.string y))).run Tryd.prog w = .ok (.bool (x == y)) w := by kernel_rfl
theorem eq89 (x y : Int) (w : World) : (binOp .eql 20 (.iface 89 (.int .u32 x)) (.iface 89 (.int .u32 y))).run Tryd.prog w = .ok (.bool (x == y)) w := by kernel_rfl
theorem key_eq {c : Int} {T T' : TypeId} {v v' : Value} (h : KeyV c T v) (h' : KeyV c T' v') : ∃ b : Bool, ∀ w : World, (binOp .eql 20 (.iface T v) (.iface T' v')).run Tryd.prog w = .ok (.bool b) w := by
  cases h <;> cases h'
  · exact ⟨_, eq5 _ _⟩
  · exact ⟨_, eq64 _ _⟩
  · exact ⟨_, eq82 _ _⟩
  · exact ⟨_, eq21 _ _⟩
  · exact ⟨_, eq83 _ _⟩
  · exact ⟨_, eq2 _ _⟩
  · exact ⟨_, eq22 _ _⟩
  · exact ⟨_, eq84 _ _⟩
  · exact ⟨_, eq9 _ _⟩
  · exact ⟨_, eq85 _ _⟩
  · exact ⟨_, eq89 _ _⟩
theorem step_app {P : Program} {ops : Array Oper} {o : Oper} {a : Act} {K : Act → World → Prop} {Q : Exit → Act → World → Prop} {w0 W : World} (base : Nat) (hw : Region.wanted o (yielded ops a.tmps) = true) (s x : Operand) (t e : TypeId) (z : Value) (bytes : Nat)
    (ho : o.op = .call { callee := .builtin .append, args := #[s, x], argTypes := #[t, t] })
    (ht : P.underlying t = some (.slice e)) (hinfo : (P.info? e).map (fun i => (i.zero, i.size, i.bytes)) = some (some z, 1, bytes)) (hz : z.cells.size = 1) (hb0 : 0 < bytes)
    (v : Value) (n : Nat) (xs : List Value) (y : Value) (g : Nat) (hs : a.eval s = v) (hx : a.eval x = .slice (some ⟨g, 0, none⟩) 1 1) (hg : W.heap[g]? = some (.cells #[y] e (0, 0))) (h1 : y.oneCell' = true)
    (HO : W.ownsRow base e 1 v n xs) (HB : Below base w0 W) (hbase : base ≤ W.heap.size) (hl : (n + 1) * bytes ≤ 140737488355328)
    (h : ∀ v1 w1, w1.ownsRow base e 1 v1 (n + 1) (xs ++ [y]) → Below base w0 w1 → W.grownBy w1 v.ownBlock → (v1.ownBlock = v.ownBlock ∨ ∃ b, v1.ownBlock = some b ∧ W.heap.size ≤ b) → K (a.put o.dst v1) w1) :
    if Region.wanted o (yielded ops a.tmps) = true then Oper.wp P o a W K Q else K (a.put o.dst undef) W := by
  obtain ⟨i0, hi, hzz⟩ := Option.map_eq_some_iff.1 hinfo
  simp only [Prod.mk.injEq] at hzz
  obtain ⟨hz0, hz1, hz2⟩ := hzz
  have hlen : n + 1 ≤ 140737488355328 := Nat.le_trans (Nat.le_mul_of_pos_right _ hb0) hl
  rw [if_pos hw]
  obtain ⟨v1, w1, hr, hown, hgr, _, hat⟩ := run_append_own_at (P := P) W base t o.type e i0 z 1 bytes ht hi hz0 hz1 hz2 hz (by omega) v n xs HO ⟨g, 0, none⟩ 1 1 [y] (by simp)
    (by simpa using World.news_of_block hg) (by simpa using h1) (by simp only [maxLen]; omega) hl hbase
  unfold Oper.wp execOp
  simp only [ho, resolve, invoke, builtin, Sem.run_bind, Sem.run_pure, Result.andThen_ok, List.map_toArray, List.map_cons, List.map_nil, hs, hx, hr]
  refine h v1 w1 hown (HB.grown hgr hbase (own_base HO)) hgr ?_
  rcases hat with hat | hat
  · exact .inl hat
  · exact .inr ⟨_, hat, Nat.le_refl _⟩
structure Dm (w : World) (B p : Nat) (K E : ByteArray) (c : Int) (n : Nat) (kv vv : Value) (ks vs : List Value) : Prop where
  blk : w.heap[p]? = some (.cells #[.string K, .string E, kv, vv] 97 (0, 0))
  kown : w.ownsRow B 20 1 kv n ks
  vown : w.ownsRow B 20 1 vv n vs
  keys : ∀ u ∈ ks, ∃ T v, u = .iface T v ∧ KeyV c T v
  ne : NeRow kv vv
  bp : B ≤ p
theorem own_old {w w' : World} {B : Nat} {e : TypeId} {n : Nat} {v : Value} {xs : List Value} (h : w.ownsRow B e 1 v n xs) (hb : Below w.heap.size w w') : w'.ownsRow B e 1 v n xs :=
  own_move h fun k hk => hb.block k (own_lt h k hk)
theorem Dm.old {w w' : World} {B p : Nat} {K E : ByteArray} {c : Int} {n : Nat} {kv vv : Value} {ks vs : List Value} (h : Dm w B p K E c n kv vv ks vs) (hb : Below w.heap.size w w') : Dm w' B p K E c n kv vv ks vs :=
  ⟨boxed_block h.blk hb, own_old h.kown hb, own_old h.vown hb, h.keys, h.ne, h.bp⟩
theorem Dm.new {w : World} {B p : Nat} {K E : ByteArray} (c : Int) (h : w.heap[p]? = some (.cells #[.string K, .string E, .slice none 0 0, .slice none 0 0] 97 (0, 0))) (hp : B ≤ p) : Dm w B p K E c 0 (.slice none 0 0) (.slice none 0 0) [] [] :=
  ⟨h, own_nil _ _ _ _, own_nil _ _ _ _, fun u hu => (by cases hu), ne_nil _, hp⟩
theorem Dm.cells {w : World} {B p : Nat} {K E : ByteArray} {c : Int} {n : Nat} {kv vv : Value} {ks vs : List Value} (h : Dm w B p K E c n kv vv ks vs) : w.cell? ⟨p, 2, none⟩ = some kv ∧ w.cell? ⟨p, 3, none⟩ = some vv ∧ w.frozen? ⟨p, 2, none⟩ = false ∧ w.frozen? ⟨p, 3, none⟩ = false :=
  ⟨(blk_cell h.blk 2).trans rfl, (blk_cell h.blk 3).trans rfl, blk_frozen h.blk 2, blk_frozen h.blk 3⟩
theorem Dm.key {w : World} {B p : Nat} {K E : ByteArray} {c : Int} {n m : Nat} {A : Option Addr} {vv : Value} {ks vs : List Value} (h : Dm w B p K E c n (.slice A n m) vv ks vs) (j : Nat) (hj : j < n) : ∃ g T v, A = some ⟨g, 0, none⟩ ∧ w.cell? ((⟨g, 0, none⟩ : Addr).add j) = some (.iface T v) ∧ KeyV c T v := by
  obtain ⟨g, cap, he, _, _⟩ := h.kown.form (by omega)
  injection he with h1 h2 h3
  have hl : ks.length = n := by have := h.kown.1; omega
  obtain ⟨T, v, hu, hk⟩ := h.keys _ (List.getElem_mem (show j < ks.length by omega))
  refine ⟨g, T, v, h1, ?_, hk⟩
  refine h.kown.cells (g := g) (by rw [h1]; rfl) j _ ?_
  rw [List.getElem?_eq_getElem (by omega), hu]
theorem Dm.val {w : World} {B p : Nat} {K E : ByteArray} {c : Int} {n m : Nat} {A : Option Addr} {kv : Value} {ks vs : List Value} (h : Dm w B p K E c n kv (.slice A n m) ks vs) (j : Nat) (hj : j < n) : ∃ g u, A = some ⟨g, 0, none⟩ ∧ w.cell? ((⟨g, 0, none⟩ : Addr).add j) = some u ∧ w.frozen? ((⟨g, 0, none⟩ : Addr).add j) = false ∧ (⟨g, 0, none⟩ : Addr).add j = ⟨g, j, none⟩ := by
  obtain ⟨g, cap, he, _, _⟩ := h.vown.form (by omega)
  injection he with h1 h2 h3
  have hl : vs.length = n := by have := h.vown.1; omega
  have ha : (⟨g, 0, none⟩ : Addr).add j = ⟨g, j, none⟩ := by unfold Addr.add; split <;> simp_all
  refine ⟨g, vs[j]'(by omega), h1, ?_, ?_, ha⟩
  · exact h.vown.cells (g := g) (by rw [h1]; rfl) j _ (List.getElem?_eq_getElem (by omega))
  · rw [ha]
    have := h.vown
    rw [h1] at this
    exact this.frozenAt j
theorem Dm.set {w : World} {B p : Nat} {K E : ByteArray} {c : Int} {n m : Nat} {g : Nat} {kv : Value} {ks vs : List Value} (h : Dm w B p K E c n kv (.slice (some ⟨g, 0, none⟩) n m) ks vs) (j : Nat) (u : Value) (hne : g ≠ p) :
    Dm (w.setCell ⟨g, j, none⟩ u) B p K E c n kv (.slice (some ⟨g, 0, none⟩) n m) ks (vs.set j u) := by
  obtain ⟨h1, h2⟩ := h.vown.stored j u
  refine ⟨?_, own_setCell h.kown ?_ u, h1, h.keys, h.ne, h.bp⟩
  · rw [Below.heap_setCell _ _ _ _ (Ne.symm hne)]; exact h.blk
  · intro e
    exact h.ne g e.symm rfl
end Go.Proofs.YtnojjfklnihmnaaDoor.Given
end
