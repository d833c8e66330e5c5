/- Part of the proof of LawFnSgOfParts. -/
import Derived.Test.YtnojjfklnihmnaaDoorTd
import Derived.Outline
import Derived.Test.YtnojjfklnihmnaaDoorFi
import Derived.Test.YtnojjfklnihmnaaDoorPFnSgOfPartsx1
import Derived.Test.YtnojjfklnihmnaaDoorPFnSgOfPartsx3
set_option linter.unusedVariables false
set_option linter.unusedSimpArgs false
section
namespace Go.Proofs.YtnojjfklnihmnaaDoor.Given
open Go.RowKit Go.Proofs.YtnojjfklnihmnaaDoorW.PrintWords Go.Proofs.YtnojjfklnihmnaaDoor.PFnSgOfParts Go.Proofs.YtnojjfklnihmnaaDoor.PSp
set_option linter.unusedVariables false
def TidyC (G : Int → Int → ByteArray → List S25 → Option Bool) : Prop := ∀ (a0 a1 : Int) (a2 : ByteArray) (A : Option Addr) (c : Nat) (l : List S25) (r : Bool) (w : World), Given.Tabs w → Kd.C k25 w A l.length l → l.length ≤ c → G a0 a1 a2 l = some r → Calls Tryd.prog 8 #[.agg #[.int .u8 a0, .int .u64 a1, .string a2, .slice A l.length c]] w fun e w' => e = .returned (.bool r) ∧ Below w.heap.size w w'
def tdB (G : Int → Int → ByteArray → List S25 → Option Bool) (k : Nat) (a b : Int) (s : ByteArray) (l : List S25) : Option Bool :=
  if a = 123 then some false else (spec_SigOf.f k a b s l).bind fun sg => (spec_Valid.f k sg).bind fun v => if v = true then spec_tidy.f G k a b s l else some false
set_option maxHeartbeats 8000000 in
set_option maxRecDepth 100000 in
theorem tdB.calls (G : Int → Int → ByteArray → List S25 → Option Bool) (hG : TidyC G) (k : Nat) : TidyC (tdB G k) := by
  intro a b s A c l r w hT hr hc h
  unfold tdB at h
  have hbA : Below w.heap.size w (w.alloc (.cells #[.int .u8 a, .int .u64 b, .string s, .slice A l.length c] 25)) := (Below.refl _ w).alloc (Nat.le_refl _) _
  have hbx : (w.alloc (.cells #[.int .u8 a, .int .u64 b, .string s, .slice A l.length c] 25)).heap[w.heap.size]? = some (.cells #[.int .u8 a, .int .u64 b, .string s, .slice A l.length c] 25 (0, 0)) := heap_alloc_new w _
  by_cases ha : a = 123
  · rw [if_pos ha] at h
    obtain rfl := Option.some.inj h
    subst ha
    clear hr h hbx
    go_enter Tryd.func8, Tryd.ntmps8
    go_wp2
    go_ret
    exact ⟨rfl, hbA⟩
  · rw [if_neg ha] at h
    obtain ⟨sg, hsg, h⟩ := Option.bind_eq_some_iff.1 h
    obtain ⟨v, hv, h⟩ := Option.bind_eq_some_iff.1 h
    have hne : (a != 123) = true := bne_iff_ne.mpr ha
    have HS := Aside0.mk (spec_SigOf.calls k a b s A c l sg _ (Kd.C_below hr hbA) hc hsg)
    have HV := Aside0.mk fun w => spec_Valid.calls k sg v w hv
    have HX := Aside0.mk hbx
    have HBA := Aside0.mk hbA
    have HC := Aside0.mk hr
    have HT := Aside0.mk hT
    have HH := Aside0.mk h
    have HGG := Aside0.mk hG
    clear hsg hv hbx hr hT h hG hbA
    obtain ⟨wA, hwA⟩ : ∃ wA, w.alloc (.cells #[.int .u8 a, .int .u64 b, .string s, .slice A l.length c] 25) = wA := ⟨_, rfl⟩
    rw [hwA] at HS HX HBA
    have cells : ∀ W : World, W.heap[w.heap.size]? = some (.cells #[.int .u8 a, .int .u64 b, .string s, .slice A l.length c] 25 (0, 0)) → W.cell? ⟨w.heap.size, 0, none⟩ = some (.int .u8 a) ∧ W.cell? ⟨w.heap.size, 1, none⟩ = some (.int .u64 b) ∧ W.cell? ⟨w.heap.size, 2, none⟩ = some (.string s) ∧ W.cell? ⟨w.heap.size, 3, none⟩ = some (.slice A l.length c) := fun W h => ⟨(blk_cell h 0).trans rfl, (blk_cell h 1).trans rfl, (blk_cell h 2).trans rfl, (blk_cell h 3).trans rfl⟩
    have CE := Aside0.mk cells
    obtain ⟨b0, b1, b2, b3⟩ := cells _ HX.out
    clear cells
    go_enter Tryd.func8, Tryd.ntmps8
    go_wp2_with fail
    refine (HS.out).mono ?_
    rintro e w1 ⟨rfl, hb1⟩
    have HX := Aside0.mk ((hb1.block _ (blk_lt HX.out)).trans HX.out)
    have HBA := Aside0.mk (HBA.out.trans (hb1.mono HBA.out.size))
    clear hb1 b0 b1 b2 b3 hwA HS
    go_wp2_with fail
    refine (HV.out _).mono ?_
    rintro e w2 ⟨rfl, hb2⟩
    have HX := Aside0.mk ((hb2.block _ (blk_lt HX.out)).trans HX.out)
    have HBA := Aside0.mk (HBA.out.trans (hb2.mono HBA.out.size))
    clear hb2 HV
    cases v with
    | false =>
      obtain rfl : r = false := by have h := HH.out; simp only [Bool.false_eq_true, if_false] at h; exact (Option.some.inj h).symm
      go_wp2_with fail
      go_ret
      exact ⟨rfl, HBA.out⟩
    | true =>
      have h := HH.out
      rw [if_pos rfl] at h
      have HTY := Aside0.mk (spec_tidy.calls G HGG.out k a b s A c l r w2 (HT.out.below HBA.out (Nat.le_refl _)) (Kd.C_below HC.out HBA.out) hc h)
      obtain ⟨b0, b1, b2, b3⟩ := CE.out _ HX.out
      clear h HH
      go_wp2_with fail
      refine (HTY.out).mono ?_
      rintro e w3 ⟨rfl, hb3⟩
      have HBA := Aside0.mk (HBA.out.trans (hb3.mono HBA.out.size))
      clear hb3 b0 b1 b2 b3
      go_wp2_with fail
      go_ret
      exact ⟨rfl, HBA.out⟩
noncomputable def pick (p : Bool → Prop) : Option Bool := if h : (Classical.propDecidable (∃ r, p r)).decide = true then some (Classical.choose (@of_decide_eq_true _ (Classical.propDecidable (∃ r, p r)) h)) else none
theorem pick_spec {p : Bool → Prop} {r : Bool} (h : pick p = some r) : p r := by
  unfold pick at h
  split at h
  · rename_i hx
    obtain rfl := Option.some.inj h
    exact Classical.choose_spec (@of_decide_eq_true _ (Classical.propDecidable (∃ r, p r)) hx)
  · cases h
theorem pick_some {p : Bool → Prop} (h : ∃ r, p r) : ∃ r, pick p = some r ∧ p r := by
  have hd : (Classical.propDecidable (∃ r, p r)).decide = true := @decide_eq_true _ (Classical.propDecidable _) h
  have e : pick p = some (Classical.choose (@of_decide_eq_true _ (Classical.propDecidable (∃ r, p r)) hd)) := by unfold pick; rw [dif_pos hd]
  exact ⟨_, e, pick_spec e⟩
noncomputable def tdN (Good : S25 → Prop) : Nat → Int → Int → ByteArray → List S25 → Option Bool
  | 0 => fun _ _ _ _ => none
  | n + 1 => fun a b s l => pick fun r => (∃ k, tdB (tdN Good n) k a b s l = some r) ∧ (r = true → Good ⟨a, b, s, l⟩)
theorem tdN.calls (Good : S25 → Prop) : ∀ n, TidyC (tdN Good n)
  | 0 => fun a b s A c l r w _ _ _ h => by cases h
  | n + 1 => fun a b s A c l r w hT hr hc h => by
    obtain ⟨k, hk⟩ := (pick_spec h).1
    exact tdB.calls _ (tdN.calls Good n) k a b s A c l _ w hT hr hc hk
theorem tdN.some (Good : S25 → Prop) (n : Nat) (a b : Int) (s : ByteArray) (l : List S25) (h : ∃ r : Bool, (∃ k, tdB (tdN Good n) k a b s l = some r) ∧ (r = true → Good ⟨a, b, s, l⟩)) : ∃ r : Bool, tdN Good (n + 1) a b s l = some r ∧ (r = true → Good ⟨a, b, s, l⟩) := by
  obtain ⟨r, h1, h2⟩ := pick_some h
  exact ⟨r, h1, h2.2⟩
end Go.Proofs.YtnojjfklnihmnaaDoor.Given
end
section
namespace Go.Proofs.YtnojjfklnihmnaaDoor.Cv
open Go.RowKit Go.Proofs.YtnojjfklnihmnaaDoorW.PrintWords Go.Proofs.YtnojjfklnihmnaaDoor.Pl Go.Proofs.YtnojjfklnihmnaaDoor.PFnSgOfParts Go.Proofs.YtnojjfklnihmnaaDoor.PSp
theorem range_total (c n : Int) : ∃ b, spec_inRange.f c n = some b := by
  unfold spec_inRange.f
  repeat' split
  all_goals exact ⟨_, rfl⟩
theorem vstr_total (s : ByteArray) (hs : s.size ≤ 1000000000) : ∃ r, Ev (fun k => spec_ValidString.f k s) r := by
  have hv : Given.vstr.f s = some (Lib.validD s.data.toList) := by unfold Given.vstr.f; rw [if_pos (by omega)]
  have loop : ∀ (d i : Nat), i + d = s.size → ∃ r, Ev (fun k => spec_ValidString.l0 k s (i : Int)) r := by
    intro d
    induction d with
    | zero =>
      intro i hi
      have q : ¬ (i : Int) < (s.size : Int) := by omega
      refine ⟨Lib.validD s.data.toList, Ev_up ?_⟩
      simp only [spec_ValidString.l0, if_neg q, hv, Option.bind_some]
      exact Ev_some rfl
    | succ d ih =>
      intro i hi
      have q : (i : Int) < (s.size : Int) := by omega
      have q0 : (0 : Int) ≤ (i : Int) := by omega
      have ep : wrap64 ((i : Int) + 1) = ((i + 1 : Nat) : Int) := by rw [w64 (by omega) (by omega)]; omega
      by_cases hb : bt s (i : Int) = 0
      · refine ⟨false, Ev_up ?_⟩
        simp only [spec_ValidString.l0, if_pos q, if_pos q0, if_pos hb]
        exact Ev_some rfl
      · obtain ⟨r, hr⟩ := ih (i + 1) (by omega)
        refine ⟨r, Ev_up ?_⟩
        simp only [spec_ValidString.l0, if_pos q, if_pos q0, if_neg hb, ep]
        exact hr
  exact loop s.size 0 (by omega)
end Go.Proofs.YtnojjfklnihmnaaDoor.Cv
end
section
namespace Go.Proofs.YtnojjfklnihmnaaDoor.Cv
open Go.RowKit Go.Proofs.YtnojjfklnihmnaaDoorW.PrintWords Go.Proofs.YtnojjfklnihmnaaDoor.Pl Go.Proofs.YtnojjfklnihmnaaDoor.PFnSgOfParts
mutual
def sig : S25 → ByteArray
  | ⟨a, _, s, l⟩ => if a = 97 then ⟨#[97]⟩ ++ s else if a = 40 then (strOfNums [40] ++ sgs l) ++ ⟨#[41]⟩ else if a = 123 then (strOfNums [123] ++ sgs l) ++ ⟨#[125]⟩ else strOfNums [a]
def sgs : List S25 → ByteArray
  | [] => ⟨#[]⟩
  | x :: l => sig x ++ sgs l
end
theorem sig_eq (v : S25) : sig v = if v.f0 = 97 then ⟨#[97]⟩ ++ v.f2 else if v.f0 = 40 then (strOfNums [40] ++ sgs v.f3) ++ ⟨#[41]⟩ else if v.f0 = 123 then (strOfNums [123] ++ sgs v.f3) ++ ⟨#[125]⟩ else strOfNums [v.f0] := by cases v; rw [sig]
theorem sgs_app (l m : List S25) : sgs (l ++ m) = sgs l ++ sgs m := by
  induction l with
  | nil => show sgs m = ⟨#[]⟩ ++ sgs m; exact (ByteArray.empty_append).symm
  | cons x l ih => show sig x ++ sgs (l ++ m) = (sig x ++ sgs l) ++ sgs m; rw [ih, ByteArray.append_assoc]
theorem sgs_one (x : S25) : sgs [x] = sig x := by
  show sig x ++ ⟨#[]⟩ = sig x
  exact ByteArray.append_empty
theorem sig_size : ∀ (n : Nat) (v : S25), cnt v ≤ n → (sig v).size ≤ byt v + 3 * cnt v := by
  intro n
  induction n with
  | zero => intro v h; rw [cnt_eq] at h; omega
  | succ n ih =>
    intro v h
    rw [cnt_eq] at h
    have hs : ∀ l : List S25, cnts l ≤ n → (sgs l).size ≤ byts l + 3 * cnts l := by
      intro l
      induction l with
      | nil => intro _; exact Nat.zero_le _
      | cons x l ihl =>
        intro hl
        rw [cnts] at hl
        have h1 := ih x (by omega)
        have h2 := ihl (by omega)
        show (sig x ++ sgs l).size ≤ byts (x :: l) + 3 * cnts (x :: l)
        rw [ByteArray.size_append, byts, cnts]; omega
    have h1 := hs v.f3 (by omega)
    rw [sig_eq, byt_eq, cnt_eq]
    split
    · rw [ByteArray.size_append]; show 1 + v.f2.size ≤ _; omega
    split
    · rw [ByteArray.size_append, ByteArray.size_append]; show 1 + (sgs v.f3).size + 1 ≤ _; omega
    split
    · rw [ByteArray.size_append, ByteArray.size_append]; show 1 + (sgs v.f3).size + 1 ≤ _; omega
    · show 1 ≤ _; omega
theorem sgs_size (l : List S25) : (sgs l).size ≤ byts l + 3 * cnts l := by
  induction l with
  | nil => exact Nat.zero_le _
  | cons x l ih =>
    have h1 := sig_size _ x (Nat.le_refl _)
    show (sig x ++ sgs l).size ≤ byts (x :: l) + 3 * cnts (x :: l)
    rw [ByteArray.size_append, byts, cnts]; omega
theorem sgs_take (l : List S25) (i : Nat) : (sgs (l.take i)).size ≤ (sgs l).size := by
  have : sgs l = sgs (l.take i) ++ sgs (l.drop i) := by rw [← sgs_app, List.take_append_drop]
  rw [this, ByteArray.size_append]; omega
theorem sig_from (l : List S25) (e b : ByteArray) (hl : l.length ≤ 1000000) (hz : (sgs l).size + b.size + e.size ≤ 1000000000) (ih : ∀ x ∈ l, Ev (fun k => spec_SigOf.f k x.f0 x.f1 x.f2 x.f3) (sig x)) :
    ∀ (d i : Nat), i + d = l.length → Ev (fun k => spec_SigOf.l0 k e (b ++ sgs (l.take i)) l (l.length : Int) (i : Int)) ((b ++ sgs l) ++ e) := by
  intro d
  induction d with
  | zero =>
    intro i hi
    refine Ev_up ?_
    have q : ¬ (i : Int) < (l.length : Int) := by omega
    rw [show i = l.length by omega, List.take_length] at *
    have q2 : (b ++ sgs l).size + e.size ≤ 9223372036854775807 := by rw [ByteArray.size_append]; omega
    simp only [spec_SigOf.l0, if_neg q, if_pos q2]
    exact Ev_some rfl
  | succ d ihd =>
    intro i hi
    refine Ev_up ?_
    have q : (i : Int) < (l.length : Int) := by omega
    have q0 : (0 : Int) ≤ (i : Int) := by omega
    have hlt : i < l.length := by omega
    have hx : rd_T25 l (i : Int) = l[i] := by
      unfold rd_T25
      rw [Int.toNat_natCast, List.getD_eq_getElem?_getD, List.getElem?_eq_getElem hlt]; rfl
    have hst : sgs (l.take (i + 1)) = sgs (l.take i) ++ sig l[i] := by rw [List.take_succ_eq_append_getElem hlt, sgs_app, sgs_one]
    have hle := sgs_take l (i + 1)
    rw [hst, ByteArray.size_append] at hle
    simp only [spec_SigOf.l0, if_pos q, if_pos q0, hx]
    refine Ev.bind (ih _ (List.getElem_mem hlt)) ?_
    have q2 : (b ++ sgs (l.take i)).size + (sig l[i]).size ≤ 9223372036854775807 := by rw [ByteArray.size_append]; omega
    simp only [if_pos q2]
    rw [show wrap64 ((i : Int) + 1) = ((i + 1 : Nat) : Int) by rw [w64 (by omega) (by omega)]; omega, ByteArray.append_assoc, ← hst]
    exact ihd (i + 1) (by omega)
theorem sig_all : ∀ (n : Nat) (v : S25), cnt v ≤ n → n ≤ 1000000 → byt v ≤ 100000000 → Ev (fun k => spec_SigOf.f k v.f0 v.f1 v.f2 v.f3) (sig v) := by
  intro n
  induction n with
  | zero => intro v h; rw [cnt_eq] at h; omega
  | succ n ih =>
    intro v h hn hb
    have hc := h
    rw [cnt_eq] at hc
    have hbb := hb
    rw [byt_eq] at hbb
    have hsz := sgs_size v.f3
    have hlen := cnt_len v.f3
    have kids : ∀ x ∈ v.f3, Ev (fun k => spec_SigOf.f k x.f0 x.f1 x.f2 x.f3) (sig x) := fun x hx => ih x (by have := cnt_mem hx; omega) (by omega) (by have := byt_mem hx; omega)
    rw [sig_eq]
    by_cases h97 : v.f0 = 97
    · rw [if_pos h97]
      refine Ev_up ?_
      have q : 1 + v.f2.size ≤ 9223372036854775807 := by omega
      simp only [spec_SigOf.f, if_pos h97, if_pos q]
      exact Ev_some rfl
    · rw [if_neg h97]
      by_cases h40 : v.f0 = 40
      · rw [if_pos h40]
        refine Ev_up ?_
        have e1 : (v.f0 == 40) = true := beq_iff_eq.mpr h40
        have n123 : ¬ v.f0 = 123 := by omega
        simp only [spec_SigOf.f, if_neg h97, if_pos h40, e1]
        refine Ev_up ?_
        simp only [spec_SigOf.j0, if_true, if_neg n123]
        refine Ev_up ?_
        simp only [spec_SigOf.j1, h40]
        have := sig_from v.f3 ⟨#[41]⟩ (strOfNums [40]) (by omega) (by show (sgs v.f3).size + 1 + 1 ≤ _; omega) kids v.f3.length 0 (by omega)
        rw [show strOfNums [40] ++ sgs (v.f3.take 0) = strOfNums [40] from ByteArray.append_empty] at this
        exact this
      · rw [if_neg h40]
        by_cases h123 : v.f0 = 123
        · rw [if_pos h123]
          refine Ev_up ?_
          have e1 : (v.f0 == 123) = true := beq_iff_eq.mpr h123
          simp only [spec_SigOf.f, if_neg h97, if_neg h40, e1]
          refine Ev_up ?_
          simp only [spec_SigOf.j0, if_true, if_pos h123]
          refine Ev_up ?_
          simp only [spec_SigOf.j1, h123]
          have := sig_from v.f3 ⟨#[125]⟩ (strOfNums [123]) (by omega) (by show (sgs v.f3).size + 1 + 1 ≤ _; omega) kids v.f3.length 0 (by omega)
          rw [show strOfNums [123] ++ sgs (v.f3.take 0) = strOfNums [123] from ByteArray.append_empty] at this
          exact this
        · rw [if_neg h123]
          refine Ev_up ?_
          have e1 : (v.f0 == 123) = false := beq_eq_false_iff_ne.mpr h123
          simp only [spec_SigOf.f, if_neg h97, if_neg h40, e1]
          refine Ev_up ?_
          simp only [spec_SigOf.j0, Bool.false_eq_true, if_false]
          exact Ev_some rfl
end Go.Proofs.YtnojjfklnihmnaaDoor.Cv
end
section
namespace Go.Proofs.YtnojjfklnihmnaaDoor.Cv
open Go.RowKit Go.Proofs.YtnojjfklnihmnaaDoorW.PrintWords Go.Proofs.YtnojjfklnihmnaaDoor.Pl Go.Proofs.YtnojjfklnihmnaaDoor.PFnSgOfParts Go.Proofs.YtnojjfklnihmnaaDoor.PSp
variable (G : Int → Int → ByteArray → List S25 → Option Bool) (P : S25 → Prop)
theorem rd25 {l : List S25} {i : Nat} (h : i < l.length) : rd_T25 l (i : Int) = l[i] := by
  unfold rd_T25
  rw [Int.toNat_natCast, List.getD_eq_getElem?_getD, List.getElem?_eq_getElem h]; rfl
theorem tidy_l1 (l : List S25) (hl : l.length ≤ 1000000) (ih : ∀ x ∈ l, ∃ r, Ev (fun k => spec_tidy.f G k x.f0 x.f1 x.f2 x.f3) r ∧ (r = true → P x)) :
    ∀ (d i : Nat), i + d = l.length → ∃ r, Ev (fun k => spec_tidy.l1 G k l (l.length : Int) (i : Int)) r ∧ (r = true → ∀ x ∈ l.drop i, x.f0 ≠ 123 ∧ P x) := by
  intro d
  induction d with
  | zero =>
    intro i hi
    have q : ¬ (i : Int) < (l.length : Int) := by omega
    refine ⟨true, Ev_up ?_, fun _ x hx => by rw [List.drop_eq_nil_of_le (by omega)] at hx; cases hx⟩
    simp only [spec_tidy.l1, if_neg q]
    exact Ev_some rfl
  | succ d ihd =>
    intro i hi
    have q : (i : Int) < (l.length : Int) := by omega
    have q0 : (0 : Int) ≤ (i : Int) := by omega
    have hlt : i < l.length := by omega
    have ep : wrap64 ((i : Int) + 1) = ((i + 1 : Nat) : Int) := by rw [w64 (by omega) (by omega)]; omega
    obtain ⟨r, hr, hp⟩ := ih _ (List.getElem_mem hlt)
    obtain ⟨r2, hr2, hk2⟩ := ihd (i + 1) (by omega)
    by_cases hb : (l[i]).f0 = 123
    · refine ⟨false, Ev_up ?_, fun h => by cases h⟩
      simp only [spec_tidy.l1, if_pos q, if_pos q0, rd25 hlt, if_pos hb]
      exact Ev_some rfl
    · cases r with
      | false =>
        refine ⟨false, Ev_up ?_, fun h => by cases h⟩
        simp only [spec_tidy.l1, if_pos q, if_pos q0, rd25 hlt, if_neg hb]
        refine Ev.bind hr ?_
        exact Ev_some (by simp)
      | true =>
        refine ⟨r2, Ev_up ?_, fun h x hx => ?_⟩
        · simp only [spec_tidy.l1, if_pos q, if_pos q0, rd25 hlt, if_neg hb]
          refine Ev.bind hr ?_
          simp only [if_true, ep]
          exact hr2
        · rw [List.drop_eq_getElem_cons hlt] at hx
          rcases List.mem_cons.1 hx with rfl | hx
          · exact ⟨hb, hp rfl⟩
          · exact hk2 h x hx
theorem tidy_l0 (l : List S25) (a b : Int) (s : ByteArray) (l' : List S25) (hl : l.length ≤ 1000000) (hsig : ∀ x ∈ l, Ev (fun k => spec_SigOf.f k x.f0 x.f1 x.f2 x.f3) (sig x)) (ih : ∀ x ∈ l, ∃ r, Ev (fun k => spec_tidy.f G k x.f0 x.f1 x.f2 x.f3) r ∧ (r = true → P x)) :
    ∀ (d i : Nat), i + d = l.length → ∃ r, Ev (fun k => spec_tidy.l0 G k l (l.length : Int) (i : Int) a b s l') r ∧ (r = true → ∀ x ∈ l.drop i, sig x = s ∧ P x) := by
  intro d
  induction d with
  | zero =>
    intro i hi
    have q : ¬ (i : Int) < (l.length : Int) := by omega
    refine ⟨true, Ev_up ?_, fun _ x hx => by rw [List.drop_eq_nil_of_le (by omega)] at hx; cases hx⟩
    simp only [spec_tidy.l0, if_neg q]
    exact Ev_some rfl
  | succ d ihd =>
    intro i hi
    have q : (i : Int) < (l.length : Int) := by omega
    have q0 : (0 : Int) ≤ (i : Int) := by omega
    have hlt : i < l.length := by omega
    have ep : wrap64 ((i : Int) + 1) = ((i + 1 : Nat) : Int) := by rw [w64 (by omega) (by omega)]; omega
    have hs := hsig _ (List.getElem_mem hlt)
    obtain ⟨r, hr, hp⟩ := ih _ (List.getElem_mem hlt)
    obtain ⟨r2, hr2, hk2⟩ := ihd (i + 1) (by omega)
    by_cases hb : (sig l[i]).toList = s.toList
    · cases r with
      | false =>
        refine ⟨false, Ev_up ?_, fun h => by cases h⟩
        simp only [spec_tidy.l0, if_pos q, if_pos q0, rd25 hlt]
        refine Ev.bind hs ?_
        simp only [if_pos hb]
        refine Ev.bind hr ?_
        exact Ev_some (by simp)
      | true =>
        refine ⟨r2, Ev_up ?_, fun h x hx => ?_⟩
        · simp only [spec_tidy.l0, if_pos q, if_pos q0, rd25 hlt]
          refine Ev.bind hs ?_
          simp only [if_pos hb]
          refine Ev.bind hr ?_
          simp only [if_true, ep]
          exact hr2
        · rw [List.drop_eq_getElem_cons hlt] at hx
          rcases List.mem_cons.1 hx with rfl | hx
          · refine ⟨?_, hp rfl⟩
            rw [ByteArray.toList_eq, ByteArray.toList_eq] at hb
            exact ByteArray.ext (Array.ext' hb)
          · exact hk2 h x hx
    · refine ⟨false, Ev_up ?_, fun h => by cases h⟩
      simp only [spec_tidy.l0, if_pos q, if_pos q0, rd25 hlt]
      refine Ev.bind hs ?_
      simp only [if_neg hb]
      exact Ev_some rfl
end Go.Proofs.YtnojjfklnihmnaaDoor.Cv
end
