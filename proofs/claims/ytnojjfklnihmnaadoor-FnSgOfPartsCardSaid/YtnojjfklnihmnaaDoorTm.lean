/- Part of the proof of LawFnSgOfParts. -/
import Derived.Test.YtnojjfklnihmnaaDoorGvDd
import Derived.Test.YtnojjfklnihmnaaDoorPFnSgOfPartsx1
import Derived.Test.YtnojjfklnihmnaaDoorTl
import Derived.Test.YtnojjfklnihmnaaDoorVs
set_option linter.unusedVariables false
set_option linter.unusedSimpArgs false
section
namespace Go.Proofs.YtnojjfklnihmnaaDoor.Given
open Go.RowKit Go.Proofs.YtnojjfklnihmnaaDoorW.PrintWords Go.Proofs.YtnojjfklnihmnaaDoorW.PrintLast Go.Proofs.YtnojjfklnihmnaaDoor.Pl Go.Proofs.YtnojjfklnihmnaaDoor.By Go.Proofs.YtnojjfklnihmnaaDoor.SgT Go.Proofs.YtnojjfklnihmnaaDoor.PFnSgOfParts
set_option linter.unusedVariables false
attribute [local go_sem] field42
def Elr (w : World) (B : Nat) (sv : Value) (es : List (TypeId × Value)) (tys : List Tr) : Prop := ∀ (i : Nat) (e : TypeId × Value) (x : Tr), es[i]? = some e → tys[i]? = some x → TyO (fun k => B ≤ k ∧ some k ≠ sv.ownBlock) w e.1 e.2 x
theorem Elr.old {w w' : World} {B : Nat} {sv : Value} {es : List (TypeId × Value)} {tys : List Tr} (h : Elr w B sv es tys) (hb : Below w.heap.size w w') : Elr w' B sv es tys := fun i e x he hx => (h i e x he hx).move fun k hk hl => ⟨hb.block k hl, hk⟩
theorem Elr.snoc {w : World} {B : Nat} {sv : Value} {es : List (TypeId × Value)} {tys : List Tr} {T : TypeId} {u : Value} {x : Tr} (h : Elr w B sv es tys) (hx : tys[es.length]? = some x) (ht : TyO (fun k => B ≤ k ∧ some k ≠ sv.ownBlock) w T u x) : Elr w B sv (es ++ [(T, u)]) tys := by
  intro i e y he hy
  by_cases hi : i < es.length
  · rw [List.getElem?_append_left hi] at he
    exact h i e y he hy
  · have hl : i < (es ++ [(T, u)]).length := (List.getElem?_eq_some_iff.1 he).1
    rw [List.length_append, List.length_singleton] at hl
    obtain rfl : i = es.length := by omega
    rw [List.getElem?_append_right (Nat.le_refl _), Nat.sub_self] at he
    obtain rfl := Option.some.inj he
    rw [hx] at hy
    obtain rfl := Option.some.inj hy
    exact ht
theorem Elr.grown {w w' : World} {B : Nat} {sv v5 : Value} {es : List (TypeId × Value)} {tys : List Tr} (h : Elr w B sv es tys) (hg : w.grownBy w' sv.ownBlock) (hat : v5.ownBlock = sv.ownBlock ∨ ∃ b, v5.ownBlock = some b ∧ w.heap.size ≤ b) : Elr w' B v5 es tys :=
  fun i e x he hx => (h i e x he hx).move fun k hk hl => ⟨hg.block k hl hk.2, hk.1, by
    rcases hat with hat | ⟨b, hb, hle⟩
    · rw [hat]; exact hk.2
    · rw [hb]; intro e; injection e with e; omega⟩
set_option maxHeartbeats 16000000 in
set_option maxRecDepth 100000 in
theorem doorsIn.calls (l : List S47) (tys : List Tr) (A : Option Addr) (c : Nat) (w : World) (hC : Kd.C k47 w A l.length l) (hc : l.length ≤ c) (hlen : l.length = tys.length) (hn : l.length ≤ 1000)
    (ih : ∀ (i : Nat) (y : S47) (x : Tr), l[i]? = some y → tys[i]? = some x → DIn y x) :
    Calls Tryd.prog 19 #[.slice A l.length c] w fun r w' => ∃ A' c' es, r = .returned (.slice A' (List.length es) c') ∧ es.length ≤ c' ∧ Row w' A' es tys ∧ Below w.heap.size w w' := by
  have HIH := Aside0.mk ih
  have HLEN := Aside0.mk hlen
  have HC := Aside0.mk hC
  clear ih hlen hC
  go_enter Tryd.func19, Tryd.ntmps19
  go_wp2_with fail
  go_loopw [3, 8] (fun s i wr => ∃ j : Nat, j ≤ l.length ∧ i = .int .i64 j ∧ ∃ es, Aside0 (wr.ownsRow w.heap.size 20 1 s j (es.map fun e => .iface e.1 e.2)) ∧ Aside0 (Elr wr w.heap.size s es tys) ∧ Aside0 (Below w.heap.size w wr)) (fun _ i _ => l.length - (intOf i).toNat)
  case atStart => exact ⟨0, Nat.zero_le _, rfl, [], ⟨own_nil _ _ _ _⟩, ⟨fun i e x he => by cases he⟩, ⟨Below.refl _ _⟩⟩
  case round =>
    obtain ⟨j, hj, rfl, es, HO, HE, HB⟩ := hrel
    have hel : es.length = j := by have := HO.out.1; rw [List.length_map] at this; omega
    obtain ⟨A7, m7, rfl⟩ := own_slice HO.out
    by_cases hlt : j < l.length
    · obtain ⟨y, hy⟩ : ∃ y, l[j]? = some y := ⟨_, List.getElem?_eq_getElem hlt⟩
      obtain ⟨x, hx⟩ : ∃ x, tys[j]? = some x := ⟨_, List.getElem?_eq_getElem (by have := HLEN.out; omega)⟩
      obtain ⟨ad, A3, c3, hA, d0, d1, d2, d3, hl3, hC3⟩ := at_T47 (Kd.C_below HC.out HB.out) (j : Int) (by omega) (by omega)
      rw [rd47 hy] at d0 d1 d2 d3 hl3 hC3
      simp only [Int.toNat_natCast] at d0 d1 d2 d3
      have HX := Aside0.mk (show tys[es.length]? = some x by rw [hel]; exact hx)
      have hbn : Below wr.heap.size wr (wr.alloc (.cells #[.int .u8 y.f0, .int .u64 y.f1, .string y.f2, .slice A3 y.f3.length c3] 47)) := (Below.refl _ _).alloc (Nat.le_refl _) _
      have HI := Aside0.mk (HIH.out j y x hy hx A3 c3 _ (Kd.C_below hC3 hbn) hl3)
      have HON := Aside0.mk (own_old HO.out hbn)
      have HEN := Aside0.mk (HE.out.old hbn)
      have HBN := Aside0.mk (below_step HB.out hbn)
      cases hA
      clear hy hC3 hx hel hbn hl3 HO HE HB
      go_wp2_with fail
      refine (HI.out).mono ?_
      clear HI
      generalize wr.alloc (.cells #[.int .u8 y.f0, .int .u64 y.f1, .string y.f2, .slice A3 y.f3.length c3] 47) = W2 at HON HEN HBN ⊢
      rintro r W3 ⟨T, u, rfl, hty, -, hb⟩
      have HT : Aside0 (TyO (fun k => w.heap.size ≤ k ∧ some k ≠ Value.ownBlock (.slice A7 j m7)) W3 T u x) := ⟨hty.move fun k hk _ => ⟨rfl, by have := HBN.out.size; omega, fun e => by have := own_lt HON.out k e.symm; omega⟩⟩
      have HO := Aside0.mk (own_old HON.out hb)
      have HE := Aside0.mk (HEN.out.old hb)
      have HB := Aside0.mk (below_step HBN.out hb)
      clear hb hty HON HEN HBN d0 d1 d2 d3
      go_wp2_with ((with_reducible refine gate_builtin (b := .append) (xs := #[.tmp 12, .tmp 15]) rfl ?_); at_builtin; refine print_append (w0 := w) w.heap.size rfl (.tmp 12) (.tmp 15) 44 20 .nilIface 16 rfl Tryd.underlying44 info20 rfl (by decide) (.slice A7 j m7) (es.map fun e => .iface e.1 e.2) (.iface T u) rfl rfl rfl (by rw [List.length_map]; exact (by have := HO.out; rw [show es.length = j by have := this.1; rw [List.length_map] at this; omega]; exact this)) HB.out HB.out.size (by rw [List.length_map]; have := HO.out.1; rw [List.length_map] at this; omega) ?_; intro v5 W5 ho hb hg hat)
      have he : es.length = j := by have := HO.out.1; rw [List.length_map] at this; omega
      have HE5 := Aside0.mk ((HE.out.snoc HX.out HT.out).grown hg hat)
      have HO5 : Aside0 (W5.ownsRow w.heap.size 20 1 v5 (j + 1) ((es ++ [(T, u)]).map fun e => .iface e.1 e.2)) := ⟨by
        rw [List.length_append, List.length_map, he] at ho
        rw [List.map_append]
        exact ho⟩
      have HB5 := Aside0.mk hb
      clear ho hb hg hat
      go_roundw
      case rel => exact ⟨j + 1, by omega, by go_num, _, HO5, HE5, HB5⟩
      case measure => simp [intOf]; omega
    · obtain rfl : l.length = j := by omega
      go_wp2_with fail
      go_ret
      have hown := HO.out
      rw [← hel] at hown ⊢
      refine ⟨A7, m7, es, rfl, own_cap hown, ⟨by rw [hel]; exact HLEN.out, fun hz => ?_, fun ad ha i e he => ?_, fun i e y he hy => (HE.out i e y he hy).ty⟩, HB.out⟩
      · obtain ⟨g, cap, he, -, -⟩ := hown.form hz
        injection he with h1 h2 h3
        exact ⟨_, h1⟩
      · have hz : 0 < es.length := by have := (List.getElem?_eq_some_iff.1 he).1; omega
        obtain ⟨g, cap, hg, -, -⟩ := hown.form hz
        injection hg with h1 h2 h3
        rw [h1] at ha
        obtain rfl := Option.some.inj ha
        refine hown.cells (g := g) (by rw [h1]; rfl) i _ ?_
        rw [List.getElem?_map, he]; rfl
end Go.Proofs.YtnojjfklnihmnaaDoor.Given
end
section
namespace Go.Proofs.YtnojjfklnihmnaaDoor.Given
open Go.RowKit Go.Proofs.YtnojjfklnihmnaaDoorW.PrintWords Go.Proofs.YtnojjfklnihmnaaDoorW.PrintLast Go.Proofs.YtnojjfklnihmnaaDoor.Pl Go.Proofs.YtnojjfklnihmnaaDoor.By Go.Proofs.YtnojjfklnihmnaaDoor.SgT Go.Proofs.YtnojjfklnihmnaaDoor.PFnSgOfParts
set_option linter.unusedVariables false
attribute [local go_sem] field42
theorem catch_idle (p q : Addr) (w : World) :
    CallsD Tryd.prog 17 #[.pointer (some p), .pointer (some q)] .returning w fun e u' w' => e = .returned (.tuple #[]) ∧ u' = .returning ∧ w' = w := by
  refine callsD_of_wpS Tryd.func17 rfl fun c₀ cs hu => ?_
  apply wpS_seq
  apply wpS_region
  simp [wpOpsS, go_sem, recoverD, hu, Tryd.ntmps17, Exit.thenS]
  refine wpS_cond (t := false) (by simp [Act.eval, Array.replicate]) ?_
  simp only [Bool.false_eq_true, if_false]
  refine wpS_of_wp (wp_skip ?_)
  cases c₀
  simp_all [bodyPostS, results, Tryd.results17]
theorem keep2 {w w1 : World} {A B : Value} {x y : TypeId} (hb : Below ((w.alloc (.cells #[A] x)).alloc (.cells #[B] y)).heap.size ((w.alloc (.cells #[A] x)).alloc (.cells #[B] y)) w1) :
    w1.cell? ⟨w.heap.size, 0, none⟩ = some A ∧ w1.frozen? ⟨w.heap.size, 0, none⟩ = false ∧ w1.cell? ⟨w.heap.size + 1, 0, none⟩ = some B ∧ w1.frozen? ⟨w.heap.size + 1, 0, none⟩ = false := by
  refine ⟨(hb.cell (p := ⟨w.heap.size, 0, none⟩) (by simp; omega)).trans (by simp), (hb.frozen (p := ⟨w.heap.size, 0, none⟩) (by simp; omega)).trans (by simp), (hb.cell (p := ⟨w.heap.size + 1, 0, none⟩) (by simp)).trans (by simp), (hb.frozen (p := ⟨w.heap.size + 1, 0, none⟩) (by simp)).trans (by simp)⟩
set_option maxRecDepth 100000 in
set_option maxHeartbeats 1000000 in
theorem doorSig.calls (l : List S47) (tys : List Tr) (A : Option Addr) (c : Nat) (w : World) (hC : Kd.C k47 w A l.length l) (hc : l.length ≤ c) (hlen : l.length = tys.length) (hn : l.length ≤ 1000) (hg : ∀ x ∈ tys, Gd x)
    (ih : ∀ (i : Nat) (y : S47) (x : Tr), l[i]? = some y → tys[i]? = some x → DIn y x) :
    Calls Tryd.prog 11 #[.slice A l.length c] w fun r w' => r = .returned (.tuple #[.string (sigs tys), .nilIface]) ∧ Below w.heap.size w w' := by
  have hmf : ∀ (fn : Fn) (first cap : Array Value) (w : World), (Instr.makeFunc fn first cap).run Tryd.prog w = .ok (.func fn first cap) w := fun _ _ _ _ => rfl
  have hb0 : Below w.heap.size w ((w.alloc (.cells #[.string ⟨#[]⟩] 9)).alloc (.cells #[.nilIface] 33)) := below_alloc' (below_alloc' (Below.refl _ _) _) _
  have hC0 : Kd.C k47 ((w.alloc (.cells #[.string ⟨#[]⟩] 9)).alloc (.cells #[.nilIface] 33)) A l.length l := Kd.C_below hC hb0
  have hds := doorsIn.calls l tys A c ((w.alloc (.cells #[.string ⟨#[]⟩] 9)).alloc (.cells #[.nilIface] 33)) hC0 hc hlen hn ih
  have HDS := Aside0.mk hds
  have HG := Aside0.mk (And.intro hg (show tys.length ≤ 1000 by omega))
  have HB0 := Aside0.mk hb0
  clear hC ih hg hb0 hC0 hds hlen
  go_enter_defers Tryd.func11, Tryd.ntmps11
  go_wp2_with fail
  refine (HDS.out).mono ?_
  rintro r w1 ⟨A', c', es, rfl, hle, hrow, hb1⟩
  obtain ⟨k1, k2, k3, k4⟩ := keep2 hb1
  have HB := Aside0.mk (below_step HB0.out hb1)
  have HS := Aside0.mk (sigOf.calls A' es tys c' hle HG.out.1 HG.out.2 w1 hrow)
  clear hb1 hrow HDS HB0
  have l1 := World.block_lt_of_cell? w1 _ k1
  have l3 := World.block_lt_of_cell? w1 _ k3
  go_wp2_with fail
  refine (HS.out).mono ?_
  rintro r w2 ⟨rfl, hb2⟩
  have k1 := (hb2.cell (p := ⟨w.heap.size, 0, none⟩) l1).trans k1
  have k2 := (hb2.frozen (p := ⟨w.heap.size, 0, none⟩) l1).trans k2
  have k3 := (hb2.cell (p := ⟨w.heap.size + 1, 0, none⟩) l3).trans k3
  have k4 := (hb2.frozen (p := ⟨w.heap.size + 1, 0, none⟩) l3).trans k4
  have HB := Aside0.mk (below_step HB.out hb2)
  clear hb2 HS
  go_wp2_with fail
  have hfin : Below w.heap.size w ((w2.setCell ⟨w.heap.size, 0, none⟩ (.string (sigs tys))).setCell ⟨w.heap.size + 1, 0, none⟩ .nilIface) := (HB.out.setCell (p := ⟨w.heap.size, 0, none⟩) (Nat.le_refl _) _).setCell (p := ⟨w.heap.size + 1, 0, none⟩) (Nat.le_succ _) _
  refine leaves_cons (f := 17) (args := #[.pointer (some ⟨w.heap.size, 0, none⟩), .pointer (some ⟨w.heap.size + 1, 0, none⟩)]) (by simp) (by simp [go_sem]) ?_
  refine (catch_idle ⟨w.heap.size, 0, none⟩ ⟨w.heap.size + 1, 0, none⟩ _).mono ?_
  rintro e u' w'' ⟨rfl, rfl, rfl⟩
  simp [Leaves, settle, results, Tryd.results11, go_sem, k1, k3, hfin]
set_option maxRecDepth 100000 in
set_option maxHeartbeats 4000000 in
theorem sgOf.walk (l : List S25) (l' : List S47) (k : Nat) (tys : List Tr) (A : Option Addr) (c : Nat) (w : World) (hC : Kd.C k25 w A l.length l) (hc : l.length ≤ c) (hv : impl_valsIn.f k l = some l') (hlen : l'.length = tys.length) (hn : l'.length ≤ 1000) (hg : ∀ x ∈ tys, Gd x)
    (ih : ∀ (i : Nat) (y : S47) (x : Tr), l'[i]? = some y → tys[i]? = some x → DIn y x) :
    Calls Tryd.prog 6 #[.slice A l.length c] w fun r w' => r = .returned (.tuple #[.string (sigs tys), .bool true]) ∧ Below w.heap.size w w' := by
  have HV := Aside0.mk (impl_valsIn.calls k A c l l' w hC hc hv)
  have HD := Aside0.mk fun (A : Option Addr) (c : Nat) (w : World) (hC : Kd.C k47 w A l'.length l') (hc : l'.length ≤ c) => doorSig.calls l' tys A c w hC hc hlen hn hg ih
  clear hC hv hlen hn hg ih hc
  go_enter Tryd.func6, Tryd.ntmps6
  go_wp2_with fail
  refine (HV.out).mono ?_
  rintro r w1 ⟨v0, rfl, hr, hb1⟩
  obtain ⟨A', c', rfl, hle, hC'⟩ := Kd.R_reads hr
  have HS := Aside0.mk (HD.out A' c' w1 hC' hle)
  have HB := Aside0.mk hb1
  clear hr hC' hle HD HV hb1
  go_wp2_with fail
  refine (HS.out).mono ?_
  rintro r w2 ⟨rfl, hb2⟩
  have HB := Aside0.mk (below_step HB.out hb2)
  clear hb2 HS
  go_wp2_with fail
  go_quiet (fail)
  go_wp2_with fail
  go_ret2
  exact ⟨rfl, pw_below_drewN HB.out _⟩
end Go.Proofs.YtnojjfklnihmnaaDoor.Given
end
section
namespace Go.Proofs.YtnojjfklnihmnaaDoor.Given
open Go.RowKit Go.Proofs.YtnojjfklnihmnaaDoorW.PrintWords Go.Proofs.YtnojjfklnihmnaaDoorW.PrintLast Go.Proofs.YtnojjfklnihmnaaDoor.Pl Go.Proofs.YtnojjfklnihmnaaDoor.By Go.Proofs.YtnojjfklnihmnaaDoor.SgT Go.Proofs.YtnojjfklnihmnaaDoor.PFnSgOfParts Go.Proofs.YtnojjfklnihmnaaDoor.Cv
set_option linter.unusedVariables false
inductive Dok : S25 → Tr → Prop
  | lone (v : S25) (c : Int) : v.f0 = c → Given.lone c = true → c ≠ 118 → Dok v (.lone c)
  | var (v y : S25) (x : Tr) : v.f0 = 118 → v.f3[0]? = some y → Dok y x → Gd x → Dok v (.lone 118)
  | rec_ (v : S25) (xs : Tr) : v.f0 = 40 → v.f3.length = (kidsX xs).length → 0 < v.f3.length → (∀ (i : Nat) (y : S25) (x : Tr), v.f3[i]? = some y → (kidsX xs)[i]? = some x → Dok y x) → Dok v (.str xs)
  | arr (v : S25) (e : Tr) (tys : List Tr) : v.f0 = 97 → wf e true → fits e 0 0 0 = true → (word e).length ≤ 255 → v.f2 = strOfNums (word e) → v.f3.length = tys.length →
      (∀ (i : Nat) (y : S25) (x : Tr), v.f3[i]? = some y → tys[i]? = some x → Dok y x) → Dok v (.arr e)
  | dict (v : S25) (k : Int) (e : Tr) (ks bs : List S25) (tys : List Tr) : v.f0 = 97 → keyed k = true → basic k = true → wf e true → fits (.dict k e) 0 0 0 = true → (word (.dict k e)).length ≤ 255 → v.f2 = strOfNums (123 :: k :: (word e ++ [125])) →
      ks.length = v.f3.length → bs.length = v.f3.length → tys.length = v.f3.length → (∀ (i : Nat) (y : S25), v.f3[i]? = some y → y.f3[0]? = ks[i]? ∧ y.f3[1]? = bs[i]?) →
      (∀ (i : Nat) (a : S25), ks[i]? = some a → Dok a (.lone k)) → (∀ (i : Nat) (b : S25) (t : Tr), bs[i]? = some b → tys[i]? = some t → Dok b t) → (∀ t ∈ tys, Gd t) → Dok v (.dict k e)
theorem conv_get {v : S25} {i : Nat} {y : S47} (h : (conv v).f3[i]? = some y) : ∃ z, v.f3[i]? = some z ∧ y = conv z := by
  rw [conv_f3, List.getElem?_map] at h
  obtain ⟨z, hz, rfl⟩ := Option.map_eq_some_iff.1 h
  exact ⟨z, hz, rfl⟩
theorem cnt_get {v y : S25} {i : Nat} (h : v.f3[i]? = some y) : cnt y < cnt v := by
  rw [cnt_eq v]
  have := cnt_mem (List.mem_of_getElem? h)
  omega
theorem Dok.din {v : S25} {x : Tr} (h : Dok v x) : cnt v ≤ 1000 → DIn (conv v) x := by
  induction h with
  | lone v c h0 hl hc =>
    intro _
    exact di_lone (conv v) c (by rw [conv_eq]; exact h0) hl hc
  | var v y x h0 hy _ hg ih =>
    intro hc
    exact di_var (conv v) (conv y) x (by rw [conv_eq]; exact h0) (by rw [conv_f3, List.getElem?_map, hy]; rfl) hg (ih (by have := cnt_get hy; omega))
  | rec_ v xs h0 hlen hpos _ ih =>
    intro hc
    refine di_rec (conv v) xs (by rw [conv_eq]; exact h0) (by rw [conv_f3, List.length_map]; exact hlen) (by rw [conv_f3, List.length_map]; exact hpos) (by rw [conv_f3, List.length_map]; have := cnt_len v.f3; rw [cnt_eq] at hc; omega) ?_
    intro i y x hy hx
    obtain ⟨z, hz, rfl⟩ := conv_get hy
    exact ih i z x hz hx (by have := cnt_get hz; omega)
  | arr v e tys h0 hw hf hl hs hlen _ ih =>
    intro hc
    refine di_arr (conv v) e tys (by rw [conv_eq]; exact h0) hw hf hl (by rw [conv_eq]; exact hs) (by rw [conv_f3, List.length_map]; exact hlen) (by rw [conv_f3, List.length_map]; have := cnt_len v.f3; rw [cnt_eq] at hc; omega) ?_
    intro i y x hy hx
    obtain ⟨z, hz, rfl⟩ := conv_get hy
    exact ih i z x hz hx (by have := cnt_get hz; omega)
  | dict v k e ks bs tys h0 hk hbk hw hf hl hs la lb lt hyy _ _ hg iha ihb =>
    intro hc
    refine di_dict (conv v) k e (by rw [conv_eq]; exact h0) hk hbk hw hf hl (by rw [conv_eq]; exact hs) (by rw [conv_f3, List.length_map]; have := cnt_len v.f3; rw [cnt_eq] at hc; omega) ?_
    intro i y hy
    obtain ⟨z, hz, rfl⟩ := conv_get hy
    have hi := (List.getElem?_eq_some_iff.1 hz).1
    obtain ⟨h1, h2⟩ := hyy i z hz
    have ea : ks[i]? = some (ks[i]'(by omega)) := List.getElem?_eq_getElem (by omega)
    have eb : bs[i]? = some (bs[i]'(by omega)) := List.getElem?_eq_getElem (by omega)
    have et : tys[i]? = some (tys[i]'(by omega)) := List.getElem?_eq_getElem (by omega)
    rw [ea] at h1
    rw [eb] at h2
    have hcz := cnt_get hz
    have hca := cnt_get h1
    have hcb := cnt_get h2
    refine ⟨conv (ks[i]'(by omega)), conv (bs[i]'(by omega)), tys[i]'(by omega), ?_, ?_, iha i _ ea (by omega), ihb i _ _ eb et (by omega), hg _ (List.getElem_mem _)⟩
    · rw [conv_f3, List.getElem?_map, h1]; rfl
    · rw [conv_f3, List.getElem?_map, h2]; rfl
theorem sgOf.calls (l : List S25) (tys : List Tr) (A : Option Addr) (c : Nat) (w : World) (hC : Kd.C k25 w A l.length l) (hc : l.length ≤ c) (hn : cnts l ≤ 900) (hlen : l.length = tys.length) (hg : ∀ x ∈ tys, Gd x) (hd : ∀ (i : Nat) (y : S25) (x : Tr), l[i]? = some y → tys[i]? = some x → Dok y x) :
    Calls Tryd.prog 6 #[.slice A l.length c] w fun r w' => r = .returned (.tuple #[.string (sigs tys), .bool true]) ∧ Below w.heap.size w w' := by
  obtain ⟨k, hk⟩ := vals_all l (by omega)
  have hle := cnt_len l
  refine sgOf.walk l (l.map conv) k tys A c w hC hc (hk k (Nat.le_refl _)) (by rw [List.length_map]; exact hlen) (by rw [List.length_map]; omega) hg ?_
  intro i y x hy hx
  rw [List.getElem?_map] at hy
  obtain ⟨z, hz, rfl⟩ := Option.map_eq_some_iff.1 hy
  exact (hd i z x hz hx).din (by have := cnt_mem (List.mem_of_getElem? hz); omega)
end Go.Proofs.YtnojjfklnihmnaaDoor.Given
end
section
namespace Go.Proofs.YtnojjfklnihmnaaDoor.Cv
open Go.RowKit Go.Proofs.YtnojjfklnihmnaaDoorW.PrintWords Go.Proofs.YtnojjfklnihmnaaDoor.Pl Go.Proofs.YtnojjfklnihmnaaDoor.PFnSgOfParts Go.Proofs.YtnojjfklnihmnaaDoor.PSp Go.Proofs.YtnojjfklnihmnaaDoor.SgT Go.Proofs.YtnojjfklnihmnaaDoor.By
inductive Tok : S25 → Tr → Prop
  | lone (v : S25) (c : Int) : v.f0 = c → Given.lone c = true → c ≠ 118 → Tok v (.lone c)
  | var (v y : S25) (x : Tr) : v.f0 = 118 → v.f3 = [y] → Tok y x → SgT.Good x → (word x).length ≤ 255 → Tok v (.lone 118)
  | rec_ (v : S25) (tys : List Tr) : v.f0 = 40 → v.f3.length = tys.length → 0 < v.f3.length → (∀ (i : Nat) (y : S25) (x : Tr), v.f3[i]? = some y → tys[i]? = some x → Tok y x) → (∀ t ∈ tys, wf t true) → Tok v (.str (listTr tys))
  | arr (v : S25) (e : Tr) (tys : List Tr) : v.f0 = 97 → wf e true → v.f2 = strOfNums (word e) → v.f3.length = tys.length →
      (∀ (i : Nat) (y : S25) (x : Tr), v.f3[i]? = some y → tys[i]? = some x → Tok y x) → (∀ t ∈ tys, wf t true ∧ word t = word e) → Tok v (.arr e)
  | dict (v : S25) (k : Int) (e : Tr) (ks bs : List S25) (tys : List Tr) : v.f0 = 97 → basic k = true → wf e true → v.f2 = strOfNums (123 :: k :: (word e ++ [125])) →
      ks.length = v.f3.length → bs.length = v.f3.length → tys.length = v.f3.length → (∀ (i : Nat) (y a b : S25), v.f3[i]? = some y → ks[i]? = some a → bs[i]? = some b → y.f3 = [a, b]) →
      (∀ (i : Nat) (a : S25), ks[i]? = some a → Tok a (.lone k)) → (∀ (i : Nat) (b : S25) (t : Tr), bs[i]? = some b → tys[i]? = some t → Tok b t) → (∀ t ∈ tys, wf t true ∧ word t = word e) → Tok v (.dict k e)
def Typed (v : S25) : Prop := ∃ x, wf x true ∧ bytesOf (sig v) = word x ∧ Tok v x
def Tidied (v : S25) : Prop := (v.f0 ≠ 123 ∧ Typed v) ∨ (v.f0 = 123 ∧ ∃ a b, v.f3 = [a, b] ∧ basic a.f0 = true ∧ Typed a ∧ Typed b)
theorem listTr_kids (tys : List Tr) : kidsX (listTr tys) = tys := by
  induction tys with
  | nil => rfl
  | cons x xs ih => rw [listTr, kidsX, ih]
theorem listTr_wf (tys : List Tr) (h : ∀ t ∈ tys, wf t true) : wf (listTr tys) false := by
  induction tys with
  | nil => exact rfl
  | cons x xs ih => exact ⟨rfl, h x (by simp), ih fun t ht => h t (by simp [ht])⟩
theorem typed_list (l : List S25) (h : ∀ y ∈ l, Typed y) : ∃ tys : List Tr, l.length = tys.length ∧ (∀ (i : Nat) (y : S25) (x : Tr), l[i]? = some y → tys[i]? = some x → Tok y x) ∧ (∀ t ∈ tys, wf t true) ∧ bytesOf (sgs l) = words tys := by
  induction l with
  | nil => exact ⟨[], rfl, fun i y x hy => by simp at hy, fun t ht => by simp at ht, by rw [bytesOf_nil.mpr rfl]; rfl⟩
  | cons y l ih =>
    obtain ⟨tys, h1, h2, h3, h4⟩ := ih fun z hz => h z (by simp [hz])
    obtain ⟨x, hx, e, hT⟩ := h y (by simp)
    refine ⟨x :: tys, by simp [h1], ?_, ?_, ?_⟩
    · intro i z t hz ht
      cases i with
      | zero => simp at hz ht; subst hz; subst ht; exact hT
      | succ i => simp at hz ht; exact h2 i z t hz ht
    · intro t ht
      rcases List.mem_cons.1 ht with rfl | ht
      · exact hx
      · exact h3 t ht
    · show bytesOf (sig y ++ sgs l) = _
      rw [bytesOf_append, e, h4]; rfl
theorem typed_same (w : List Int) (l : List S25) (h : ∀ y ∈ l, Typed y ∧ bytesOf (sig y) = w) : ∃ tys : List Tr, l.length = tys.length ∧ (∀ (i : Nat) (y : S25) (x : Tr), l[i]? = some y → tys[i]? = some x → Tok y x) ∧ (∀ t ∈ tys, wf t true ∧ word t = w) := by
  induction l with
  | nil => exact ⟨[], rfl, fun i y x hy => by simp at hy, fun t ht => by simp at ht⟩
  | cons y l ih =>
    obtain ⟨tys, h1, h2, h3⟩ := ih fun z hz => h z (by simp [hz])
    obtain ⟨⟨x, hx, e, hT⟩, e2⟩ := h y (by simp)
    refine ⟨x :: tys, by simp [h1], ?_, ?_⟩
    · intro i z t hz ht
      cases i with
      | zero => simp at hz ht; subst hz; subst ht; exact hT
      | succ i => simp at hz ht; exact h2 i z t hz ht
    · intro t ht
      rcases List.mem_cons.1 ht with rfl | ht
      · exact ⟨hx, by rw [← e, e2]⟩
      · exact h3 t ht
theorem basic_lone_val {a : S25} {x : Tr} (h : Tok a x) (hb : basic a.f0 = true) : Tok a (.lone a.f0) ∧ bytesOf (sig a) = [a.f0] := by
  have hl := basic_lone hb
  have hn := lone_ne hl
  have h118 : a.f0 ≠ 118 := by
    intro e; rw [e] at hb; revert hb; decide
  refine ⟨.lone a _ rfl hl h118, ?_⟩
  rw [sig_eq, if_neg hn.1, if_neg hn.2.1, if_neg hn.2.2.2.1]
  refine bytesOf_strOfNums _ fun z hz => ?_
  obtain rfl := List.mem_singleton.1 hz
  rcases Given.is_lone hl with ((((((((((((h | h) | h) | h) | h) | h) | h) | h) | h) | h) | h) | h) | h) | h <;> (rw [h]; decide)
theorem sig_entry {y a b : S25} (h0 : y.f0 = 123) (h3 : y.f3 = [a, b]) : bytesOf (sig y) = 123 :: (bytesOf (sig a) ++ (bytesOf (sig b) ++ [125])) := by
  rw [sig_eq, if_neg (by omega), if_neg (by omega), if_pos h0, h3]
  show bytesOf ((strOfNums [123] ++ (sig a ++ (sig b ++ ⟨#[]⟩))) ++ ⟨#[125]⟩) = _
  rw [bytesOf_append, bytesOf_append, bytesOf_append, bytesOf_append, (bytesOf_nil.mpr rfl : bytesOf (⟨#[]⟩ : ByteArray) = [])]
  have e1 : bytesOf (strOfNums [123]) = [123] := by decide
  have e2 : bytesOf (⟨#[125]⟩ : ByteArray) = [125] := by decide
  rw [e1, e2]
  simp
theorem entries_same (k : Int) (w : List Int) (l : List S25) (h : ∀ y ∈ l, (y.f0 = 123 ∧ ∃ a b, y.f3 = [a, b] ∧ basic a.f0 = true ∧ Typed a ∧ Typed b) ∧ bytesOf (sig y) = 123 :: k :: (w ++ [125])) :
    ∃ (ks bs : List S25) (tys : List Tr), ks.length = l.length ∧ bs.length = l.length ∧ tys.length = l.length ∧ (∀ (i : Nat) (y a b : S25), l[i]? = some y → ks[i]? = some a → bs[i]? = some b → y.f3 = [a, b]) ∧
      (∀ (i : Nat) (a : S25), ks[i]? = some a → Tok a (.lone k)) ∧ (∀ (i : Nat) (b : S25) (t : Tr), bs[i]? = some b → tys[i]? = some t → Tok b t) ∧ (∀ t ∈ tys, wf t true ∧ word t = w) := by
  induction l with
  | nil => exact ⟨[], [], [], rfl, rfl, rfl, fun i y a b hy => by simp at hy, fun i a hy => by simp at hy, fun i b t hy => by simp at hy, fun t ht => by simp at ht⟩
  | cons y l ih =>
    obtain ⟨ks, bs, tys, l1, l2, l3, h1, h2, h3, h4⟩ := ih fun z hz => h z (by simp [hz])
    obtain ⟨⟨y0, a, b, y3, hb, ⟨xa, _, _, ha⟩, ⟨xb, hxb, eb, hTb⟩⟩, e⟩ := h y (by simp)
    obtain ⟨hTa, ea⟩ := basic_lone_val ha hb
    rw [sig_entry y0 y3, ea, eb] at e
    have e2 := (List.cons.inj (List.cons.inj e).2)
    have ew : word xb = w := List.append_cancel_right e2.2
    rw [e2.1] at hTa
    refine ⟨a :: ks, b :: bs, xb :: tys, by simp [l1], by simp [l2], by simp [l3], ?_, ?_, ?_, ?_⟩
    · intro i z a' b' hz ha' hb'
      cases i with
      | zero => simp at hz ha' hb'; subst hz; subst ha'; subst hb'; exact y3
      | succ i => simp at hz ha' hb'; exact h1 i z a' b' hz ha' hb'
    · intro i a' ha'
      cases i with
      | zero => simp at ha'; subst ha'; exact hTa
      | succ i => simp at ha'; exact h2 i a' ha'
    · intro i b' t' hb' ht'
      cases i with
      | zero => simp at hb' ht'; subst hb'; subst ht'; exact hTb
      | succ i => simp at hb' ht'; exact h3 i b' t' hb' ht'
    · intro t ht
      rcases List.mem_cons.1 ht with rfl | ht
      · exact ⟨hxb, ew⟩
      · exact h4 t ht
theorem sig_arr {v : S25} (h0 : v.f0 = 97) : bytesOf (sig v) = 97 :: bytesOf v.f2 := by
  rw [sig_eq, if_pos h0, bytesOf_append]; rfl
theorem sig_str {v : S25} (h0 : v.f0 = 40) : bytesOf (sig v) = 40 :: (bytesOf (sgs v.f3) ++ [41]) := by
  rw [sig_eq, if_neg (by omega), if_pos h0, bytesOf_append, bytesOf_append]
  have e1 : bytesOf (strOfNums [40]) = [40] := by decide
  have e2 : bytesOf (⟨#[41]⟩ : ByteArray) = [41] := by decide
  rw [e1, e2]; simp
theorem typed_rec (v : S25) (h0 : v.f0 = 40) (hl : 0 < v.f3.length) (h : ∀ y ∈ v.f3, Typed y) : Typed v := by
  obtain ⟨tys, h1, h2, h3, h4⟩ := typed_list v.f3 h
  refine ⟨.str (listTr tys), ⟨rfl, ?_, listTr_wf tys h3⟩, ?_, .rec_ v tys h0 h1 hl h2 h3⟩
  · cases tys with
    | nil => rw [h1] at hl; exact absurd hl (by simp)
    | cons x xs =>
      have := word_len (h3 x (by simp))
      intro e
      have e2 := congrArg List.length e
      rw [listTr, word, List.length_append, List.length_nil] at e2
      omega
  · rw [sig_str h0, h4, word, listTr_word]
theorem typed_arr (v : S25) (h0 : v.f0 = 97) (hE : Elt v.f2) (h : ∀ y ∈ v.f3, sig y = v.f2 ∧ Tidied y) : Typed v := by
  rcases hE with ⟨e, he, hw⟩ | ⟨k, e, hk, he, hw⟩
  · obtain ⟨c, r, ec, hc, _⟩ := head_wf he
    obtain ⟨tys, h1, h2, h3⟩ := typed_same (word e) v.f3 fun y hy => by
      obtain ⟨es, ht⟩ := h y hy
      rw [← es] at hw
      refine ⟨?_, hw⟩
      rcases ht with ⟨_, ht⟩ | ⟨y0, a, b, y3, _⟩
      · exact ht
      · rw [sig_entry y0 y3, ec] at hw
        exact absurd (List.cons.inj hw).1.symm hc
    exact ⟨.arr e, ⟨rfl, he⟩, by rw [sig_arr h0, hw]; rfl, .arr v e tys h0 he (by rw [← hw, str_bytes]) h1 h2 h3⟩
  · obtain ⟨ks, bs, tys, l1, l2, l3, h1, h2, h3, h4⟩ := entries_same k (word e) v.f3 fun y hy => by
      obtain ⟨es, ht⟩ := h y hy
      rw [← es] at hw
      refine ⟨?_, hw⟩
      rcases ht with ⟨_, x, hx, ex, _⟩ | ht
      · obtain ⟨c, r, ec, hc, _⟩ := head_wf hx
        rw [ex, ec] at hw
        exact absurd (List.cons.inj hw).1 hc
      · exact ht
    exact ⟨.dict k e, ⟨rfl, hk, he⟩, by rw [sig_arr h0, hw]; rfl, .dict v k e ks bs tys h0 hk he (by rw [← hw, str_bytes]) l1 l2 l3 h1 h2 h3 h4⟩
theorem typed_lone (v : S25) (h : basic v.f0 = true) : Typed v := by
  have hl := basic_lone h
  have h118 : v.f0 ≠ 118 := by
    intro e; rw [e] at h; revert h; decide
  have := basic_lone_val (.lone v _ rfl hl h118) h
  exact ⟨.lone v.f0, ⟨rfl, hl⟩, this.2, this.1⟩
end Go.Proofs.YtnojjfklnihmnaaDoor.Cv
end
section
namespace Go.Proofs.YtnojjfklnihmnaaDoor.Cv
open Go.RowKit Go.Proofs.YtnojjfklnihmnaaDoorW.PrintWords Go.Proofs.YtnojjfklnihmnaaDoor.Pl Go.Proofs.YtnojjfklnihmnaaDoor.PFnSgOfParts Go.Proofs.YtnojjfklnihmnaaDoor.PSp Go.Proofs.YtnojjfklnihmnaaDoor.SgT Go.Proofs.YtnojjfklnihmnaaDoor.By
theorem valid_total (s : ByteArray) : ∃ r, Ev (fun k => spec_Valid.f k s) r ∧ (r = true → s.size ≤ 255 ∧ ∃ xs : List Tr, (∀ x ∈ xs, SgT.Good x) ∧ bytesOf s = words xs) := by
  obtain ⟨R, hR, hx⟩ := types_all s
  refine ⟨R.2, ?_, fun h => ?_⟩
  · unfold spec_Valid.f
    exact Ev.bind hR (Ev_some rfl)
  · obtain ⟨h1, xs, h2, h3, _⟩ := hx h
    exact ⟨h1, xs, h2, h3⟩
variable (G : Int → Int → ByteArray → List S25 → Option Bool)
theorem tidy_top (P : Prop) (a b : Int) (s : ByteArray) (l : List S25) (h : ∃ r, Ev (fun k => spec_tidy.j0 G k false a b s l) r ∧ (r = true → P)) : ∃ r, Ev (fun k => spec_tidy.f G k a b s l) r ∧ (r = true → P) := by
  have hf : Ev (fun k => spec_tidy.j0 G k true a b s l) false := by
    refine Ev_up ?_
    simp only [spec_tidy.j0, if_true]
    exact Ev_some rfl
  obtain ⟨r, hr, hp⟩ := h
  obtain ⟨q, hq⟩ := range_total a b
  cases q with
  | false =>
    refine ⟨false, Ev_up ?_, fun h => by cases h⟩
    simp only [spec_tidy.f, hq, Option.bind_some, Bool.false_eq_true, if_false]
    exact hf
  | true =>
    by_cases h1 : a = 97
    · refine ⟨r, Ev_up ?_, hp⟩
      simp only [spec_tidy.f, hq, Option.bind_some, if_true, if_pos h1]
      exact hr
    by_cases h2 : a = 115
    · refine ⟨r, Ev_up ?_, hp⟩
      simp only [spec_tidy.f, hq, Option.bind_some, if_true, if_neg h1, if_pos h2]
      exact hr
    by_cases h3 : a = 111
    · refine ⟨r, Ev_up ?_, hp⟩
      simp only [spec_tidy.f, hq, Option.bind_some, if_true, if_neg h1, if_neg h2, if_pos h3]
      exact hr
    by_cases h4 : a = 103
    · refine ⟨r, Ev_up ?_, hp⟩
      simp only [spec_tidy.f, hq, Option.bind_some, if_true, if_neg h1, if_neg h2, if_neg h3, if_pos h4]
      exact hr
    · cases hb : (s.toList != ([] : List UInt8)) with
      | true =>
        refine ⟨false, Ev_up ?_, fun h => by cases h⟩
        simp only [spec_tidy.f, hq, Option.bind_some, if_true, if_neg h1, if_neg h2, if_neg h3, if_neg h4, hb]
        exact hf
      | false =>
        refine ⟨r, Ev_up ?_, hp⟩
        simp only [spec_tidy.f, hq, Option.bind_some, if_true, if_neg h1, if_neg h2, if_neg h3, if_neg h4, hb]
        exact hr
theorem tidy_j1 (v : S25) (h0 : v.f0 = 97) (hE : Elt v.f2) (hl : v.f3.length ≤ 1000000) (hsig : ∀ x ∈ v.f3, Ev (fun k => spec_SigOf.f k x.f0 x.f1 x.f2 x.f3) (sig x)) (ih : ∀ x ∈ v.f3, ∃ r, Ev (fun k => spec_tidy.f G k x.f0 x.f1 x.f2 x.f3) r ∧ (r = true → Tidied x)) (q : Bool) :
    ∃ r, Ev (fun k => spec_tidy.j1 G k q v.f0 v.f1 v.f2 v.f3) r ∧ (r = true → Tidied v) := by
  cases q with
  | true =>
    refine ⟨false, Ev_up ?_, fun h => by cases h⟩
    simp only [spec_tidy.j1, if_true]
    exact Ev_some rfl
  | false =>
    obtain ⟨r, hr, hp⟩ := tidy_l0 G Tidied v.f3 v.f0 v.f1 v.f2 v.f3 hl hsig ih v.f3.length 0 (by omega)
    refine ⟨r, Ev_up ?_, fun h => .inl ⟨by omega, typed_arr v h0 hE (hp h)⟩⟩
    simp only [spec_tidy.j1, Bool.false_eq_true, if_false]
    exact hr
theorem tidy_j4 (v : S25) (hl : v.f3.length ≤ 1000000) (ih : ∀ x ∈ v.f3, ∃ r, Ev (fun k => spec_tidy.f G k x.f0 x.f1 x.f2 x.f3) r ∧ (r = true → Tidied x)) (q : Bool) :
    ∃ r, Ev (fun k => spec_tidy.j4 G k q v.f0 v.f1 v.f2 v.f3) r ∧ (r = true → q = false ∧ ∀ x ∈ v.f3, Typed x) := by
  cases q with
  | true =>
    refine ⟨false, Ev_up ?_, fun h => by cases h⟩
    simp only [spec_tidy.j4, if_true]
    exact Ev_some rfl
  | false =>
    obtain ⟨r, hr, hp⟩ := tidy_l1 G Tidied v.f3 hl ih v.f3.length 0 (by omega)
    refine ⟨r, Ev_up ?_, fun h => ⟨rfl, fun x hx => ?_⟩⟩
    · simp only [spec_tidy.j4, Bool.false_eq_true, if_false]
      exact hr
    · obtain ⟨h1, h2⟩ := hp h x hx
      rcases h2 with h2 | h2
      · exact h2.2
      · exact absurd h2.1 h1
def Fine (v : S25) : Prop := ∃ x, Tok v x ∧ SgT.Good x ∧ (word x).length ≤ 255 ∧ bytesOf (sig v) = word x
theorem tidy_j3 (v : S25) (h97 : v.f0 ≠ 97) (hl : v.f3.length ≤ 1000000) (hG : ∀ x ∈ v.f3, ∃ r, G x.f0 x.f1 x.f2 x.f3 = some r ∧ (r = true → Fine x)) (ih : ∀ x ∈ v.f3, ∃ r, Ev (fun k => spec_tidy.f G k x.f0 x.f1 x.f2 x.f3) r ∧ (r = true → Tidied x)) :
    ∃ r, Ev (fun k => spec_tidy.j3 G k v.f0 (if v.f0 = 40 then v.f0 == 40 else v.f0 == 123) v.f0 v.f1 v.f2 v.f3) r ∧ (r = true → Tidied v) := by
  have hf : Ev (fun k => spec_tidy.j4 G k true v.f0 v.f1 v.f2 v.f3) false := by
    refine Ev_up ?_
    simp only [spec_tidy.j4, if_true]
    exact Ev_some rfl
  by_cases hk : v.f0 = 40 ∨ v.f0 = 123
  · have hb : (if v.f0 = 40 then v.f0 == 40 else v.f0 == 123) = true := by
      rcases hk with h | h
      · rw [if_pos h, h]; rfl
      · rw [if_neg (by omega), h]; rfl
    rw [hb]
    by_cases hz : v.f3.length = 0
    · refine ⟨false, Ev_up ?_, fun h => by cases h⟩
      have q : (v.f3.length : Int) = 0 := by omega
      simp only [spec_tidy.j3, if_true, if_pos q]
      exact hf
    have q : ¬ (v.f3.length : Int) = 0 := by omega
    by_cases h123 : v.f0 = 123
    · by_cases h2 : v.f3.length = 2
      · have q2 : (v.f3.length : Int) = 2 := by omega
        have q3 : 0 < (v.f3.length : Int) := by omega
        obtain ⟨a, b, e3⟩ : ∃ a b, v.f3 = [a, b] := by
          match hv : v.f3, h2 with
          | [a, b], _ => exact ⟨a, b, rfl⟩
        obtain ⟨r, hr, hp⟩ := tidy_j4 G v hl ih (!(basic a.f0))
        have e0 : (rd_T25 v.f3 0).f0 = a.f0 := by rw [e3]; rfl
        refine ⟨r, Ev_up ?_, fun h => ?_⟩
        · simp only [spec_tidy.j3, if_true, if_neg q, if_pos h123, if_pos q2, if_pos q3, e0, basic_f, Option.bind_some]
          exact hr
        · obtain ⟨h1, h2⟩ := hp h
          refine .inr ⟨h123, a, b, e3, by simpa using h1, h2 a (by rw [e3]; simp), h2 b (by rw [e3]; simp)⟩
      · have q2 : ¬ (v.f3.length : Int) = 2 := by omega
        refine ⟨false, Ev_up ?_, fun h => by cases h⟩
        simp only [spec_tidy.j3, if_true, if_neg q, if_pos h123, if_neg q2]
        exact hf
    · obtain ⟨r, hr, hp⟩ := tidy_j4 G v hl ih false
      refine ⟨r, Ev_up ?_, fun h => .inl ⟨h123, typed_rec v (by omega) (by omega) (hp h).2⟩⟩
      simp only [spec_tidy.j3, if_true, if_neg q, if_neg h123]
      exact hr
  · have n40 : ¬ v.f0 = 40 := fun e => hk (.inl e)
    have n123 : ¬ v.f0 = 123 := fun e => hk (.inr e)
    have hb : (if v.f0 = 40 then v.f0 == 40 else v.f0 == 123) = false := by
      rw [if_neg n40]; exact beq_eq_false_iff_ne.mpr n123
    rw [hb]
    by_cases h118 : v.f0 = 118
    · by_cases h1 : v.f3.length = 1
      · obtain ⟨y, e3⟩ : ∃ y, v.f3 = [y] := by
          match hv : v.f3, h1 with
          | [a], _ => exact ⟨a, rfl⟩
        have q1 : (v.f3.length : Int) = 1 := by omega
        have q3 : 0 < (v.f3.length : Int) := by omega
        have e0 : rd_T25 v.f3 0 = y := by rw [e3]; rfl
        obtain ⟨r, hr, hp⟩ := hG y (by rw [e3]; simp)
        refine ⟨r, Ev_up ?_, fun h => ?_⟩
        · simp only [spec_tidy.j3, Bool.false_eq_true, if_false, if_pos h118, if_pos q1, if_pos q3, e0, hr, Option.bind_some]
          exact Ev_some rfl
        · obtain ⟨x, h1, h2, h3, h4⟩ := hp h
          refine .inl ⟨n123, .lone 118, ⟨rfl, by decide⟩, ?_, .var v y x h118 e3 h1 h2 h3⟩
          rw [sig_eq, if_neg (by omega), if_neg (by omega), if_neg (by omega), h118]
          decide
      · have q1 : ¬ (v.f3.length : Int) = 1 := by omega
        refine ⟨false, Ev_up ?_, fun h => by cases h⟩
        simp only [spec_tidy.j3, Bool.false_eq_true, if_false, if_pos h118, if_neg q1]
        exact Ev_some rfl
    · cases hba : basic v.f0 with
      | false =>
        refine ⟨false, Ev_up ?_, fun h => by cases h⟩
        simp only [spec_tidy.j3, Bool.false_eq_true, if_false, if_neg h118, basic_f, Option.bind_some, hba]
        exact Ev_some rfl
      | true =>
        refine ⟨(v.f3.length : Int) == 0, Ev_up ?_, fun _ => .inl ⟨n123, typed_lone v hba⟩⟩
        simp only [spec_tidy.j3, Bool.false_eq_true, if_false, if_neg h118, basic_f, Option.bind_some, hba, if_true]
        exact Ev_some rfl
theorem tidy_all (m : Nat) (hm : m ≤ 1000) (hG : ∀ y : S25, cnt y ≤ m → byt y ≤ 65536 → ∃ r, G y.f0 y.f1 y.f2 y.f3 = some r ∧ (r = true → Fine y)) :
    ∀ (n : Nat) (v : S25), cnt v ≤ n → n ≤ m + 1 → byt v ≤ 65536 → ∃ r, Ev (fun k => spec_tidy.f G k v.f0 v.f1 v.f2 v.f3) r ∧ (r = true → Tidied v) := by
  intro n
  induction n with
  | zero => intro v h; rw [cnt_eq] at h; omega
  | succ n ihn =>
    intro v h hn hb
    have hc := h
    rw [cnt_eq] at hc
    have hbb := hb
    rw [byt_eq] at hbb
    have hlen := cnt_len v.f3
    have hl : v.f3.length ≤ 1000000 := by omega
    have ih : ∀ x ∈ v.f3, ∃ r, Ev (fun k => spec_tidy.f G k x.f0 x.f1 x.f2 x.f3) r ∧ (r = true → Tidied x) := fun x hx => ihn x (by have := cnt_mem hx; omega) (by omega) (by have := byt_mem hx; omega)
    have hg : ∀ x ∈ v.f3, ∃ r, G x.f0 x.f1 x.f2 x.f3 = some r ∧ (r = true → Fine x) := fun x hx => hG x (by have := cnt_mem hx; omega) (by have := byt_mem hx; omega)
    have hsig : ∀ x ∈ v.f3, Ev (fun k => spec_SigOf.f k x.f0 x.f1 x.f2 x.f3) (sig x) := fun x hx => sig_all _ x (Nat.le_refl _) (by have := cnt_mem hx; omega) (by have := byt_mem hx; omega)
    refine tidy_top G _ _ _ _ _ ?_
    have lone : ∀ (g : Nat → Option Bool) (b : Bool), Ev g b → v.f0 ≠ 123 → basic v.f0 = true → ∃ r, Ev (fun k => (g k).bind fun t => if t = true then some ((v.f3.length : Int) == 0) else some false) r ∧ (r = true → Tidied v) := fun g b hg h123 hba => by
      cases b with
      | false => exact ⟨false, Ev.bind hg (Ev_some (by simp)), fun h => by cases h⟩
      | true => exact ⟨(v.f3.length : Int) == 0, Ev.bind hg (Ev_some (by simp)), fun _ => .inl ⟨h123, typed_lone v hba⟩⟩
    by_cases h115 : v.f0 = 115
    · obtain ⟨t, ht⟩ := vstr_total v.f2 (by omega)
      obtain ⟨r, hr, hp⟩ := lone _ t ht (by omega) (by rw [h115]; decide)
      refine ⟨r, Ev_up ?_, hp⟩
      simp only [spec_tidy.j0, Bool.false_eq_true, if_false, if_pos h115]
      exact hr
    by_cases h111 : v.f0 = 111
    · obtain ⟨t, ht⟩ := path_total v.f2 (by omega)
      obtain ⟨r, hr, hp⟩ := lone _ t ht (by omega) (by rw [h111]; decide)
      refine ⟨r, Ev_up ?_, hp⟩
      simp only [spec_tidy.j0, Bool.false_eq_true, if_false, if_neg h115, if_pos h111]
      exact hr
    by_cases h103 : v.f0 = 103
    · obtain ⟨t, ht, _⟩ := valid_total v.f2
      obtain ⟨r, hr, hp⟩ := lone _ t ht (by omega) (by rw [h103]; decide)
      refine ⟨r, Ev_up ?_, hp⟩
      simp only [spec_tidy.j0, Bool.false_eq_true, if_false, if_neg h115, if_neg h111, if_pos h103]
      exact hr
    by_cases h97 : v.f0 = 97
    · obtain ⟨R, hR, hE⟩ := first_says v.f2 (by omega)
      have hf : Ev (fun k => spec_tidy.j1 G k true v.f0 v.f1 v.f2 v.f3) false := by
        refine Ev_up ?_
        simp only [spec_tidy.j1, if_true]
        exact Ev_some rfl
      by_cases c1 : R.2.2 = true
      · by_cases c2 : R.2.1.toList = ([] : List UInt8)
        · obtain ⟨r, hr, hp⟩ := tidy_j1 G v h97 (hE c1 c2) hl hsig ih (R.1.toList != v.f2.toList)
          refine ⟨r, Ev_up ?_, hp⟩
          simp only [spec_tidy.j0, Bool.false_eq_true, if_false, if_neg h115, if_neg h111, if_neg h103, if_pos h97]
          refine Ev.bind hR ?_
          simp only [if_pos c1, if_pos c2]
          exact hr
        · refine ⟨false, Ev_up ?_, fun h => by cases h⟩
          simp only [spec_tidy.j0, Bool.false_eq_true, if_false, if_neg h115, if_neg h111, if_neg h103, if_pos h97]
          refine Ev.bind hR ?_
          simp only [if_pos c1, if_neg c2]
          exact hf
      · refine ⟨false, Ev_up ?_, fun h => by cases h⟩
        simp only [spec_tidy.j0, Bool.false_eq_true, if_false, if_neg h115, if_neg h111, if_neg h103, if_pos h97]
        refine Ev.bind hR ?_
        simp only [if_neg c1]
        exact hf
    obtain ⟨r, hr, hp⟩ := tidy_j3 G v h97 hl hg ih
    refine ⟨r, Ev_up ?_, hp⟩
    by_cases h40 : v.f0 = 40
    · rw [if_pos h40] at hr
      simp only [spec_tidy.j0, Bool.false_eq_true, if_false, if_neg h115, if_neg h111, if_neg h103, if_neg h97, if_pos h40]
      exact hr
    · rw [if_neg h40] at hr
      simp only [spec_tidy.j0, Bool.false_eq_true, if_false, if_neg h115, if_neg h111, if_neg h103, if_neg h97, if_neg h40]
      exact hr
theorem fits_of_words {x : Tr} (hx : wf x true) {xs : List Tr} (hg : ∀ z ∈ xs, SgT.Good z) (e : word x = words xs) : fits x 0 0 0 = true := by
  cases xs with
  | nil =>
    have := word_len hx
    rw [e] at this
    simp [words] at this
  | cons z zs =>
    have hz := hg z (by simp)
    have e2 : word x = word z ++ words zs := e
    have hl : (word z).length ≤ (word x).length := by rw [e2, List.length_append]; omega
    have h1 := (cmpL_word x).1 hx ((word x).length + 1) [] 32 32 32 (by omega)
    have h2 := (cmpL_word z).1 hz.1 ((word x).length + 1) (words zs) 32 32 32 (by omega)
    rw [← e2, show (32 : Int) - 32 = 0 from rfl, if_pos hz.2] at h2
    rw [List.append_nil, h2, show (32 : Int) - 32 = 0 from rfl] at h1
    have h3 := word_len hz.1
    cases hf : fits x 0 0 0 with
    | true => rfl
    | false => rw [hf, if_neg (by decide)] at h1; omega
theorem tdN_all : ∀ (n : Nat) (v : S25), cnt v ≤ n → n ≤ 1000 → byt v ≤ 65536 → ∃ r, Given.tdN Fine n v.f0 v.f1 v.f2 v.f3 = some r ∧ (r = true → Fine v) := by
  intro n
  induction n with
  | zero => intro v h; rw [cnt_eq] at h; omega
  | succ n ih =>
    intro v h hn hb
    have key : ∃ r : Bool, (∃ k, Given.tdB (Given.tdN Fine n) k v.f0 v.f1 v.f2 v.f3 = some r) ∧ (r = true → Fine v) := by
      by_cases h123 : v.f0 = 123
      · exact ⟨false, ⟨0, by unfold Given.tdB; rw [if_pos h123]⟩, fun h => by cases h⟩
      have hs := sig_all _ v (Nat.le_refl _) (by omega) (by omega)
      obtain ⟨b, hv, hx⟩ := valid_total (sig v)
      have wrap : ∀ r : Bool, Ev (fun k => if b = true then spec_tidy.f (Given.tdN Fine n) k v.f0 v.f1 v.f2 v.f3 else some false) r → ∃ k, Given.tdB (Given.tdN Fine n) k v.f0 v.f1 v.f2 v.f3 = some r := fun r hr => by
        have : Ev (fun k => Given.tdB (Given.tdN Fine n) k v.f0 v.f1 v.f2 v.f3) r := by
          unfold Given.tdB
          simp only [if_neg h123]
          exact Ev.bind hs (Ev.bind hv hr)
        obtain ⟨k, hk⟩ := this
        exact ⟨k, hk k (Nat.le_refl _)⟩
      cases b with
      | false => exact ⟨false, wrap _ (Ev_some (by simp)), fun h => by cases h⟩
      | true =>
        obtain ⟨r, hr, hp⟩ := tidy_all (Given.tdN Fine n) n (by omega) (fun y h1 h2 => ih y h1 (by omega) h2) (n + 1) v h (by omega) hb
        refine ⟨r, wrap r (by simpa using hr), fun h => ?_⟩
        rcases hp h with ⟨_, x, hx1, e, hT⟩ | h2
        · obtain ⟨hz, xs, hg, e2⟩ := hx rfl
          refine ⟨x, hT, ⟨hx1, fits_of_words hx1 hg (by rw [← e, e2])⟩, ?_, e⟩
          rw [← e, bytesOf_length]; exact hz
        · exact absurd h2.1 h123
    have := Given.tdN.some Fine n v.f0 v.f1 v.f2 v.f3
    cases v
    exact this key
end Go.Proofs.YtnojjfklnihmnaaDoor.Cv
end
