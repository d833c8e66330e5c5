/- Part of the proof of LawFnSgOfParts. -/
import Derived.Test.YtnojjfklnihmnaaDoorTm
import Derived.Test.YtnojjfklnihmnaaDoorSs
import Derived.Test.YtnojjfklnihmnaaDoorGvBd
import Derived.ChangeArms
import Derived.Deep.Slices
import Derived.Test.YtnojjfklnihmnaaDoorRows
import Derived.Test.YtnojjfklnihmnaaDoorGvU8
import Derived.Lib.LaidU8T
import Derived.LaidMore
import Derived.LaidLaws
import Derived.MakeChecks
set_option linter.unusedVariables false
set_option linter.unusedSimpArgs false
section
namespace Go.Proofs.YtnojjfklnihmnaaDoor.Cv
open Go.RowKit Go.Proofs.YtnojjfklnihmnaaDoorW.PrintWords Go.Proofs.YtnojjfklnihmnaaDoor.Pl Go.Proofs.YtnojjfklnihmnaaDoor.PFnSgOfParts Go.Proofs.YtnojjfklnihmnaaDoor.PSp Go.Proofs.YtnojjfklnihmnaaDoor.SgT Go.Proofs.YtnojjfklnihmnaaDoor.By
theorem sigs_from (l : List S25) (hl : l.length ≤ 1000000) (hz : (sgs l).size ≤ 1000000000) (ih : ∀ x ∈ l, Ev (fun k => spec_SigOf.f k x.f0 x.f1 x.f2 x.f3) (sig x)) :
    ∀ (d i : Nat), i + d = l.length → Ev (fun k => spec_SigsOf.l0 k (sgs (l.take i)) l (l.length : Int) (i : Int)) (sgs l) := by
  intro d
  induction d with
  | zero =>
    intro i hi
    refine Ev_up ?_
    have q : ¬ (i : Int) < (l.length : Int) := by omega
    rw [show i = l.length by omega, List.take_length] at *
    simp only [spec_SigsOf.l0, if_neg q]
    exact Ev_some rfl
  | succ d ihd =>
    intro i hi
    refine Ev_up ?_
    have q : (i : Int) < (l.length : Int) := by omega
    have q0 : (0 : Int) ≤ (i : Int) := by omega
    have hlt : i < l.length := by omega
    have hst : sgs (l.take (i + 1)) = sgs (l.take i) ++ sig l[i] := by rw [List.take_succ_eq_append_getElem hlt, sgs_app, sgs_one]
    have hle := sgs_take l (i + 1)
    rw [hst, ByteArray.size_append] at hle
    simp only [spec_SigsOf.l0, if_pos q, if_pos q0, rd25 hlt]
    refine Ev.bind (ih _ (List.getElem_mem hlt)) ?_
    have q2 : (sgs (l.take i)).size + (sig l[i]).size ≤ 9223372036854775807 := by omega
    simp only [if_pos q2]
    rw [show wrap64 ((i : Int) + 1) = ((i + 1 : Nat) : Int) by rw [w64 (by omega) (by omega)]; omega, ← hst]
    exact ihd (i + 1) (by omega)
variable (G : Int → Int → ByteArray → List S25 → Option Bool)
theorem tidyAll_total (l : List S25) (hl : cnts l ≤ 300) (hb : byts l ≤ 65536) (hG : ∀ y ∈ l, ∃ r, G y.f0 y.f1 y.f2 y.f3 = some r) :
    ∃ r, Ev (fun k => spec_TidyAll.f G k l) r := by
  have hlen := cnt_len l
  have hsz := sgs_size l
  have hs := sigs_from l (by omega) (by omega) (fun x hx => sig_all _ x (Nat.le_refl _) (by have := cnt_mem hx; omega) (by have := byt_mem hx; omega)) l.length 0 (by omega)
  obtain ⟨rv, hv, _⟩ := valid_total (sgs l)
  have loop : ∀ (d i : Nat), i + d = l.length → ∃ r, Ev (fun k => spec_TidyAll.l0 G k l l (l.length : Int) (i : Int)) r := by
    intro d
    induction d with
    | zero =>
      intro i hi
      have q : ¬ (i : Int) < (l.length : Int) := by omega
      refine ⟨rv, Ev_up ?_⟩
      simp only [spec_TidyAll.l0, if_neg q]
      exact Ev.bind hs (Ev.bind hv (Ev_some rfl))
    | succ d ihd =>
      intro i hi
      have q : (i : Int) < (l.length : Int) := by omega
      have q0 : (0 : Int) ≤ (i : Int) := by omega
      have hlt : i < l.length := by omega
      have ep : wrap64 ((i : Int) + 1) = ((i + 1 : Nat) : Int) := by rw [w64 (by omega) (by omega)]; omega
      obtain ⟨g, hg⟩ := hG _ (List.getElem_mem hlt)
      obtain ⟨r2, hr2⟩ := ihd (i + 1) (by omega)
      cases g with
      | false =>
        refine ⟨false, Ev_up ?_⟩
        simp only [spec_TidyAll.l0, if_pos q, if_pos q0, rd25 hlt, hg, Option.bind_some, Bool.false_eq_true, if_false]
        exact Ev_some rfl
      | true =>
        refine ⟨r2, Ev_up ?_⟩
        simp only [spec_TidyAll.l0, if_pos q, if_pos q0, rd25 hlt, hg, Option.bind_some, if_true, ep]
        exact hr2
  exact loop l.length 0 (by omega)
theorem small_all (l : List S25) : ∃ r, Ev (fun k => laws_sgSmall.f (Given.tdN Fine 1000) k l) r ∧ (r = true → cnts l ≤ 300 ∧ byts l ≤ 65536 ∧ ∀ v ∈ l, Fine v ∧ KOk v) := by
  have hf : Ev (fun k => laws_sgSmall.j0 (Given.tdN Fine 1000) k l true) false := by
    refine Ev_up ?_
    simp only [laws_sgSmall.j0, if_true]
    exact Ev_some rfl
  unfold laws_sgSmall.f
  by_cases h50 : (l.length : Int) > 50
  · refine ⟨false, ?_, fun h => by cases h⟩
    simp only [if_pos h50]
    exact hf
  obtain ⟨b, hb, hbx⟩ := bnd_300 l
  cases b with
  | false =>
    refine ⟨false, ?_, fun h => by cases h⟩
    simp only [if_neg h50, hb, Option.bind_some]
    exact hf
  | true =>
    obtain ⟨hc, hby⟩ := hbx rfl
    have hlen := cnt_len l
    have hG : ∀ y ∈ l, ∃ r, Given.tdN Fine 1000 y.f0 y.f1 y.f2 y.f3 = some r ∧ (r = true → Fine y) := fun y hy => tdN_all 1000 y (by have := cnt_mem hy; omega) (by omega) (by have := byt_mem hy; omega)
    obtain ⟨rt, hrt⟩ := tidyAll_total (Given.tdN Fine 1000) l hc hby fun y hy => by
      obtain ⟨r, hr, _⟩ := hG y hy
      exact ⟨r, hr⟩
    have loop : ∀ (d i : Nat), i + d = l.length → ∃ r, Ev (fun k => laws_sgSmall.l0 (Given.tdN Fine 1000) k l l (l.length : Int) (i : Int)) r ∧ (r = true → ∀ v ∈ l.drop i, Fine v ∧ KOk v) := by
      intro d
      induction d with
      | zero =>
        intro i hi
        have q : ¬ (i : Int) < (l.length : Int) := by omega
        refine ⟨rt, Ev_up ?_, fun _ x hx => by rw [List.drop_eq_nil_of_le (by omega)] at hx; cases hx⟩
        simp only [laws_sgSmall.l0, if_neg q]
        exact Ev.bind hrt (Ev_some rfl)
      | succ d ihd =>
        intro i hi
        have q : (i : Int) < (l.length : Int) := by omega
        have q0 : (0 : Int) ≤ (i : Int) := by omega
        have hlt : i < l.length := by omega
        have hm := List.getElem_mem hlt
        have ep : wrap64 ((i : Int) + 1) = ((i + 1 : Nat) : Int) := by rw [w64 (by omega) (by omega)]; omega
        obtain ⟨g, hg, hgx⟩ := hG _ hm
        obtain ⟨kk, hkk, hkx⟩ := keys_all _ l[i] (Nat.le_refl _) (by have := cnt_mem hm; omega) (by have := byt_mem hm; omega)
        obtain ⟨r2, hr2, hx2⟩ := ihd (i + 1) (by omega)
        cases g with
        | false =>
          refine ⟨false, Ev_up ?_, fun h => by cases h⟩
          simp only [laws_sgSmall.l0, if_pos q, if_pos q0, rd25 hlt, hg, Option.bind_some, Bool.false_eq_true, if_false]
          exact Ev_some rfl
        | true =>
          cases kk with
          | false =>
            refine ⟨false, Ev_up ?_, fun h => by cases h⟩
            simp only [laws_sgSmall.l0, if_pos q, if_pos q0, rd25 hlt, hg, Option.bind_some, if_true]
            refine Ev.bind hkk ?_
            exact Ev_some (by simp)
          | true =>
            refine ⟨r2, Ev_up ?_, fun h x hx => ?_⟩
            · simp only [laws_sgSmall.l0, if_pos q, if_pos q0, rd25 hlt, hg, Option.bind_some, if_true]
              refine Ev.bind hkk ?_
              simp only [if_true, ep]
              exact hr2
            · rw [List.drop_eq_getElem_cons hlt] at hx
              rcases List.mem_cons.1 hx with rfl | hx
              · exact ⟨hgx rfl, hkx rfl⟩
              · exact hx2 h x hx
    obtain ⟨r, hr, hx⟩ := loop l.length 0 (by omega)
    refine ⟨r, ?_, fun h => ⟨hc, hby, hx h⟩⟩
    simp only [if_neg h50, hb, Option.bind_some]
    refine Ev_up ?_
    simp only [laws_sgSmall.j0, Bool.not_true, Bool.false_eq_true, if_false]
    exact hr
theorem fits_mono (x : Tr) : ∀ {a t d a' t' d' : Int}, a' ≤ a → t' ≤ t → d' ≤ d → fits x a t d = true → fits x a' t' d' = true := by
  have ok_mono : ∀ {a t d a' t' d' : Int}, a' ≤ a → t' ≤ t → d' ≤ d → ok a t d = true → ok a' t' d' = true := by
    intro a t d a' t' d' h1 h2 h3 h
    unfold ok at h ⊢
    simp only [Bool.and_eq_true, decide_eq_true_eq] at h ⊢
    omega
  induction x with
  | nil => intros; rfl
  | cons x xs ih1 ih2 =>
    intro a t d a' t' d' h1 h2 h3 h
    rw [fits, Bool.and_eq_true] at h ⊢
    exact ⟨ih1 h1 h2 h3 h.1, ih2 h1 h2 h3 h.2⟩
  | lone c => intro a t d a' t' d' h1 h2 h3 h; exact ok_mono h1 h2 h3 h
  | arr x ih =>
    intro a t d a' t' d' h1 h2 h3 h
    rw [fits, Bool.and_eq_true] at h ⊢
    exact ⟨ok_mono h1 h2 h3 h.1, ih (by omega) h2 h3 h.2⟩
  | dict k x ih =>
    intro a t d a' t' d' h1 h2 h3 h
    rw [fits, Bool.and_eq_true] at h ⊢
    exact ⟨ok_mono h1 h2 h3 h.1, ih (by omega) h2 (by omega) h.2⟩
  | str xs ih =>
    intro a t d a' t' d' h1 h2 h3 h
    rw [fits, Bool.and_eq_true] at h ⊢
    exact ⟨ok_mono h1 h2 h3 h.1, ih h1 (by omega) h3 h.2⟩
theorem fits_same {x y : Tr} (hx : wf x true) (hy : wf y true) (e : word x = word y) (h : fits y 0 0 0 = true) : fits x 0 0 0 = true :=
  fits_of_words hx (xs := [y]) (by intro z hz; obtain rfl := List.mem_singleton.1 hz; exact ⟨hy, h⟩) (by rw [e]; simp [words])
def NoKey (l : List Int) : Prop := ∀ p q c, l = p ++ 123 :: c :: q → c ≠ 98 ∧ c ≠ 103
theorem NoKey.mid {u v w : List Int} (h : NoKey (u ++ (v ++ w))) : NoKey v := by
  intro p q c e
  exact h (u ++ p) (q ++ w) c (by rw [e]; simp)
theorem keys_word (x : Tr) : ∀ b, wf x b → NoKey (word x) → keysOk x = true := by
  induction x with
  | nil => intros; rfl
  | cons x xs ih1 ih2 =>
    intro b hw hn
    rw [keysOk, Bool.and_eq_true]
    exact ⟨ih1 _ hw.2.1 (NoKey.mid (u := []) (v := word x) (w := word xs) hn), ih2 _ hw.2.2 (NoKey.mid (u := word x) (v := word xs) (w := []) (by rw [List.append_nil]; exact hn))⟩
  | lone c => intros; rfl
  | arr x ih =>
    intro b hw hn
    exact ih _ hw.2 (NoKey.mid (u := [97]) (v := word x) (w := []) (by rw [List.append_nil]; exact hn))
  | dict k x ih =>
    intro b hw hn
    rw [keysOk, Bool.and_eq_true]
    refine ⟨?_, ih _ hw.2.2 (NoKey.mid (u := [97, 123, k]) (v := word x) (w := [125]) hn)⟩
    have hk := hn [97] (word x ++ [125]) k rfl
    unfold keyed
    rw [hw.2.1, bne_iff_ne.mpr hk.1, bne_iff_ne.mpr hk.2]; rfl
  | str xs ih =>
    intro b hw hn
    exact ih _ hw.2.2 (NoKey.mid (u := [40]) (v := word xs) (w := [41]) hn)
theorem kok_word {v : S25} (h : KOk v) (h0 : v.f0 = 97) : NoKey (bytesOf v.f2) := by
  cases h with
  | mk _ h1 _ =>
    intro p q c e
    have hl := congrArg List.length e
    rw [bytesOf_length, List.length_append, List.length_cons, List.length_cons] at hl
    have g1 := bytesOf_get v.f2 p.length (by omega)
    have g2 := bytesOf_get v.f2 (p.length + 1) (by omega)
    rw [e] at g1 g2
    simp at g1 g2
    have := h1 h0 p.length (by omega) g1.symm
    rw [show ((p.length + 1 : Nat) : Int) = (p.length : Int) + 1 by omega, ← g2] at this
    exact this
theorem kok_kid {v x : S25} (h : KOk v) (hx : x ∈ v.f3) : KOk x := by
  cases h with
  | mk _ _ h2 => exact h2 x hx
end Go.Proofs.YtnojjfklnihmnaaDoor.Cv
end
section
namespace Go.Proofs.YtnojjfklnihmnaaDoor.Cv
open Go.RowKit Go.Proofs.YtnojjfklnihmnaaDoorW.PrintWords Go.Proofs.YtnojjfklnihmnaaDoor.Pl Go.Proofs.YtnojjfklnihmnaaDoor.PFnSgOfParts Go.Proofs.YtnojjfklnihmnaaDoor.PSp Go.Proofs.YtnojjfklnihmnaaDoor.SgT Go.Proofs.YtnojjfklnihmnaaDoor.By
open Go.Proofs.YtnojjfklnihmnaaDoor.Given (Dok Gd sigs cat word_bytes bytes_str)
theorem bw {x : Tr} {b : Bool} (hx : wf x b) : bytesOf (strOfNums (word x)) = word x := bytes_str (word_bytes x _ hx)
theorem words_len {xs : List Tr} {x : Tr} (h : x ∈ xs) : (word x).length ≤ (words xs).length := by
  induction xs with
  | nil => cases h
  | cons y ys ih =>
    rw [show words (y :: ys) = word y ++ words ys from rfl, List.length_append]
    rcases List.mem_cons.1 h with rfl | h
    · omega
    · have := ih h; omega
theorem listTr_fits {xs : List Tr} {a t d : Int} (h : fits (listTr xs) a t d = true) : ∀ x ∈ xs, fits x a t d = true := by
  induction xs with
  | nil => intro x hx; cases hx
  | cons y ys ih =>
    rw [listTr, fits, Bool.and_eq_true] at h
    intro x hx
    rcases List.mem_cons.1 hx with rfl | hx
    · exact h.1
    · exact ih h.2 x hx
theorem listTr_keys {xs : List Tr} (h : ∀ x ∈ xs, keysOk x = true) : keysOk (listTr xs) = true := by
  induction xs with
  | nil => rfl
  | cons y ys ih => rw [listTr, keysOk, h y (by simp), ih fun x hx => h x (by simp [hx])]; rfl
theorem at_of {α β : Type} {l : List α} {m : List β} (h : l.length = m.length) {b : β} (hb : b ∈ m) : ∃ (i : Nat) (a : α), l[i]? = some a ∧ m[i]? = some b := by
  obtain ⟨i, hi, rfl⟩ := List.mem_iff_getElem.1 hb
  exact ⟨i, l[i]'(by omega), List.getElem?_eq_getElem (by omega), List.getElem?_eq_getElem hi⟩
theorem arr_facts {e : Tr} (hf : fits (.arr e) 0 0 0 = true) (hl : (word (.arr e)).length ≤ 255) : fits e 0 0 0 = true ∧ (word e).length ≤ 255 := by
  rw [fits, Bool.and_eq_true] at hf
  rw [word, List.length_cons] at hl
  exact ⟨fits_mono e (by omega) (by omega) (by omega) hf.2, by omega⟩
theorem dict_facts {k : Int} {e : Tr} (hf : fits (.dict k e) 0 0 0 = true) (hl : (word (.dict k e)).length ≤ 255) : fits e 0 0 0 = true ∧ (word e).length ≤ 255 := by
  rw [fits, Bool.and_eq_true] at hf
  rw [word, List.length_cons, List.length_cons, List.length_cons, List.length_append] at hl
  exact ⟨fits_mono e (by omega) (by omega) (by omega) hf.2, by omega⟩
theorem str_facts {tys : List Tr} (hf : fits (.str (listTr tys)) 0 0 0 = true) (hl : (word (.str (listTr tys))).length ≤ 255) : ∀ t ∈ tys, fits t 0 0 0 = true ∧ (word t).length ≤ 255 := by
  intro t ht
  rw [fits, Bool.and_eq_true] at hf
  rw [word, List.length_cons, List.length_append, listTr_word] at hl
  have := words_len ht
  exact ⟨fits_mono t (by omega) (by omega) (by omega) (listTr_fits hf.2 t ht), by omega⟩
theorem key_facts {v : S25} {k : Int} {e : Tr} (hk : KOk v) (h0 : v.f0 = 97) (hb : basic k = true) (he : wf e true) (hs : v.f2 = strOfNums (123 :: k :: (word e ++ [125]))) : keyed k = true ∧ NoKey (word e) ∧ bytesOf v.f2 = 123 :: k :: (word e ++ [125]) := by
  have hw : wf (.dict k e) true := ⟨rfl, hb, he⟩
  have h2 : bytesOf (strOfNums (123 :: k :: (word e ++ [125]))) = 123 :: k :: (word e ++ [125]) := bytes_str fun c hc => word_bytes (.dict k e) _ hw c (List.mem_cons_of_mem _ hc)
  have hn := kok_word hk h0
  rw [hs, h2] at hn
  refine ⟨?_, NoKey.mid (u := [123, k]) (v := word e) (w := [125]) hn, by rw [hs, h2]⟩
  have h := hn [] _ k rfl
  unfold keyed
  rw [hb, bne_iff_ne.mpr h.1, bne_iff_ne.mpr h.2]; rfl
theorem dok_of {v : S25} {x : Tr} (h : Tok v x) : wf x true → fits x 0 0 0 = true → (word x).length ≤ 255 → KOk v → Dok v x ∧ Gd x := by
  induction h with
  | lone v c h0 hl hc => intro hw hf hlen _; exact ⟨.lone v c h0 hl hc, hw, rfl, hf, hlen⟩
  | var v y x h0 h3 _ hg hlen ih =>
    intro hw hf hl hk
    obtain ⟨h1, h2⟩ := ih hg.1 hg.2 hlen (kok_kid hk (by rw [h3]; simp))
    exact ⟨.var v y x h0 (by rw [h3]; rfl) h1 h2, hw, rfl, hf, hl⟩
  | rec_ v tys h0 hlen hpos _ hwf ih =>
    intro hw hf hl hk
    have hs := str_facts hf hl
    have kid : ∀ (i : Nat) (y : S25) (x : Tr), v.f3[i]? = some y → tys[i]? = some x → Dok y x ∧ Gd x := fun i y x hy hx => by
      have hm := List.mem_of_getElem? hx
      exact ih i y x hy hx (hwf x hm) (hs x hm).1 (hs x hm).2 (kok_kid hk (List.mem_of_getElem? hy))
    refine ⟨.rec_ v (listTr tys) h0 (by rw [listTr_kids]; exact hlen) hpos (fun i y x hy hx => (kid i y x hy (by rw [listTr_kids] at hx; exact hx)).1), hw, ?_, hf, hl⟩
    refine listTr_keys (xs := tys) fun t ht => ?_
    obtain ⟨i, y, hy, hx⟩ := at_of hlen ht
    exact (kid i y t hy hx).2.keys
  | arr v e tys h0 he hs hlen _ hty ih =>
    intro hw hf hl hk
    obtain ⟨f1, l1⟩ := arr_facts hf hl
    have hn := kok_word hk h0
    rw [hs, bw he] at hn
    refine ⟨.arr v e tys h0 he f1 l1 hs hlen (fun i y x hy hx => ?_), hw, keys_word e _ he hn, hf, hl⟩
    obtain ⟨h1, h2⟩ := hty x (List.mem_of_getElem? hx)
    exact (ih i y x hy hx h1 (fits_same h1 he h2 f1) (by rw [h2]; exact l1) (kok_kid hk (List.mem_of_getElem? hy))).1
  | dict v k e ks bs tys h0 hb he hs l1 l2 l3 h3 _ _ hty iha ihb =>
    intro hw hf hl hk
    obtain ⟨f1, n1⟩ := dict_facts hf hl
    obtain ⟨k1, k2, _⟩ := key_facts hk h0 hb he hs
    have hkid : ∀ (i : Nat) (a b : S25), ks[i]? = some a → bs[i]? = some b → KOk a ∧ KOk b := fun i a b ha hb => by
      have hi := (List.getElem?_eq_some_iff.1 ha).1
      have hy : v.f3[i]? = some (v.f3[i]'(by omega)) := List.getElem?_eq_getElem (by omega)
      have h := h3 i _ a b hy ha hb
      have ky := kok_kid hk (List.mem_of_getElem? hy)
      exact ⟨kok_kid ky (by rw [h]; simp), kok_kid ky (by rw [h]; simp)⟩
    refine ⟨.dict v k e ks bs tys h0 k1 hb he hf hl hs l1 l2 l3 (fun i y hy => ?_) (fun i a ha => ?_) (fun i b t hb2 ht => ?_) (fun t ht => ?_), hw, ?_, hf, hl⟩
    · have hi := (List.getElem?_eq_some_iff.1 hy).1
      have ea : ks[i]? = some (ks[i]'(by omega)) := List.getElem?_eq_getElem (by omega)
      have eb : bs[i]? = some (bs[i]'(by omega)) := List.getElem?_eq_getElem (by omega)
      have h := h3 i y _ _ hy ea eb
      rw [h, ea, eb]
      exact ⟨rfl, rfl⟩
    · have hi := (List.getElem?_eq_some_iff.1 ha).1
      have eb : bs[i]? = some (bs[i]'(by omega)) := List.getElem?_eq_getElem (by omega)
      exact (iha i a ha ⟨rfl, basic_lone hb⟩ rfl (show 1 ≤ 255 by omega) (hkid i a _ ha eb).1).1
    · have hi := (List.getElem?_eq_some_iff.1 hb2).1
      have ea : ks[i]? = some (ks[i]'(by omega)) := List.getElem?_eq_getElem (by omega)
      obtain ⟨h1, h2⟩ := hty t (List.mem_of_getElem? ht)
      exact (ihb i b t hb2 ht h1 (fits_same h1 he h2 f1) (by rw [h2]; exact n1) (hkid i _ b ea hb2).2).1
    · obtain ⟨h1, h2⟩ := hty t ht
      exact ⟨h1, keys_word t _ h1 (by rw [h2]; exact k2), fits_same h1 he h2 f1, by rw [h2]; exact n1⟩
    · show (keyed k && keysOk e) = true
      rw [k1, keys_word e _ he k2]; rfl
theorem sigs_bytes {tys : List Tr} (h : ∀ x ∈ tys, Gd x) : bytesOf (sigs tys) = words tys := by
  induction tys with
  | nil => rfl
  | cons x xs ih =>
    show bytesOf (strOfNums (word x) ++ sigs xs) = word x ++ words xs
    rw [bytesOf_append, bw (h x (by simp)).wf, ih fun z hz => h z (by simp [hz])]
def Oks (l : List S25) (tys : List Tr) : Prop := l.length = tys.length ∧ (∀ x ∈ tys, Gd x) ∧ ∀ (i : Nat) (y : S25) (x : Tr), l[i]? = some y → tys[i]? = some x → Dok y x
inductive Parts (v : S25) (whole : ByteArray) : Prop
  | lone : v.f0 ≠ 40 → v.f0 ≠ 97 → bytesOf whole = [v.f0] → Parts v whole
  | str (tys : List Tr) : v.f0 = 40 → Oks v.f3 tys → bytesOf whole = 40 :: (bytesOf (sigs tys) ++ [41]) → Parts v whole
  | bare : v.f0 = 97 → v.f3 = [] → bytesOf whole = 97 :: bytesOf v.f2 → Parts v whole
  | dict (y : S25) (l : List S25) (tys : List Tr) : v.f0 = 97 → v.f3 = y :: l → 0 < v.f2.size → bt v.f2 0 = 123 → Oks y.f3 tys → bytesOf whole = 97 :: 123 :: (bytesOf (sigs tys) ++ [125]) → Parts v whole
  | arr (y : S25) (l : List S25) (tys : List Tr) : v.f0 = 97 → v.f3 = y :: l → 0 < v.f2.size → bt v.f2 0 ≠ 123 → Oks [y] tys → bytesOf whole = 97 :: bytesOf (sigs tys) → Parts v whole
theorem parts_of {v : S25} (hf : Fine v) (hk : KOk v) : ∃ tys, Oks [v] tys ∧ Parts v (sigs tys) := by
  obtain ⟨x, hT, hg, hl, _⟩ := hf
  obtain ⟨hd, hgd⟩ := dok_of hT hg.1 hg.2 hl hk
  have one : ∀ (y : S25) (x : Tr), Dok y x → Gd x → Oks [y] [x] := fun y x h1 h2 => by
    refine ⟨rfl, fun z hz => ?_, fun i a b ha hb => ?_⟩
    · obtain rfl := List.mem_singleton.1 hz
      exact h2
    · cases i with
      | zero => simp at ha hb; subst ha; subst hb; exact h1
      | succ i => simp at ha
  refine ⟨[x], one v x hd hgd, ?_⟩
  have hs : bytesOf (sigs [x]) = word x := by
    rw [sigs_bytes (one v x hd hgd).2.1]; simp [words]
  cases hT with
  | lone _ c h0 hc h118 =>
    have := lone_ne hc
    exact .lone (by omega) (by omega) (by rw [hs, h0]; rfl)
  | var _ y x h0 h3 _ _ _ => exact .lone (by omega) (by omega) (by rw [hs, h0]; rfl)
  | rec_ _ tys h0 hlen hpos hk3 hwf =>
    have hsf := str_facts hg.2 hl
    have kid : ∀ (i : Nat) (y : S25) (x : Tr), v.f3[i]? = some y → tys[i]? = some x → Dok y x ∧ Gd x := fun i y x hy hx => by
      have hm := List.mem_of_getElem? hx
      exact dok_of (hk3 i y x hy hx) (hwf x hm) (hsf x hm).1 (hsf x hm).2 (kok_kid hk (List.mem_of_getElem? hy))
    have hO : Oks v.f3 tys := ⟨hlen, fun t ht => by
      obtain ⟨i, y, hy, hx⟩ := at_of hlen ht
      exact (kid i y t hy hx).2, fun i y x hy hx => (kid i y x hy hx).1⟩
    refine .str tys h0 hO ?_
    rw [hs, sigs_bytes hO.2.1, word, listTr_word]
  | arr _ e tys h0 he hsx hlen hk3 hty =>
    obtain ⟨f1, l1⟩ := arr_facts hg.2 hl
    obtain ⟨c, r, ec, hc, _⟩ := head_wf he
    have hb : bytesOf v.f2 = word e := by rw [hsx, bw he]
    cases h3 : v.f3 with
    | nil => exact .bare h0 h3 (by rw [hs, hb]; rfl)
    | cons y l =>
      rw [h3] at hlen
      cases tys with
      | nil => simp at hlen
      | cons t ts =>
        obtain ⟨h1, h2⟩ := hty t (by simp)
        obtain ⟨k1, k2⟩ := dok_of (hk3 0 y t (by rw [h3]; rfl) rfl) h1 (fits_same h1 he h2 f1) (by rw [h2]; exact l1) (kok_kid hk (by rw [h3]; simp))
        have hsz : 0 < v.f2.size := by
          have := congrArg List.length hb
          rw [bytesOf_length] at this
          have := word_len he
          omega
        have hb0 := bytesOf_cons v.f2 hsz
        rw [hb, ec] at hb0
        refine .arr y l [t] h0 h3 hsz (by rw [← (List.cons.inj hb0).1]; exact hc) (one y t k1 k2) ?_
        rw [hs, sigs_bytes (one y t k1 k2).2.1]
        simp [words, word, h2]
  | dict _ k e ks bs tys h0 hb he hsx l1 l2 l3 h3' hka hkb hty =>
    obtain ⟨f1, n1⟩ := dict_facts hg.2 hl
    obtain ⟨k1, k2, k3⟩ := key_facts hk h0 hb he hsx
    cases h3 : v.f3 with
    | nil => exact .bare h0 h3 (by rw [hs, k3]; rfl)
    | cons y l =>
      rw [h3] at l1 l2 l3
      match ks, bs, tys, l1, l2, l3, h3', hka, hkb, hty with
      | a :: ks, b :: bs, t :: ts, _, _, _, h3', hka, hkb, hty =>
        have ey := h3' 0 y a b (by rw [h3]; rfl) rfl rfl
        obtain ⟨h1, h2⟩ := hty t (by simp)
        have ky := kok_kid hk (x := y) (by rw [h3]; simp)
        obtain ⟨a1, a2⟩ := dok_of (hka 0 a rfl) ⟨rfl, basic_lone hb⟩ rfl (show 1 ≤ 255 by omega) (kok_kid ky (by rw [ey]; simp))
        obtain ⟨b1, b2⟩ := dok_of (hkb 0 b t rfl rfl) h1 (fits_same h1 he h2 f1) (by rw [h2]; exact n1) (kok_kid ky (by rw [ey]; simp))
        have hO : Oks y.f3 [.lone k, t] := by
          rw [ey]
          refine ⟨rfl, fun z hz => ?_, fun i c d hc hd => ?_⟩
          · simp at hz
            rcases hz with rfl | rfl
            · exact a2
            · exact b2
          · match i with
            | 0 => simp at hc hd; subst hc; subst hd; exact a1
            | 1 => simp at hc hd; subst hc; subst hd; exact b1
            | i + 2 => simp at hc
        have hsz : 0 < v.f2.size := by
          have := congrArg List.length k3
          rw [bytesOf_length, List.length_cons] at this
          omega
        have hb0 := bytesOf_cons v.f2 hsz
        rw [k3] at hb0
        refine .dict y l _ h0 h3 hsz (List.cons.inj hb0).1.symm hO ?_
        rw [hs, sigs_bytes hO.2.1]
        simp [words, word, h2]
end Go.Proofs.YtnojjfklnihmnaaDoor.Cv
end
section
namespace Go.Proofs.YtnojjfklnihmnaaDoor.Given
open Go.RowKit Go.Proofs.YtnojjfklnihmnaaDoorW.PrintWords Go.Proofs.YtnojjfklnihmnaaDoor.PFnSgOfParts
open Go.ChangeShapes Go.WideShapes Go.Deep
set_option linter.unusedVariables false
theorem cells25 : Tryd.prog.cellsOf 25 = 4 := by kernel_rfl
theorem cells5 : Tryd.prog.cellsOf 5 = 1 := by kernel_rfl
theorem cells22 : Tryd.prog.cellsOf 22 = 1 := by kernel_rfl
theorem cells9 : Tryd.prog.cellsOf 9 = 1 := by kernel_rfl
theorem cells23 : Tryd.prog.cellsOf 23 = 1 := by kernel_rfl
theorem four_of {α : Type} {l : List α} (h : l.length = 4) : ∃ a b c d, l = [a, b, c, d] := by
  cases l with
  | nil => simp at h
  | cons a l => cases l with
    | nil => simp at h
    | cons b l => cases l with
      | nil => simp at h
      | cons c l => cases l with
        | nil => simp at h
        | cons d l => cases l with
          | nil => exact ⟨a, b, c, d, rfl⟩
          | cons e l => simp at h
section
variable {H : Type} {enc : TypeId × Value → H} {w : World} {base : Nat} {spare : Nat → Bool} {held : Bool}
theorem trod_int_inv {P : Program} {t : TypeId} {k : IntKind} {fuel : Nat} {cs : List Value} {x : DataW H × List MemPlace} (ht : P.underlying t = some (.int k)) (h : DataW.trod enc P w base spare held fuel t cs = some x) : ∃ n, cs = [.int k n] := by
  cases fuel with
  | zero => simp [DataW.trod] at h
  | succ m =>
    unfold DataW.trod at h
    rw [ht] at h
    split at h <;> simp_all
theorem trod_string_inv {P : Program} {t : TypeId} {fuel : Nat} {cs : List Value} {x : DataW H × List MemPlace} (ht : P.underlying t = some .string) (h : DataW.trod enc P w base spare held fuel t cs = some x) : ∃ s, cs = [.string s] := by
  cases fuel with
  | zero => simp [DataW.trod] at h
  | succ m =>
    unfold DataW.trod at h
    rw [ht] at h
    split at h <;> simp_all
theorem val_open : ∀ (fuel : Nat) (cs : List Value) (x : DataW H × List MemPlace), DataW.trod enc Tryd.prog w base spare held fuel 25 cs = some x → ∃ v : S25, k25.K w v cs := by
  intro fuel
  induction fuel using Nat.strongRecOn with
  | ind fuel ih =>
    intro cs x h
    obtain ⟨xs, n, rfl, rfl, hl, hxs, hf⟩ := DataW.trod_struct Tryd.underlying25 h
    rw [cells25] at hl
    obtain ⟨c0, c1, c2, c3, rfl⟩ := four_of hl
    have get : ∀ i, i < 4 → ∃ y, xs[i]? = some y := fun i hi => ⟨xs[i]'(by rw [hxs]; exact hi), List.getElem?_eq_getElem _⟩
    obtain ⟨y0, e0⟩ := get 0 (by decide)
    obtain ⟨y1, e1⟩ := get 1 (by decide)
    obtain ⟨y2, e2⟩ := get 2 (by decide)
    obtain ⟨y3, e3⟩ := get 3 (by decide)
    have h0 : DataW.trod enc Tryd.prog w base spare held n 5 (([c0, c1, c2, c3].drop 0).take (Tryd.prog.cellsOf 5)) = xs[0]? := hf 0 _ rfl
    have h1 : DataW.trod enc Tryd.prog w base spare held n 22 (([c0, c1, c2, c3].drop 1).take (Tryd.prog.cellsOf 22)) = xs[1]? := hf 1 _ rfl
    have h2 : DataW.trod enc Tryd.prog w base spare held n 9 (([c0, c1, c2, c3].drop 2).take (Tryd.prog.cellsOf 9)) = xs[2]? := hf 2 _ rfl
    have h3 : DataW.trod enc Tryd.prog w base spare held n 23 (([c0, c1, c2, c3].drop 3).take (Tryd.prog.cellsOf 23)) = xs[3]? := hf 3 _ rfl
    rw [cells5] at h0
    rw [cells22] at h1
    rw [cells9] at h2
    rw [cells23] at h3
    change DataW.trod enc Tryd.prog w base spare held n 5 [c0] = _ at h0
    change DataW.trod enc Tryd.prog w base spare held n 22 [c1] = _ at h1
    change DataW.trod enc Tryd.prog w base spare held n 9 [c2] = _ at h2
    change DataW.trod enc Tryd.prog w base spare held n 23 [c3] = _ at h3
    rw [e0] at h0
    rw [e1] at h1
    rw [e2] at h2
    rw [e3] at h3
    obtain ⟨n0, r0⟩ := trod_int_inv Tryd.underlying5 h0
    obtain ⟨n1, r1⟩ := trod_int_inv Tryd.underlying22 h1
    obtain ⟨s2, r2⟩ := trod_string_inv Tryd.underlying9 h2
    obtain rfl := (List.cons.inj r0).1
    obtain rfl := (List.cons.inj r1).1
    obtain rfl := (List.cons.inj r2).1
    rcases DataW.trod_slice Tryd.underlying23 h3 with ⟨r3, _⟩ | ⟨a, len, cap, elems, rest, m, rfl, r3, _, _, hlc, hm, hlen, hel, _, _⟩
    · obtain rfl := (List.cons.inj r3).1
      exact ⟨⟨n0, n1, s2, []⟩, k25_mk w ⟨n0, n1, s2, []⟩ (A3 := none) (c3 := 0) (Nat.le_refl _) ⟨rfl, by simp, fun h => absurd h (by simp)⟩⟩
    · obtain rfl := (List.cons.inj r3).1
      have step : ∀ i, i < len → ∃ v : S25, ∃ c : List Value, c.length = 4 ∧ k25.K w v c ∧ ∀ (j : Nat) (u : Value), c[j]? = some u → w.cell? (a.add (i * 4 + j)) = some u := by
        intro i hi
        have hb := hel i hi
        rw [List.getElem?_eq_getElem (by omega), cells25] at hb
        obtain ⟨cs', q1, q2⟩ := Option.bind_eq_some_iff.1 hb
        obtain ⟨_, q3, q4⟩ := World.cells?_some q1
        obtain ⟨v, hv⟩ := ih m (by omega) cs' _ q2
        refine ⟨v, cs', q3, hv, fun j u hu => ?_⟩
        have hj := (List.getElem?_eq_some_iff.1 hu).1
        have := q4 j (by omega)
        rw [Deep.add_add] at this
        rw [this]
        exact hu
      haveI : Inhabited S25 := ⟨z25⟩
      obtain ⟨f, hf'⟩ := choose_lt step
      have hL : ((List.range len).map f).length = len := by simp
      have hC : k25.C w (some a) ((List.range len).map f).length ((List.range len).map f) := by
        refine ⟨rfl, by rw [hL]; simp only [maxLen] at hm; omega, fun _ => ⟨a, rfl, fun j p hp => ?_⟩⟩
        obtain ⟨hj, rfl⟩ := List.getElem?_eq_some_iff.1 hp
        rw [List.getElem_map, List.getElem_range]
        rw [hL] at hj
        exact hf' j hj
      have := k25_mk w ⟨n0, n1, s2, (List.range len).map f⟩ (A3 := some a) (c3 := cap) (by rw [hL]; exact hlc) hC
      refine ⟨⟨n0, n1, s2, (List.range len).map f⟩, ?_⟩
      simp only [hL] at this
      exact this
set_option maxRecDepth 10000 in
theorem val_arg {b0 : Nat} {v : Value} {d : DataW H} {p : List MemPlace} (ho : Value.okWide Tryd.prog w .any b0 25 v) (h : DataW.Trod enc Tryd.prog w base spare held 25 v d p) :
    ∃ (a b : Int) (s : ByteArray) (l : List S25) (A : Option Addr) (c : Nat), v = Value.agg #[Value.int .u8 a, Value.int .u64 b, Value.string s, Value.slice A l.length c] ∧ l.length ≤ c ∧ Kd.C k25 w A l.length l := by
  obtain ⟨cs, rfl, _⟩ := okWide_struct Tryd.underlying25 ho
  obtain ⟨fuel, hf⟩ := h
  obtain ⟨x, hx⟩ := val_open fuel _ _ hf
  obtain ⟨A, c, e, h1, h2⟩ := k25_open hx
  refine ⟨x.f0, x.f1, x.f2, x.f3, A, c, ?_, h1, h2⟩
  congr 1
  have e : cs.toList = [.int .u8 x.f0, .int .u64 x.f1, .string x.f2, .slice A x.f3.length c] := e
  rw [← Array.toArray_toList (xs := cs), e]
end
end Go.Proofs.YtnojjfklnihmnaaDoor.Given
end
section
namespace Go.Proofs.YtnojjfklnihmnaaDoor.Given
open Go.RowKit Go.Proofs.YtnojjfklnihmnaaDoorW.PrintWords Go.Proofs.YtnojjfklnihmnaaDoorW.PrintLast Go.Proofs.YtnojjfklnihmnaaDoor.Pl Go.Proofs.YtnojjfklnihmnaaDoor.By Go.Proofs.YtnojjfklnihmnaaDoor.SgT Go.Proofs.YtnojjfklnihmnaaDoor.PFnSgOfParts Go.Proofs.YtnojjfklnihmnaaDoor.PSp Go.Proofs.YtnojjfklnihmnaaDoor.Cv
set_option linter.unusedVariables false
theorem one_C {w : World} {g : Nat} {A : Option Addr} {v : S25} {m : Nat} (hm : v.f3.length ≤ m) (hg : w.heap[g]? = some (.cells #[.int .u8 v.f0, .int .u64 v.f1, .string v.f2, .slice A v.f3.length m] 25 (0, 0))) (hC : k25.C w A v.f3.length v.f3) :
    k25.C w (some ⟨g, 0, none⟩) ([v] : List S25).length [v] := by
  refine ⟨rfl, by simp, fun _ => ⟨_, rfl, fun j p hp => ?_⟩⟩
  obtain ⟨hj, hp⟩ := List.getElem?_eq_some_iff.1 hp
  obtain rfl : j = 0 := by simpa using hj
  obtain rfl : v = p := hp
  refine ⟨[.int .u8 v.f0, .int .u64 v.f1, .string v.f2, .slice A v.f3.length m], rfl, k25_mk w v hm hC, fun i u hu => ?_⟩
  rw [Nat.zero_mul, Nat.zero_add, show (⟨g, 0, none⟩ : Addr).add i = ⟨g, i, none⟩ by unfold Addr.add; split <;> simp_all, blk_cell hg i]
  rw [← hu, ← Array.getElem?_toList]
theorem alloc_step {w1 w2 : World} {x : Obj} (hb : Below (w1.alloc x).heap.size (w1.alloc x) w2) : Below w1.heap.size w1 w2 := below_step (below_alloc' (Below.refl _ _) _) hb
theorem sgOf_oks (l : List S25) (tys : List Tr) (A : Option Addr) (c : Nat) (w : World) (hC : Kd.C k25 w A l.length l) (hc : l.length ≤ c) (hn : cnts l ≤ 300) (hO : Oks l tys) :
    Calls Tryd.prog 6 #[.slice A l.length c] w fun r w' => r = .returned (.tuple #[.string (sigs tys), .bool true]) ∧ Below w.heap.size w w' :=
  sgOf.calls l tys A c w hC hc (by omega) hO.1 hO.2.1 hO.2.2
theorem eq_of_bytes {s t : ByteArray} (h : bytesOf s = bytesOf t) : s = t := by rw [← str_bytes s, ← str_bytes t, h]
theorem sigs_size {l : List S25} {v : S25} {tys : List Tr} (h : Oks [v] tys) : (sigs tys).size ≤ 255 := by
  obtain ⟨h1, h2, _⟩ := h
  match tys, h1 with
  | [x], _ =>
    have hb := congrArg List.length (sigs_bytes h2)
    rw [bytesOf_length] at hb
    have := (h2 x (by simp)).len
    simp [words] at hb
    omega
set_option maxHeartbeats 16000000 in
set_option maxRecDepth 100000 in
theorem law.calls (a b : Int) (s : ByteArray) (l : List S25) (A : Option Addr) (c : Nat) (w : World) (hT : Given.Tabs w) (hC : Kd.C k25 w A l.length l) (hc : l.length ≤ c) :
    Calls Tryd.prog 3 #[.agg #[.int .u8 a, .int .u64 b, .string s, .slice A l.length c]] w fun e w' => e = .returned (.bool true) ∧ Below w.heap.size w w' := by
  obtain ⟨r1, h1⟩ : ∃ r, laws_zzFits2.f a b s l = some r := by
    unfold laws_zzFits2.f
    split
    · exact ⟨_, rfl⟩
    · split <;> exact ⟨_, rfl⟩
  have hbA : Below w.heap.size w (w.alloc (.cells #[.int .u8 a, .int .u64 b, .string s, .slice A l.length c] 25)) := (Below.refl _ w).alloc (Nat.le_refl _) _
  have hbx : (w.alloc (.cells #[.int .u8 a, .int .u64 b, .string s, .slice A l.length c] 25)).heap[w.heap.size]? = some (.cells #[.int .u8 a, .int .u64 b, .string s, .slice A l.length c] 25 (0, 0)) := heap_alloc_new w _
  have HF := Aside0.mk (laws_zzFits2.calls a b s A c l r1 _ (Kd.C_below hC hbA) hc h1)
  have HX := Aside0.mk hbx
  have HBA := Aside0.mk hbA
  have HC := Aside0.mk hC
  have HT := Aside0.mk hT
  have HL := Aside0.mk hc
  clear hbA hbx hC hT h1 hc
  obtain ⟨wA, hwA⟩ : ∃ wA, w.alloc (.cells #[.int .u8 a, .int .u64 b, .string s, .slice A l.length c] 25) = wA := ⟨_, rfl⟩
  rw [hwA] at HF HX HBA
  have cells : ∀ W : World, W.heap[w.heap.size]? = some (.cells #[.int .u8 a, .int .u64 b, .string s, .slice A l.length c] 25 (0, 0)) → W.cell? ⟨w.heap.size, 0, none⟩ = some (.int .u8 a) ∧ W.cell? ⟨w.heap.size, 1, none⟩ = some (.int .u64 b) ∧ W.cell? ⟨w.heap.size, 2, none⟩ = some (.string s) ∧ W.cell? ⟨w.heap.size, 3, none⟩ = some (.slice A l.length c) := fun W h => ⟨(blk_cell h 0).trans rfl, (blk_cell h 1).trans rfl, (blk_cell h 2).trans rfl, (blk_cell h 3).trans rfl⟩
  have CE := Aside0.mk cells
  obtain ⟨b0, b1, b2, b3⟩ := cells _ HX.out
  clear cells
  go_enter Tryd.func3, Tryd.ntmps3
  go_wp2_with fail
  refine (HF.out).mono ?_
  rintro e w1 ⟨rfl, hb1⟩
  have HX := Aside0.mk ((hb1.block _ (blk_lt HX.out)).trans HX.out)
  have HBA := Aside0.mk (HBA.out.trans (hb1.mono HBA.out.size))
  clear hb1 b0 b1 b2 b3 hwA HF
  cases r1 with
  | false =>
    go_wp2_with fail
    go_ret
    exact ⟨rfl, HBA.out⟩
  | true =>
  obtain ⟨r2, ⟨k2, hk2⟩, hr2⟩ := small_all [⟨a, b, s, l⟩]
  have hb1a : Below w1.heap.size w1 (w1.alloc (.cells #[.int .u8 a, .int .u64 b, .string s, .slice A l.length c] 25)) := below_alloc' (Below.refl _ _) _
  have HS := Aside0.mk (laws_sgSmall.calls (tdN Fine 1000) (tdN.calls Fine 1000) k2 (some ⟨w1.heap.size, 0, none⟩) 1 [⟨a, b, s, l⟩] r2 (w1.alloc (.cells #[.int .u8 a, .int .u64 b, .string s, .slice A l.length c] 25)) (HT.out.below (HBA.out.trans (hb1a.mono HBA.out.size)) (Nat.le_refl _)) (one_C HL.out (heap_alloc_new w1 _) (Kd.C_below HC.out (HBA.out.trans (hb1a.mono HBA.out.size)))) (Nat.le_refl _) (hk2 k2 (Nat.le_refl _)))
  have HR2 := Aside0.mk hr2
  obtain ⟨b0, b1, b2, b3⟩ := CE.out _ HX.out
  clear hk2 hr2 hb1a
  go_wp2_with fail
  refine (HS.out).mono ?_
  rintro e w2 ⟨rfl, hb2⟩
  have hb2 := alloc_step hb2
  have HX := Aside0.mk ((hb2.block _ (blk_lt HX.out)).trans HX.out)
  have HBA := Aside0.mk (HBA.out.trans (hb2.mono HBA.out.size))
  clear hb2 b0 b1 b2 b3 HS
  cases r2 with
  | false =>
    go_wp2_with fail
    go_ret
    exact ⟨rfl, HBA.out⟩
  | true =>
  obtain ⟨hcn, _, hfk⟩ := HR2.out rfl
  obtain ⟨hfi, hko⟩ := hfk ⟨a, b, s, l⟩ (by simp)
  obtain ⟨tys, hO, hP⟩ := parts_of hfi hko
  have hz := sigs_size (l := l) hO
  have hb2a : Below w2.heap.size w2 (w2.alloc (.cells #[.int .u8 a, .int .u64 b, .string s, .slice A l.length c] 25)) := below_alloc' (Below.refl _ _) _
  have HG := Aside0.mk (sgOf_oks [⟨a, b, s, l⟩] tys (some ⟨w2.heap.size, 0, none⟩) 1 (w2.alloc (.cells #[.int .u8 a, .int .u64 b, .string s, .slice A l.length c] 25)) (one_C HL.out (heap_alloc_new w2 _) (Kd.C_below HC.out (HBA.out.trans (hb2a.mono HBA.out.size)))) (Nat.le_refl _) hcn hO)
  have hcn : cnts l ≤ 300 := by
    have e : cnts [⟨a, b, s, l⟩] = cnt ⟨a, b, s, l⟩ + 0 := by rw [cnts, cnts]
    have := cnt_eq ⟨a, b, s, l⟩
    simp only at this
    omega
  have HN := Aside0.mk hcn
  clear hcn
  obtain ⟨W0, hW0⟩ : ∃ W0, sigs tys = W0 := ⟨_, rfl⟩
  rw [hW0] at HG hP hz
  have HZ := Aside0.mk hz
  have HP := Aside0.mk hP
  obtain ⟨b0, b1, b2, b3⟩ := CE.out _ HX.out
  clear hb2a hz hP hW0 hfi hko hfk hO HR2
  go_wp2_with fail
  refine (HG.out).mono ?_
  rintro e w3 ⟨rfl, hb3⟩
  replace hb3 := alloc_step hb3
  have HX := Aside0.mk ((hb3.block _ (blk_lt HX.out)).trans HX.out)
  have HBA := Aside0.mk (HBA.out.trans (hb3.mono HBA.out.size))
  clear hb3 b0 b1 b2 b3 HG
  have hcv : (convert 30 9 (.slice (some ⟨w3.heap.size, 0, none⟩) 1 1)).run Tryd.prog (w3.alloc (.cells #[.int .u8 a] 5)) = .ok (.string (strOfNums [a])) (w3.alloc (.cells #[.int .u8 a] 5)) :=
    own_string (xs := [a]) (base := 0) (n := 1) (e' := 5) Tryd.underlying30 Tryd.underlying5 Tryd.underlying9 ⟨rfl, .inr ⟨w3.heap.size, 1, _, rfl, Nat.zero_le _, heap_alloc_new w3 _, by decide, by unfold maxLen; decide, rfl, rfl⟩⟩
  have hb3a : Below w3.heap.size w3 (w3.alloc (.cells #[.int .u8 a] 5)) := below_alloc' (Below.refl _ _) _
  have HX4 := Aside0.mk ((hb3a.block _ (blk_lt HX.out)).trans HX.out)
  have HB4 := Aside0.mk (HBA.out.trans (hb3a.mono HBA.out.size))
  clear hb3a
  obtain ⟨b0, b1, b2, b3⟩ := CE.out _ HX.out
  obtain ⟨b4, b5, b6, b7⟩ := CE.out _ HX4.out
  cases HP.out with
  | lone h40 h97 hw =>
    obtain rfl : W0 = strOfNums [a] := by rw [← hw, str_bytes]
    simp only at h40 h97
    have q40 : (a == 40) = false := by simpa using h40
    have q97 : (a == 97) = false := by simpa using h97
    clear h40 h97 hw
    go_wp2_with fail
    go_ret
    exact ⟨rfl, HB4.out⟩
  | str tys' h40 hO hw =>
    simp only at h40 hO
    subst h40
    have HG := Aside0.mk (sgOf_oks l tys' A c (w3.alloc (.cells #[.int .u8 40] 5)) (Kd.C_below HC.out HB4.out) HL.out HN.out hO)
    obtain ⟨S, hS⟩ : ∃ S, sigs tys' = S := ⟨_, rfl⟩
    rw [hS] at HG hw
    have hE : W0 = (⟨#[40]⟩ : ByteArray) ++ S ++ (⟨#[41]⟩ : ByteArray) := eq_of_bytes (by rw [hw, bytesOf_append, bytesOf_append]; rfl)
    have z1 := congrArg ByteArray.size hE
    rw [ByteArray.size_append, ByteArray.size_append] at z1
    have hz := HZ.out
    change W0.size = 1 + S.size + 1 at z1
    have n1 : ¬ 9223372036854775807 < 1 + S.size := by omega
    have n2 : ¬ 9223372036854775807 < 1 + S.size + 1 := by omega
    have HE := Aside0.mk hE
    clear z1 hz hw hO hS hE
    go_wp2_with fail
    refine (HG.out).mono ?_
    rintro e w5 ⟨rfl, hb5⟩
    have HB5 := Aside0.mk (HB4.out.trans (hb5.mono HB4.out.size))
    clear hb5
    go_wp2_with fail
    go_ret
    exact ⟨by rw [HE.out]; simp, HB5.out⟩
  | bare h97 hl hw =>
    simp only at h97 hl hw
    subst h97
    subst hl
    have hE : W0 = (⟨#[97]⟩ : ByteArray) ++ s := eq_of_bytes (by rw [hw, bytesOf_append]; rfl)
    have z1 := congrArg ByteArray.size hE
    rw [ByteArray.size_append] at z1
    have hz := HZ.out
    change W0.size = 1 + s.size at z1
    have n1 : ¬ 9223372036854775807 < 1 + s.size := by omega
    have HE := Aside0.mk hE
    clear z1 hz hw hE
    go_wp2_with fail
    go_ret
    exact ⟨by rw [HE.out]; simp, HB4.out⟩
  | dict y l' tys' h97 hl h2 hbt hO hw =>
    simp only at h97 hl h2 hbt
    subst h97
    have q0 : 0 < (l.length : Int) := by rw [hl]; simp
    have hy : rd_T25 l 0 = y := by rw [hl]; rfl
    obtain ⟨ad, A3, c3, eA, x0, x1, x2, x3, hle, hC3⟩ := at_T25 HC.out 0 (by omega) q0
    cases eA
    rw [hy] at x3 hle hC3
    rw [show ((0 : Int)).toNat = 0 from rfl, show 0 * 4 = 0 from rfl, Addr.add_zero'] at x3
    have x3 := (HB4.out.cell (World.block_lt_of_cell? w _ x3)).trans x3
    have hcy : cnts y.f3 ≤ 300 := by
      have h1 := HN.out
      have h2 := cnt_mem (x := y) (l := l) (by rw [hl]; simp)
      have h3 := cnt_eq y
      omega
    have HG := Aside0.mk (sgOf_oks y.f3 tys' A3 c3 (w3.alloc (.cells #[.int .u8 97] 5)) (Kd.C_below hC3 HB4.out) hle hcy hO)
    obtain ⟨S, hS⟩ : ∃ S, sigs tys' = S := ⟨_, rfl⟩
    rw [hS] at HG hw
    have hE : W0 = (⟨#[97, 123]⟩ : ByteArray) ++ S ++ (⟨#[125]⟩ : ByteArray) := eq_of_bytes (by rw [hw, bytesOf_append, bytesOf_append]; rfl)
    have z1 := congrArg ByteArray.size hE
    rw [ByteArray.size_append, ByteArray.size_append] at z1
    have hz := HZ.out
    change W0.size = 2 + S.size + 1 at z1
    have n1 : ¬ 9223372036854775807 < 2 + S.size := by omega
    have n2 : ¬ 9223372036854775807 < 2 + S.size + 1 := by omega
    have HE := Aside0.mk hE
    have qi : (0 < l.length) = True := eq_true (by omega)
    have q1 : l ≠ [] := by rw [hl]; simp
    have qs : (0 < s.size) = True := eq_true h2
    have hb0 : ∀ h : 0 < s.size, ((s[0]'h).toNat : Int) = 123 := fun h => (bt_at s 0 h).trans hbt
    clear z1 hz hw hO hS hE hC3 x0 x1 x2 hy hl hcy hle hbt h2
    go_wp2_with fail
    refine (HG.out).mono ?_
    rintro e w5 ⟨rfl, hb5⟩
    have HB5 := Aside0.mk (HB4.out.trans (hb5.mono HB4.out.size))
    clear hb5
    go_wp2_with fail
    go_ret
    exact ⟨by rw [HE.out]; simp, HB5.out⟩
  | arr y l' tys' h97 hl h2 hbt hO hw =>
    simp only at h97 hl h2 hbt
    subst h97
    have q0 : 0 < (l.length : Int) := by rw [hl]; simp
    have hcy : cnts [y] ≤ 300 := by
      have h1 := HN.out
      rw [hl, cnts] at h1
      rw [cnts, cnts]
      omega
    have hC1 : Kd.C k25 (w3.alloc (.cells #[.int .u8 97] 5)) A ([y] : List S25).length [y] := by
      have h := Kd.C_take (m := 1) (Kd.C_below HC.out HB4.out) (by omega)
      rw [hl] at h
      exact h
    obtain ⟨ad, eA⟩ : ∃ ad, A = some ad := by
      obtain ⟨ad, e, _⟩ := HC.out.2.2 (by omega)
      exact ⟨ad, e⟩
    cases eA
    have hc1 : 1 ≤ c := by have := HL.out; omega
    have HG := Aside0.mk (sgOf_oks [y] tys' (some ad) c (w3.alloc (.cells #[.int .u8 97] 5)) hC1 hc1 hcy hO)
    obtain ⟨S, hS⟩ : ∃ S, sigs tys' = S := ⟨_, rfl⟩
    rw [hS] at HG hw
    have hE : W0 = (⟨#[97]⟩ : ByteArray) ++ S := eq_of_bytes (by rw [hw, bytesOf_append]; rfl)
    have z1 := congrArg ByteArray.size hE
    rw [ByteArray.size_append] at z1
    have hz := HZ.out
    change W0.size = 1 + S.size at z1
    have n1 : ¬ 9223372036854775807 < 1 + S.size := by omega
    have HE := Aside0.mk hE
    have q1 : l ≠ [] := by rw [hl]; simp
    have qs : (0 < s.size) = True := eq_true h2
    have hb0 : ∀ h : 0 < s.size, (((s[0]'h).toNat : Int) == 123) = false := fun h => beq_eq_false_iff_ne.mpr (by rw [show ((s[0]'h).toNat : Int) = bt s 0 from bt_at s 0 h]; exact hbt)
    have qc : (1 ≤ (c : Int)) = True := eq_true (by omega)
    clear z1 hz hw hO hS hE hl hbt h2 hcy hC1
    go_wp2_with fail
    refine (HG.out).mono ?_
    rintro e w5 ⟨rfl, hb5⟩
    have HB5 := Aside0.mk (HB4.out.trans (hb5.mono HB4.out.size))
    clear hb5
    go_wp2_with fail
    go_ret
    exact ⟨by rw [HE.out]; simp, HB5.out⟩
end Go.Proofs.YtnojjfklnihmnaaDoor.Given
end
section
namespace Go.Proofs.YtnojjfklnihmnaaDoor.Given
open Go.ChangeShapes Go.WideShapes Go.RowKit
set_option maxRecDepth 100000 in
theorem acceptEq : Rows.laid_unicode_utf8_acceptRanges (H := Unit) = Lib.acceptData := by kernel_rfl
set_option maxRecDepth 100000 in
theorem firstEq : Rows.laid_unicode_utf8_first = Lib.firstData := by kernel_rfl
theorem tabs_of {l : List (String × DataW Unit)} {W : World} (h : laidMet Tryd.prog l W) (h1 : ("unicode/utf8.first", Rows.laid_unicode_utf8_first) ∈ l) (h2 : ("unicode/utf8.acceptRanges", Rows.laid_unicode_utf8_acceptRanges) ∈ l) : Tabs W := by
  rw [firstEq] at h1
  rw [acceptEq] at h2
  exact utf8Tabs_of_readsT (ρ := Tryd.lays196_ren) (U8Types.of196 Tryd.lays196) ⟨by kernel_rfl, by kernel_rfl, by kernel_rfl, by kernel_rfl, by kernel_rfl, by kernel_rfl, by kernel_rfl⟩ (Lib.laidMet.reads h h1) (Lib.laidMet.reads h h2)
theorem tabs_sgp {W : World} (h : laidMetH Tryd.prog [("unicode/utf8.acceptRanges", Rows.laid_unicode_utf8_acceptRanges), ("pub-barouche/pub/dbus.errDoor", Rows.laid_pub_barouche_pub_dbus_errDoor), ("unicode/utf8.first", Rows.laid_unicode_utf8_first)] W) : Tabs W := by
  rw [MakeChecks.laidMetH_plain _ _ _ (by kernel_rfl)] at h
  exact tabs_of h (.tail _ (.tail _ (.head _))) (.head _)
end Go.Proofs.YtnojjfklnihmnaaDoor.Given
end
