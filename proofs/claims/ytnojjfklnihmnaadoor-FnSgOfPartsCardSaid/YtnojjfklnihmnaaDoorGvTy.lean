/- Part of the proof of LawFnSgOfParts. -/
import Derived.Test.YtnojjfklnihmnaaDoorGvGt
import Derived.Test.YtnojjfklnihmnaaDoorGvAs
import Derived.LoopTactic
import Derived.Deep.QuietTactic
import Derived.BigQuiet
import Derived.Deep.RegionWith
set_option linter.unusedVariables false
set_option linter.unusedSimpArgs false
section
namespace Go.Proofs.YtnojjfklnihmnaaDoor.Given
open Go.RowKit Go.Proofs.YtnojjfklnihmnaaDoorW.PrintWords Go.Proofs.YtnojjfklnihmnaaDoorW.PrintLast Go.Proofs.YtnojjfklnihmnaaDoor.Pl Go.Proofs.YtnojjfklnihmnaaDoor.Utf Go.Proofs.YtnojjfklnihmnaaDoor.Bm Go.Proofs.YtnojjfklnihmnaaDoor.By Go.Proofs.YtnojjfklnihmnaaDoor.SgT Go.Proofs.YtnojjfklnihmnaaDoor.PFnSgOfParts
set_option linter.unusedVariables false
theorem strOf_append (a b : List Int) : strOfNums (a ++ b) = strOfNums a ++ strOfNums b := by
  apply ByteArray.ext
  rw [ByteArray.data_append]
  unfold strOfNums
  simp
theorem strOf_size (a : List Int) : (strOfNums a).size = a.length := by
  unfold strOfNums; simp [ByteArray.size]
def Bytes (l : List Int) : Prop := ∀ c ∈ l, 0 ≤ c ∧ c < 256
theorem bytes_str {l : List Int} (h : Bytes l) : bytesOf (strOfNums l) = l := by
  induction l with
  | nil => rfl
  | cons c l ih =>
    have hc := h c (by simp)
    have e : strOfNums (c :: l) = strOfNums [c] ++ strOfNums l := strOf_append [c] l
    rw [e, bytesOf_append, ih (fun x hx => h x (by simp [hx]))]
    have : bytesOf (strOfNums [c]) = [c] := by
      unfold bytesOf strOfNums
      simp
      omega
    rw [this]; rfl
theorem lone_byte {c : Int} (h : Given.lone c = true) : 0 ≤ c ∧ c < 256 := by
  rcases is_lone h with ((((((((((((h | h) | h) | h) | h) | h) | h) | h) | h) | h) | h) | h) | h) | h <;> (subst h; decide)
theorem Bytes.app {l m : List Int} (h : Bytes l) (h' : Bytes m) : Bytes (l ++ m) := fun c hc => by
  rcases List.mem_append.1 hc with hc | hc
  · exact h c hc
  · exact h' c hc
theorem Bytes.cons {c : Int} {l : List Int} (hc : 0 ≤ c ∧ c < 256) (h : Bytes l) : Bytes (c :: l) := fun x hx => by
  rcases List.mem_cons.1 hx with rfl | hx
  · exact hc
  · exact h x hx
theorem Bytes.nil : Bytes [] := fun _ h => by cases h
theorem tyS_bytes (x : Tr) : ∀ b, wf x b → Bytes (tyS x) := by
  induction x with
  | nil => intro b _; exact Bytes.nil
  | cons x xs ih1 ih2 => intro b h; exact (ih1 _ h.2.1).app (ih2 _ h.2.2)
  | lone c => intro b h; exact Bytes.nil.cons (lone_byte h.2)
  | arr x ih => intro b h; exact (ih _ h.2).cons (by decide)
  | dict k x ih => intro b h; exact ((ih _ h.2.2).cons (lone_byte (basic_lone h.2.1))).cons (by decide)
  | str xs ih => intro b h; exact ((ih _ h.2.2).app (Bytes.nil.cons (by decide))).cons (by decide)
theorem word_bytes (x : Tr) : ∀ b, wf x b → Bytes (word x) := by
  induction x with
  | nil => intro b _; exact Bytes.nil
  | cons x xs ih1 ih2 => intro b h; exact (ih1 _ h.2.1).app (ih2 _ h.2.2)
  | lone c => intro b h; exact Bytes.nil.cons (lone_byte h.2)
  | arr x ih => intro b h; exact (ih _ h.2).cons (by decide)
  | dict k x ih => intro b h; exact ((((ih _ h.2.2).app (Bytes.nil.cons (by decide))).cons (lone_byte (basic_lone h.2.1))).cons (by decide)).cons (by decide)
  | str xs ih => intro b h; exact ((ih _ h.2.2).app (Bytes.nil.cons (by decide))).cons (by decide)
def GsOk (x : Tr) : Prop := ∀ a t d : Int, 0 ≤ a → 0 ≤ t → 0 ≤ d → fits x a t d = true → (word x).length ≤ 255 → ∀ (b : Nat) (w : World), Dc w b a t d →
  Calls Tryd.prog 27 #[.string (strOfNums (tyS x)), .pointer (some ⟨b, 0, none⟩)] w fun r w' => r = .returned (.string (strOfNums (word x))) ∧ Below w.heap.size w w'
theorem cat_words (x : Tr) : ∀ b, wf x b → b = false → cat ((kidsX x).map fun y => strOfNums (word y)) = strOfNums (word x) := by
  induction x with
  | nil => intro b _ _; rfl
  | cons x xs _ ih =>
    intro b h _
    show strOfNums (word x) ++ cat ((kidsX xs).map fun y => strOfNums (word y)) = _
    rw [ih _ h.2.2 rfl, ← strOf_append]; rfl
  | lone c => intro b h e; exact absurd (h.1.symm.trans e) (by decide)
  | arr x ih => intro b h e; exact absurd (h.1.symm.trans e) (by decide)
  | dict k x ih => intro b h e; exact absurd (h.1.symm.trans e) (by decide)
  | str xs ih => intro b h e; exact absurd (h.1.symm.trans e) (by decide)
theorem kid_facts (x : Tr) : ∀ y ∈ kidsX x, (∀ b, wf x b → wf y true) ∧ (∀ a t d, fits x a t d = true → fits y a t d = true) ∧ (keysOk x = true → keysOk y = true) ∧ (word y).length ≤ (word x).length := by
  induction x with
  | cons x xs _ ih =>
    intro y hy
    rcases List.mem_cons.1 hy with rfl | hy
    · exact ⟨fun b h => h.2.1, fun a t d h => by rw [fits, Bool.and_eq_true] at h; exact h.1, fun h => by rw [keysOk, Bool.and_eq_true] at h; exact h.1, by simp [word]⟩
    · obtain ⟨h1, h2, h3, h4⟩ := ih y hy
      exact ⟨fun b h => h1 _ h.2.2, fun a t d h => by rw [fits, Bool.and_eq_true] at h; exact h2 _ _ _ h.2, fun h => by rw [keysOk, Bool.and_eq_true] at h; exact h3 h.2, by simp only [word, List.length_append]; omega⟩
  | _ => intro y hy; cases hy
theorem kids_len (x : Tr) : ∀ b, wf x b → (kidsX x).length ≤ (word x).length := by
  induction x with
  | cons x xs _ ih =>
    intro b h
    have := ih _ h.2.2
    have := word_len h.2.1
    simp only [kidsX, word, List.length_cons, List.length_append]; omega
  | _ => intro b _; exact Nat.zero_le _
theorem getSig (x : Tr) : (wf x true → keysOk x = true → GsOk x) ∧ (∀ b, wf x b → b = false → keysOk x = true → ∀ y ∈ kidsX x, GsOk y) := by
  induction x with
  | nil => exact ⟨fun h => (by cases h), fun _ _ _ _ y hy => (by cases hy)⟩
  | cons x xs ih1 ih2 =>
    refine ⟨fun h => (by cases h.1), fun b h e hk y hy => ?_⟩
    rw [keysOk, Bool.and_eq_true] at hk
    rcases List.mem_cons.1 hy with rfl | hy
    · exact ih1.1 h.2.1 hk.1
    · exact ih2.2 _ h.2.2 rfl hk.2 y hy
  | lone c =>
    refine ⟨fun h _ a t d ha ht hd hf hl b w hc => ?_, fun b h e => absurd (h.1.symm.trans e) (by decide)⟩
    exact gs_lone h.2 b a t d w hf hc
  | arr x ih =>
    refine ⟨fun h hk a t d ha ht hd hf hl b w hc => ?_, fun b h e => absurd (h.1.symm.trans e) (by decide)⟩
    rw [fits, Bool.and_eq_true] at hf
    have hl2 : (word x).length ≤ 254 := by simp only [word, List.length_cons] at hl; omega
    have e1 : bytesOf (strOfNums (tyS (.arr x))) = 91 :: bytesOf (strOfNums (tyS x)) := by rw [bytes_str (tyS_bytes _ _ h), bytes_str (tyS_bytes _ _ h.2)]; rfl
    have e2 : strOfNums (word (.arr x)) = ⟨#[97]⟩ ++ strOfNums (word x) := strOf_append [97] (word x)
    rw [e2]
    exact gs_arr _ (strOfNums (tyS x)) e1 (strOfNums (word x)) (by rw [strOf_size]; exact hl2) b a t d w hf.1 (by omega) hc fun b w hc => ih.1 h.2 hk (a + 1) t d (by omega) ht hd hf.2 (by omega) b w hc
  | dict key x ih =>
    refine ⟨fun h hk a t d ha ht hd hf hl b w hc => ?_, fun b h e => absurd (h.1.symm.trans e) (by decide)⟩
    rw [fits, Bool.and_eq_true] at hf
    rw [keysOk, Bool.and_eq_true] at hk
    have hl2 : (word x).length ≤ 251 := by simp only [word, List.length_cons, List.length_append, List.length_nil] at hl; omega
    have e1 : bytesOf (strOfNums (tyS (.dict key x))) = 123 :: key :: bytesOf (strOfNums (tyS x)) := by rw [bytes_str (tyS_bytes _ _ h), bytes_str (tyS_bytes _ _ h.2.2)]; rfl
    have e2 : strOfNums (word (.dict key x)) = ((⟨#[97, 123]⟩ ++ strOfNums [key]) ++ strOfNums (word x)) ++ ⟨#[125]⟩ := by
      rw [show word (.dict key x) = (([97, 123] ++ [key]) ++ word x) ++ [125] by simp [word], strOf_append, strOf_append, strOf_append]; rfl
    rw [e2]
    have hf1 : fits x (a + 1) t (d + 1) = true := hf.2
    have hfo : ok (a + 1) t (d + 1) = true := fits_ok h.2.2 hf1
    exact gs_dict _ (strOfNums (tyS x)) key e1 hk.1 (strOfNums (word x)) (by rw [strOf_size]; exact hl2) b a t d w hf.1 (by omega) (by omega) hc (fun b w hc => gs_lone (basic_lone h.2.1) b (a + 1) t (d + 1) w hfo hc) fun b w hc => ih.1 h.2.2 hk.2 (a + 1) t (d + 1) (by omega) ht (by omega) hf1 (by omega) b w hc
  | str xs ih =>
    refine ⟨fun h hk a t d ha ht hd hf hl b w hc => ?_, fun b h e => absurd (h.1.symm.trans e) (by decide)⟩
    rw [fits, Bool.and_eq_true] at hf
    have hl2 : (word xs).length ≤ 253 := by simp only [word, List.length_cons, List.length_append, List.length_nil] at hl; omega
    have eb : bytesOf (strOfNums (tyS (.str xs))) = tyS (.str xs) := bytes_str (tyS_bytes _ _ h)
    have hz : (strOfNums (tyS (.str xs))).size ≤ 1000000 := by
      rw [strOf_size]
      have := tyS_le (.str xs)
      omega
    obtain ⟨h0, h1, _⟩ := at_zero (c := 40) (r := tyS xs ++ [41]) eb
    have ne : ∀ y : UInt8, (y.toNat : Int) ≠ 40 → ((strOfNums (tyS (.str xs))).toList == [y]) = false := fun y hy => by
      rw [beq_eq_false_iff_ne]
      intro e
      have h2 : bytesOf (strOfNums (tyS (.str xs))) = [(y.toNat : Int)] := by
        unfold bytesOf
        rw [← ByteArray.toList_eq, e]; rfl
      rw [eb] at h2
      exact hy (List.cons.inj h2).1.symm
    have e2 : strOfNums (word (.str xs)) = (⟨#[40]⟩ ++ cat ((kidsX xs).map fun y => strOfNums (word y))) ++ ⟨#[41]⟩ := by
      rw [cat_words xs _ h.2.2 rfl, show word (.str xs) = ([40] ++ word xs) ++ [41] by simp [word], strOf_append, strOf_append]; rfl
    have hTl : (kidsT xs).length = (kidsX xs).length := by rw [kids_map, List.length_map]
    rw [e2]
    refine gs_str _ (kidsT xs) _ (by rw [hTl, List.length_map]) (gsKind_of h0 h1 (k := 18) (by decide)) (ne 118 (by decide)) (ne 103 (by decide)) ?_ ?_ ?_ ?_ ?_ b a t d w hf.1 (by omega) hc ?_
    · intro w
      obtain ⟨n, hn⟩ := num_of xs h.2.2 _ eb hz
      have := dbus_zzType_NumField.calls n _ _ w (hn n (Nat.le_refl _))
      rwa [← hTl] at this
    · intro i T hT w
      rw [kids_map, List.getElem?_map] at hT
      obtain ⟨y, hy, rfl⟩ := Option.map_eq_some_iff.1 hT
      obtain ⟨n, hn⟩ := field_of xs h.2.2 _ eb hz i y hy
      exact dbus_zzType_Field.calls n _ _ _ _ _ w (hn n (Nat.le_refl _))
    · rw [cat_words xs _ h.2.2 rfl, strOf_size]; exact hl2
    · rw [cat_words xs _ h.2.2 rfl, strOf_size]; exact List.length_pos_iff.2 h.2.1
    · rw [hTl]; have := kids_len xs _ h.2.2; omega
    · intro i T W hT hW b w hc
      rw [kids_map, List.getElem?_map] at hT
      obtain ⟨y, hy, rfl⟩ := Option.map_eq_some_iff.1 hT
      rw [List.getElem?_map, hy] at hW
      obtain rfl := Option.some.inj hW
      have hm : y ∈ kidsX xs := List.mem_of_getElem? hy
      obtain ⟨k1, k2, k3, k4⟩ := kid_facts xs y hm
      exact ih.2 _ h.2.2 rfl hk y hm a (t + 1) d ha (by omega) hd (k2 _ _ _ hf.2) (by omega) b w hc
theorem getSig.calls {x : Tr} (h : wf x true) (hk : keysOk x = true) (hf : fits x 0 0 0 = true) (hl : (word x).length ≤ 255) (b : Nat) (w : World) (hc : Dc w b 0 0 0) :
    Calls Tryd.prog 27 #[.string (strOfNums (tyS x)), .pointer (some ⟨b, 0, none⟩)] w fun r w' => r = .returned (.string (strOfNums (word x))) ∧ Below w.heap.size w w' :=
  (getSig x).1 h hk 0 0 0 (Int.le_refl _) (Int.le_refl _) (Int.le_refl _) hf hl b w hc
end Go.Proofs.YtnojjfklnihmnaaDoor.Given
end
section
namespace Go.Proofs.YtnojjfklnihmnaaDoor.Given
open Go.RowKit Go.Proofs.YtnojjfklnihmnaaDoorW.PrintWords Go.Proofs.YtnojjfklnihmnaaDoorW.PrintLast Go.Proofs.YtnojjfklnihmnaaDoor.Pl Go.Proofs.YtnojjfklnihmnaaDoor.By Go.Proofs.YtnojjfklnihmnaaDoor.SgT Go.Proofs.YtnojjfklnihmnaaDoor.PFnSgOfParts
set_option linter.unusedVariables false
attribute [local go_sem] as_5_5 as_4_5 as_4_79 as_4_80 as_4_81 as_4_4 as_64_5 as_64_79 as_64_80 as_64_81 as_64_4 as_64_64 as_82_5 as_82_79 as_82_80 as_82_81 as_82_4 as_82_64 as_82_82 as_21_5 as_21_79 as_21_80 as_21_81 as_21_4
attribute [local go_sem] as_21_64 as_21_82 as_21_21 as_83_5 as_83_79 as_83_80 as_83_81 as_83_4 as_83_64 as_83_82 as_83_21 as_83_83 as_2_5 as_2_79 as_2_80 as_2_81 as_2_4 as_2_64 as_2_82 as_2_21 as_2_83 as_2_2 as_22_5 as_22_79
attribute [local go_sem] as_22_80 as_22_81 as_22_4 as_22_64 as_22_82 as_22_21 as_22_83 as_22_2 as_22_22 as_84_5 as_84_79 as_84_80 as_84_81 as_84_4 as_84_64 as_84_82 as_84_21 as_84_83 as_84_2 as_84_22 as_84_84 as_9_5 as_9_79 as_9_80
attribute [local go_sem] as_9_81 as_9_4 as_9_64 as_9_82 as_9_21 as_9_83 as_9_2 as_9_22 as_9_84 as_9_9 as_85_5 as_85_79 as_85_80 as_85_81 as_85_4 as_85_64 as_85_82 as_85_21 as_85_83 as_85_2 as_85_22 as_85_84 as_85_9 as_85_85
attribute [local go_sem] as_42_5 as_42_79 as_42_80 as_42_81 as_42_4 as_42_64 as_42_82 as_42_21 as_42_83 as_42_2 as_42_22 as_42_84 as_42_9 as_42_85 as_42_42 as_87_5 as_87_79 as_87_80 as_87_81 as_87_4 as_87_64 as_87_82 as_87_21 as_87_83
attribute [local go_sem] as_87_2 as_87_22 as_87_84 as_87_9 as_87_85 as_87_42 as_87_87 as_89_5 as_89_79 as_89_80 as_89_81 as_89_4 as_89_64 as_89_82 as_89_21 as_89_83 as_89_2 as_89_22 as_89_84 as_89_9 as_89_85 as_89_42 as_89_87 as_89_88
attribute [local go_sem] as_89_89 as_90_5 as_90_79 as_90_80 as_90_81 as_90_4 as_90_64 as_90_82 as_90_21 as_90_83 as_90_2 as_90_22 as_90_84 as_90_9 as_90_85 as_90_42 as_90_87 as_90_88 as_90_89 as_90_44 as_90_30 as_90_90 as_94_5 as_94_79
attribute [local go_sem] as_94_80 as_94_81 as_94_4 as_94_64 as_94_82 as_94_21 as_94_83 as_94_2 as_94_22 as_94_84 as_94_9 as_94_85 as_94_42 as_94_87 as_94_88 as_94_89 as_94_44 as_94_30 as_94_90 as_94_94 as_99_5 as_99_79 as_99_80 as_99_81
attribute [local go_sem] as_99_4 as_99_64 as_99_82 as_99_21 as_99_83 as_99_2 as_99_22 as_99_84 as_99_9 as_99_85 as_99_42 as_99_87 as_99_88 as_99_89 as_99_44 as_99_30 as_99_90 as_99_94 as_99_99
inductive Lone : TypeId → Value → Int → Prop
  | t5 (v : Value) : Lone 5 v 121
  | t4 (v : Value) : Lone 4 v 98
  | t64 (v : Value) : Lone 64 v 110
  | t82 (v : Value) : Lone 82 v 113
  | t21 (v : Value) : Lone 21 v 105
  | t83 (v : Value) : Lone 83 v 117
  | t2 (v : Value) : Lone 2 v 120
  | t22 (v : Value) : Lone 22 v 116
  | t84 (v : Value) : Lone 84 v 100
  | t9 (v : Value) : Lone 9 v 115
  | t85 (v : Value) : Lone 85 v 111
  | g (s : ByteArray) : Lone 42 (.agg #[.string s]) 103
  | v (s : ByteArray) (T : TypeId) (x : Value) : Lone 87 (.agg #[.string s, .iface T x]) 118
  | t89 (v : Value) : Lone 89 v 104
set_option maxHeartbeats 8000000 in
set_option maxRecDepth 100000 in
theorem typeOf_5 (v : Value) (w : World) : Calls Tryd.prog 28 #[.iface 5 (v)] w fun e w' => e = .returned (.string ⟨#[121]⟩) ∧ Below w.heap.size w w' := by
  go_enter Tryd.func28, Tryd.ntmps28
  go_wp2
  go_ret
  exact ⟨rfl, Below.refl _ _⟩
set_option maxHeartbeats 8000000 in
set_option maxRecDepth 100000 in
theorem typeOf_4 (v : Value) (w : World) : Calls Tryd.prog 28 #[.iface 4 (v)] w fun e w' => e = .returned (.string ⟨#[98]⟩) ∧ Below w.heap.size w w' := by
  go_enter Tryd.func28, Tryd.ntmps28
  go_wp2
  go_ret
  exact ⟨rfl, Below.refl _ _⟩
set_option maxHeartbeats 8000000 in
set_option maxRecDepth 100000 in
theorem typeOf_64 (v : Value) (w : World) : Calls Tryd.prog 28 #[.iface 64 (v)] w fun e w' => e = .returned (.string ⟨#[110]⟩) ∧ Below w.heap.size w w' := by
  go_enter Tryd.func28, Tryd.ntmps28
  go_wp2
  go_ret
  exact ⟨rfl, Below.refl _ _⟩
set_option maxHeartbeats 8000000 in
set_option maxRecDepth 100000 in
theorem typeOf_82 (v : Value) (w : World) : Calls Tryd.prog 28 #[.iface 82 (v)] w fun e w' => e = .returned (.string ⟨#[113]⟩) ∧ Below w.heap.size w w' := by
  go_enter Tryd.func28, Tryd.ntmps28
  go_wp2
  go_ret
  exact ⟨rfl, Below.refl _ _⟩
set_option maxHeartbeats 8000000 in
set_option maxRecDepth 100000 in
theorem typeOf_21 (v : Value) (w : World) : Calls Tryd.prog 28 #[.iface 21 (v)] w fun e w' => e = .returned (.string ⟨#[105]⟩) ∧ Below w.heap.size w w' := by
  go_enter Tryd.func28, Tryd.ntmps28
  go_wp2
  go_ret
  exact ⟨rfl, Below.refl _ _⟩
set_option maxHeartbeats 8000000 in
set_option maxRecDepth 100000 in
theorem typeOf_83 (v : Value) (w : World) : Calls Tryd.prog 28 #[.iface 83 (v)] w fun e w' => e = .returned (.string ⟨#[117]⟩) ∧ Below w.heap.size w w' := by
  go_enter Tryd.func28, Tryd.ntmps28
  go_wp2
  go_ret
  exact ⟨rfl, Below.refl _ _⟩
set_option maxHeartbeats 8000000 in
set_option maxRecDepth 100000 in
theorem typeOf_2 (v : Value) (w : World) : Calls Tryd.prog 28 #[.iface 2 (v)] w fun e w' => e = .returned (.string ⟨#[120]⟩) ∧ Below w.heap.size w w' := by
  go_enter Tryd.func28, Tryd.ntmps28
  go_wp2
  go_ret
  exact ⟨rfl, Below.refl _ _⟩
set_option maxHeartbeats 8000000 in
set_option maxRecDepth 100000 in
theorem typeOf_22 (v : Value) (w : World) : Calls Tryd.prog 28 #[.iface 22 (v)] w fun e w' => e = .returned (.string ⟨#[116]⟩) ∧ Below w.heap.size w w' := by
  go_enter Tryd.func28, Tryd.ntmps28
  go_wp2
  go_ret
  exact ⟨rfl, Below.refl _ _⟩
set_option maxHeartbeats 8000000 in
set_option maxRecDepth 100000 in
theorem typeOf_84 (v : Value) (w : World) : Calls Tryd.prog 28 #[.iface 84 (v)] w fun e w' => e = .returned (.string ⟨#[100]⟩) ∧ Below w.heap.size w w' := by
  go_enter Tryd.func28, Tryd.ntmps28
  go_wp2
  go_ret
  exact ⟨rfl, Below.refl _ _⟩
set_option maxHeartbeats 8000000 in
set_option maxRecDepth 100000 in
theorem typeOf_9 (v : Value) (w : World) : Calls Tryd.prog 28 #[.iface 9 (v)] w fun e w' => e = .returned (.string ⟨#[115]⟩) ∧ Below w.heap.size w w' := by
  go_enter Tryd.func28, Tryd.ntmps28
  go_wp2
  go_ret
  exact ⟨rfl, Below.refl _ _⟩
set_option maxHeartbeats 8000000 in
set_option maxRecDepth 100000 in
theorem typeOf_85 (v : Value) (w : World) : Calls Tryd.prog 28 #[.iface 85 (v)] w fun e w' => e = .returned (.string ⟨#[111]⟩) ∧ Below w.heap.size w w' := by
  go_enter Tryd.func28, Tryd.ntmps28
  go_wp2
  go_ret
  exact ⟨rfl, Below.refl _ _⟩
set_option maxHeartbeats 8000000 in
set_option maxRecDepth 100000 in
theorem typeOf_42 (s : ByteArray) (w : World) : Calls Tryd.prog 28 #[.iface 42 (.agg #[.string s])] w fun e w' => e = .returned (.string ⟨#[103]⟩) ∧ Below w.heap.size w w' := by
  go_enter Tryd.func28, Tryd.ntmps28
  go_wp2
  go_ret
  exact ⟨rfl, (Below.refl _ w).alloc (Nat.le_refl _) _⟩
set_option maxHeartbeats 8000000 in
set_option maxRecDepth 100000 in
theorem typeOf_87 (s : ByteArray) (T : TypeId) (x : Value) (w : World) : Calls Tryd.prog 28 #[.iface 87 (.agg #[.string s, .iface T x])] w fun e w' => e = .returned (.string ⟨#[118]⟩) ∧ Below w.heap.size w w' := by
  go_enter Tryd.func28, Tryd.ntmps28
  go_wp2
  go_ret
  exact ⟨rfl, (Below.refl _ w).alloc (Nat.le_refl _) _⟩
set_option maxHeartbeats 8000000 in
set_option maxRecDepth 100000 in
theorem typeOf_89 (v : Value) (w : World) : Calls Tryd.prog 28 #[.iface 89 (v)] w fun e w' => e = .returned (.string ⟨#[104]⟩) ∧ Below w.heap.size w w' := by
  go_enter Tryd.func28, Tryd.ntmps28
  go_wp2
  go_ret
  exact ⟨rfl, Below.refl _ _⟩
theorem typeOf_lone {T : TypeId} {v : Value} {c : Int} (h : Lone T v c) (w : World) : Calls Tryd.prog 28 #[.iface T v] w fun e w' => e = .returned (.string (strOfNums [c])) ∧ Below w.heap.size w w' := by
  cases h
  · exact typeOf_5 _ w
  · exact typeOf_4 _ w
  · exact typeOf_64 _ w
  · exact typeOf_82 _ w
  · exact typeOf_21 _ w
  · exact typeOf_83 _ w
  · exact typeOf_2 _ w
  · exact typeOf_22 _ w
  · exact typeOf_84 _ w
  · exact typeOf_9 _ w
  · exact typeOf_85 _ w
  · exact typeOf_42 _ w
  · exact typeOf_87 _ _ _ w
  · exact typeOf_89 _ w
set_option maxHeartbeats 8000000 in
set_option maxRecDepth 100000 in
theorem typeOf_list (p : Nat) (e : ByteArray) (he : e.size ≤ 1099511627776) (w : World) (hc : w.cell? ⟨p, 0, none⟩ = some (.string e)) : Calls Tryd.prog 28 #[.iface 90 (.pointer (some ⟨p, 0, none⟩))] w fun r w' => r = .returned (.string (⟨#[91]⟩ ++ e)) ∧ Below w.heap.size w w' := by
  have HS := Aside0.mk fun w => dbus_zzSliceOf.calls e (⟨#[91]⟩ ++ e) w (by unfold dbus_zzSliceOf.f; rw [if_pos (by omega)])
  clear he
  go_enter Tryd.func28, Tryd.ntmps28
  go_wp2_with (go_at_call 45; refine (HS.out _).mono ?_; rintro r w4 ⟨rfl, hd4⟩)
  go_ret
  exact ⟨rfl, hd4.below⟩
set_option maxHeartbeats 8000000 in
set_option maxRecDepth 100000 in
theorem typeOf_dict (p : Nat) (k e : ByteArray) (hk : k.size ≤ 1099511627776) (he : e.size ≤ 1099511627776) (w : World) (hc : w.cell? ⟨p, 0, none⟩ = some (.string k)) (hc1 : w.cell? ⟨p, 1, none⟩ = some (.string e)) : Calls Tryd.prog 28 #[.iface 94 (.pointer (some ⟨p, 0, none⟩))] w fun r w' => r = .returned (.string ((⟨#[123]⟩ ++ k) ++ e)) ∧ Below w.heap.size w w' := by
  have HM := Aside0.mk fun w => dbus_zzMapOf.calls k e ((⟨#[123]⟩ ++ k) ++ e) w (by unfold dbus_zzMapOf.f; rw [if_pos (by omega), if_pos (by rw [ByteArray.size_append]; show 1 + k.size + e.size ≤ _; omega)])
  clear hk he
  go_enter Tryd.func28, Tryd.ntmps28
  go_wp2_with (go_at_call 46; refine (HM.out _).mono ?_; rintro r w4 ⟨rfl, hd4⟩)
  go_region_with (go_at_call 46; refine (HM.out _).mono ?_; rintro r w4 ⟨rfl, hd4⟩)
  all_goals go_wp2_with fail
  all_goals go_ret
  all_goals exact ⟨rfl, (Below.refl _ _).drew.trans (hd4.below.mono (Nat.le_refl _))⟩
set_option maxHeartbeats 8000000 in
set_option maxRecDepth 100000 in
theorem typeOf_rec (ad : Addr) (es : List (TypeId × Value)) (ts : List ByteArray) (hlen : ts.length = es.length) (c : Nat) (w : World) (hn : es.length ≤ c) (hm : es.length ≤ 1000000)
    (hcell : ∀ (i : Nat) (e : TypeId × Value), es[i]? = some e → w.cell? (ad.add i) = some (.iface e.1 e.2)) (hsz : (cat ts).size ≤ 1099511627776)
    (ih : ∀ (i : Nat) (e : TypeId × Value) (t : ByteArray), es[i]? = some e → ts[i]? = some t → ∀ w' : World, Below w.heap.size w w' → Calls Tryd.prog 28 #[.iface e.1 e.2] w' fun r w'' => r = .returned (.string t) ∧ Below w'.heap.size w' w'') :
    Calls Tryd.prog 28 #[.iface 99 (.agg #[.slice (some ad) es.length c])] w fun r w' => r = .returned (.string ((⟨#[40]⟩ ++ cat ts) ++ ⟨#[41]⟩)) ∧ Below w.heap.size w w' := by
  have HC := Aside0.mk hcell
  have HI := Aside0.mk ih
  have HL := Aside0.mk hlen
  have HZ := Aside0.mk hsz
  clear hcell ih hlen hsz
  go_enter Tryd.func28, Tryd.ntmps28
  go_wp2_with fail
  have hb0 : Below w.heap.size w (w.alloc (.cells #[.slice (some ad) es.length c] 99)) := (Below.refl _ w).alloc (Nat.le_refl _) _
  generalize w.alloc (.cells #[.slice (some ad) es.length c] 99) = w0 at hb0 ⊢
  have HB0 := Aside0.mk hb0
  clear hb0
  go_loopw [24, 116] (fun s i wr => ∃ j : Nat, j ≤ es.length ∧ i = .int .i64 j ∧ s = .string (⟨#[40]⟩ ++ cat (ts.take j)) ∧ Aside0 (Below w.heap.size w wr)) (fun _ i _ => es.length - (intOf i).toNat)
  case atStart => exact ⟨0, Nat.zero_le _, rfl, rfl, HB0⟩
  case round =>
    clear HB0
    obtain ⟨j, hj, rfl, rfl, HB⟩ := hrel
    by_cases hlt : j < es.length
    · obtain ⟨⟨T, v⟩, hT⟩ : ∃ e, es[j]? = some e := ⟨_, List.getElem?_eq_getElem hlt⟩
      obtain ⟨t, ht⟩ : ∃ t, ts[j]? = some t := ⟨_, List.getElem?_eq_getElem (by have := HL.out; omega)⟩
      have hcj : wr.cell? (ad.add j) = some (.iface T v) := by
        have h := HC.out j _ hT
        have hlb := World.block_lt_of_cell? w _ h
        exact (HB.out.cell hlb).trans h
      have HIj := Aside0.mk (HI.out j (T, v) t hT ht wr HB.out)
      have HCT := Aside0.mk (cat_take ht)
      have hz1 : ¬ 9223372036854775807 < 1 + (cat (ts.take j)).size + t.size := by
        have h1 := cat_le ts (j + 1)
        rw [cat_take ht, ByteArray.size_append] at h1
        have := HZ.out
        omega
      clear hT ht
      go_wp2_with fail
      refine (HIj.out).mono ?_
      rintro r w3 ⟨rfl, hb3⟩
      have HB := Aside0.mk (HB.out.trans (hb3.mono HB.out.size))
      clear hb3
      go_wp2_with fail
      go_roundw
      case rel => exact ⟨j + 1, by omega, by go_num, by rw [HCT.out, ByteArray.append_assoc], HB⟩
      case measure => simp [intOf]; omega
    · obtain rfl : j = es.length := by omega
      have hz : cat (ts.take es.length) = cat ts := by rw [← HL.out, List.take_length]
      rw [hz]
      have hz1 : ¬ 9223372036854775807 < 1 + (cat ts).size + 1 := by have := HZ.out; omega
      go_wp2_with fail
      go_ret
      exact ⟨rfl, HB.out⟩
end Go.Proofs.YtnojjfklnihmnaaDoor.Given
end
section
namespace Go.Proofs.YtnojjfklnihmnaaDoor.Given
open Go.RowKit Go.Proofs.YtnojjfklnihmnaaDoorW.PrintWords Go.Proofs.YtnojjfklnihmnaaDoorW.PrintLast Go.Proofs.YtnojjfklnihmnaaDoor.Pl Go.Proofs.YtnojjfklnihmnaaDoor.By Go.Proofs.YtnojjfklnihmnaaDoor.SgT Go.Proofs.YtnojjfklnihmnaaDoor.PFnSgOfParts
set_option linter.unusedVariables false
inductive Ty (w : World) : TypeId → Value → Tr → Prop
  | lone {T : TypeId} {v : Value} {c : Int} : Lone T v c → Ty w T v (.lone c)
  | list (p : Nat) (x : Tr) : w.cell? ⟨p, 0, none⟩ = some (.string (strOfNums (tyS x))) → Ty w 90 (.pointer (some ⟨p, 0, none⟩)) (.arr x)
  | dict (p : Nat) (k : Int) (x : Tr) : w.cell? ⟨p, 0, none⟩ = some (.string (strOfNums [k])) → w.cell? ⟨p, 1, none⟩ = some (.string (strOfNums (tyS x))) → Ty w 94 (.pointer (some ⟨p, 0, none⟩)) (.dict k x)
  | rec_ (ad : Addr) (es : List (TypeId × Value)) (xs : Tr) (c : Nat) : es.length = (kidsX xs).length → es.length ≤ c →
      (∀ (i : Nat) (e : TypeId × Value), es[i]? = some e → w.cell? (ad.add i) = some (.iface e.1 e.2)) →
      (∀ (i : Nat) (e : TypeId × Value) (y : Tr), es[i]? = some e → (kidsX xs)[i]? = some y → Ty w e.1 e.2 y) → Ty w 99 (.agg #[.slice (some ad) es.length c]) (.str xs)
theorem Ty.old {w w' : World} {T : TypeId} {v : Value} {x : Tr} (h : Ty w T v x) (hb : Below w.heap.size w w') : Ty w' T v x := by
  induction h with
  | lone h => exact .lone h
  | list p x h => exact .list p x ((hb.cell (World.block_lt_of_cell? w _ h)).trans h)
  | dict p k x h1 h2 => exact .dict p k x ((hb.cell (World.block_lt_of_cell? w _ h1)).trans h1) ((hb.cell (World.block_lt_of_cell? w _ h2)).trans h2)
  | rec_ ad es xs c h1 h2 h3 _ ih => exact .rec_ ad es xs c h1 h2 (fun i e he => (hb.cell (World.block_lt_of_cell? w _ (h3 i e he))).trans (h3 i e he)) ih
theorem cat_tys (x : Tr) : ∀ b, wf x b → b = false → cat (kidsT x) = strOfNums (tyS x) := by
  induction x with
  | nil => intro b _ _; rfl
  | cons x xs _ ih =>
    intro b h _
    show strOfNums (tyS x) ++ cat (kidsT xs) = _
    rw [ih _ h.2.2 rfl, ← strOf_append]; rfl
  | lone c => intro b h e; exact absurd (h.1.symm.trans e) (by decide)
  | arr x ih => intro b h e; exact absurd (h.1.symm.trans e) (by decide)
  | dict k x ih => intro b h e; exact absurd (h.1.symm.trans e) (by decide)
  | str xs ih => intro b h e; exact absurd (h.1.symm.trans e) (by decide)
theorem typeOf.calls {w : World} {T : TypeId} {v : Value} {x : Tr} (h : Ty w T v x) : wf x true → (word x).length ≤ 100000 → ∀ w' : World, Below w.heap.size w w' →
    Calls Tryd.prog 28 #[.iface T v] w' fun r w'' => r = .returned (.string (strOfNums (tyS x))) ∧ Below w'.heap.size w' w'' := by
  induction h with
  | lone h => intro hx hl w' hb; exact typeOf_lone h w'
  | list p x hc =>
    intro hx hl w' hb
    have := tyS_le (.arr x)
    have e : strOfNums (tyS (.arr x)) = ⟨#[91]⟩ ++ strOfNums (tyS x) := strOf_append [91] (tyS x)
    rw [e]
    refine typeOf_list p _ ?_ w' ((hb.cell (World.block_lt_of_cell? w _ hc)).trans hc)
    rw [strOf_size]; simp only [tyS, List.length_cons] at this; omega
  | dict p k x hc h1 =>
    intro hx hl w' hb
    have := tyS_le (.dict k x)
    have e : strOfNums (tyS (.dict k x)) = (⟨#[123]⟩ ++ strOfNums [k]) ++ strOfNums (tyS x) := by
      rw [show tyS (.dict k x) = ([123] ++ [k]) ++ tyS x from rfl, strOf_append, strOf_append]; rfl
    rw [e]
    refine typeOf_dict p _ _ ?_ ?_ w' ((hb.cell (World.block_lt_of_cell? w _ hc)).trans hc) ((hb.cell (World.block_lt_of_cell? w _ h1)).trans h1)
    · rw [strOf_size]; show 1 ≤ _; omega
    · rw [strOf_size]; simp only [tyS, List.length_cons] at this; omega
  | rec_ ad es xs c h1 h2 h3 _ ih =>
    intro hx hl w' hb
    have hTl : (kidsT xs).length = (kidsX xs).length := by rw [kids_map, List.length_map]
    have e : strOfNums (tyS (.str xs)) = (⟨#[40]⟩ ++ cat (kidsT xs)) ++ ⟨#[41]⟩ := by
      rw [cat_tys xs _ hx.2.2 rfl, show tyS (.str xs) = ([40] ++ tyS xs) ++ [41] by simp [tyS], strOf_append, strOf_append]; rfl
    rw [e]
    have hle := tyS_le (.str xs)
    have hkl := kids_len xs _ hx.2.2
    have hl2 : (word xs).length ≤ 100000 := by simp only [word, List.length_cons, List.length_append] at hl; omega
    refine typeOf_rec ad es (kidsT xs) (by omega) c w' h2 (by omega) (fun i e he => (hb.cell (World.block_lt_of_cell? w _ (h3 i e he))).trans (h3 i e he)) ?_ ?_
    · rw [cat_tys xs _ hx.2.2 rfl, strOf_size]
      have := tyS_le xs
      omega
    · intro i e t he ht w2 hb2
      rw [kids_map, List.getElem?_map] at ht
      obtain ⟨y, hy, rfl⟩ := Option.map_eq_some_iff.1 ht
      obtain ⟨k1, k2, k3, k4⟩ := kid_facts xs y (List.mem_of_getElem? hy)
      exact ih i e y he hy (k1 _ hx.2.2) (by omega) w2 (hb.trans (hb2.mono hb.size))
structure Gd (x : Tr) : Prop where
  wf : wf x true
  keys : keysOk x = true
  fits : fits x 0 0 0 = true
  len : (word x).length ≤ 255
structure Row (w : World) (A : Option Addr) (es : List (TypeId × Value)) (xs : List Tr) : Prop where
  len : es.length = xs.length
  addr : 0 < es.length → ∃ ad, A = some ad
  cell : ∀ ad, A = some ad → ∀ (i : Nat) (e : TypeId × Value), es[i]? = some e → w.cell? (ad.add i) = some (.iface e.1 e.2)
  ty : ∀ (i : Nat) (e : TypeId × Value) (y : Tr), es[i]? = some e → xs[i]? = some y → Ty w e.1 e.2 y
theorem Row.old {w w' : World} {A : Option Addr} {es : List (TypeId × Value)} {xs : List Tr} (h : Row w A es xs) (hb : Below w.heap.size w w') : Row w' A es xs :=
  ⟨h.len, h.addr, fun ad ha i e he => (hb.cell (World.block_lt_of_cell? w _ (h.cell ad ha i e he))).trans (h.cell ad ha i e he), fun i e y he hy => (h.ty i e y he hy).old hb⟩
def sigs (xs : List Tr) : ByteArray := cat (xs.map fun x => strOfNums (word x))
theorem sigs_take {xs : List Tr} {i : Nat} {x : Tr} (h : xs[i]? = some x) : sigs (xs.take (i + 1)) = sigs (xs.take i) ++ strOfNums (word x) := by
  unfold sigs
  rw [List.map_take, List.map_take]
  exact cat_take (by rw [List.getElem?_map, h]; rfl)
theorem sigs_le {xs : List Tr} (h : ∀ x ∈ xs, Gd x) : (sigs xs).size ≤ 255 * xs.length := by
  induction xs with
  | nil => exact Nat.zero_le _
  | cons x xs ih =>
    have h1 := (h x (by simp)).len
    have h2 := ih fun y hy => h y (by simp [hy])
    show (strOfNums (word x) ++ sigs xs).size ≤ _
    rw [ByteArray.size_append, strOf_size, List.length_cons]; omega
set_option maxHeartbeats 8000000 in
set_option maxRecDepth 100000 in
theorem sigOf.calls (A : Option Addr) (es : List (TypeId × Value)) (xs : List Tr) (c : Nat) (hc : es.length ≤ c) (hg : ∀ x ∈ xs, Gd x) (hn : xs.length ≤ 1000) (w : World) (hr : Row w A es xs) :
    Calls Tryd.prog 18 #[.slice A es.length c] w fun r w' => r = .returned (.agg #[.string (sigs xs)]) ∧ Below w.heap.size w w' := by
  have hem : es.length ≤ 1000 := by have := hr.len; omega
  have HR := Aside0.mk hr
  have HG := Aside0.mk hg
  clear hr hg
  go_enter Tryd.func18, Tryd.ntmps18
  go_wp2_with fail
  have hb0 : Below w.heap.size w (w.alloc (.cells #[.string ⟨#[]⟩] 42)) := (Below.refl _ w).alloc (Nat.le_refl _) _
  have hx0 : (w.alloc (.cells #[.string ⟨#[]⟩] 42)).heap[w.heap.size]? = some (.cells #[.string ⟨#[]⟩] 42) := heap_alloc_new w _
  generalize w.alloc (.cells #[.string ⟨#[]⟩] 42) = w0 at hb0 hx0 ⊢
  have HB0 := Aside0.mk hb0
  have HX0 := Aside0.mk hx0
  clear hb0 hx0
  go_loopw [3, 8] (fun s i wr => ∃ j : Nat, j ≤ es.length ∧ i = .int .i64 j ∧ s = .string (sigs (xs.take j)) ∧ Aside0 (Below w.heap.size w wr) ∧ Aside0 (wr.heap[w.heap.size]? = some (.cells #[.string ⟨#[]⟩] 42))) (fun _ i _ => es.length - (intOf i).toNat)
  case atStart => exact ⟨0, Nat.zero_le _, rfl, rfl, HB0, HX0⟩
  case round =>
    clear HB0 HX0
    obtain ⟨j, hj, rfl, rfl, HB, HX⟩ := hrel
    by_cases hlt : j < es.length
    · obtain ⟨⟨T, v⟩, hT⟩ : ∃ e, es[j]? = some e := ⟨_, List.getElem?_eq_getElem hlt⟩
      obtain ⟨x, hx⟩ : ∃ x, xs[j]? = some x := ⟨_, List.getElem?_eq_getElem (by have := HR.out.len; omega)⟩
      obtain ⟨ad, hA⟩ := HR.out.addr (by omega)
      have hcj : wr.cell? (ad.add j) = some (.iface T v) := by
        have h := HR.out.cell ad hA j _ hT
        exact (HB.out.cell (World.block_lt_of_cell? w _ h)).trans h
      have hg := HG.out x (List.mem_of_getElem? hx)
      have HT := Aside0.mk (typeOf.calls (HR.out.ty j (T, v) x hT hx) hg.wf (by have := hg.len; omega) wr HB.out)
      have HS := Aside0.mk fun b w hd => getSig.calls hg.wf hg.keys hg.fits hg.len b w hd
      have HCT := Aside0.mk (sigs_take hx)
      have hz1 : ¬ 9223372036854775807 < (sigs (xs.take j)).size + (strOfNums (word x)).size := by
        have h1 : (sigs (xs.take j)).size ≤ 255 * (xs.take j).length := sigs_le fun y hy => HG.out y (List.mem_of_mem_take hy)
        rw [List.length_take] at h1
        have := hg.len
        have := HR.out.len
        rw [strOf_size]
        omega
      have HLT := Aside0.mk hlt
      subst hA
      clear hT hx hg
      go_wp2_with fail
      refine (HT.out).mono ?_
      rintro r w3 ⟨rfl, hb3⟩
      have HB := Aside0.mk (HB.out.trans (hb3.mono HB.out.size))
      have HX := Aside0.mk (boxed_block HX.out hb3)
      clear hb3 hcj
      go_wp2_with fail
      refine (HS.out w3.heap.size _ (Dc.fresh _ _ _ _ _)).mono ?_
      rintro r w4 ⟨rfl, hb4⟩
      have hbn := (Below.refl w3.heap.size w3).alloc (Nat.le_refl _) (.cells #[.int .i64 0, .int .i64 0, .int .i64 0] 61)
      have HX := Aside0.mk (boxed_block (boxed_block HX.out hbn) hb4)
      have HB := Aside0.mk ((HB.out.trans (hbn.mono HB.out.size)).trans (hb4.mono (by have := HB.out.size; simp; omega)))
      clear hb4 hbn
      go_wp2_with fail
      go_roundw
      case rel => exact ⟨j + 1, by have := HLT.out; omega, by go_num, by rw [HCT.out], HB, HX⟩
      case measure => have := HLT.out; simp [intOf]; omega
    · obtain rfl : j = es.length := by omega
      have hz : sigs (xs.take es.length) = sigs xs := by rw [HR.out.len, List.take_length]
      rw [hz]
      have c1 : wr.cell? ⟨w.heap.size, 0, none⟩ = some (.string ⟨#[]⟩) := (blk_cell HX.out 0).trans rfl
      have f1 := blk_frozen HX.out 0
      go_wp2_with fail
      refine bodyPost_ret (v := .agg #[.string (sigs xs)]) (by simp [results, go_sem, c1]) rfl ⟨rfl, HB.out.setCell (p := ⟨w.heap.size, 0, none⟩) (Nat.le_refl _) _⟩
end Go.Proofs.YtnojjfklnihmnaaDoor.Given
end
