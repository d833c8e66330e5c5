/- Neither the cut nor the buffer's room parts what is read: the plain law. -/
import Derived.Test.YtdooimdefmegaaaDoorPWpx1
namespace Go.Proofs.YtdooimdefmegaaaDoor.Pure
open Go.RowKit Go.Proofs.YtdooimdefmegaaaDoor.PWp Go.Proofs.YtdooimdefmegaaaDoor.Given Go.Proofs.YtdooimdefmegaaaDoorW.PrintWords Go.Proofs.YtdooimdefmegaaaDoorW.PrintLast

theorem pw64 {x : Int} (h1 : -9223372036854775808 ≤ x) (h2 : x ≤ 9223372036854775807) : wrap64 x = x := by
  unfold wrap64; omega
theorem bytes_app (a b : ByteArray) : bytesOf (a ++ b) = bytesOf a ++ bytesOf b := by
  unfold bytesOf; simp [ByteArray.data_append]
theorem flat_up (l : List ByteArray) (i : Nat) (h : i < l.length) : flat (l.take (i + 1)) = flat (l.take i) ++ bytesOf (rdOf ByteArray.empty l (i : Int)) := by
  have e : rdOf ByteArray.empty l (i : Int) = l[i] := by simp [rdOf, h]
  rw [e, List.take_add_one, List.getElem?_eq_getElem h]
  unfold flat
  simp only [Option.toList_some, List.map_append, List.map_cons, List.map_nil, List.flatten_append, List.flatten_cons, List.flatten_nil, List.append_nil]

theorem fits_some (l : List ByteArray) (hl : l.length ≤ 2147483647) : ∀ k i : Nat, i ≤ l.length → l.length - i < k → ∃ b, laws_zzFits5.l0 k l (l.length : Int) (i : Int) = some b
  | 0, _, _, h => absurd h (by omega)
  | k + 1, i, hi, h => by
    unfold laws_zzFits5.l0
    by_cases c : (i : Int) < (l.length : Int)
    · rw [if_pos c, if_pos (by omega), if_pos c]
      split
      · exact ⟨_, rfl⟩
      · rw [pw64 (by omega) (by omega), show ((i : Int) + 1) = ((i + 1 : Nat) : Int) by omega]
        exact fits_some l hl k (i + 1) (by omega) (by omega)
    · rw [if_neg c]
      exact ⟨_, rfl⟩

theorem out_snd (D : List Int) (r n : Nat) : (rfOut D r n).2 = decide (n ≤ D.length) := by
  unfold rfOut
  split
  · rename_i h; simp [h]
  · rename_i h
    split <;> simp [h]
theorem out_fst (D : List Int) (r n : Nat) (h : n ≤ D.length) : (rfOut D r n).1 = D.take n := by
  unfold rfOut; rw [if_pos h]
theorem full_some (P : List ByteArray) (room n : Int) (h0 : 0 ≤ room) (h1 : room ≤ 65535) (h2 : 0 ≤ n) (h3 : n ≤ 65535) (hP : P.length ≤ 100) :
    WrFull.f P room n = some (strOfNums (rfOut (flat P) room.toNat n.toNat).1, (rfOut (flat P) room.toNat n.toNat).2) := by
  unfold WrFull.f
  exact if_pos ⟨h0, by omega, h2, by omega, by omega⟩

theorem loop_true (l : List ByteArray) (a1 a2 a3 : Int) (hl : l.length ≤ 100) (h1 : 0 ≤ a1 ∧ a1 ≤ 65535) (h2 : 0 ≤ a2 ∧ a2 ≤ 65535) (h3 : 0 ≤ a3 ∧ a3 ≤ 65535) :
    ∀ (k i : Nat) (x : ByteArray), i ≤ l.length → l.length - i < k → bytesOf x = flat (l.take i) → x.size ≤ 1024 * i → laws_FnWrFullPieces.l0 k l a1 a2 a3 x (i : Int) = some true
  | 0, _, _, _, h, _, _ => absurd h (by omega)
  | k + 1, i, x, hi, h, hx, hs => by
    unfold laws_FnWrFullPieces.l0
    by_cases c : (i : Int) < (l.length : Int)
    · rw [if_pos c, if_pos (by omega)]
      by_cases c2 : ((rdOf ByteArray.empty l (i : Int)).size : Int) > 1024
      · rw [if_pos c2]
      · rw [if_neg c2, if_pos (by omega), pw64 (by omega) (by omega), show ((i : Int) + 1) = ((i + 1 : Nat) : Int) by omega]
        refine loop_true l a1 a2 a3 hl h1 h2 h3 k (i + 1) _ (by omega) (by omega) ?_ ?_
        · rw [bytes_app, hx, flat_up l i (by omega)]
        · rw [ByteArray.size_append]; omega
    · rw [if_neg c]
      have e : i = l.length := by omega
      rw [e, List.take_length] at hx
      have h0 : wrap64 a1 = a1 := pw64 (by omega) (by omega)
      have h4 : wrap64 a2 = a2 := pw64 (by omega) (by omega)
      have h5 : wrap64 a3 = a3 := pw64 (by omega) (by omega)
      have hf : flat [x] = flat l := by
        rw [← hx]; unfold flat; simp
      have hthree : (rfOut (flat [(⟨#[97, 98]⟩ : ByteArray), (⟨#[99]⟩ : ByteArray)]) (1 : Int).toNat (3 : Int).toNat).2 = true := by decide
      rw [h0, h4, h5, full_some l a1 a3 h1.1 h1.2 h3.1 h3.2 hl, full_some [x] a2 a3 h2.1 h2.2 h3.1 h3.2 (by simp), full_some [(⟨#[97, 98]⟩ : ByteArray), (⟨#[99]⟩ : ByteArray)] 1 3 (by omega) (by omega) (by omega) (by omega) (by simp), hf]
      simp only [Option.bind_some, hthree]
      rw [out_snd, out_snd, if_pos (by simp)]
      by_cases c3 : a3.toNat ≤ (flat l).length
      · rw [if_pos (by simp [c3]), out_fst _ _ _ c3, out_fst _ _ _ c3, if_pos rfl]
      · rw [if_neg (by simp [c3])]

theorem FnWrFullPieces (l : List ByteArray) (a1 a2 a3 : Int) (w1 : (Lit.int .u16 a1).wf = true) (w2 : (Lit.int .u16 a2).wf = true) (w3 : (Lit.int .u16 a3).wf = true) :
    ∃ k, laws_FnWrFullPieces.f k l a1 a2 a3 = some true := by
  have range : ∀ {x : Int}, (Lit.int .u16 x).wf = true → 0 ≤ x ∧ x ≤ 65535 := by
    intro x h
    have e1 : IntKind.u16.min = 0 := rfl
    have e2 : IntKind.u16.max = 65535 := rfl
    simp only [Lit.wf, e1, e2, Bool.and_eq_true, decide_eq_true_eq] at h; exact h
  refine ⟨l.length + 1, ?_⟩
  unfold laws_FnWrFullPieces.f laws_zzFits5.f
  by_cases c : (l.length : Int) > 2147483647
  · rw [if_pos c]; rfl
  · rw [if_neg c]
    obtain ⟨b, hb⟩ := fits_some l (by omega) (l.length + 1) 0 (by omega) (by omega)
    rw [show (0 : Int) = ((0 : Nat) : Int) from rfl, hb]
    rw [Option.bind_some]
    by_cases c2 : b = true
    · rw [if_pos c2]
      by_cases c3 : (l.length : Int) > 100
      · rw [if_pos c3]
      · rw [if_neg c3]
        exact loop_true l a1 a2 a3 (by omega) (range w1) (range w2) (range w3) (l.length + 1) 0 ⟨#[]⟩ (by omega) (by omega) rfl (Nat.zero_le _)
    · rw [if_neg c2]
end Go.Proofs.YtdooimdefmegaaaDoor.Pure
