/- The inner reader takes what the specification's reader takes: the plain law. -/
import Derived.Test.YthkblpbabcibcaaPSgx5
import Derived.Test.YthkblpbabcibcaaSgF
import Derived.Test.YthkblpbabcibcaaSgL
import Derived.Test.YthkblpbabcibcaaSgM
namespace Go.Proofs.Ythkblpbabcibcaa.Pure
open Go.RowKit Go.Proofs.Ythkblpbabcibcaa.PSg Go.Proofs.YthkblpbabcibcaaW.PrintWords Go.Proofs.YthkblpbabcibcaaW.PrintLast Go.Proofs.Ythkblpbabcibcaa.SgT Go.Proofs.Ythkblpbabcibcaa.Pl Go.Proofs.Ythkblpbabcibcaa.By

theorem begin_true (s : ByteArray) (a b c : Int) : Ev (fun k => laws_FnSgBegin.j0 k s a b c true) true := by
  refine Ev_up ?_
  simp only [laws_FnSgBegin.j0, if_true]
  exact Ev.now _

theorem begin_rest (s : ByteArray) (a t d : Int) (hs : s.size ≤ 255) (ha : 0 ≤ a) (ha2 : a ≤ 40) (ht : 0 ≤ t) (ht2 : t ≤ 40) (hd : 0 ≤ d) (hd2 : d ≤ 40) (hb : NoBad (bytesOf s)) : Ev (fun k => laws_FnSgBegin.j0 k s a t d false) true := by
  refine Ev_up ?_
  simp only [laws_FnSgBegin.j0, if_neg (show ¬ (false = true) by decide), w64 (x := a) (by omega) (by omega), w64 (x := t) (by omega) (by omega), w64 (x := d) (by omega) (by omega), w64 (x := 32 - a) (by omega) (by omega), w64 (x := 32 - t) (by omega) (by omega), w64 (x := 32 - d) (by omega) (by omega)]
  refine Ev.bind (complete_all (s.size + 1) s (32 - a) (32 - t) (32 - d) (by omega) (by omega) (by omega) (by omega) (by omega) (by omega) (by omega) (by omega)) ?_
  by_cases hn : cmpL (s.size + 1) (bytesOf s) (32 - a) (32 - t) (32 - d) = 0
  · have hv : Given.vs 256 s a t d = none := by
      cases hv : Given.vs 256 s a t d with
      | none => rfl
      | some r =>
        obtain ⟨x, hx, e⟩ := vs_tree hb hv
        have hl := congrArg List.length e
        rw [bytesOf_length, List.length_append] at hl
        have h1 := vs_word hx e (k := 256) (by omega) a t d
        rw [hv] at h1
        cases hf : fits x a t d with
        | false => rw [hf] at h1; cases h1
        | true =>
          have h2 := (cmpL_word x).1 hx (s.size + 1) (bytesOf r) (32 - a) (32 - t) (32 - d) (by omega)
          rw [← e, hn, show 32 - (32 - a) = a by omega, show 32 - (32 - t) = t by omega, show 32 - (32 - d) = d by omega, if_pos hf] at h2
          have := word_len hx
          omega
    rw [hn, begin_y, Given.SgBegin.f, if_pos ⟨hs, ha, ht, hd⟩, hv]
    simp only [Option.bind_some, Option.isSome_none, show decide (((0 : Nat) : Int) > 0) = false from rfl, beq_self_eq_true, if_true, if_neg (show ¬ (false = true) by decide)]
    exact Ev_some (by rw [toList_nil.mpr (show (⟨#[]⟩ : ByteArray).size = 0 from rfl)]; rfl)
  · obtain ⟨x, hx, rest, e, el⟩ := cmpL_tree _ _ _ _ _ hn
    have hl := congrArg List.length e
    rw [bytesOf_length, List.length_append] at hl
    have h2 := (cmpL_word x).1 hx (s.size + 1) rest (32 - a) (32 - t) (32 - d) (by omega)
    rw [← e, show 32 - (32 - a) = a by omega, show 32 - (32 - t) = t by omega, show 32 - (32 - d) = d by omega] at h2
    have hf : fits x a t d = true := by
      cases hf : fits x a t d with
      | true => rfl
      | false => rw [hf] at h2; exact absurd h2 hn
    have hw := word_len hx
    rw [el, begin_y, begin_word hx e hs ha ht hd, hf]
    have h3 : (strOfNums rest).toList = (s.extract (word x).length s.size).toList := by
      apply toList_of_bytes
      rw [bytesOf_from, e, List.drop_left]
      have : strOfNums rest = s.extract (word x).length s.size := by
        rw [str_of (s := s.extract (word x).length s.size) (by rw [bytesOf_from, e, List.drop_left])]
      rw [this, bytesOf_from, e, List.drop_left]
    simp only [Option.bind_some, if_true, decide_eq_true (show ((word x).length : Int) > 0 by omega), if_pos (show (0 : Int) ≤ ((word x).length : Int) by omega), if_pos (show ((word x).length : Int) ≤ (s.size : Int) by omega), Int.toNat_natCast, if_pos h3, beq_self_eq_true]
    exact Ev_some (by rw [toList_nil.mpr (show (⟨#[]⟩ : ByteArray).size = 0 from rfl)]; rfl)

theorem FnSgBegin : laws_FnSgBegin.Pure := by
  intro s a t d hs ha ht hd
  have ra := u8_range ha
  have rt := u8_range ht
  have rd' := u8_range hd
  refine Ev.rounds ?_
  unfold laws_FnSgBegin.f
  split
  · exact Ev.now _
  split
  · exact begin_true _ _ _ _
  split
  · exact begin_true _ _ _ _
  split
  · exact begin_true _ _ _ _
  split
  · exact begin_true _ _ _ _
  obtain ⟨b, hb, hf⟩ := left_says s (by omega)
  refine Ev.bind hb ?_
  cases b with
  | true => exact begin_true _ _ _ _
  | false => exact begin_rest s a t d (by omega) ra.1 (by omega) rt.1 (by omega) rd'.1 (by omega) (hf rfl)

end Go.Proofs.Ythkblpbabcibcaa.Pure
