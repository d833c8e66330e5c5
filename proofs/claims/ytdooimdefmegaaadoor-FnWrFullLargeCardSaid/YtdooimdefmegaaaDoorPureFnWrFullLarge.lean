/- Large texts, in pieces of any lengths, through a buffer of any room: the plain law. -/
import Derived.Test.YtdooimdefmegaaaDoorPWfx2
import Derived.Laws.Strings
namespace Go.Proofs.YtdooimdefmegaaaDoor.PureL
open Go.RowKit Go.Proofs.YtdooimdefmegaaaDoor.PWf Go.Proofs.YtdooimdefmegaaaDoor.Given Go.Proofs.YtdooimdefmegaaaDoorW.PrintWords Go.Proofs.YtdooimdefmegaaaDoorW.PrintLast Go.Proofs.YtdooimdefmegaaaDoorW.PrintMore

theorem pw64 {x : Int} (h1 : -9223372036854775808 ≤ x) (h2 : x ≤ 9223372036854775807) : wrap64 x = x := by
  unfold wrap64; omega
theorem str_bytes (s : ByteArray) : strOfNums (bytesOf s) = s := by
  have e : (fun b : UInt8 => UInt8.ofNat ((b.toNat : Int)).toNat) = id := by funext b; simp
  unfold strOfNums bytesOf
  rw [List.map_map]
  show ByteArray.mk (List.map (fun b : UInt8 => UInt8.ofNat ((b.toNat : Int)).toNat) s.data.toList).toArray = s
  rw [e, List.map_id]
theorem bytes_extract (s : ByteArray) (i j : Nat) : bytesOf (s.extract i j) = ((bytesOf s).drop i).take (j - i) := by
  unfold bytesOf
  rw [ByteArray.data_extract, Array.toList_extract, List.extract_eq_take_drop, List.map_take, List.map_drop]
theorem bytes_cut (s : ByteArray) (j : Nat) : bytesOf (s.extract 0 j) ++ bytesOf (s.extract j s.size) = bytesOf s := by
  rw [bytes_extract, bytes_extract, List.take_of_length_le (l := (bytesOf s).drop j) (by rw [List.length_drop, bytesOf_length]; omega)]
  simp
theorem toList_length (s : ByteArray) : s.toList.length = s.size := by rw [ByteArray.toList_eq, Array.length_toList]; rfl
theorem flat_end (acc : List ByteArray) (x : ByteArray) : flat (acc ++ [x]) = flat acc ++ bytesOf x := by
  unfold flat
  simp
theorem u16_range {x : Int} (h : (Lit.int .u16 x).wf = true) : 0 ≤ x ∧ x ≤ 65535 := by
  have e1 : IntKind.u16.min = 0 := rfl
  have e2 : IntKind.u16.max = 65535 := rfl
  simp only [Lit.wf, e1, e2, Bool.and_eq_true, decide_eq_true_eq] at h; exact h
theorem u8_range {x : Int} (h : (Lit.int .u8 x).wf = true) : 0 ≤ x ∧ x ≤ 255 := by
  have e1 : IntKind.u8.min = 0 := rfl
  have e2 : IntKind.u8.max = 255 := rfl
  simp only [Lit.wf, e1, e2, Bool.and_eq_true, decide_eq_true_eq] at h; exact h
theorem u32_range {x : Int} (h : (Lit.int .u32 x).wf = true) : 0 ≤ x ∧ x ≤ 4294967295 := by
  have e1 : IntKind.u32.min = 0 := rfl
  have e2 : IntKind.u32.max = 4294967295 := rfl
  simp only [Lit.wf, e1, e2, Bool.and_eq_true, decide_eq_true_eq] at h; exact h

theorem chunks_some (s : ByteArray) (l : List Int) (hl : ∀ x ∈ l, (Lit.int .u16 x).wf = true) (hs : s.size ≤ 262144) :
    ∀ (k : Nat) (x : ByteArray) (acc : List ByteArray) (i : Nat), x.size < k → flat acc ++ bytesOf x = bytesOf s → acc.length + x.size ≤ s.size → i ≤ acc.length →
      ∃ P, laws_wrChunks.l0 k x l acc (i : Int) = some P ∧ flat P = bytesOf s ∧ P.length ≤ s.size
  | 0, _, _, _, h, _, _, _ => absurd h (by omega)
  | k + 1, x, acc, i, h, hf, ha, hi => by
    unfold laws_wrChunks.l0
    by_cases c : x.toList = ([] : List UInt8)
    · rw [if_pos c]
      have hz : x.size = 0 := by rw [← toList_length, c]; rfl
      have hb : bytesOf x = [] := by rw [← List.length_eq_zero_iff, bytesOf_length]; exact hz
      rw [hb, List.append_nil] at hf
      exact ⟨acc, rfl, hf, by omega⟩
    · rw [if_neg c]
      have hpos : 0 < x.size := by
        rcases Nat.eq_zero_or_pos x.size with h0 | h0
        · exact absurd (List.length_eq_zero_iff.1 ((toList_length x).trans h0)) c
        · exact h0
      have go : ∀ j : Int, 1 ≤ j → j ≤ (x.size : Int) → ∃ P, (if 0 ≤ j then (if j ≤ (x.size : Int) then (if acc.length < 8796093022208 then (laws_wrChunks.l0 k (x.extract (j : Int).toNat x.size) l (acc ++ [x.extract 0 (j : Int).toNat]) (wrap64 ((i : Int) + 1))) else (none)) else (none)) else (none)) = some P ∧ flat P = bytesOf s ∧ P.length ≤ s.size := by
        intro j hj1 hj2
        rw [if_pos (by omega), if_pos hj2, if_pos (by omega), pw64 (by omega) (by omega), show ((i : Int) + 1) = ((i + 1 : Nat) : Int) by omega]
        have hsz : (x.extract j.toNat x.size).size = x.size - j.toNat := by rw [ByteArray.size_extract]; omega
        refine chunks_some s l hl hs k _ _ (i + 1) (by omega) ?_ ?_ ?_
        · rw [flat_end, List.append_assoc, bytes_cut, hf]
        · rw [List.length_append, List.length_singleton, hsz]; omega
        · rw [List.length_append, List.length_singleton]; omega
      by_cases c1 : (l.length : Int) > 0
      · rw [if_pos c1]
        by_cases c2 : (i : Int) < 4096
        · rw [if_pos c2, if_neg (by omega)]
          have t0 : 0 ≤ Int.tmod (i : Int) (l.length : Int) := Int.tmod_nonneg _ (by omega)
          have t1 : Int.tmod (i : Int) (l.length : Int) < (l.length : Int) := Int.tmod_lt_of_pos _ c1
          rw [if_pos t0, if_pos t1]
          generalize Int.tmod (i : Int) (l.length : Int) = q at t0 t1 ⊢
          have hq : q.toNat < l.length := by omega
          have hm : rd l q ∈ l := by
            unfold rd
            rw [List.getD_eq_getElem?_getD, List.getElem?_eq_getElem hq]
            exact List.getElem_mem hq
          have hr := u16_range (hl _ hm)
          generalize rd l q = y at hr ⊢
          rw [pw64 (x := y) (by omega) (by omega), pw64 (x := y + 1) (by omega) (by omega)]
          refine go _ ?_ ?_
          · unfold mn; split <;> omega
          · unfold mn; split <;> omega
        · rw [if_neg c2]
          exact go _ (by omega) (by omega)
      · rw [if_neg c1]
        exact go _ (by omega) (by omega)

theorem long_some (a1 : Int) (h1 : 0 ≤ a1 ∧ a1 ≤ 255) (n : Nat) (hn : n ≤ 262144) :
    ∀ (k : Nat) (b : List Int) (i : Nat), b.length = n → i ≤ n → n - i < k → ∃ s, laws_wrLong.l0 k a1 b (n : Int) (i : Int) = some s ∧ s.size = n
  | 0, _, _, _, _, h => absurd h (by omega)
  | k + 1, b, i, hb, hi, h => by
    unfold laws_wrLong.l0
    by_cases c : (i : Int) < (n : Int)
    · rw [if_pos c]
      have e1 : Int.tdiv (i : Int) 7 = ((i / 7 : Nat) : Int) := rfl
      have e2 : Int.tdiv (i : Int) 257 = ((i / 257 : Nat) : Int) := rfl
      rw [e1, e2, pw64 (x := ((i / 7 : Nat) : Int)) (by omega) (by omega), pw64 (x := ((i / 257 : Nat) : Int)) (by omega) (by omega), pw64 (x := a1) (by omega) (by omega),
        pw64 (x := (i : Int) + ((i / 7 : Nat) : Int)) (by omega) (by omega), pw64 (x := (i : Int) + ((i / 7 : Nat) : Int) + ((i / 257 : Nat) : Int)) (by omega) (by omega),
        pw64 (x := (i : Int) + ((i / 7 : Nat) : Int) + ((i / 257 : Nat) : Int) + a1) (by omega) (by omega)]
      rw [if_pos (Int.tmod_nonneg _ (by omega)), if_pos (Int.tmod_lt_of_pos _ (by decide)), if_pos (by omega), if_pos (by omega), pw64 (x := (i : Int) + 1) (by omega) (by omega), show ((i : Int) + 1) = ((i + 1 : Nat) : Int) by omega]
      exact long_some a1 h1 n hn k _ (i + 1) (by rw [List.length_set]; exact hb) (by omega) (by omega)
    · rw [if_neg c]
      exact ⟨_, rfl, by rw [strOfNums_size]; exact hb⟩

theorem out_snd (D : List Int) (r n : Nat) : (rfOut D r n).2 = decide (n ≤ D.length) := by
  unfold rfOut
  split
  · rename_i h; simp [h]
  · rename_i h
    split <;> simp [h]
theorem out_fst (D : List Int) (r n : Nat) (h : n ≤ D.length) : (rfOut D r n).1 = D.take n := by
  unfold rfOut; rw [if_pos h]

theorem full_some (P : List ByteArray) (room n : Int) (h0 : 0 ≤ room) (h1 : room ≤ 1048576) (h2 : 0 ≤ n) (h3 : n ≤ 1048576) (hP : P.length ≤ 1099511627776) :
    WrFull.f P room n = some (strOfNums (rfOut (flat P) room.toNat n.toNat).1, (rfOut (flat P) room.toNat n.toNat).2) := by
  unfold WrFull.f
  exact if_pos ⟨h0, h1, h2, h3, hP⟩

theorem last_true (a0 a1 a2 a3 : Int) (l : List Int) (h0 : 0 ≤ a0 ∧ a0 ≤ 262144) (h1 : 0 ≤ a1 ∧ a1 ≤ 262144) (h2 : 0 ≤ a2 ∧ a2 ≤ 524288) (h3 : 0 ≤ a3 ∧ a3 ≤ 255) (hl : ∀ x ∈ l, (Lit.int .u16 x).wf = true) :
    laws_FnWrFullLarge.j0 (a0.toNat + 1 + 1) a0 a1 a2 a3 l false = some true := by
  generalize hK : a0.toNat + 1 = K
  unfold laws_FnWrFullLarge.j0
  dsimp only
  rw [if_neg (by decide), pw64 (x := a0) (by omega) (by omega), pw64 (x := a1) (by omega) (by omega), pw64 (x := a2) (by omega) (by omega)]
  obtain ⟨s, hs, hz⟩ := long_some a3 h3 a0.toNat (by omega) K (List.replicate a0.toNat 0) 0 (by rw [List.length_replicate]) (by omega) (by omega)
  have hlong : laws_wrLong.f K a0 a3 = some s := by
    unfold laws_wrLong.f
    rw [if_pos h0.1, if_pos (by omega), Option.bind_some, List.length_replicate]
    exact hs
  obtain ⟨P, hP, hfl, hlen⟩ := chunks_some s l hl (by omega) K s [] 0 (by omega) (by simp [flat]) (by simp) (by simp)
  have hch : laws_wrChunks.f K s l = some P := hP
  have hthree : (rfOut (flat [(⟨#[97, 98]⟩ : ByteArray), (⟨#[99]⟩ : ByteArray)]) (1 : Int).toNat (3 : Int).toNat).2 = true := by decide
  rw [hlong, Option.bind_some, hch, Option.bind_some, full_some P a1 a2 h1.1 (by omega) h2.1 (by omega) (by omega),
    full_some [(⟨#[97, 98]⟩ : ByteArray), (⟨#[99]⟩ : ByteArray)] 1 3 (by omega) (by omega) (by omega) (by omega) (by simp), Option.bind_some, Option.bind_some, hfl]
  have hD : (bytesOf s).length = a0.toNat := by rw [bytesOf_length]; exact hz
  simp only [hthree, if_true]
  rw [out_snd, hD]
  have hdec : decide (a2.toNat ≤ a0.toNat) = decide (a2 ≤ a0) := decide_eq_decide.2 (by omega)
  rw [hdec, if_pos (beq_self_eq_true _)]
  by_cases c : a2 ≤ a0
  · rw [if_pos (decide_eq_true c), if_pos h2.1, if_pos (by omega), out_fst _ _ _ (by rw [hD]; omega)]
    have e : strOfNums ((bytesOf s).take a2.toNat) = s.extract 0 a2.toNat := by
      have e2 : (bytesOf s).take a2.toNat = bytesOf (s.extract 0 a2.toNat) := by rw [bytes_extract]; simp
      rw [e2, str_bytes]
    rw [e, beq_self_eq_true]
  · rw [if_neg (by simp [c])]

end Go.Proofs.YtdooimdefmegaaaDoor.PureL
namespace Go.Proofs.YtdooimdefmegaaaDoor.Pure
open Go.RowKit Go.Proofs.YtdooimdefmegaaaDoor.PWf Go.Proofs.YtdooimdefmegaaaDoor.PureL

theorem FnWrFullLarge : laws_FnWrFullLarge.Pure := by
  intro a0 a1 a2 a3 l4 w0 w1 w2 w3 _ _ w4
  have r0 := u32_range w0
  have r1 := u32_range w1
  have r2 := u32_range w2
  have r3 := u8_range w3
  refine ⟨a0.toNat + 1 + 1, ?_⟩
  have early : laws_FnWrFullLarge.j0 (a0.toNat + 1 + 1) a0 a1 a2 a3 l4 true = some true := by
    unfold laws_FnWrFullLarge.j0
    exact if_pos rfl
  unfold laws_FnWrFullLarge.f
  split
  · rfl
  split
  · exact early
  split
  · exact early
  split
  · exact early
  by_cases c : (l4.length : Int) > 100
  · rw [decide_eq_true c]; exact early
  · rw [decide_eq_false c]
    exact last_true a0 a1 a2 a3 l4 ⟨r0.1, by omega⟩ ⟨r1.1, by omega⟩ ⟨r2.1, by omega⟩ r3 w4
end Go.Proofs.YtdooimdefmegaaaDoor.Pure
