/- The specification's Types, over trees. -/
import Derived.Test.YthkblpbabcibcaaDoorPWax3
import Derived.Test.YthkblpbabcibcaaDoorSgF
namespace Go.Proofs.YthkblpbabcibcaaDoor.SgT
open Go.RowKit Go.Proofs.YthkblpbabcibcaaDoor.PWa Go.Proofs.YthkblpbabcibcaaDoorW.PrintWords Go.Proofs.YthkblpbabcibcaaDoorW.PrintLast Go.Proofs.YthkblpbabcibcaaDoor.Pl Go.Proofs.YthkblpbabcibcaaDoor.By

theorem str_of {s : ByteArray} {l : List Int} (h : bytesOf s = l) : s = strOfNums l := by rw [← h, str_bytes]

/-- A type that stands about nothing too deep. -/
def Good (x : Tr) : Prop := wf x true ∧ fits x 0 0 0 = true
def words (xs : List Tr) : List Int := (xs.map word).flatten
def texts (xs : List Tr) : List ByteArray := xs.map fun x => strOfNums (word x)

theorem types_loop : ∀ (n : Nat) (s : ByteArray) (acc : List ByteArray), s.size < n → s.size ≤ 255 → acc.length + s.size ≤ 1000 → ∃ R, Ev (fun k => spec_Types.l0 k s acc) R ∧ (R.2 = true → ∃ xs : List Tr, (∀ x ∈ xs, Good x) ∧ bytesOf s = words xs ∧ R.1 = acc ++ texts xs) := by
  intro n
  induction n with
  | zero => intro s acc h; omega
  | succ n ih =>
    intro s acc h hs hacc
    by_cases h0 : s.size = 0
    · refine ⟨(acc, true), Ev_up ?_, fun _ => ⟨[], by simp, bytesOf_nil.mpr h0, by simp [texts]⟩⟩
      simp only [spec_Types.l0, if_pos (Pl.toList_nil.mpr h0)]
      exact Ev.now _
    · have hnl : ¬ s.toList = ([] : List UInt8) := fun e => h0 (Pl.toList_nil.mp e)
      have hc := complete_all (s.size + 1) s 32 32 32 (by omega) (by omega) (by omega) (by omega) (by omega) (by omega) (by omega) (by omega)
      by_cases hn : cmpL (s.size + 1) (bytesOf s) 32 32 32 = 0
      · refine ⟨([], false), Ev_up ?_, fun e => by cases e⟩
        simp only [spec_Types.l0, if_neg hnl, spec_complete.f]
        rw [hn] at hc
        refine Ev.bind (a := (0 : Int)) (Ev.bind hc (Ev.now _)) ?_
        exact Ev.now _
      · obtain ⟨x, hx, rest, e, el⟩ := cmpL_tree _ _ _ _ _ hn
        have hl := congrArg List.length e
        rw [bytesOf_length, List.length_append] at hl
        have h2 := (cmpL_word x).1 hx (s.size + 1) rest 32 32 32 (by omega)
        rw [← e] at h2
        have hf : fits x 0 0 0 = true := by
          cases hf : fits x 0 0 0 with
          | true => rfl
          | false => rw [show (32 : Int) - 32 = 0 from rfl, hf] at h2; exact absurd h2 hn
        have hw := word_len hx
        have eb : bytesOf (s.extract (word x).length s.size) = rest := by rw [bytesOf_from, e, List.drop_left]
        have ea : s.extract 0 (word x).length = strOfNums (word x) := str_of (by rw [bytesOf_extract, e, List.take_left, List.drop_zero])
        have hsz : (s.extract (word x).length s.size).size = s.size - (word x).length := by rw [ByteArray.size_extract]; omega
        obtain ⟨R, hR, hRx⟩ := ih (s.extract (word x).length s.size) (acc ++ [strOfNums (word x)]) (by omega) (by omega) (by rw [List.length_append]; simp; omega)
        refine ⟨R, Ev_up ?_, fun h => ?_⟩
        · simp only [spec_Types.l0, if_neg hnl, spec_complete.f]
          rw [el] at hc
          refine Ev.bind (a := ((word x).length : Int)) (Ev.bind hc (Ev.now _)) ?_
          simp only [if_neg (show ¬ ((word x).length : Int) = 0 by omega), if_pos (show (0 : Int) ≤ ((word x).length : Int) by omega), if_pos (show ((word x).length : Int) ≤ (s.size : Int) by omega), if_pos (show acc.length < 8796093022208 by omega), Int.toNat_natCast, ea]
          exact hR
        · obtain ⟨xs, hxs, e1, e2⟩ := hRx h
          refine ⟨x :: xs, ?_, ?_, ?_⟩
          · intro z hz
            rcases List.mem_cons.mp hz with rfl | hz
            · exact ⟨hx, hf⟩
            · exact hxs z hz
          · rw [e, ← eb, e1]; rfl
          · rw [e2, List.append_assoc]; rfl

theorem types_all (s : ByteArray) : ∃ R, Ev (fun k => spec_Types.f k s) R ∧ (R.2 = true → s.size ≤ 255 ∧ ∃ xs : List Tr, (∀ x ∈ xs, Good x) ∧ bytesOf s = words xs ∧ R.1 = texts xs) := by
  unfold spec_Types.f
  split
  · exact ⟨_, Ev.now _, fun e => by cases e⟩
  · obtain ⟨R, hR, hx⟩ := types_loop (s.size + 1) s [] (by omega) (by omega) (by simp; omega)
    exact ⟨R, hR, fun h => ⟨by omega, by simpa using hx h⟩⟩

/-- The list as one tree. -/
def listTr : List Tr → Tr
  | [] => .nil
  | x :: xs => .cons x (listTr xs)
theorem listTr_word : ∀ xs, word (listTr xs) = words xs := by
  intro xs
  induction xs with
  | nil => rfl
  | cons x xs ih => rw [listTr, word, ih]; rfl
theorem listTr_good : ∀ xs, (∀ x ∈ xs, Good x) → wf (listTr xs) false ∧ fits (listTr xs) 0 0 0 = true := by
  intro xs
  induction xs with
  | nil => intro _; exact ⟨rfl, rfl⟩
  | cons x xs ih =>
    intro h
    obtain ⟨h1, h2⟩ := ih fun z hz => h z (by simp [hz])
    have h0 := h x (by simp)
    exact ⟨⟨rfl, h0.1, h1⟩, by rw [listTr, fits, h0.2, h2]; rfl⟩
end Go.Proofs.YthkblpbabcibcaaDoor.SgT
