/- What the program's functions answer at the words of trees. -/
import Derived.Test.YthkblpbabcibcaaSgB
import Derived.Test.YthkblpbabcibcaaGvSg
namespace Go.Proofs.Ythkblpbabcibcaa.SgT
open Go.RowKit Go.Proofs.YthkblpbabcibcaaW.PrintWords Go.Proofs.Ythkblpbabcibcaa.Given Go.Proofs.Ythkblpbabcibcaa.Pl Go.Proofs.Ythkblpbabcibcaa.Utf Go.Proofs.Ythkblpbabcibcaa.By

theorem str_of {s : ByteArray} {l : List Int} (h : bytesOf s = l) : s = strOfNums l := by rw [← h, str_bytes]

theorem vs_word {s : ByteArray} {x : Tr} {rest : List Int} (hx : wf x true) (h : bytesOf s = word x ++ rest) {k : Nat} (hk : s.size < k) (a t d : Int) :
    vs k s a t d = if fits x a t d = true then some (strOfNums rest) else none := by
  have h1 := vs_list k s a t d
  have hl : (word x).length < k := by
    have := congrArg List.length h
    rw [bytesOf_length, List.length_append] at this; omega
  rw [h, (vsL_word x).1 hx k rest a t d hl] at h1
  cases hv : vs k s a t d with
  | none =>
    rw [hv] at h1
    cases hf : fits x a t d with
    | false => rfl
    | true => rw [hf] at h1; cases h1
  | some r =>
    rw [hv] at h1
    cases hf : fits x a t d with
    | false => rw [hf] at h1; cases h1
    | true =>
      rw [hf] at h1
      simp only [Option.map_some, if_true, Option.some.injEq] at h1 ⊢
      exact str_of h1

theorem vs_tree {s r : ByteArray} {k : Nat} {a t d : Int} (hb : NoBad (bytesOf s)) (h : vs k s a t d = some r) : ∃ x, wf x true ∧ bytesOf s = word x ++ bytesOf r := by
  have h1 := vs_list k s a t d
  rw [h] at h1
  exact vsL_tree k _ _ a t d hb h1.symm

theorem begin_word {s : ByteArray} {x : Tr} {rest : List Int} (hx : wf x true) (h : bytesOf s = word x ++ rest) (hs : s.size ≤ 255) {a t d : Int} (ha : 0 ≤ a) (ht : 0 ≤ t) (hd : 0 ≤ d) :
    SgBegin.f s a t d = some (if fits x a t d = true then strOfNums rest else ⟨#[]⟩, fits x a t d) := by
  rw [SgBegin.f, if_pos ⟨hs, ha, ht, hd⟩, vs_word hx h (by omega) a t d]
  cases fits x a t d <;> rfl

theorem begin_y : SgBegin.f (⟨#[121]⟩ : ByteArray) 0 0 0 = some (⟨#[]⟩, true) :=
  begin_word (x := .lone 121) (rest := []) ⟨rfl, by decide⟩ rfl (by decide) (by decide) (by decide) (by decide)

theorem psOk_words {s : ByteArray} {xs : Tr} (hx : wf xs false) (h : bytesOf s = word xs) : psOk s = (decide (s.size ≤ 255) && fits xs 0 0 0) := by
  rw [psOk]
  by_cases hs : s.size ≤ 255
  · rw [vsAll_list (gL := fun y => vsL 256 y 0 0 0) (fun s => vs_list 256 s 0 0 0), h]
    have hl := congrArg List.length h
    rw [bytesOf_length] at hl
    rw [(vsL_word xs).2 hx 256 s.size 0 0 0 (by omega) (by omega)]
  · rw [decide_eq_false hs]; rfl

theorem parse_lone (c : UInt8) (h : Given.lone (c.toNat : Int) = true) : SgParse.f (⟨#[c]⟩ : ByteArray) = some (⟨#[c]⟩, true) := by
  have hp : psOk (⟨#[c]⟩ : ByteArray) = true := by
    rw [psOk_words (xs := .cons (.lone (c.toNat : Int)) .nil) ⟨rfl, ⟨rfl, h⟩, rfl⟩ rfl]
    rfl
  rw [SgParse.f, hp]; rfl

/-- Every letter of what is taken is a letter of types. -/
def letter (c : Int) : Bool := Given.lone c || c == 97 || c == 40 || c == 41 || c == 123 || c == 125
end Go.Proofs.Ythkblpbabcibcaa.SgT
