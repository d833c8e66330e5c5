/- Letters of basic types are a signature just if they are at most 255: the plain law. -/
import Derived.Test.YthkblpbabcibcaaPSgx1
import Derived.Test.YthkblpbabcibcaaSgM
import Derived.Test.YthkblpbabcibcaaSgA
namespace Go.Proofs.Ythkblpbabcibcaa.Pure
open Go.RowKit Go.Proofs.Ythkblpbabcibcaa.PSg Go.Proofs.YthkblpbabcibcaaW.PrintWords Go.Proofs.YthkblpbabcibcaaW.PrintLast Go.Proofs.Ythkblpbabcibcaa.SgT Go.Proofs.Ythkblpbabcibcaa.Pl Go.Proofs.Ythkblpbabcibcaa.By

/-- A list of types that are letters. -/
def lones : List Int → Tr
  | [] => .nil
  | c :: r => .cons (.lone c) (lones r)
theorem lones_word : ∀ l : List Int, word (lones l) = l := by
  intro l
  induction l with
  | nil => rfl
  | cons c r ih => rw [lones, word, ih]; rfl
theorem lones_wf : ∀ l : List Int, (∀ c ∈ l, Given.lone c = true) → wf (lones l) false := by
  intro l
  induction l with
  | nil => intro _; rfl
  | cons c r ih => intro h; exact ⟨rfl, ⟨rfl, h c (by simp)⟩, ih fun z hz => h z (by simp [hz])⟩
theorem lones_fits : ∀ l : List Int, fits (lones l) 0 0 0 = true := by
  intro l
  induction l with
  | nil => rfl
  | cons c r ih => rw [lones, fits, ih]; rfl

theorem length_basic (c : Int) (h : spec_Basic.f c = some true) : Given.lone c = true := by
  rw [basic_f] at h
  exact basic_lone (Option.some.inj h)

theorem length_loop (n : Int) (l : List Int) (hn : 0 ≤ n) (hn2 : n ≤ 2000) (hl : 0 < l.length) (hl2 : l.length ≤ 100) (hb : ∀ x ∈ l, 0 ≤ x ∧ x ≤ 255) :
    ∀ (m : Nat) (x : List Int), (x.length : Int) ≤ n → n - x.length < m → (∀ c ∈ x, Given.lone c = true) → (∀ c ∈ x, 0 ≤ c ∧ c ≤ 255) → Ev (fun k => laws_FnSgLength.l0 k n l x (x.length : Int)) true := by
  intro m
  induction m with
  | zero => intro x h1 h2; omega
  | succ m ih =>
    intro x h1 h2 hx hxb
    refine Ev_up ?_
    simp only [laws_FnSgLength.l0, w64 (x := n) (by omega) (by omega)]
    by_cases hlt : (x.length : Int) < n
    · have e1 : Int.tmod (x.length : Int) (l.length : Int) = ((x.length % l.length : Nat) : Int) := rfl
      have hm : x.length % l.length < l.length := Nat.mod_lt _ hl
      generalize hq : x.length % l.length = q at e1 hm
      simp only [if_pos hlt, if_neg (show ¬ (l.length : Int) = 0 by omega), e1, if_pos (show (0 : Int) ≤ (q : Int) by omega), if_pos (show (q : Int) < (l.length : Int) by omega), if_pos (show x.length < 140737488355328 by omega), w64 (x := (x.length : Int) + 1) (by omega) (by omega)]
      obtain ⟨b, hbq⟩ : ∃ b, spec_Basic.f (rd l (q : Int)) = some b := ⟨_, basic_f _⟩
      rw [hbq]
      have hmem : rd l (q : Int) ∈ l := by
        have : rd l (q : Int) = l[q] := by
          simp only [rd, Int.toNat_natCast, List.getD_eq_getElem?_getD, List.getElem?_eq_getElem hm, Option.getD_some]
        rw [this]; exact List.getElem_mem hm
      cases b with
      | false => exact Ev.now _
      | true =>
        simp only [Option.bind_some, if_true]
        have := ih (x ++ [rd l (q : Int)]) (by rw [List.length_append]; simp; omega) (by rw [List.length_append]; simp; omega)
          (by intro c hc; rcases List.mem_append.mp hc with hc | hc
              · exact hx c hc
              · rw [List.mem_singleton.mp hc]; exact length_basic _ hbq)
          (by intro c hc; rcases List.mem_append.mp hc with hc | hc
              · exact hxb c hc
              · rw [List.mem_singleton.mp hc]; exact hb _ hmem)
        rw [List.length_append] at this
        exact this
    · simp only [if_neg hlt]
      have hlen : n = x.length := by omega
      have hbytes : bytesOf (strOfNums x) = word (lones x) := by rw [lones_word, bytesOf_strOfNums x hxb]
      have hp := psOk_words (lones_wf x hx) hbytes
      rw [lones_fits, Bool.and_true, bytes_len] at hp
      have hy := parse_lone 121 (by decide)
      rw [hy, Given.SgParse.f, hp]
      have e : (decide (x.length ≤ 255) == decide (n ≤ 255)) = true := by
        rw [beq_iff_eq]; exact decide_eq_decide.mpr (by omega)
      simp only [Option.bind_some, e, if_true]
      exact Ev.now _

theorem FnSgLength : laws_FnSgLength.Pure := by
  intro n l hn hl hl2 hb
  have rn := u16_range hn
  refine Ev.rounds ?_
  have yes : Ev (fun k => laws_FnSgLength.j0 k n l true) true := by
    refine Ev_up ?_
    simp only [laws_FnSgLength.j0, if_true]; exact Ev.now _
  unfold laws_FnSgLength.f
  split
  · exact Ev.now _
  split
  · exact yes
  split
  · exact yes
  by_cases h100 : (l.length : Int) > 100
  · rw [decide_eq_true h100]; exact yes
  · rw [decide_eq_false h100]
    refine Ev_up ?_
    simp only [laws_FnSgLength.j0, if_neg (show ¬ (false = true) by decide)]
    exact length_loop n l rn.1 (by omega) (by omega) (by omega) (fun x hx => u8_range (hb x hx)) (n.toNat + 1) [] (by simp; omega) (by simp; omega) (by simp) (by simp)
end Go.Proofs.Ythkblpbabcibcaa.Pure
