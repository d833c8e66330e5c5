/- The door's reader of pieces: Read. -/
import Derived.Test.YtdooimdefmegaaaDoorGvRd
import Derived.Deep.RegionHeld3
import Derived.Deep.RegionLaw
import Derived.Deep.AppendLies
import Derived.Deep.DeepMust
namespace Go.Proofs.YtdooimdefmegaaaDoor.Given
open Go.RowKit Go.Proofs.YtdooimdefmegaaaDoorW.PrintWords

theorem ne_list {s : ByteArray} (h : 0 < s.size) : s.toList.isEmpty = false := by
  cases e : s.toList with
  | nil =>
    have := congrArg List.length e
    rw [ByteArray.toList_eq, Array.length_toList] at this
    exact absurd (show s.size = 0 from this) (by omega)
  | cons x l => rfl
theorem is_empty {s : ByteArray} (h : s.size = 0) : s.toList.isEmpty = true := by
  have e : s.data = #[] := Array.size_eq_zero_iff.mp h
  rw [ByteArray.toList_eq, e]; rfl

def tailAddr (ad : Addr) (c : Nat) : Option Addr := if c = 1 then some ad else some (ad.add 1)
theorem bts_set {w : World} {g : Nat} {bs : List Int} (h : Bts w g bs) {p : Addr} (hp : g ≠ p.block) (u : Value) : Bts (w.setCell p u) g bs := (Below.heap_setCell w p u g hp).trans h
theorem rd_tail {w : World} {R g c : Nat} {ad : Addr} {s : ByteArray} {r : List ByteArray} {rd : Int} (hh : w.heap[R]? = some (.cells #[.slice (some ad) (s :: r).length c, .int .i64 rd] 45 (0, 0))) (hC : Kd.string.C w (some ad) (s :: r).length (s :: r)) (hc : r.length + 1 ≤ c) (hne : ∀ a, some ad = some a → 0 < (s :: r).length → a.block ≠ R ∧ a.block ≠ g) :
    Rd (w.setCell ⟨R, 0, none⟩ (.slice (tailAddr ad c) r.length (c - 1))) R g r := by
  have hf : Fr w (w.setCell ⟨R, 0, none⟩ (.slice (tailAddr ad c) r.length (c - 1))) R g := Fr.set (.inl rfl) _
  have h0 := hne ad rfl (by simp)
  have hd := Kd.C_drop (m := 1) hC (by simp) (c := c) (by simpa using hc)
  rw [show List.drop 1 (s :: r) = r from rfl] at hd
  have e : (if c = 1 then some ad else (some ad).map (·.add (1 * Kd.string.sz))) = tailAddr ad c := by
    unfold tailAddr; rfl
  rw [e] at hd
  have hbl : ∀ a, tailAddr ad c = some a → a.block = ad.block := by
    intro a ha
    unfold tailAddr at ha
    split at ha
    · cases ha; rfl
    · cases ha; rfl
  have hne2 : ∀ a, tailAddr ad c = some a → 0 < r.length → a.block ≠ R ∧ a.block ≠ g := fun a ha _ => by rw [hbl a ha]; exact h0
  refine ⟨tailAddr ad c, c - 1, rd, ?_, by omega, C_fr hd hne2 hf, hne2⟩
  rw [heap_setCell_same w R 0 _ 45 _ hh]
  rfl

theorem infoS : (Tryd.prog.info? 9).map (fun i => (i.zero, i.size, i.bytes)) = some (some (.string ⟨#[]⟩), 1, 16) := by kernel_rfl
theorem news_of_C {w : World} {ad : Addr} {r : List ByteArray} (h : Kd.string.C w (some ad) r.length r) : ∀ j u, (r.map Value.string)[j]? = some u → w.cell? (ad.add j) = some u := by
  intro j u hu
  have hj : j < r.length := by have := (List.getElem?_eq_some_iff.1 hu).1; simpa using this
  obtain ⟨ad', e, hc⟩ := Kd.at_string h (j : Int) (by omega) (by omega)
  cases e
  rw [show ((j : Int)).toNat = j from rfl] at hc
  rw [hc]
  rw [List.getElem?_map, List.getElem?_eq_getElem hj] at hu
  rw [← Option.some.inj hu]
  simp [rdOf, List.getD_eq_getElem?_getD, List.getElem?_eq_getElem hj]

/-- append([]string{one}, r...): as a step of a region that draws. -/
theorem step_lit_rest {ops : Array Oper} {o : Oper} {a : Act} {K : Act → World → Prop} {Q : Exit → Act → World → Prop} {E : Prop} {w : World} (hgd : o.guard = none) (s x : Operand)
    (ho : o.op = .call { callee := .builtin .append, args := #[s, x], argTypes := #[27, 27] }) (base W0 c : Nat) (one : ByteArray) (r : List ByteArray) (ad : Addr)
    (hs : a.eval s = .slice (some ⟨W0, 0, none⟩) 1 1) (hx : a.eval x = .slice (some ad) r.length c)
    (hown : w.ownsRow base 9 1 (.slice (some ⟨W0, 0, none⟩) 1 1) 1 [.string one]) (hC : Kd.string.C w (some ad) r.length r) (hr : r.length ≤ 1099511627776) (hbase : base ≤ w.heap.size)
    (h : ∀ g cap w', w'.ownsRow base 9 1 (.slice (some ⟨g, 0, none⟩) (1 + r.length) cap) (1 + r.length) ([.string one] ++ r.map Value.string) → w.grownBy w' (some W0) → (g = W0 ∨ g = w.heap.size) → K (a.put o.dst (.slice (some ⟨g, 0, none⟩) (1 + r.length) cap)) w') :
    if Region.wanted o (yielded ops a.tmps) = true then Oper.wp Tryd.prog o a w K Q else E := by
  have hw : Region.wanted o (yielded ops a.tmps) = true := by simp [Region.wanted, hgd]
  rw [if_pos hw]
  obtain ⟨i0, hi, hzz⟩ := Option.map_eq_some_iff.1 infoS
  simp only [Prod.mk.injEq] at hzz
  obtain ⟨hz0, hz1, hz2⟩ := hzz
  obtain ⟨v', w', hrun, h2, h3, _, h5⟩ := run_append_own_at (P := Tryd.prog) w base 27 o.type 9 i0 _ 1 16 Tryd.underlying27 hi hz0 hz1 hz2 rfl (by decide) _ 1 _ hown ad r.length c (r.map Value.string) (by simp) (news_of_C hC) (fun u hu => by
    obtain ⟨y, _, rfl⟩ := List.mem_map.mp hu; rfl) (by simp only [maxLen]; omega) (by omega) hbase
  obtain ⟨g, cap, rfl, hcap, hlt⟩ := h2.form (by omega)
  unfold Oper.wp execOp
  simp only [ho, resolve, invoke, builtin, Sem.run_bind, Sem.run_pure, Result.andThen_ok, List.map_toArray, List.map_cons, List.map_nil, hs, hx, hrun]
  refine h g cap w' h2 h3 ?_
  rcases h5 with h5 | h5
  · exact .inl (by simpa [Value.ownBlock] using h5)
  · exact .inr (by simpa [Value.ownBlock] using h5)

theorem grown_cell {w w' : World} {row : Option Nat} (h : w.grownBy w' row) {p : Addr} (hlt : p.block < w.heap.size) (hne : some p.block ≠ row) : w'.cell? p = w.cell? p := World.cell?_of_block (h.block p.block hlt hne)
theorem grown_frozen {w w' : World} {row : Option Nat} (h : w.grownBy w' row) {p : Addr} (hlt : p.block < w.heap.size) (hne : some p.block ≠ row) : w'.frozen? p = w.frozen? p := by
  have e := h.block p.block hlt hne
  simp only [World.frozen?, e]
theorem lt_alloc {w : World} {b : Nat} (h : b < w.heap.size) (o : Obj) : b < (w.alloc o).heap.size := by simp; omega

theorem own_C {w : World} {base g cap : Nat} {L : List ByteArray} {n : Nat} (hn : n = L.length) (h : w.ownsRow base 9 1 (.slice (some ⟨g, 0, none⟩) n cap) n (L.map Value.string)) (hl : n ≤ 9223372036854775807) : Kd.string.C w (some ⟨g, 0, none⟩) L.length L := by
  subst hn
  refine ⟨rfl, hl, fun _ => ⟨_, rfl, fun j p hj => ⟨[.string p], rfl, rfl, fun i u hu => ?_⟩⟩⟩
  match i, hu with
  | 0, hu =>
    cases hu
    have := h.cells (g := g) rfl j (.string p) (by rw [List.getElem?_map, hj]; rfl)
    simpa [Kd.string, Kd.scalar] using this

theorem rd_new {w : World} {R g gg cap : Nat} {x0 : Value} {rd rd' : Int} {P : List ByteArray} (hh : w.heap[R]? = some (.cells #[x0, .int .i64 rd] 45 (0, 0))) (hC : Kd.string.C w (some ⟨gg, 0, none⟩) P.length P) (hcap : P.length ≤ cap) (hgR : gg ≠ R) (hgg : gg ≠ g) :
    Rd ((w.setCell ⟨R, 0, none⟩ (.slice (some ⟨gg, 0, none⟩) P.length cap)).setCell ⟨R, 1, none⟩ (.int .i64 rd')) R g P := by
  have hf : Fr w ((w.setCell ⟨R, 0, none⟩ (.slice (some ⟨gg, 0, none⟩) P.length cap)).setCell ⟨R, 1, none⟩ (.int .i64 rd')) R g :=
    (Fr.set (w := w) (p := ⟨R, 0, none⟩) (.inl rfl) (.slice (some ⟨gg, 0, none⟩) P.length cap)).trans (Fr.set (w := w.setCell ⟨R, 0, none⟩ (.slice (some ⟨gg, 0, none⟩) P.length cap)) (p := ⟨R, 1, none⟩) (.inl rfl) (.int .i64 rd'))
  have hne : ∀ a, some (⟨gg, 0, none⟩ : Addr) = some a → 0 < P.length → a.block ≠ R ∧ a.block ≠ g := fun a ha _ => by cases ha; exact ⟨hgR, hgg⟩
  refine ⟨_, cap, rd', ?_, hcap, C_fr hC hne hf, hne⟩
  have h1 := heap_setCell_same w R 0 _ 45 (.slice (some ⟨gg, 0, none⟩) P.length cap) hh
  have h2 := heap_setCell_same _ R 1 _ 45 (.int .i64 rd') h1
  rw [h2]; rfl

theorem heap_of_below {w w' : World} {n b : Nat} {o : Obj} (h : Below n w w') (hb : b < n) (ho : w.heap[b]? = some o) : w'.heap[b]? = some o := (h.block b hb).trans ho

/-- What Read hands back, and leaves. -/
def ReadPost (R g o m : Nat) (P : List ByteArray) (bs : List Int) (E0 : Value) (w : World) (e : Ending) (w' : World) : Prop :=
  Fr w w' R g ∧ ((flat P = [] ∧ e = .returned (.tuple #[.int .i64 0, E0]) ∧ Rd w' R g [] ∧ Bts w' g bs) ∨
    ∃ (k : Nat) (P' : List ByteArray), 1 ≤ k ∧ k ≤ m ∧ k ≤ (flat P).length ∧ P'.length ≤ P.length ∧ e = .returned (.tuple #[.int .i64 k, .nilIface]) ∧ Rd w' R g P' ∧ flat P' = (flat P).drop k ∧ Bts w' g (bs.take o ++ (flat P).take k ++ bs.drop (o + k)))

theorem read_end {R g o m k gg cap : Nat} {P r : List ByteArray} {s : ByteArray} {bs : List Int} {E0 : Value} {w w1 w2 w3 : World} {e : Ending} {rd rd' : Int} {x0 : Value}
    (hk : Nat.min s.size m = k) (hk1 : 1 ≤ k) (hfl : flat (s :: r) = flat P) (he : e = .returned (.tuple #[.int .i64 k, .nilIface])) (hfr : Fr w w1 R g) (hbl : Below w1.heap.size w1 w2)
    (hown : w2.ownsRow w1.heap.size 9 1 (.slice (some ⟨gg, 0, none⟩) (1 + r.length) cap) (1 + r.length) ([.string (s.extract k s.size)] ++ r.map Value.string))
    (hb : Bts w1 g (bs.take o ++ (bytesOf s).take k ++ bs.drop (o + k))) (hh : w1.heap[R]? = some (.cells #[x0, .int .i64 rd] 45 (0, 0))) (hR : R < w1.heap.size) (hg : g < w1.heap.size) (hr : r.length ≤ 1099511627776)
    (h3 : w3.heap = ((w2.setCell ⟨R, 0, none⟩ (.slice (some ⟨gg, 0, none⟩) (1 + r.length) cap)).setCell ⟨R, 1, none⟩ (.int .i64 rd')).heap) (hf3 : Fr ((w2.setCell ⟨R, 0, none⟩ (.slice (some ⟨gg, 0, none⟩) (1 + r.length) cap)).setCell ⟨R, 1, none⟩ (.int .i64 rd')) w3 R g) (hRg : R ≠ g) (hm : k ≤ m) (hgg : w1.heap.size ≤ gg) (hPl : (s :: r).length ≤ P.length) :
    ReadPost R g o m P bs E0 w e w3 := by
  have hks : k ≤ s.size := by rw [← hk]; exact Nat.min_le_left _ _
  have hlb : (bytesOf s).length = s.size := bytesOf_length s
  have hh2 := heap_of_below hbl hR hh
  have hC := own_C (L := s.extract k s.size :: r) (n := 1 + r.length) (by simp; omega) hown (by omega)
  have hcap : 1 + r.length ≤ cap := by
    rcases hown.2 with ⟨e, _⟩ | ⟨g', cap', cur, e, _, _, h, _⟩
    · cases e
    · injection e with _ _ e3; omega
  have hRd := rd_new (P := s.extract k s.size :: r) (gg := gg) (cap := cap) (g := g) (rd' := rd') hh2 hC (by simp; omega) (by omega) (by omega)
  have hlen : (s.extract k s.size :: r).length = 1 + r.length := by simp; omega
  rw [hlen] at hRd
  have hfr2 : Fr w ((w2.setCell ⟨R, 0, none⟩ (.slice (some ⟨gg, 0, none⟩) (1 + r.length) cap)).setCell ⟨R, 1, none⟩ (.int .i64 rd')) R g :=
    (hfr.trans (Fr.of_below hbl)).trans ((Fr.set (w := w2) (p := ⟨R, 0, none⟩) (.inl rfl) _).trans (Fr.set (p := ⟨R, 1, none⟩) (.inl rfl) _))
  have hb3 : Bts ((w2.setCell ⟨R, 0, none⟩ (.slice (some ⟨gg, 0, none⟩) (1 + r.length) cap)).setCell ⟨R, 1, none⟩ (.int .i64 rd')) g (bs.take o ++ (bytesOf s).take k ++ bs.drop (o + k)) :=
    bts_set (bts_set (heap_of_below hbl hg hb) (p := ⟨R, 0, none⟩) (fun e => hRg e.symm) _) (p := ⟨R, 1, none⟩) (fun e => hRg e.symm) _
  have hfk : (flat P).take k = (bytesOf s).take k := by rw [← hfl, flat_cons, List.take_append_of_le_length (by omega)]
  have hfd : flat (s.extract k s.size :: r) = (flat P).drop k := by
    rw [← hfl, flat_cons, flat_cons, List.drop_append_of_le_length (by omega)]
    congr 1
    unfold bytesOf
    have e : (s.extract k s.size).data.toList = s.data.toList.drop k := by
      rw [ByteArray.data_extract, Array.toList_extract, List.extract_eq_take_drop, List.take_of_length_le (by rw [List.length_drop, Array.length_toList]; exact Nat.le_refl _)]
    rw [e, List.map_drop]
  refine ⟨hfr2.trans hf3, .inr ⟨k, s.extract k s.size :: r, hk1, hm, ?_, by simpa using hPl, he, ?_, hfd, ?_⟩⟩
  · rw [← hfl, flat_cons, List.length_append]; omega
  · unfold Rd at hRd ⊢
    obtain ⟨A, c, rd2, q1, q2, q3, q4⟩ := hRd
    exact ⟨A, c, rd2, by rw [h3]; exact q1, q2, C_fr q3 q4 hf3, q4⟩
  · rw [hfk]; unfold Bts at hb3 ⊢; rw [h3]; exact hb3

set_option maxRecDepth 100000 in
set_option maxHeartbeats 4000000 in
theorem read.calls (R g o m c : Nat) (P : List ByteArray) (bs : List Int) (E0 : Value) (w : World) (hr : Rd w R g P) (hb : Bts w g bs) (hm : 1 ≤ m) (hm2 : m ≤ 4611686018427387904) (hom : o + m ≤ bs.length) (hP : P.length ≤ 1099511627776) (hRg : R ≠ g) (hE : w.cell? ⟨0, 0, none⟩ = some E0) (hR0 : R ≠ 0) (hg0 : g ≠ 0) :
    Calls Tryd.prog 63 #[.pointer (some ⟨R, 0, none⟩), .slice (some ⟨g, o, none⟩) m c] w (ReadPost R g o m P bs E0 w) := by
  have g1 : ((m : Int) == 0) = false := by rw [beq_eq_false_iff_ne]; omega
  have HR := Aside0.mk hr
  have HBt := Aside0.mk hb
  have H0 := Aside0.mk hE
  clear hr hb hE
  go_enter Tryd.func63, Tryd.ntmps63
  go_wp2
  go_loopg [10] P.length (fun gk u wr => ∃ P', P'.length ≤ gk ∧ gk ≤ P.length ∧ flat P' = flat P ∧ Rd wr R g P' ∧ Fr w wr R g ∧ Bts wr g bs)
  case atStart => exact ⟨P, Nat.le_refl _, Nat.le_refl _, rfl, HR.out, Fr.refl _ _ _, HBt.out⟩
  case round =>
    obtain ⟨P', hgk, hgP, hfl, hrd, hfr, hbt⟩ := hrel
    obtain ⟨A, c2, rd, hh, hc2, hC, hne⟩ := hrd
    have k0 := cell_of_row wr R 0 _ _ _ hh
    have k1 := cell_of_row wr R 1 _ _ _ hh
    have f0 := frozen_of_row wr R 0 _ _ hh
    have f1 := frozen_of_row wr R 1 _ _ hh
    simp only [List.getElem?_toArray, List.getElem?_cons_zero, List.getElem?_cons_succ] at k0 k1
    have hE1 : wr.cell? ⟨0, 0, none⟩ = some E0 := by
      have h := H0.out
      have hlt := block_lt_of_cell h
      rw [← h]
      exact World.cell?_of_block (hfr.block 0 hlt (fun e => hR0 e.symm) (fun e => hg0 e.symm))
    cases P' with
    | nil =>
      have hfl2 : flat P = [] := hfl.symm
      have HF := Aside0.mk hfr
      have HH := Aside0.mk hh
      have HC := Aside0.mk hC
      have HB2 := Aside0.mk hbt
      have HFL := Aside0.mk hfl2
      clear hfr hh hC hbt hfl hfl2 hne hgk
      go_wp2
      go_quiet (fail)
      go_wp2
      go_ret2
      exact ⟨HF.out.drewN _, .inl ⟨HFL.out, rfl, ⟨A, c2, rd, HH.out, hc2, HC.out, fun ad _ h => absurd h (by simp)⟩, HB2.out⟩⟩
    | cons s r =>
      obtain ⟨ad, rfl, hcell⟩ := Kd.at_string hC 0 (by omega) (by simp)
      have hsl : (ad.add (0 : Int).toNat) = ad := rfl
      rw [hsl, show rdOf ByteArray.empty (s :: r) 0 = s from rfl] at hcell
      have hlen : (s :: r).length = r.length + 1 := rfl
      rw [hlen] at k0 hc2
      have gl : (0 < r.length + 1) = True := eq_true (by omega)
      have gl2 : (0 < ((r.length : Int) + 1)) = True := eq_true (by omega)
      by_cases hs0 : s.size = 0
      · have hemp := is_empty hs0
        have HR2 := Aside0.mk (rd_tail hh hC hc2 hne)
        have hrel2 : r.length < gk ∧ flat r = flat P := ⟨by simp at hgk; omega, by rw [← hfl, flat_empty hs0]⟩
        have HL := Aside0.mk hrel2
        have HFR := Aside0.mk (hfr.trans (Fr.set (w := wr) (p := ⟨R, 0, none⟩) (R := R) (g := g) (.inl rfl) (.slice (tailAddr ad c2) r.length (c2 - 1))))
        have HB2 := Aside0.mk (bts_set hbt (p := ⟨R, 0, none⟩) (fun e => hRg e.symm) (.slice (tailAddr ad c2) r.length (c2 - 1)))
        clear hh hC hc2 hne hfr hbt hfl hgk hrel2 hs0
        by_cases h1 : c2 = 1
        · subst h1
          go_wp2_with (fail)
          go_roundg r.length
          case measure => exact HL.out.1
          case rel => exact ⟨r, Nat.le_refl _, Nat.le_trans (Nat.le_of_lt HL.out.1) hgP, HL.out.2, HR2.out, HFR.out, HB2.out⟩
        · have e1 : tailAddr ad c2 = some (ad.add 1) := by unfold tailAddr; rw [if_neg h1]
          rw [e1] at HR2 HFR HB2
          go_wp2_with (fail)
          go_roundg r.length
          case measure => exact HL.out.1
          case rel => exact ⟨r, Nat.le_refl _, Nat.le_trans (Nat.le_of_lt HL.out.1) hgP, HL.out.2, HR2.out, HFR.out, HB2.out⟩
      · have hemp := ne_list (s := s) (by omega)
        obtain ⟨k, hk⟩ : ∃ k, Nat.min s.size m = k := ⟨_, rfl⟩
        obtain ⟨w1, hcp, hb1, hg1, hz1⟩ := copy_piece wr g o m c k s bs hbt hk hom
        have hneR := hne ad rfl (by simp)
        have c0' : w1.cell? ad = some (.string s) := (World.cell?_of_block (hg1.block ad.block (block_lt_of_cell hcell) (by intro e; exact hneR.2 (Option.some.inj e)))).trans hcell
        have hRlt : R < wr.heap.size := block_lt_of_cell k0
        have hR1 : w1.heap[R]? = wr.heap[R]? := hg1.block R hRlt (by intro e; exact hRg (Option.some.inj e))
        have q0 : w1.cell? ⟨R, 0, none⟩ = some (.slice (some ad) (r.length + 1) c2) := (World.cell?_of_block hR1).trans k0
        have q1 : w1.cell? ⟨R, 1, none⟩ = some (.int .i64 rd) := (World.cell?_of_block hR1).trans k1
        go_wp2_with (at_builtin; go_must (refine wpList_copy_eq wr rfl (.tmp 40) (.tmp 46) 36 9 rfl _ _ rfl rfl hcp ?_))
        have hks : k ≤ s.size := by rw [← hk]; exact Nat.min_le_left _ _
        have hsl2 : ∀ wx, (Instr.slice 9 (.string s) (some (.int .i64 (k : Int))) none none).run Tryd.prog wx = .ok (.string (s.extract k s.size)) wx := fun wx => by
          have g1 : (0 : Int) ≤ (k : Int) := by omega
          have g2 : (k : Int) ≤ (s.size : Int) := by omega
          simp [go_sem, Instr.slice, g1, g2, run_underlying Tryd.underlying9]
        have htl : ∃ ad2, tailAddr ad c2 = some ad2 := by unfold tailAddr; split <;> exact ⟨_, rfl⟩
        obtain ⟨ad2, had2⟩ := htl
        have hsl1 : ∀ wx, (Instr.slice 27 (.slice (some ad) (r.length + 1) c2) (some (.int .i64 1)) none none).run Tryd.prog wx = .ok (.slice (some ad2) r.length (c2 - 1)) wx := fun wx => by
          have g2 : (1 : Int) ≤ (r.length : Int) + 1 := by omega
          unfold tailAddr at had2
          by_cases hc1 : c2 = 1
          · rw [if_pos hc1] at had2
            cases had2
            simp [go_sem, Instr.slice, g2, run_underlying Tryd.underlying27, hc1]
          · rw [if_neg hc1] at had2
            cases had2
            simp [go_sem, Instr.slice, g2, run_underlying Tryd.underlying27, hc1]
        have hCw : Kd.string.C w1 (some ad2) r.length r := by
          have hd := Kd.C_drop (m := 1) hC (by simp) (c := c2) (by simpa using hc2)
          rw [show List.drop 1 (s :: r) = r from rfl] at hd
          have e : (if c2 = 1 then some ad else (some ad).map (·.add (1 * Kd.string.sz))) = some ad2 := had2
          rw [e] at hd
          have hbl : ad2.block = ad.block := by
            unfold tailAddr at had2
            split at had2
            · cases had2; rfl
            · cases had2; rfl
          exact C_fr hd (fun a ha _ => by cases ha; rw [hbl]; exact hneR) (Fr.grown (R := R) hg1)
        have fr0 : w1.frozen? ⟨R, 0, none⟩ = false := by rw [← f0]; simp only [World.frozen?, hR1]
        have fr1 : w1.frozen? ⟨R, 1, none⟩ = false := by rw [← f1]; simp only [World.frozen?, hR1]
        have hRlt1 : R < w1.heap.size := by rw [hz1]; exact hRlt
        have hadlt : ad.block < w1.heap.size := block_lt_of_cell c0'
        have al0 : ∀ o, (w1.alloc o).cell? ⟨R, 0, none⟩ = some (.slice (some ad) (r.length + 1) c2) := fun o => (World.cell?_alloc_lt w1 o _ hRlt1).trans q0
        have al1 : ∀ o, (w1.alloc o).cell? ad = some (.string s) := fun o => (World.cell?_alloc_lt w1 o _ hadlt).trans c0'
        have al2 : ∀ o, (w1.alloc o).frozen? ⟨R, 0, none⟩ = false := fun o => (((Below.refl _ w1).alloc (Nat.le_refl _) o).frozen (p := ⟨R, 0, none⟩) hRlt1).trans fr0
        have hRne : some R ≠ some w1.heap.size := fun e => by have := Option.some.inj e; omega
        have hadne : some ad.block ≠ some w1.heap.size := fun e => by have := Option.some.inj e; omega
        have HC := Aside0.mk hCw
        have HH1 := Aside0.mk (hR1.trans hh)
        have hglt1 : g < w1.heap.size := (Array.getElem?_eq_some_iff.1 hb1).1
        have HFL := Aside0.mk hfl
        have HPL := Aside0.mk (Nat.le_trans hgk hgP)
        have hmk : k ≤ m := by rw [← hk]; exact Nat.min_le_right _ _
        have HK := Aside0.mk (show Nat.min s.size m = k ∧ 1 ≤ k from ⟨hk, by rw [← hk]; exact Nat.le_min.mpr ⟨by omega, hm⟩⟩)
        have HG := Aside0.mk hg1
        have HB2 := Aside0.mk hb1
        have HFR := Aside0.mk (hfr.trans (Fr.grown (R := R) hg1))
        have HLR := Aside0.mk (show r.length ≤ 1099511627776 by simp at hgk; omega)
        have AL := Aside0.mk (And.intro al0 (And.intro al1 al2))
        clear hCw hg1 hb1 hfr hh hC hne hbt hcp k0 k1 f0 f1 hcell hE1 hz1 hR1 al0 al1 al2 hRlt
        have one := Aside0.mk (World.ownsRow_lit (base := w1.heap.size) (e := 9) (size := 1) w1 #[.string (s.extract k s.size)] 1 (Nat.le_refl _) (by simp [maxLen]) rfl)
        obtain ⟨al0, al1, al2⟩ := AL.out
        go_region_law (refine step_lit_rest rfl (.tmp 57) (.tmp 62) rfl w1.heap.size w1.heap.size (c2 - 1) (s.extract k s.size) r ad2 (by rfl) (by rfl) one.out.drew (Kd.C_below HC.out ((Below.refl _ _).alloc (Nat.le_refl _) _).drew) HLR.out (by simp) ?_; intro gg cap w2 hown hgrow hat; have e0 := (grown_cell hgrow (p := ⟨R, 0, none⟩) (lt_alloc hRlt1 _) hRne).trans (AL.out.1 _); have e1 := (grown_frozen hgrow (p := ⟨R, 0, none⟩) (lt_alloc hRlt1 _) hRne).trans (AL.out.2.2 _); have hbl := (((Below.refl _ w1).alloc (Nat.le_refl _) _).drew).grown hgrow (by simp) (fun k hk => by cases hk; exact Nat.le_refl _); have e2 := (hbl.cell (p := ⟨R, 1, none⟩) hRlt1).trans q1; have e3 := (hbl.frozen (p := ⟨R, 1, none⟩) hRlt1).trans fr1; have hown2 := Aside0.mk hown; have hbl2 := Aside0.mk hbl; clear hown hgrow hbl)
        all_goals
          go_wp2
          go_ret2
          exact read_end HK.out.1 HK.out.2 HFL.out rfl HFR.out hbl2.out hown2.out HB2.out HH1.out hRlt1 hglt1 HLR.out rfl (Fr.refl _ _ _) hRg hmk (by rcases hat with h | h <;> (rw [h]; simp)) HPL.out
end Go.Proofs.YtdooimdefmegaaaDoor.Given
