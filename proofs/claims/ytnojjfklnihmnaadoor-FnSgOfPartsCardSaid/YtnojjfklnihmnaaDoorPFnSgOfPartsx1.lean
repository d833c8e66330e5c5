/- Part of the proof of LawFnSgOfParts. -/
import Derived.Test.YtnojjfklnihmnaaDoorWWords
import Derived.Laws.Strings
import Derived.Test.YtnojjfklnihmnaaDoorPFnSgOfPartsx8
import Derived.Test.YtnojjfklnihmnaaDoorGvBd
set_option linter.unusedVariables false
set_option linter.unusedSimpArgs false
section
namespace Go.Proofs.YtnojjfklnihmnaaDoor.Pl
open Go.RowKit Go.Proofs.YtnojjfklnihmnaaDoorW.PrintWords
theorem w64 {x : Int} (h1 : -9223372036854775808 ≤ x) (h2 : x ≤ 9223372036854775807) : wrap64 x = x := by
  unfold wrap64; omega
theorem w32 {x : Int} (h1 : -2147483648 ≤ x) (h2 : x ≤ 2147483647) : wrap32 x = x := by
  unfold wrap32; omega
theorem Ev_up {α : Type} {g : Nat → Option α} {r : α} (h : Ev (fun k => g (k + 1)) r) : Ev g r := Ev.step (fun _ => rfl) h
theorem Ev_some {α : Type} {a r : α} (h : a = r) : Ev (fun _ => some a) r := ⟨0, fun _ _ => by rw [h]⟩
theorem toList_length (s : ByteArray) : s.toList.length = s.size := by rw [ByteArray.toList_eq, Array.length_toList]; rfl
theorem toList_nil {s : ByteArray} : s.toList = ([] : List UInt8) ↔ s.size = 0 := by
  rw [← toList_length, List.length_eq_zero_iff]
end Go.Proofs.YtnojjfklnihmnaaDoor.Pl
end
section
namespace Go.Proofs.YtnojjfklnihmnaaDoor.Cv
open Go.RowKit Go.Proofs.YtnojjfklnihmnaaDoorW.PrintWords Go.Proofs.YtnojjfklnihmnaaDoor.Pl Go.Proofs.YtnojjfklnihmnaaDoor.PFnSgOfParts
mutual
def conv : S25 → S47
  | ⟨a, b, c, l⟩ => ⟨a, b, c, convs l⟩
def convs : List S25 → List S47
  | [] => []
  | x :: l => conv x :: convs l
end
mutual
def cnt : S25 → Nat
  | ⟨_, _, _, l⟩ => cnts l + 1
def cnts : List S25 → Nat
  | [] => 0
  | x :: l => cnt x + cnts l
end
mutual
def byt : S25 → Nat
  | ⟨_, _, s, l⟩ => s.size + byts l
def byts : List S25 → Nat
  | [] => 0
  | x :: l => byt x + byts l
end
theorem convs_map (l : List S25) : convs l = l.map conv := by
  induction l with
  | nil => rfl
  | cons x l ih => rw [convs, ih]; rfl
theorem conv_f3 (v : S25) : (conv v).f3 = v.f3.map conv := by
  cases v; rw [conv, convs_map]
theorem conv_eq (v : S25) : conv v = ⟨v.f0, v.f1, v.f2, v.f3.map conv⟩ := by
  cases v; rw [conv, convs_map]
theorem cnt_eq (v : S25) : cnt v = cnts v.f3 + 1 := by cases v; rw [cnt]
theorem byt_eq (v : S25) : byt v = v.f2.size + byts v.f3 := by cases v; rw [byt]
theorem cnt_mem {x : S25} {l : List S25} (h : x ∈ l) : cnt x ≤ cnts l := by
  induction l with
  | nil => cases h
  | cons y l ih =>
    rw [cnts]
    rcases List.mem_cons.1 h with rfl | h
    · omega
    · have := ih h; omega
theorem byt_mem {x : S25} {l : List S25} (h : x ∈ l) : byt x ≤ byts l := by
  induction l with
  | nil => cases h
  | cons y l ih =>
    rw [byts]
    rcases List.mem_cons.1 h with rfl | h
    · omega
    · have := ih h; omega
theorem cnt_len (l : List S25) : l.length ≤ cnts l := by
  induction l with
  | nil => exact Nat.le_refl _
  | cons y l ih => rw [cnts, cnt_eq, List.length_cons]; omega
theorem conv_from (l : List S25) (n0 n1 : Int) (s : ByteArray) (hl : l.length ≤ 1000000) (ih : ∀ x ∈ l, Ev (fun k => impl_valIn.f k x.f0 x.f1 x.f2 x.f3) (x.f0, x.f1, x.f2, x.f3.map conv)) :
    ∀ (d i : Nat), i + d = l.length → Ev (fun k => impl_valIn.l0 k l (l.length : Int) (i : Int) n0 n1 s ((l.take i).map conv)) (n0, n1, s, l.map conv) := by
  intro d
  induction d with
  | zero =>
    intro i hi
    refine Ev_up ?_
    have q : ¬ (i : Int) < (l.length : Int) := by omega
    simp only [impl_valIn.l0, if_neg q]
    refine Ev_some ?_
    rw [show i = l.length by omega, List.take_length]
  | succ d ihd =>
    intro i hi
    refine Ev_up ?_
    have q : (i : Int) < (l.length : Int) := by omega
    have q0 : (0 : Int) ≤ (i : Int) := by omega
    have hlt : i < l.length := by omega
    have hx : rd_T25 l (i : Int) = l[i] := by
      unfold rd_T25
      rw [Int.toNat_natCast, List.getD_eq_getElem?_getD, List.getElem?_eq_getElem hlt]; rfl
    simp only [impl_valIn.l0, if_pos q, if_pos q0, hx]
    refine Ev.bind (ih _ (List.getElem_mem hlt)) ?_
    have q2 : ((l.take i).map conv).length < 2513169434916 := by rw [List.length_map, List.length_take]; omega
    simp only [if_pos q2]
    rw [show wrap64 ((i : Int) + 1) = ((i + 1 : Nat) : Int) by rw [w64 (by omega) (by omega)]; omega]
    have := ihd (i + 1) (by omega)
    rw [List.take_succ_eq_append_getElem hlt, List.map_append, List.map_singleton, conv_eq l[i]] at this
    exact this
theorem conv_all : ∀ (n : Nat) (v : S25), cnt v ≤ n → n ≤ 1000000 → Ev (fun k => impl_valIn.f k v.f0 v.f1 v.f2 v.f3) (v.f0, v.f1, v.f2, v.f3.map conv) := by
  intro n
  induction n with
  | zero => intro v h; rw [cnt_eq] at h; omega
  | succ n ih =>
    intro v h hn
    rw [cnt_eq] at h
    refine Ev_up ?_
    simp only [impl_valIn.f]
    exact conv_from v.f3 v.f0 v.f1 v.f2 (by have := cnt_len v.f3; omega) (fun x hx => ih x (by have := cnt_mem hx; omega) (by omega)) v.f3.length 0 (by omega)
theorem vals_from (l : List S25) (hl : cnts l ≤ 1000000) : ∀ (d i : Nat), i + d = l.length → Ev (fun k => impl_valsIn.l0 k ((l.take i).map conv) l (l.length : Int) (i : Int)) (l.map conv) := by
  intro d
  have hle := cnt_len l
  induction d with
  | zero =>
    intro i hi
    refine Ev_up ?_
    have q : ¬ (i : Int) < (l.length : Int) := by omega
    simp only [impl_valsIn.l0, if_neg q]
    refine Ev_some ?_
    rw [show i = l.length by omega, List.take_length]
  | succ d ihd =>
    intro i hi
    refine Ev_up ?_
    have q : (i : Int) < (l.length : Int) := by omega
    have q0 : (0 : Int) ≤ (i : Int) := by omega
    have hlt : i < l.length := by omega
    have hx : rd_T25 l (i : Int) = l[i] := by
      unfold rd_T25
      rw [Int.toNat_natCast, List.getD_eq_getElem?_getD, List.getElem?_eq_getElem hlt]; rfl
    simp only [impl_valsIn.l0, if_pos q, if_pos q0, hx]
    refine Ev.bind (conv_all _ l[i] (cnt_mem (List.getElem_mem hlt)) hl) ?_
    have q2 : ((l.take i).map conv).length < 2513169434916 := by rw [List.length_map, List.length_take]; omega
    simp only [if_pos q2]
    rw [show wrap64 ((i : Int) + 1) = ((i + 1 : Nat) : Int) by rw [w64 (by omega) (by omega)]; omega]
    have := ihd (i + 1) (by omega)
    rw [List.take_succ_eq_append_getElem hlt, List.map_append, List.map_singleton, conv_eq l[i]] at this
    exact this
theorem vals_all (l : List S25) (hl : cnts l ≤ 1000000) : Ev (fun k => impl_valsIn.f k l) (l.map conv) := vals_from l hl l.length 0 (by omega)
end Go.Proofs.YtnojjfklnihmnaaDoor.Cv
end
section
namespace Go.Proofs.YtnojjfklnihmnaaDoor.Cv
open Go.RowKit Go.Proofs.YtnojjfklnihmnaaDoorW.PrintWords Go.Proofs.YtnojjfklnihmnaaDoor.Pl Go.Proofs.YtnojjfklnihmnaaDoor.PFnSgOfParts Go.Proofs.YtnojjfklnihmnaaDoor.Given
theorem cnts_app (l m : List S25) : cnts (l ++ m) = cnts l + cnts m := by
  induction l with
  | nil => simp [cnts]
  | cons x l ih => rw [List.cons_append, cnts, cnts, ih]; omega
theorem byts_app (l m : List S25) : byts (l ++ m) = byts l + byts m := by
  induction l with
  | nil => simp [byts]
  | cons x l ih => rw [List.cons_append, byts, byts, ih]; omega
theorem bnd_says (most : Int) : ∀ (k : Nat) (todo : List S25) (b n : Int), n ≤ most → b ≤ 65536 → most - n + (todo.length : Int) < (k : Int) →
    ∃ r, bnd.l most k todo b n = some r ∧ (r = true → n - todo.length + (cnts todo : Int) ≤ most ∧ b + (byts todo : Int) ≤ 65536) := by
  intro k
  induction k with
  | zero => intro todo b n h1 h2 h3; omega
  | succ k ih =>
    intro todo b n h1 h2 h3
    rw [bnd.l]
    by_cases h0 : todo.length = 0
    · rw [if_pos h0]
      obtain rfl : todo = [] := List.eq_nil_of_length_eq_zero h0
      exact ⟨true, rfl, fun _ => ⟨by simp [cnts]; omega, by simp [byts]; omega⟩⟩
    · rw [if_neg h0]
      obtain ⟨n1, hn1⟩ : ∃ n1, todo.length = n1 + 1 := ⟨todo.length - 1, by omega⟩
      have hlt : n1 < todo.length := by omega
      have en : (todo.length : Int) - 1 = (n1 : Int) := by omega
      have hx : rd_T25 todo (n1 : Int) = todo[n1] := by
        unfold rd_T25
        rw [Int.toNat_natCast, List.getD_eq_getElem?_getD, List.getElem?_eq_getElem hlt]; rfl
      rw [en, hx, show todo.length - 1 = n1 by omega]
      have hsplit : todo = todo.take n1 ++ [todo[n1]] := by
        conv => lhs; rw [← List.take_length (l := todo), hn1, List.take_succ_eq_append_getElem hlt]
      have hc : cnts todo = cnts (todo.take n1) + cnt todo[n1] := by
        conv => lhs; rw [hsplit]
        rw [cnts_app, cnts, cnts]; omega
      have hb : byts todo = byts (todo.take n1) + byt todo[n1] := by
        conv => lhs; rw [hsplit]
        rw [byts_app, byts, byts]; omega
      have hl : (todo.take n1).length = n1 := by rw [List.length_take]; omega
      generalize todo[n1] = V at hc hb ⊢
      split
      · exact ⟨false, rfl, fun h => by cases h⟩
      rename_i g1
      split
      · exact ⟨false, rfl, fun h => by cases h⟩
      rename_i g2
      obtain ⟨r, hr, hs⟩ := ih (todo.take n1 ++ V.f3) (b + (V.f2.size : Int)) (n + (V.f3.length : Int)) (by omega) (by omega) (by rw [List.length_append, hl]; omega)
      refine ⟨r, hr, fun ht => ?_⟩
      obtain ⟨k1, k2⟩ := hs ht
      rw [List.length_append, hl, cnts_app] at k1
      rw [byts_app] at k2
      rw [cnt_eq] at hc
      rw [byt_eq] at hb
      rw [hc, hb, hn1]
      omega
theorem bnd_300 (l : List S25) : ∃ r, bnd.f l 300 = some r ∧ (r = true → cnts l ≤ 300 ∧ byts l ≤ 65536) := by
  unfold bnd.f
  by_cases h : (300 : Int) < (l.length : Int)
  · rw [if_pos h]; exact ⟨false, rfl, fun h => by cases h⟩
  · rw [if_neg h, if_pos (by omega)]
    obtain ⟨r, hr, hs⟩ := bnd_says 300 302 l 0 l.length (by omega) (by omega) (by omega)
    exact ⟨r, hr, fun ht => by have := hs ht; omega⟩
end Go.Proofs.YtnojjfklnihmnaaDoor.Cv
end
section
namespace Go.Proofs.YtnojjfklnihmnaaDoor.PFnSgOfParts
open Go.RowKit Go.Proofs.YtnojjfklnihmnaaDoorW.PrintWords Go.Proofs.YtnojjfklnihmnaaDoorW.PrintLast Go.Proofs.YtnojjfklnihmnaaDoorW.PrintMore
attribute [local go_sem] max2_int min2_int max_two min_two max_three min_three max_four min_four   -- for this text's walks alone
set_option linter.unusedVariables false
set_option linter.unusedSimpArgs false
def laws_zzFits2.f (a0_0 : Int) (a0_1 : Int) (a0_2 : ByteArray) (l0_3 : List (S25)) : Option (Bool) := if (a0_2.size : Int) > 2147483647 then (some false) else (if (l0_3.length : Int) > 2147483647 then (some false) else (some true))
set_option maxHeartbeats 8000000 in
set_option maxRecDepth 100000 in
theorem laws_zzFits2.calls (a0_0 : Int) (a0_1 : Int) (a0_2 : ByteArray) (A0_3 : Option Addr) (c0_3 : Nat) (l0_3 : List (S25)) (r : Bool) (w : World) (hr0_3 : Kd.C k25 w A0_3 l0_3.length l0_3) (hc0_3 : l0_3.length ≤ c0_3) (h : laws_zzFits2.f a0_0 a0_1 a0_2 l0_3 = some r) :
    Calls Tryd.prog 4 #[.agg #[.int .u8 a0_0, .int .u64 a0_1, .string a0_2, .slice A0_3 l0_3.length c0_3]] w fun e w' => e = .returned (.bool r) ∧ Below w.heap.size w w' := by
  have hu25 := Tryd.underlying25
  have HR0_3 := Aside0.mk hr0_3
  have HC0_3 := Aside0.mk hc0_3
  clear hr0_3 hc0_3
  have HB := Aside0.mk (Below.refl w.heap.size w)
  have H : (if (a0_2.size : Int) > 2147483647 then (some false) else (if (l0_3.length : Int) > 2147483647 then (some false) else (some true))) = some r := h
  clear h
  by_cases c2 : (a0_2.size : Int) > 2147483647
  · rw [if_pos c2] at H
    have c2b0 : decide (2147483647 < (a0_2.size : Int)) = true := decide_eq_true c2
    have c2b1 : decide (2147483647 < a0_2.size) = true := decide_eq_true (by omega)
    clear c2
    obtain rfl := Option.some.inj H
    go_enter Tryd.func4, Tryd.ntmps4
    go_wp2_with (first | ((with_reducible refine gate_dst (N := 1) rfl ?_); refine box_event ?hg (N := 1) ?hd (cs := #[.int .u8 a0_0, .int .u64 a0_1, .string a0_2, .slice A0_3 l0_3.length c0_3]) (t := 25) ?hr ?_; (case hd => rfl); (case hg => rfl); (case hr => first | (go_simp; done) | (go_simp; rfl)); intro gb101 hg w3 hbox hb; have n0_ := Aside0.mk (below_step (by repeat (first | (with_reducible first | exact HB.out | apply below_alloc | apply pw_below_drewN | apply below_drew1) | exact HB.out)) hb); have n1_ := Aside0.mk (hbox); have n2_ := Aside0.mk ((by rw [hg]; exact (below_size (by repeat (first | (with_reducible first | exact HB.out | apply below_alloc | apply pw_below_drewN | apply below_drew1) | exact HB.out))) : w.heap.size ≤ gb101)); have n3_ := Aside0.mk ((by rw [hg]; exact (below_size (by repeat (first | (with_reducible first | exact HB.out | apply below_alloc | apply pw_below_drewN | apply below_drew1) | exact HB.out))) : w.heap.size ≤ gb101)); clear HB; have HB := n0_; have BK101 := n1_; have GW101 := n2_; have GE101 := n3_; clear n0_ n1_ n2_ n3_; clear hb hbox hg; have hcz4_0 : w3.cell? ⟨gb101, 0, none⟩ = some (.int .u8 a0_0) := (blk_cell BK101.out 0).trans rfl; have hcz4_1 : w3.cell? ⟨gb101, 1, none⟩ = some (.int .u64 a0_1) := (blk_cell BK101.out 1).trans rfl; have hcz4_2 : w3.cell? ⟨gb101, 2, none⟩ = some (.string a0_2) := (blk_cell BK101.out 2).trans rfl; have hcz4_3 : w3.cell? ⟨gb101, 3, none⟩ = some (.slice A0_3 l0_3.length c0_3) := (blk_cell BK101.out 3).trans rfl; have hfz4_0 := blk_frozen BK101.out 0; have hfz4_1 := blk_frozen BK101.out 1; have hfz4_2 := blk_frozen BK101.out 2; have hfz4_3 := blk_frozen BK101.out 3))
    go_ret
    exact ⟨by first | rfl | (simp [errW_none, errW_some] <;> rfl) | (simp [*, errW_none, errW_some] <;> rfl), by repeat (first | (with_reducible first | exact HB.out | apply below_alloc | apply pw_below_drewN | apply below_drew1 | refine below_set ?_ GE101.out) | exact HB.out)⟩
  · rw [if_neg c2] at H
    have c2b0 : decide (2147483647 < (a0_2.size : Int)) = false := decide_eq_false c2
    have c2b1 : decide (2147483647 < a0_2.size) = false := decide_eq_false (by omega)
    clear c2
    by_cases c5 : (l0_3.length : Int) > 2147483647
    · rw [if_pos c5] at H
      have c5b0 : decide (2147483647 < (l0_3.length : Int)) = true := decide_eq_true c5
      have c5b1 : decide (2147483647 < l0_3.length) = true := decide_eq_true (by omega)
      clear c5
      obtain rfl := Option.some.inj H
      go_enter Tryd.func4, Tryd.ntmps4
      go_wp2_with (first | ((with_reducible refine gate_dst (N := 1) rfl ?_); refine box_event ?hg (N := 1) ?hd (cs := #[.int .u8 a0_0, .int .u64 a0_1, .string a0_2, .slice A0_3 l0_3.length c0_3]) (t := 25) ?hr ?_; (case hd => rfl); (case hg => rfl); (case hr => first | (go_simp; done) | (go_simp; rfl)); intro gb101 hg w6 hbox hb; have n0_ := Aside0.mk (below_step (by repeat (first | (with_reducible first | exact HB.out | apply below_alloc | apply pw_below_drewN | apply below_drew1) | exact HB.out)) hb); have n1_ := Aside0.mk (hbox); have n2_ := Aside0.mk ((by rw [hg]; exact (below_size (by repeat (first | (with_reducible first | exact HB.out | apply below_alloc | apply pw_below_drewN | apply below_drew1) | exact HB.out))) : w.heap.size ≤ gb101)); have n3_ := Aside0.mk ((by rw [hg]; exact (below_size (by repeat (first | (with_reducible first | exact HB.out | apply below_alloc | apply pw_below_drewN | apply below_drew1) | exact HB.out))) : w.heap.size ≤ gb101)); clear HB; have HB := n0_; have BK101 := n1_; have GW101 := n2_; have GE101 := n3_; clear n0_ n1_ n2_ n3_; clear hb hbox hg; have hcz7_0 : w6.cell? ⟨gb101, 0, none⟩ = some (.int .u8 a0_0) := (blk_cell BK101.out 0).trans rfl; have hcz7_1 : w6.cell? ⟨gb101, 1, none⟩ = some (.int .u64 a0_1) := (blk_cell BK101.out 1).trans rfl; have hcz7_2 : w6.cell? ⟨gb101, 2, none⟩ = some (.string a0_2) := (blk_cell BK101.out 2).trans rfl; have hcz7_3 : w6.cell? ⟨gb101, 3, none⟩ = some (.slice A0_3 l0_3.length c0_3) := (blk_cell BK101.out 3).trans rfl; have hfz7_0 := blk_frozen BK101.out 0; have hfz7_1 := blk_frozen BK101.out 1; have hfz7_2 := blk_frozen BK101.out 2; have hfz7_3 := blk_frozen BK101.out 3))
      go_ret
      exact ⟨by first | rfl | (simp [errW_none, errW_some] <;> rfl) | (simp [*, errW_none, errW_some] <;> rfl), by repeat (first | (with_reducible first | exact HB.out | apply below_alloc | apply pw_below_drewN | apply below_drew1 | refine below_set ?_ GE101.out) | exact HB.out)⟩
    · rw [if_neg c5] at H
      have c5b0 : decide (2147483647 < (l0_3.length : Int)) = false := decide_eq_false c5
      have c5b1 : decide (2147483647 < l0_3.length) = false := decide_eq_false (by omega)
      clear c5
      obtain rfl := Option.some.inj H
      go_enter Tryd.func4, Tryd.ntmps4
      go_wp2_with (first | ((with_reducible refine gate_dst (N := 1) rfl ?_); refine box_event ?hg (N := 1) ?hd (cs := #[.int .u8 a0_0, .int .u64 a0_1, .string a0_2, .slice A0_3 l0_3.length c0_3]) (t := 25) ?hr ?_; (case hd => rfl); (case hg => rfl); (case hr => first | (go_simp; done) | (go_simp; rfl)); intro gb101 hg w8 hbox hb; have n0_ := Aside0.mk (below_step (by repeat (first | (with_reducible first | exact HB.out | apply below_alloc | apply pw_below_drewN | apply below_drew1) | exact HB.out)) hb); have n1_ := Aside0.mk (hbox); have n2_ := Aside0.mk ((by rw [hg]; exact (below_size (by repeat (first | (with_reducible first | exact HB.out | apply below_alloc | apply pw_below_drewN | apply below_drew1) | exact HB.out))) : w.heap.size ≤ gb101)); have n3_ := Aside0.mk ((by rw [hg]; exact (below_size (by repeat (first | (with_reducible first | exact HB.out | apply below_alloc | apply pw_below_drewN | apply below_drew1) | exact HB.out))) : w.heap.size ≤ gb101)); clear HB; have HB := n0_; have BK101 := n1_; have GW101 := n2_; have GE101 := n3_; clear n0_ n1_ n2_ n3_; clear hb hbox hg; have hcz9_0 : w8.cell? ⟨gb101, 0, none⟩ = some (.int .u8 a0_0) := (blk_cell BK101.out 0).trans rfl; have hcz9_1 : w8.cell? ⟨gb101, 1, none⟩ = some (.int .u64 a0_1) := (blk_cell BK101.out 1).trans rfl; have hcz9_2 : w8.cell? ⟨gb101, 2, none⟩ = some (.string a0_2) := (blk_cell BK101.out 2).trans rfl; have hcz9_3 : w8.cell? ⟨gb101, 3, none⟩ = some (.slice A0_3 l0_3.length c0_3) := (blk_cell BK101.out 3).trans rfl; have hfz9_0 := blk_frozen BK101.out 0; have hfz9_1 := blk_frozen BK101.out 1; have hfz9_2 := blk_frozen BK101.out 2; have hfz9_3 := blk_frozen BK101.out 3))
      go_ret
      exact ⟨by first | rfl | (simp [errW_none, errW_some] <;> rfl) | (simp [*, errW_none, errW_some] <;> rfl), by repeat (first | (with_reducible first | exact HB.out | apply below_alloc | apply pw_below_drewN | apply below_drew1 | refine below_set ?_ GE101.out) | exact HB.out)⟩
def spec_Basic.f (a0 : Int) : Option (Bool) := if a0 = 121 then (some true) else (if a0 = 98 then (some true) else (if a0 = 110 then (some true) else (if a0 = 113 then (some true) else (if a0 = 105 then (some true) else (if a0 = 117 then (some true) else (if a0 = 120 then (some true) else (if a0 = 116 then (some true) else (if a0 = 100 then (some true) else (if a0 = 115 then (some true) else (if a0 = 111 then (some true) else (if a0 = 103 then (some true) else (if a0 = 104 then (some true) else (some false)))))))))))))
set_option maxHeartbeats 8000000 in
set_option maxRecDepth 100000 in
theorem spec_Basic.calls (a0 : Int) (r : Bool) (w : World) (h : spec_Basic.f a0 = some r) :
    Calls Tryd.prog 26 #[.int .u8 a0] w fun e w' => e = .returned (.bool r) ∧ Drawn0 w w' := by
  have H : (if a0 = 121 then (some true) else (if a0 = 98 then (some true) else (if a0 = 110 then (some true) else (if a0 = 113 then (some true) else (if a0 = 105 then (some true) else (if a0 = 117 then (some true) else (if a0 = 120 then (some true) else (if a0 = 116 then (some true) else (if a0 = 100 then (some true) else (if a0 = 115 then (some true) else (if a0 = 111 then (some true) else (if a0 = 103 then (some true) else (if a0 = 104 then (some true) else (some false)))))))))))))) = some r := h
  clear h
  by_cases c2 : a0 = 121
  · rw [if_pos c2] at H
    have c2b0 : (a0 == 121) = true := beq_iff_eq.mpr c2
    have c2b1 : (a0 != 121) = false := bne_eq_false_iff_eq.mpr c2
    clear c2
    obtain rfl := Option.some.inj H
    go_enter Tryd.func26, Tryd.ntmps26
    go_wp2
    go_ret
    exact ⟨by first | rfl | (simp; done) | (simp [*]; done), by repeat (first | exact Drawn0.refl _ | apply Drawn0.step)⟩
  · rw [if_neg c2] at H
    have c2b0 : (a0 == 121) = false := beq_eq_false_iff_ne.mpr c2
    have c2b1 : (a0 != 121) = true := bne_iff_ne.mpr c2
    by_cases c3 : a0 = 98
    · rw [if_pos c3] at H
      have c3b0 : (a0 == 98) = true := beq_iff_eq.mpr c3
      have c3b1 : (a0 != 98) = false := bne_eq_false_iff_eq.mpr c3
      clear c3
      obtain rfl := Option.some.inj H
      go_enter Tryd.func26, Tryd.ntmps26
      go_wp2
      go_ret
      exact ⟨by first | rfl | (simp; done) | (simp [*]; done), by repeat (first | exact Drawn0.refl _ | apply Drawn0.step)⟩
    · rw [if_neg c3] at H
      have c3b0 : (a0 == 98) = false := beq_eq_false_iff_ne.mpr c3
      have c3b1 : (a0 != 98) = true := bne_iff_ne.mpr c3
      by_cases c4 : a0 = 110
      · rw [if_pos c4] at H
        have c4b0 : (a0 == 110) = true := beq_iff_eq.mpr c4
        have c4b1 : (a0 != 110) = false := bne_eq_false_iff_eq.mpr c4
        clear c4
        obtain rfl := Option.some.inj H
        go_enter Tryd.func26, Tryd.ntmps26
        go_wp2
        go_ret
        exact ⟨by first | rfl | (simp; done) | (simp [*]; done), by repeat (first | exact Drawn0.refl _ | apply Drawn0.step)⟩
      · rw [if_neg c4] at H
        have c4b0 : (a0 == 110) = false := beq_eq_false_iff_ne.mpr c4
        have c4b1 : (a0 != 110) = true := bne_iff_ne.mpr c4
        by_cases c5 : a0 = 113
        · rw [if_pos c5] at H
          have c5b0 : (a0 == 113) = true := beq_iff_eq.mpr c5
          have c5b1 : (a0 != 113) = false := bne_eq_false_iff_eq.mpr c5
          clear c5
          obtain rfl := Option.some.inj H
          go_enter Tryd.func26, Tryd.ntmps26
          go_wp2
          go_ret
          exact ⟨by first | rfl | (simp; done) | (simp [*]; done), by repeat (first | exact Drawn0.refl _ | apply Drawn0.step)⟩
        · rw [if_neg c5] at H
          have c5b0 : (a0 == 113) = false := beq_eq_false_iff_ne.mpr c5
          have c5b1 : (a0 != 113) = true := bne_iff_ne.mpr c5
          by_cases c6 : a0 = 105
          · rw [if_pos c6] at H
            have c6b0 : (a0 == 105) = true := beq_iff_eq.mpr c6
            have c6b1 : (a0 != 105) = false := bne_eq_false_iff_eq.mpr c6
            clear c6
            obtain rfl := Option.some.inj H
            go_enter Tryd.func26, Tryd.ntmps26
            go_wp2
            go_ret
            exact ⟨by first | rfl | (simp; done) | (simp [*]; done), by repeat (first | exact Drawn0.refl _ | apply Drawn0.step)⟩
          · rw [if_neg c6] at H
            have c6b0 : (a0 == 105) = false := beq_eq_false_iff_ne.mpr c6
            have c6b1 : (a0 != 105) = true := bne_iff_ne.mpr c6
            by_cases c7 : a0 = 117
            · rw [if_pos c7] at H
              have c7b0 : (a0 == 117) = true := beq_iff_eq.mpr c7
              have c7b1 : (a0 != 117) = false := bne_eq_false_iff_eq.mpr c7
              clear c7
              obtain rfl := Option.some.inj H
              go_enter Tryd.func26, Tryd.ntmps26
              go_wp2
              go_ret
              exact ⟨by first | rfl | (simp; done) | (simp [*]; done), by repeat (first | exact Drawn0.refl _ | apply Drawn0.step)⟩
            · rw [if_neg c7] at H
              have c7b0 : (a0 == 117) = false := beq_eq_false_iff_ne.mpr c7
              have c7b1 : (a0 != 117) = true := bne_iff_ne.mpr c7
              by_cases c8 : a0 = 120
              · rw [if_pos c8] at H
                have c8b0 : (a0 == 120) = true := beq_iff_eq.mpr c8
                have c8b1 : (a0 != 120) = false := bne_eq_false_iff_eq.mpr c8
                clear c8
                obtain rfl := Option.some.inj H
                go_enter Tryd.func26, Tryd.ntmps26
                go_wp2
                go_ret
                exact ⟨by first | rfl | (simp; done) | (simp [*]; done), by repeat (first | exact Drawn0.refl _ | apply Drawn0.step)⟩
              · rw [if_neg c8] at H
                have c8b0 : (a0 == 120) = false := beq_eq_false_iff_ne.mpr c8
                have c8b1 : (a0 != 120) = true := bne_iff_ne.mpr c8
                by_cases c9 : a0 = 116
                · rw [if_pos c9] at H
                  have c9b0 : (a0 == 116) = true := beq_iff_eq.mpr c9
                  have c9b1 : (a0 != 116) = false := bne_eq_false_iff_eq.mpr c9
                  clear c9
                  obtain rfl := Option.some.inj H
                  go_enter Tryd.func26, Tryd.ntmps26
                  go_wp2
                  go_ret
                  exact ⟨by first | rfl | (simp; done) | (simp [*]; done), by repeat (first | exact Drawn0.refl _ | apply Drawn0.step)⟩
                · rw [if_neg c9] at H
                  have c9b0 : (a0 == 116) = false := beq_eq_false_iff_ne.mpr c9
                  have c9b1 : (a0 != 116) = true := bne_iff_ne.mpr c9
                  by_cases c10 : a0 = 100
                  · rw [if_pos c10] at H
                    have c10b0 : (a0 == 100) = true := beq_iff_eq.mpr c10
                    have c10b1 : (a0 != 100) = false := bne_eq_false_iff_eq.mpr c10
                    clear c10
                    obtain rfl := Option.some.inj H
                    go_enter Tryd.func26, Tryd.ntmps26
                    go_wp2
                    go_ret
                    exact ⟨by first | rfl | (simp; done) | (simp [*]; done), by repeat (first | exact Drawn0.refl _ | apply Drawn0.step)⟩
                  · rw [if_neg c10] at H
                    have c10b0 : (a0 == 100) = false := beq_eq_false_iff_ne.mpr c10
                    have c10b1 : (a0 != 100) = true := bne_iff_ne.mpr c10
                    by_cases c11 : a0 = 115
                    · rw [if_pos c11] at H
                      have c11b0 : (a0 == 115) = true := beq_iff_eq.mpr c11
                      have c11b1 : (a0 != 115) = false := bne_eq_false_iff_eq.mpr c11
                      clear c11
                      obtain rfl := Option.some.inj H
                      go_enter Tryd.func26, Tryd.ntmps26
                      go_wp2
                      go_ret
                      exact ⟨by first | rfl | (simp; done) | (simp [*]; done), by repeat (first | exact Drawn0.refl _ | apply Drawn0.step)⟩
                    · rw [if_neg c11] at H
                      have c11b0 : (a0 == 115) = false := beq_eq_false_iff_ne.mpr c11
                      have c11b1 : (a0 != 115) = true := bne_iff_ne.mpr c11
                      by_cases c12 : a0 = 111
                      · rw [if_pos c12] at H
                        have c12b0 : (a0 == 111) = true := beq_iff_eq.mpr c12
                        have c12b1 : (a0 != 111) = false := bne_eq_false_iff_eq.mpr c12
                        clear c12
                        obtain rfl := Option.some.inj H
                        go_enter Tryd.func26, Tryd.ntmps26
                        go_wp2
                        go_ret
                        exact ⟨by first | rfl | (simp; done) | (simp [*]; done), by repeat (first | exact Drawn0.refl _ | apply Drawn0.step)⟩
                      · rw [if_neg c12] at H
                        have c12b0 : (a0 == 111) = false := beq_eq_false_iff_ne.mpr c12
                        have c12b1 : (a0 != 111) = true := bne_iff_ne.mpr c12
                        by_cases c13 : a0 = 103
                        · rw [if_pos c13] at H
                          have c13b0 : (a0 == 103) = true := beq_iff_eq.mpr c13
                          have c13b1 : (a0 != 103) = false := bne_eq_false_iff_eq.mpr c13
                          clear c13
                          obtain rfl := Option.some.inj H
                          go_enter Tryd.func26, Tryd.ntmps26
                          go_wp2
                          go_ret
                          exact ⟨by first | rfl | (simp; done) | (simp [*]; done), by repeat (first | exact Drawn0.refl _ | apply Drawn0.step)⟩
                        · rw [if_neg c13] at H
                          have c13b0 : (a0 == 103) = false := beq_eq_false_iff_ne.mpr c13
                          have c13b1 : (a0 != 103) = true := bne_iff_ne.mpr c13
                          by_cases c14 : a0 = 104
                          · rw [if_pos c14] at H
                            have c14b0 : (a0 == 104) = true := beq_iff_eq.mpr c14
                            have c14b1 : (a0 != 104) = false := bne_eq_false_iff_eq.mpr c14
                            clear c14
                            obtain rfl := Option.some.inj H
                            go_enter Tryd.func26, Tryd.ntmps26
                            go_wp2
                            go_ret
                            exact ⟨by first | rfl | (simp; done) | (simp [*]; done), by repeat (first | exact Drawn0.refl _ | apply Drawn0.step)⟩
                          · rw [if_neg c14] at H
                            have c14b0 : (a0 == 104) = false := beq_eq_false_iff_ne.mpr c14
                            have c14b1 : (a0 != 104) = true := bne_iff_ne.mpr c14
                            obtain rfl := Option.some.inj H
                            go_enter Tryd.func26, Tryd.ntmps26
                            go_wp2
                            go_ret
                            exact ⟨by first | rfl | (simp; done) | (simp [*]; done), by repeat (first | exact Drawn0.refl _ | apply Drawn0.step)⟩
end Go.Proofs.YtnojjfklnihmnaaDoor.PFnSgOfParts
end
