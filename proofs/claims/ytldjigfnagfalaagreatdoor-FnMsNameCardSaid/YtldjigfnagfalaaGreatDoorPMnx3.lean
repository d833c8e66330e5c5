/- Part of the proof of LawFnMsName. -/
import Derived.Test.YtldjigfnagfalaaGreatDoorGvGo
import Derived.Test.YtldjigfnagfalaaGreatDoorPMix2
import Derived.Test.YtldjigfnagfalaaGreatDoorPMnx2
import Derived.Test.YtldjigfnagfalaaGreatDoorPMnx0
set_option linter.unusedVariables false
set_option linter.unusedSimpArgs false
section
namespace Go.Proofs.YtldjigfnagfalaaGreatDoor.Given
open Go.RowKit Go.Proofs.YtldjigfnagfalaaGreatDoorW.PrintWords Go.Proofs.YtldjigfnagfalaaGreatDoorW.PrintLast Go.Proofs.YtldjigfnagfalaaGreatDoorW.PrintMore Go.Proofs.YtldjigfnagfalaaGreatDoor.PMi
set_option linter.unusedVariables false
def d43 (p : Nat × HV) : S43 := ⟨p.1, ⟨p.2.kd, p.2.n, p.2.s, []⟩⟩
theorem valIn_eq (K : Nat) (a b : Int) (s : ByteArray) : impl_valIn.f (K + 2) a b s [] = some (a, b, s, []) := by
  simp [impl_valIn.f, impl_valIn.l0]
theorem msgIn_l (l : List S43) (hl : l.length ≤ 10) (hk : ∀ x ∈ l, x.f1.f3 = []) (t : Int) : ∀ n j acc, n + j = l.length → acc.length = j → impl_msgIn.l0 (n + 3) l (l.length : Int) j t 0 3 acc [] = some (t, 0, 3, acc ++ (l.drop j).map (fun x => (⟨x.f0, ⟨x.f1.f0, x.f1.f1, x.f1.f2, []⟩⟩ : S89)), []) := by
  intro n
  induction n with
  | zero =>
    intro j acc h ha
    have h1 : ¬ ((j : Int) < (l.length : Int)) := by omega
    rw [show 0 + 3 = 2 + 1 from rfl]
    unfold impl_msgIn.l0
    rw [if_neg h1, List.drop_of_length_le (by omega)]
    simp
  | succ n ih =>
    intro j acc h ha
    have h1 : (j : Int) < (l.length : Int) := by omega
    have h2 : (0 : Int) ≤ (j : Int) := by omega
    have hj : j < l.length := by omega
    have hrd : rd_T43 l (j : Int) = l[j] := by
      unfold rd_T43
      rw [Int.toNat_natCast, List.getD_eq_getElem?_getD, List.getElem?_eq_getElem hj]
      rfl
    have hw : wrap64 ((j : Int) + 1) = ((j + 1 : Nat) : Int) := by unfold wrap64; omega
    rw [show n + 1 + 3 = (n + 3) + 1 by omega]
    unfold impl_msgIn.l0
    rw [if_pos h1, if_pos h2, if_pos h1, hrd, hk _ (List.getElem_mem hj), show n + 3 = (n + 1) + 2 by omega, valIn_eq, Option.bind_some, if_pos (by omega), hw, show n + 1 + 2 = n + 3 by omega, ih (j + 1) _ (by omega) (by simp; omega)]
    rw [List.append_assoc, List.drop_eq_getElem_cons hj]
    rfl
theorem msgIn_eq (t : Nat) (S : ByteArray) : impl_msgIn.f ((fieldsOf t S).length + 3) t 0 3 ((fieldsOf t S).map d43) [] = some ((t : Int), 0, 3, (fieldsOf t S).map d89, []) := by
  have hv : impl_valsIn.f ((fieldsOf t S).length + 3) [] = some [] := by
    simp [impl_valsIn.f, impl_valsIn.l0]
  unfold impl_msgIn.f
  rw [hv, Option.bind_some]
  have hlen : (fieldsOf t S).length ≤ 3 := by unfold fieldsOf; split <;> simp
  have hlm : ((fieldsOf t S).map d43).length = (fieldsOf t S).length := List.length_map ..
  have h0 := msgIn_l ((fieldsOf t S).map d43) (by omega) (by intro x hx; obtain ⟨y, _, rfl⟩ := List.mem_map.1 hx; rfl) (t : Int) (fieldsOf t S).length 0 [] (by omega) rfl
  rw [List.drop_zero, List.map_map] at h0
  exact h0
end Go.Proofs.YtldjigfnagfalaaGreatDoor.Given
end
section
namespace Go.Proofs.YtldjigfnagfalaaGreatDoor.Given
open Go.RowKit Go.Proofs.YtldjigfnagfalaaGreatDoorW.PrintWords Go.Proofs.YtldjigfnagfalaaGreatDoorW.PrintLast Go.Proofs.YtldjigfnagfalaaGreatDoorW.PrintMore Go.Proofs.YtldjigfnagfalaaGreatDoor.PMi
set_option linter.unusedVariables false
def Asked (t f s : Int) (l3 : List S43) (l4 : List S27) (k : Nat) (S : ByteArray) : Prop :=
  1 ≤ k ∧ k ≤ 4 ∧ t = k ∧ f = 0 ∧ s = 3 ∧ l3 = (fieldsOf k S).map d43 ∧ l4 = [] ∧ Plain S ∧ IsMember.f S = some true
open Classical in
noncomputable def MsEncode.f (t f s : Int) (l3 : List S43) (l4 : List S27) (big : Bool) : Option (ByteArray × Bool) :=
  if h : ∃ k S, Asked t f s l3 l4 k S then some (⟨(msgBytes big h.choose 3 (fieldsOf h.choose h.choose_spec.choose)).toArray⟩, true) else none
set_option maxHeartbeats 4000000 in
set_option maxRecDepth 100000 in
theorem MsEncode.calls (t f s : Int) (A3 : Option Addr) (c3 : Nat) (l3 : List S43) (A4 : Option Addr) (c4 : Nat) (l4 : List S27) (a1 : Bool) (r1 : ByteArray) (r2 : Bool) (w : World) (hr3 : Kd.C k43 w A3 l3.length l3) (hc3 : l3.length ≤ c3) (hr4 : Kd.C k27 w A4 l4.length l4) (hc4 : l4.length ≤ c4) (h : MsEncode.f t f s l3 l4 a1 = some (r1, r2)) :
    Calls Tryz.prog 12 #[.agg #[.int .u8 t, .int .u8 f, .int .u32 s, .slice A3 l3.length c3, .slice A4 l4.length c4], .bool a1] w fun e w' => e = .returned (.tuple #[.string r1, .bool r2]) ∧ Below w.heap.size w w' := by
  unfold MsEncode.f at h
  split at h
  case isFalse => cases h
  rename_i hex
  obtain ⟨k, hk⟩ : ∃ k, hex.choose = k := ⟨_, rfl⟩
  obtain ⟨S, hSS⟩ : ∃ S, hex.choose_spec.choose = S := ⟨_, rfl⟩
  have hA := hex.choose_spec.choose_spec
  rw [hSS] at h hA
  rw [hk] at h hA
  clear hSS hk hex
  obtain ⟨h1, h4, rfl, rfl, rfl, rfl, rfl, hS, hM⟩ := hA
  have h' := Option.some.inj h
  have e1 : ⟨(msgBytes a1 k 3 (fieldsOf k S)).toArray⟩ = r1 := congrArg Prod.fst h'
  have e2 : true = r2 := congrArg Prod.snd h'
  subst e2
  have HE1 := Aside0.mk e1
  have HMI : Aside0 (∀ w, Kd.C k43 w A3 ((fieldsOf k S).map d43).length ((fieldsOf k S).map d43) → Kd.C k27 w A4 ([] : List S27).length [] → Calls Tryz.prog 22 #[.agg #[.int .u8 k, .int .u8 0, .int .u32 3, .slice A3 (fieldsOf k S).length c3, .slice A4 0 c4]] w fun e w' => ∃ v3_ v4_ : Value, e = .returned (.agg #[.int .u8 k, .int .u8 0, .int .u32 3, v3_, v4_]) ∧ Kd.R k89 89 w' w.heap.size (fun k_ => some k_ ≠ (v4_ : Value).ownBlock) v3_ ((fieldsOf k S).map d89) ∧ Kd.R k80 80 w' w.heap.size (fun _ => True) v4_ [] ∧ Below w.heap.size w w') := ⟨fun w h3 h4 => by
    have h := impl_msgIn.calls ((fieldsOf k S).length + 3) k 0 3 A3 c3 _ A4 c4 [] _ _ _ _ _ w h3 hc3 h4 hc4 (msgIn_eq k S)
    rw [List.length_map] at h
    exact h⟩
  have HG := Aside0.mk (good_of k h1 h4 S hS hM)
  have HR3 := Aside0.mk hr3
  have HR4 := Aside0.mk hr4
  clear h h' e1 hr3 hr4 hS hM
  go_enter Tryz.func12, Tryz.ntmps12
  go_wp2_with fail
  with_reducible refine (HMI.out _ (Kd.C_below HR3.out ((Below.refl _ w).alloc (Nat.le_refl _) _)) (Kd.C_below HR4.out ((Below.refl _ w).alloc (Nat.le_refl _) _))).mono ?_
  rintro r w1 ⟨v3, v4, rfl, ho3, ho4, hb1⟩
  obtain ⟨A5, c5, e5⟩ := Kd.R_slice ho3
  obtain ⟨A6, c6, e6⟩ := Kd.R_slice ho4
  subst e5
  subst e6
  have hC := (Kd.R_reads' ho3).2.2
  rw [List.length_map] at hC ⊢
  have HDM : Aside0 (Calls Tryz.prog 21 #[.agg #[.int .u8 k, .int .u8 0, .int .u32 3, .slice A5 (fieldsOf k S).length c5, .slice A6 0 c6], .bool a1] w1 fun r w' => r = .returned (.tuple #[.string r1, .nilIface]) ∧ Below w1.heap.size w1 w') := ⟨HE1.out ▸ doorMessage a1 k 3 (fieldsOf k S) HG.out A5 A6 c5 c6 w1 hC⟩
  have hB1 : Below w.heap.size w w1 := ((Below.refl _ w).alloc (Nat.le_refl _) _).trans (hb1.mono (by simp))
  have HB1 := Aside0.mk hB1
  clear hC ho3 ho4 hb1 hB1 HMI HR3 HR4
  rw [List.length_nil]
  go_wp2_with fail
  with_reducible refine (HDM.out).mono ?_
  rintro r w2 ⟨rfl, hb2⟩
  have HB2 := Aside0.mk (HB1.out.trans (hb2.mono HB1.out.size))
  clear hb2 HDM
  go_wp2_with fail
  go_quiet (fail)
  go_wp2_with fail
  go_ret2
  exact ⟨rfl, below_drewN HB2.out _⟩
end Go.Proofs.YtldjigfnagfalaaGreatDoor.Given
end
section
namespace Go.Proofs.YtldjigfnagfalaaGreatDoor.Given
open Go.RowKit Go.Proofs.YtldjigfnagfalaaGreatDoorW.PrintWords Go.Proofs.YtldjigfnagfalaaGreatDoorW.PrintLast Go.Proofs.YtldjigfnagfalaaGreatDoorW.PrintMore Go.Proofs.YtldjigfnagfalaaGreatDoor.PMn Go.Proofs.YtldjigfnagfalaaGreatDoor.PMi
set_option linter.unusedVariables false
def b43 (c : Int) : S43 := if c = 1 then ⟨1, ⟨111, 0, ⟨#[47, 97]⟩, []⟩⟩ else if c = 2 then ⟨2, ⟨115, 0, ⟨#[97, 46, 98]⟩, []⟩⟩ else if c = 3 then ⟨3, ⟨115, 0, ⟨#[98]⟩, []⟩⟩ else if c = 4 then ⟨4, ⟨115, 0, ⟨#[97, 46, 98]⟩, []⟩⟩ else ⟨5, ⟨117, 9, ⟨#[]⟩, []⟩⟩
theorem below_alloc2 (w : World) (o1 o2 : Obj) : Below w.heap.size w ((w.alloc o1).alloc o2) := ((Below.refl _ w).alloc (Nat.le_refl _) _).alloc (by simp) _
theorem cells_of {W : World} {x : Nat} {cs : Array Value} {T : TypeId} (h : W.heap[x]? = some (.cells cs T)) (i : Nat) (v : Value) (hv : cs[i]? = some v) : W.cell? ⟨x, i, none⟩ = some v ∧ W.frozen? ⟨x, i, none⟩ = false := ⟨by rw [Lib.cell_of_heap h]; exact hv, Lib.frozen_of_heap h i⟩
theorem info43b : (Tryz.prog.info? 43).map (fun i => (i.zero, i.size, i.bytes)) = some (some (.agg #[(.int .u8 0), (.int .u8 0), (.int .u64 0), (.string ⟨#[]⟩), (.slice none 0 0)]), 5, 64) := by kernel_rfl
set_option maxHeartbeats 16000000 in
set_option maxRecDepth 100000 in
theorem msBase_walk (k : Int) (nd : List Int) (hnd : spec_Needs.f k = some nd) (hc : ∀ c ∈ nd, c = 1 ∨ c = 2 ∨ c = 3 ∨ c = 4 ∨ c = 5) (hl : nd.length ≤ 3) (w : World) :
    Calls Tryz.prog 11 #[.int .u8 k] w fun e w' => ∃ v3_ v4_ : Value, e = .returned (.agg #[.int .u8 k, .int .u8 0, .int .u32 3, v3_, v4_]) ∧ Kd.R k43 43 w' w.heap.size (fun k_ => some k_ ≠ (v4_ : Value).ownBlock) v3_ (nd.map b43) ∧ Kd.R k27 27 w' w.heap.size (fun _ => True) v4_ [] ∧ Below w.heap.size w w' := by
  have HC := Aside0.mk hc
  have HND := Aside0.mk (fun w => spec_Needs.calls k nd w hnd)
  clear hc hnd
  go_enter Tryz.func11, Tryz.ntmps11
  go_wp2_with fail
  obtain ⟨n, hn⟩ : ∃ n, w.heap.size = n := ⟨_, rfl⟩
  obtain ⟨w1, hw1⟩ : ∃ w1, (w.alloc (.cells #[.int .u8 0, .int .u8 0, .int .u32 0, .slice none 0 0, .slice none 0 0] 39)).alloc (.cells #[.int .u8 k, .int .u8 0, .int .u32 3, .slice none 0 0, .slice none 0 0] 39) = w1 := ⟨_, rfl⟩
  rw [hw1]
  have hB1 : Below n w w1 := by rw [← hw1, ← hn]; exact below_alloc2 w _ _
  have hr1 : w1.heap[n]? = some (.cells #[.int .u8 0, .int .u8 0, .int .u32 0, .slice none 0 0, .slice none 0 0] 39) := by
    rw [← hw1, Below.heap_alloc _ _ _ (by simp; omega), ← hn]; exact heap_alloc_new w _
  have hg1 : w1.heap[n + 1]? = some (.cells #[.int .u8 k, .int .u8 0, .int .u32 3, .slice none 0 0, .slice none 0 0] 39) := by
    rw [← hw1]
    have := heap_alloc_new (w.alloc (.cells #[.int .u8 0, .int .u8 0, .int .u32 0, .slice none 0 0, .slice none 0 0] 39)) (.cells #[.int .u8 k, .int .u8 0, .int .u32 3, .slice none 0 0, .slice none 0 0] 39)
    rwa [show (w.alloc (.cells #[.int .u8 0, .int .u8 0, .int .u32 0, .slice none 0 0, .slice none 0 0] 39)).heap.size = n + 1 by simp; omega] at this
  clear hw1
  rw [hn]
  refine (HND.out w1).mono ?_
  rintro e w2 ⟨v, rfl, ho, hb2⟩
  obtain ⟨A5, c5, eo⟩ := Kd.R_slice ho
  subst eo
  have hown := Kd.own_of_R ho
  have hz1 : w1.heap.size = w1.heap.size := rfl
  have hg5 : ∃ g5 cur, (0 < nd.length → A5 = some ⟨g5, 0, none⟩) ∧ (0 < nd.length → w2.heap[g5]? = some (.cells cur 5)) ∧ ∀ (j : Nat) (c : Int), nd[j]? = some c → cur[j]? = some (.int .u8 c) := by
    rcases hown.2 with ⟨-, h0⟩ | ⟨g5, cap, cur, hv, hBg, hg, hnc, hcm, hcs, htk⟩
    · refine ⟨0, #[], fun h => by omega, fun h => by omega, fun j c hj => ?_⟩
      have := (List.getElem?_eq_some_iff.1 hj).1
      omega
    · refine ⟨g5, cur, fun _ => by injection hv, fun _ => hg, fun j c hj => ?_⟩
      have hx : (encs (Value.int .u8) nd)[j]? = some (.int .u8 c) := by show (nd.map (Value.int .u8))[j]? = _; rw [List.getElem?_map, hj]; rfl
      rw [← htk] at hx
      obtain ⟨h1, h2⟩ := List.getElem?_eq_some_iff.1 hx
      rw [List.getElem_take] at h2
      rw [List.length_take] at h1
      have h3 := Array.length_toList (xs := cur)
      rw [Array.getElem?_eq_getElem (by omega), ← h2]
      simp
  obtain ⟨g5, cur, hA5, hrow, hcur⟩ := hg5
  have HA5 := Aside0.mk hA5
  have HROW := Aside0.mk hrow
  have HCUR := Aside0.mk hcur
  have HR2 := Aside0.mk (blk_below hr1 hb2)
  have HG2 := Aside0.mk (blk_below hg1 hb2)
  have HB2 : Aside0 (Below n w w2) := ⟨hB1.trans (hb2.mono (by have h := Lib.lt_of_heap hg1; omega))⟩
  clear hA5 hrow hcur hr1 hg1 hb2 hB1 ho hown hz1
  go_wp2_with fail
  go_loopw [12] (fun i wr => ∃ j : Nat, j ≤ nd.length ∧ i = .int .i64 j ∧ ∃ u, Aside0 (wr.heap[n]? = some (.cells #[.int .u8 0, .int .u8 0, .int .u32 0, .slice none 0 0, .slice none 0 0] 39)) ∧ Aside0 (wr.heap[n + 1]? = some (.cells #[.int .u8 k, .int .u8 0, .int .u32 3, u, .slice none 0 0] 39)) ∧ Aside0 (0 < nd.length → wr.heap[g5]? = some (.cells cur 5)) ∧ Aside0 (Kd.R k43 43 wr n (fun _ => True) u ((nd.take j).map b43)) ∧ Aside0 (Below n w wr)) (fun i _ => nd.length - (intOf i).toNat)
  case atStart => exact ⟨0, Nat.zero_le _, rfl, .slice none 0 0, HR2, HG2, HROW, ⟨Kd.R_nil _ _ _ _ _⟩, HB2⟩
  case round =>
    clear HR2 HG2 HROW HB2
    obtain ⟨j, hj, rfl, u, HR, HG, HROW, HO, HB⟩ := hrel
    by_cases hlt : j < nd.length
    · obtain ⟨c, hcj⟩ : ∃ c, nd[j]? = some c := ⟨_, List.getElem?_eq_getElem hlt⟩
      have hrw := HROW.out (by omega)
      have hcell : wr.cell? ⟨g5, j, none⟩ = some (.int .u8 c) := by rw [Lib.cell_of_heap hrw]; exact HCUR.out j c hcj
      have hadd : (⟨g5, 0, none⟩ : Addr).add j = ⟨g5, j, none⟩ := by rw [Lib.addr_add, Nat.zero_add]
      have hA := HA5.out (by omega)
      subst hA
      have HTK : Aside0 ((nd.take (j + 1)).map b43 = (nd.take j).map b43 ++ [b43 c]) := ⟨by rw [List.take_add_one, hcj, List.map_append]; rfl⟩
      have HBK := Aside0.mk hrw
      have hzr := HB.out.size
      have hlr := Lib.lt_of_heap HG.out
      rcases HC.out c (List.mem_of_getElem? hcj) with rfl | rfl | rfl | rfl | rfl
      · obtain ⟨hc3, hf3⟩ := cells_of HG.out 3 _ rfl
        go_wp2_with fail
        refine (spec_FieldKind.calls 5 1 111 _ rfl).mono ?_
        rintro e w3 ⟨rfl, ⟨m3, hm3⟩⟩
        have HO := Aside0.mk (hm3 ▸ Kd.R_drewN HO.out m3 : Kd.R k43 43 w3 n (fun _ => True) u ((nd.take j).map b43))
        have HB : Aside0 (Below n w w3) := ⟨hm3 ▸ below_drewN HB.out m3⟩
        have HG : Aside0 (w3.heap[n + 1]? = some (.cells #[.int .u8 k, .int .u8 0, .int .u32 3, u, .slice none 0 0] 39)) := ⟨by rw [hm3]; exact HG.out⟩
        have HR : Aside0 (w3.heap[n]? = some (.cells #[.int .u8 0, .int .u8 0, .int .u32 0, .slice none 0 0, .slice none 0 0] 39)) := ⟨by rw [hm3]; exact HR.out⟩
        have HBK : Aside0 (w3.heap[g5]? = some (.cells cur 5)) := ⟨by rw [hm3]; exact HBK.out⟩
        have hz3 : n + 1 < w3.heap.size := Lib.lt_of_heap HG.out
        clear hm3 hc3 hf3
        obtain ⟨hc3, hf3⟩ := cells_of HG.out 3 _ rfl
        have HOW := Aside0.mk (Kd.R_alloc HO.out (.cells #[.int .u8 1, .int .u8 111, .int .u64 0, .string ⟨#[47, 97]⟩, .slice none 0 0] 43))
        have HBW : Aside0 (Below n w (w3.alloc (.cells #[.int .u8 1, .int .u8 111, .int .u64 0, .string ⟨#[47, 97]⟩, .slice none 0 0] 43))) := ⟨HB.out.alloc (by omega) _⟩
        have HGW : Aside0 ((w3.alloc (.cells #[.int .u8 1, .int .u8 111, .int .u64 0, .string ⟨#[47, 97]⟩, .slice none 0 0] 43)).heap[n + 1]? = some (.cells #[.int .u8 k, .int .u8 0, .int .u32 3, u, .slice none 0 0] 39)) := ⟨blk_alloc HG.out _⟩
        have HRW : Aside0 ((w3.alloc (.cells #[.int .u8 1, .int .u8 111, .int .u64 0, .string ⟨#[47, 97]⟩, .slice none 0 0] 43)).heap[n]? = some (.cells #[.int .u8 0, .int .u8 0, .int .u32 0, .slice none 0 0, .slice none 0 0] 39)) := ⟨blk_alloc HR.out _⟩
        have HKW : Aside0 ((w3.alloc (.cells #[.int .u8 1, .int .u8 111, .int .u64 0, .string ⟨#[47, 97]⟩, .slice none 0 0] 43)).heap[g5]? = some (.cells cur 5)) := ⟨blk_alloc HBK.out _⟩
        have hlen : ((nd.take j).map b43).length ≤ 3 := by rw [List.length_map, List.length_take]; omega
        clear HR HG HROW HO HB HBK hrw
        go_wp2_with ((with_reducible refine gate_builtin (b := .append) (xs := #[.tmp 37, .tmp 39]) rfl ?_); at_builtin; refine Kd.R_append k43 (w0 := w) n rfl (.tmp 37) (.tmp 39) 37 43 (.agg #[(.int .u8 0), (.int .u8 0), (.int .u64 0), (.string ⟨#[]⟩), (.slice none 0 0)]) 64 rfl Tryz.underlying37 info43b rfl (by decide) (by omega) u ((nd.take j).map b43) (b43 1) [.int .u8 1, .int .u8 111, .int .u64 0, .string ⟨#[47, 97]⟩, .slice none 0 0] (fun _ => True) (fun k_ => True ∧ some k_ ≠ (u : Value).ownBlock) rfl (by first | (go_simp; done) | (go_simp; rfl)) (k43_mkM _ _ _ (b43 1) (Kd.R_nil _ _ _ _ _)) (fun _ hk => hk) (fun _ _ => trivial) HOW.out HBW.out (by simp; omega) (by omega) ?_; intro v4 w4 ho hb hg hat; have HG4 := Aside0.mk (blk_grown HGW.out hg (Kd.R_ne HOW.out HGW.out (by decide))); have HR4 := Aside0.mk (blk_grown HRW.out hg (Kd.R_ne HOW.out HRW.out (by decide))); have HK4 := Aside0.mk (blk_grown HKW.out hg (Kd.R_ne HOW.out HKW.out (by decide))); have HO4 := Aside0.mk ho; have HB4 := Aside0.mk hb; obtain ⟨hc4, hf4⟩ := cells_of HG4.out 3 _ rfl; obtain ⟨Av, cv, ev⟩ := Kd.R_slice HO4.out; obtain ⟨ln4, hln4⟩ : ∃ x, ((nd.take j).map b43 ++ [b43 1]).length = x := ⟨_, rfl⟩; rw [hln4] at ev; subst ev; clear ho hb hg hat)
        go_roundw
        case rel => exact ⟨j + 1, by omega, by go_num, _, ⟨(Below.heap_setCell _ _ _ _ (show n ≠ n + 1 by omega)).trans HR4.out⟩, ⟨Lib.heap_setCell_same (i := 3) HG4.out _⟩, ⟨fun _ => (Below.heap_setCell _ _ _ _ (show g5 ≠ n + 1 from blk_ne HK4.out HG4.out (by decide))).trans HK4.out⟩, ⟨by rw [HTK.out]; exact Kd.R_set HO4.out HG4.out (by decide) 3 _⟩, ⟨HB4.out.setCell (p := ⟨n + 1, 3, none⟩) (show n ≤ n + 1 by omega) _⟩⟩
        case measure => simp [intOf]; omega
      · obtain ⟨hc3, hf3⟩ := cells_of HG.out 3 _ rfl
        go_wp2_with fail
        refine (spec_FieldKind.calls 5 2 115 _ rfl).mono ?_
        rintro e w3 ⟨rfl, ⟨m3, hm3⟩⟩
        have HO := Aside0.mk (hm3 ▸ Kd.R_drewN HO.out m3 : Kd.R k43 43 w3 n (fun _ => True) u ((nd.take j).map b43))
        have HB : Aside0 (Below n w w3) := ⟨hm3 ▸ below_drewN HB.out m3⟩
        have HG : Aside0 (w3.heap[n + 1]? = some (.cells #[.int .u8 k, .int .u8 0, .int .u32 3, u, .slice none 0 0] 39)) := ⟨by rw [hm3]; exact HG.out⟩
        have HR : Aside0 (w3.heap[n]? = some (.cells #[.int .u8 0, .int .u8 0, .int .u32 0, .slice none 0 0, .slice none 0 0] 39)) := ⟨by rw [hm3]; exact HR.out⟩
        have HBK : Aside0 (w3.heap[g5]? = some (.cells cur 5)) := ⟨by rw [hm3]; exact HBK.out⟩
        have hz3 : n + 1 < w3.heap.size := Lib.lt_of_heap HG.out
        clear hm3 hc3 hf3
        obtain ⟨hc3, hf3⟩ := cells_of HG.out 3 _ rfl
        have HOW := Aside0.mk (Kd.R_alloc HO.out (.cells #[.int .u8 2, .int .u8 115, .int .u64 0, .string ⟨#[97, 46, 98]⟩, .slice none 0 0] 43))
        have HBW : Aside0 (Below n w (w3.alloc (.cells #[.int .u8 2, .int .u8 115, .int .u64 0, .string ⟨#[97, 46, 98]⟩, .slice none 0 0] 43))) := ⟨HB.out.alloc (by omega) _⟩
        have HGW : Aside0 ((w3.alloc (.cells #[.int .u8 2, .int .u8 115, .int .u64 0, .string ⟨#[97, 46, 98]⟩, .slice none 0 0] 43)).heap[n + 1]? = some (.cells #[.int .u8 k, .int .u8 0, .int .u32 3, u, .slice none 0 0] 39)) := ⟨blk_alloc HG.out _⟩
        have HRW : Aside0 ((w3.alloc (.cells #[.int .u8 2, .int .u8 115, .int .u64 0, .string ⟨#[97, 46, 98]⟩, .slice none 0 0] 43)).heap[n]? = some (.cells #[.int .u8 0, .int .u8 0, .int .u32 0, .slice none 0 0, .slice none 0 0] 39)) := ⟨blk_alloc HR.out _⟩
        have HKW : Aside0 ((w3.alloc (.cells #[.int .u8 2, .int .u8 115, .int .u64 0, .string ⟨#[97, 46, 98]⟩, .slice none 0 0] 43)).heap[g5]? = some (.cells cur 5)) := ⟨blk_alloc HBK.out _⟩
        have hlen : ((nd.take j).map b43).length ≤ 3 := by rw [List.length_map, List.length_take]; omega
        clear HR HG HROW HO HB HBK hrw
        go_wp2_with ((with_reducible refine gate_builtin (b := .append) (xs := #[.tmp 37, .tmp 39]) rfl ?_); at_builtin; refine Kd.R_append k43 (w0 := w) n rfl (.tmp 37) (.tmp 39) 37 43 (.agg #[(.int .u8 0), (.int .u8 0), (.int .u64 0), (.string ⟨#[]⟩), (.slice none 0 0)]) 64 rfl Tryz.underlying37 info43b rfl (by decide) (by omega) u ((nd.take j).map b43) (b43 2) [.int .u8 2, .int .u8 115, .int .u64 0, .string ⟨#[97, 46, 98]⟩, .slice none 0 0] (fun _ => True) (fun k_ => True ∧ some k_ ≠ (u : Value).ownBlock) rfl (by first | (go_simp; done) | (go_simp; rfl)) (k43_mkM _ _ _ (b43 2) (Kd.R_nil _ _ _ _ _)) (fun _ hk => hk) (fun _ _ => trivial) HOW.out HBW.out (by simp; omega) (by omega) ?_; intro v4 w4 ho hb hg hat; have HG4 := Aside0.mk (blk_grown HGW.out hg (Kd.R_ne HOW.out HGW.out (by decide))); have HR4 := Aside0.mk (blk_grown HRW.out hg (Kd.R_ne HOW.out HRW.out (by decide))); have HK4 := Aside0.mk (blk_grown HKW.out hg (Kd.R_ne HOW.out HKW.out (by decide))); have HO4 := Aside0.mk ho; have HB4 := Aside0.mk hb; obtain ⟨hc4, hf4⟩ := cells_of HG4.out 3 _ rfl; obtain ⟨Av, cv, ev⟩ := Kd.R_slice HO4.out; obtain ⟨ln4, hln4⟩ : ∃ x, ((nd.take j).map b43 ++ [b43 2]).length = x := ⟨_, rfl⟩; rw [hln4] at ev; subst ev; clear ho hb hg hat)
        go_roundw
        case rel => exact ⟨j + 1, by omega, by go_num, _, ⟨(Below.heap_setCell _ _ _ _ (show n ≠ n + 1 by omega)).trans HR4.out⟩, ⟨Lib.heap_setCell_same (i := 3) HG4.out _⟩, ⟨fun _ => (Below.heap_setCell _ _ _ _ (show g5 ≠ n + 1 from blk_ne HK4.out HG4.out (by decide))).trans HK4.out⟩, ⟨by rw [HTK.out]; exact Kd.R_set HO4.out HG4.out (by decide) 3 _⟩, ⟨HB4.out.setCell (p := ⟨n + 1, 3, none⟩) (show n ≤ n + 1 by omega) _⟩⟩
        case measure => simp [intOf]; omega
      · obtain ⟨hc3, hf3⟩ := cells_of HG.out 3 _ rfl
        go_wp2_with fail
        refine (spec_FieldKind.calls 5 3 115 _ rfl).mono ?_
        rintro e w3 ⟨rfl, ⟨m3, hm3⟩⟩
        have HO := Aside0.mk (hm3 ▸ Kd.R_drewN HO.out m3 : Kd.R k43 43 w3 n (fun _ => True) u ((nd.take j).map b43))
        have HB : Aside0 (Below n w w3) := ⟨hm3 ▸ below_drewN HB.out m3⟩
        have HG : Aside0 (w3.heap[n + 1]? = some (.cells #[.int .u8 k, .int .u8 0, .int .u32 3, u, .slice none 0 0] 39)) := ⟨by rw [hm3]; exact HG.out⟩
        have HR : Aside0 (w3.heap[n]? = some (.cells #[.int .u8 0, .int .u8 0, .int .u32 0, .slice none 0 0, .slice none 0 0] 39)) := ⟨by rw [hm3]; exact HR.out⟩
        have HBK : Aside0 (w3.heap[g5]? = some (.cells cur 5)) := ⟨by rw [hm3]; exact HBK.out⟩
        have hz3 : n + 1 < w3.heap.size := Lib.lt_of_heap HG.out
        clear hm3 hc3 hf3
        obtain ⟨hc3, hf3⟩ := cells_of HG.out 3 _ rfl
        have HOW := Aside0.mk (Kd.R_alloc HO.out (.cells #[.int .u8 3, .int .u8 115, .int .u64 0, .string ⟨#[98]⟩, .slice none 0 0] 43))
        have HBW : Aside0 (Below n w (w3.alloc (.cells #[.int .u8 3, .int .u8 115, .int .u64 0, .string ⟨#[98]⟩, .slice none 0 0] 43))) := ⟨HB.out.alloc (by omega) _⟩
        have HGW : Aside0 ((w3.alloc (.cells #[.int .u8 3, .int .u8 115, .int .u64 0, .string ⟨#[98]⟩, .slice none 0 0] 43)).heap[n + 1]? = some (.cells #[.int .u8 k, .int .u8 0, .int .u32 3, u, .slice none 0 0] 39)) := ⟨blk_alloc HG.out _⟩
        have HRW : Aside0 ((w3.alloc (.cells #[.int .u8 3, .int .u8 115, .int .u64 0, .string ⟨#[98]⟩, .slice none 0 0] 43)).heap[n]? = some (.cells #[.int .u8 0, .int .u8 0, .int .u32 0, .slice none 0 0, .slice none 0 0] 39)) := ⟨blk_alloc HR.out _⟩
        have HKW : Aside0 ((w3.alloc (.cells #[.int .u8 3, .int .u8 115, .int .u64 0, .string ⟨#[98]⟩, .slice none 0 0] 43)).heap[g5]? = some (.cells cur 5)) := ⟨blk_alloc HBK.out _⟩
        have hlen : ((nd.take j).map b43).length ≤ 3 := by rw [List.length_map, List.length_take]; omega
        clear HR HG HROW HO HB HBK hrw
        go_wp2_with ((with_reducible refine gate_builtin (b := .append) (xs := #[.tmp 37, .tmp 39]) rfl ?_); at_builtin; refine Kd.R_append k43 (w0 := w) n rfl (.tmp 37) (.tmp 39) 37 43 (.agg #[(.int .u8 0), (.int .u8 0), (.int .u64 0), (.string ⟨#[]⟩), (.slice none 0 0)]) 64 rfl Tryz.underlying37 info43b rfl (by decide) (by omega) u ((nd.take j).map b43) (b43 3) [.int .u8 3, .int .u8 115, .int .u64 0, .string ⟨#[98]⟩, .slice none 0 0] (fun _ => True) (fun k_ => True ∧ some k_ ≠ (u : Value).ownBlock) rfl (by first | (go_simp; done) | (go_simp; rfl)) (k43_mkM _ _ _ (b43 3) (Kd.R_nil _ _ _ _ _)) (fun _ hk => hk) (fun _ _ => trivial) HOW.out HBW.out (by simp; omega) (by omega) ?_; intro v4 w4 ho hb hg hat; have HG4 := Aside0.mk (blk_grown HGW.out hg (Kd.R_ne HOW.out HGW.out (by decide))); have HR4 := Aside0.mk (blk_grown HRW.out hg (Kd.R_ne HOW.out HRW.out (by decide))); have HK4 := Aside0.mk (blk_grown HKW.out hg (Kd.R_ne HOW.out HKW.out (by decide))); have HO4 := Aside0.mk ho; have HB4 := Aside0.mk hb; obtain ⟨hc4, hf4⟩ := cells_of HG4.out 3 _ rfl; obtain ⟨Av, cv, ev⟩ := Kd.R_slice HO4.out; obtain ⟨ln4, hln4⟩ : ∃ x, ((nd.take j).map b43 ++ [b43 3]).length = x := ⟨_, rfl⟩; rw [hln4] at ev; subst ev; clear ho hb hg hat)
        go_roundw
        case rel => exact ⟨j + 1, by omega, by go_num, _, ⟨(Below.heap_setCell _ _ _ _ (show n ≠ n + 1 by omega)).trans HR4.out⟩, ⟨Lib.heap_setCell_same (i := 3) HG4.out _⟩, ⟨fun _ => (Below.heap_setCell _ _ _ _ (show g5 ≠ n + 1 from blk_ne HK4.out HG4.out (by decide))).trans HK4.out⟩, ⟨by rw [HTK.out]; exact Kd.R_set HO4.out HG4.out (by decide) 3 _⟩, ⟨HB4.out.setCell (p := ⟨n + 1, 3, none⟩) (show n ≤ n + 1 by omega) _⟩⟩
        case measure => simp [intOf]; omega
      · obtain ⟨hc3, hf3⟩ := cells_of HG.out 3 _ rfl
        go_wp2_with fail
        refine (spec_FieldKind.calls 5 4 115 _ rfl).mono ?_
        rintro e w3 ⟨rfl, ⟨m3, hm3⟩⟩
        have HO := Aside0.mk (hm3 ▸ Kd.R_drewN HO.out m3 : Kd.R k43 43 w3 n (fun _ => True) u ((nd.take j).map b43))
        have HB : Aside0 (Below n w w3) := ⟨hm3 ▸ below_drewN HB.out m3⟩
        have HG : Aside0 (w3.heap[n + 1]? = some (.cells #[.int .u8 k, .int .u8 0, .int .u32 3, u, .slice none 0 0] 39)) := ⟨by rw [hm3]; exact HG.out⟩
        have HR : Aside0 (w3.heap[n]? = some (.cells #[.int .u8 0, .int .u8 0, .int .u32 0, .slice none 0 0, .slice none 0 0] 39)) := ⟨by rw [hm3]; exact HR.out⟩
        have HBK : Aside0 (w3.heap[g5]? = some (.cells cur 5)) := ⟨by rw [hm3]; exact HBK.out⟩
        have hz3 : n + 1 < w3.heap.size := Lib.lt_of_heap HG.out
        clear hm3 hc3 hf3
        obtain ⟨hc3, hf3⟩ := cells_of HG.out 3 _ rfl
        have HOW := Aside0.mk (Kd.R_alloc HO.out (.cells #[.int .u8 4, .int .u8 115, .int .u64 0, .string ⟨#[97, 46, 98]⟩, .slice none 0 0] 43))
        have HBW : Aside0 (Below n w (w3.alloc (.cells #[.int .u8 4, .int .u8 115, .int .u64 0, .string ⟨#[97, 46, 98]⟩, .slice none 0 0] 43))) := ⟨HB.out.alloc (by omega) _⟩
        have HGW : Aside0 ((w3.alloc (.cells #[.int .u8 4, .int .u8 115, .int .u64 0, .string ⟨#[97, 46, 98]⟩, .slice none 0 0] 43)).heap[n + 1]? = some (.cells #[.int .u8 k, .int .u8 0, .int .u32 3, u, .slice none 0 0] 39)) := ⟨blk_alloc HG.out _⟩
        have HRW : Aside0 ((w3.alloc (.cells #[.int .u8 4, .int .u8 115, .int .u64 0, .string ⟨#[97, 46, 98]⟩, .slice none 0 0] 43)).heap[n]? = some (.cells #[.int .u8 0, .int .u8 0, .int .u32 0, .slice none 0 0, .slice none 0 0] 39)) := ⟨blk_alloc HR.out _⟩
        have HKW : Aside0 ((w3.alloc (.cells #[.int .u8 4, .int .u8 115, .int .u64 0, .string ⟨#[97, 46, 98]⟩, .slice none 0 0] 43)).heap[g5]? = some (.cells cur 5)) := ⟨blk_alloc HBK.out _⟩
        have hlen : ((nd.take j).map b43).length ≤ 3 := by rw [List.length_map, List.length_take]; omega
        clear HR HG HROW HO HB HBK hrw
        go_wp2_with ((with_reducible refine gate_builtin (b := .append) (xs := #[.tmp 37, .tmp 39]) rfl ?_); at_builtin; refine Kd.R_append k43 (w0 := w) n rfl (.tmp 37) (.tmp 39) 37 43 (.agg #[(.int .u8 0), (.int .u8 0), (.int .u64 0), (.string ⟨#[]⟩), (.slice none 0 0)]) 64 rfl Tryz.underlying37 info43b rfl (by decide) (by omega) u ((nd.take j).map b43) (b43 4) [.int .u8 4, .int .u8 115, .int .u64 0, .string ⟨#[97, 46, 98]⟩, .slice none 0 0] (fun _ => True) (fun k_ => True ∧ some k_ ≠ (u : Value).ownBlock) rfl (by first | (go_simp; done) | (go_simp; rfl)) (k43_mkM _ _ _ (b43 4) (Kd.R_nil _ _ _ _ _)) (fun _ hk => hk) (fun _ _ => trivial) HOW.out HBW.out (by simp; omega) (by omega) ?_; intro v4 w4 ho hb hg hat; have HG4 := Aside0.mk (blk_grown HGW.out hg (Kd.R_ne HOW.out HGW.out (by decide))); have HR4 := Aside0.mk (blk_grown HRW.out hg (Kd.R_ne HOW.out HRW.out (by decide))); have HK4 := Aside0.mk (blk_grown HKW.out hg (Kd.R_ne HOW.out HKW.out (by decide))); have HO4 := Aside0.mk ho; have HB4 := Aside0.mk hb; obtain ⟨hc4, hf4⟩ := cells_of HG4.out 3 _ rfl; obtain ⟨Av, cv, ev⟩ := Kd.R_slice HO4.out; obtain ⟨ln4, hln4⟩ : ∃ x, ((nd.take j).map b43 ++ [b43 4]).length = x := ⟨_, rfl⟩; rw [hln4] at ev; subst ev; clear ho hb hg hat)
        go_roundw
        case rel => exact ⟨j + 1, by omega, by go_num, _, ⟨(Below.heap_setCell _ _ _ _ (show n ≠ n + 1 by omega)).trans HR4.out⟩, ⟨Lib.heap_setCell_same (i := 3) HG4.out _⟩, ⟨fun _ => (Below.heap_setCell _ _ _ _ (show g5 ≠ n + 1 from blk_ne HK4.out HG4.out (by decide))).trans HK4.out⟩, ⟨by rw [HTK.out]; exact Kd.R_set HO4.out HG4.out (by decide) 3 _⟩, ⟨HB4.out.setCell (p := ⟨n + 1, 3, none⟩) (show n ≤ n + 1 by omega) _⟩⟩
        case measure => simp [intOf]; omega
      · obtain ⟨hc3, hf3⟩ := cells_of HG.out 3 _ rfl
        go_wp2_with fail
        refine (spec_FieldKind.calls 5 5 117 _ rfl).mono ?_
        rintro e w3 ⟨rfl, ⟨m3, hm3⟩⟩
        have HO := Aside0.mk (hm3 ▸ Kd.R_drewN HO.out m3 : Kd.R k43 43 w3 n (fun _ => True) u ((nd.take j).map b43))
        have HB : Aside0 (Below n w w3) := ⟨hm3 ▸ below_drewN HB.out m3⟩
        have HG : Aside0 (w3.heap[n + 1]? = some (.cells #[.int .u8 k, .int .u8 0, .int .u32 3, u, .slice none 0 0] 39)) := ⟨by rw [hm3]; exact HG.out⟩
        have HR : Aside0 (w3.heap[n]? = some (.cells #[.int .u8 0, .int .u8 0, .int .u32 0, .slice none 0 0, .slice none 0 0] 39)) := ⟨by rw [hm3]; exact HR.out⟩
        have HBK : Aside0 (w3.heap[g5]? = some (.cells cur 5)) := ⟨by rw [hm3]; exact HBK.out⟩
        have hz3 : n + 1 < w3.heap.size := Lib.lt_of_heap HG.out
        clear hm3 hc3 hf3
        obtain ⟨hc3, hf3⟩ := cells_of HG.out 3 _ rfl
        have HOW := Aside0.mk (Kd.R_alloc HO.out (.cells #[.int .u8 5, .int .u8 117, .int .u64 9, .string ⟨#[]⟩, .slice none 0 0] 43))
        have HBW : Aside0 (Below n w (w3.alloc (.cells #[.int .u8 5, .int .u8 117, .int .u64 9, .string ⟨#[]⟩, .slice none 0 0] 43))) := ⟨HB.out.alloc (by omega) _⟩
        have HGW : Aside0 ((w3.alloc (.cells #[.int .u8 5, .int .u8 117, .int .u64 9, .string ⟨#[]⟩, .slice none 0 0] 43)).heap[n + 1]? = some (.cells #[.int .u8 k, .int .u8 0, .int .u32 3, u, .slice none 0 0] 39)) := ⟨blk_alloc HG.out _⟩
        have HRW : Aside0 ((w3.alloc (.cells #[.int .u8 5, .int .u8 117, .int .u64 9, .string ⟨#[]⟩, .slice none 0 0] 43)).heap[n]? = some (.cells #[.int .u8 0, .int .u8 0, .int .u32 0, .slice none 0 0, .slice none 0 0] 39)) := ⟨blk_alloc HR.out _⟩
        have HKW : Aside0 ((w3.alloc (.cells #[.int .u8 5, .int .u8 117, .int .u64 9, .string ⟨#[]⟩, .slice none 0 0] 43)).heap[g5]? = some (.cells cur 5)) := ⟨blk_alloc HBK.out _⟩
        have hlen : ((nd.take j).map b43).length ≤ 3 := by rw [List.length_map, List.length_take]; omega
        clear HR HG HROW HO HB HBK hrw
        go_wp2_with ((with_reducible refine gate_builtin (b := .append) (xs := #[.tmp 37, .tmp 39]) rfl ?_); at_builtin; refine Kd.R_append k43 (w0 := w) n rfl (.tmp 37) (.tmp 39) 37 43 (.agg #[(.int .u8 0), (.int .u8 0), (.int .u64 0), (.string ⟨#[]⟩), (.slice none 0 0)]) 64 rfl Tryz.underlying37 info43b rfl (by decide) (by omega) u ((nd.take j).map b43) (b43 5) [.int .u8 5, .int .u8 117, .int .u64 9, .string ⟨#[]⟩, .slice none 0 0] (fun _ => True) (fun k_ => True ∧ some k_ ≠ (u : Value).ownBlock) rfl (by first | (go_simp; done) | (go_simp; rfl)) (k43_mkM _ _ _ (b43 5) (Kd.R_nil _ _ _ _ _)) (fun _ hk => hk) (fun _ _ => trivial) HOW.out HBW.out (by simp; omega) (by omega) ?_; intro v4 w4 ho hb hg hat; have HG4 := Aside0.mk (blk_grown HGW.out hg (Kd.R_ne HOW.out HGW.out (by decide))); have HR4 := Aside0.mk (blk_grown HRW.out hg (Kd.R_ne HOW.out HRW.out (by decide))); have HK4 := Aside0.mk (blk_grown HKW.out hg (Kd.R_ne HOW.out HKW.out (by decide))); have HO4 := Aside0.mk ho; have HB4 := Aside0.mk hb; obtain ⟨hc4, hf4⟩ := cells_of HG4.out 3 _ rfl; obtain ⟨Av, cv, ev⟩ := Kd.R_slice HO4.out; obtain ⟨ln4, hln4⟩ : ∃ x, ((nd.take j).map b43 ++ [b43 5]).length = x := ⟨_, rfl⟩; rw [hln4] at ev; subst ev; clear ho hb hg hat)
        go_roundw
        case rel => exact ⟨j + 1, by omega, by go_num, _, ⟨(Below.heap_setCell _ _ _ _ (show n ≠ n + 1 by omega)).trans HR4.out⟩, ⟨Lib.heap_setCell_same (i := 3) HG4.out _⟩, ⟨fun _ => (Below.heap_setCell _ _ _ _ (show g5 ≠ n + 1 from blk_ne HK4.out HG4.out (by decide))).trans HK4.out⟩, ⟨by rw [HTK.out]; exact Kd.R_set HO4.out HG4.out (by decide) 3 _⟩, ⟨HB4.out.setCell (p := ⟨n + 1, 3, none⟩) (show n ≤ n + 1 by omega) _⟩⟩
        case measure => simp [intOf]; omega
    · obtain rfl : j = nd.length := by omega
      obtain ⟨d0, -⟩ := cells_of HG.out 0 _ rfl
      obtain ⟨d1, -⟩ := cells_of HG.out 1 _ rfl
      obtain ⟨d2, -⟩ := cells_of HG.out 2 _ rfl
      obtain ⟨d3, -⟩ := cells_of HG.out 3 _ rfl
      obtain ⟨d4, -⟩ := cells_of HG.out 4 _ rfl
      obtain ⟨e0, f0⟩ := cells_of HR.out 0 _ rfl
      obtain ⟨e1, f1⟩ := cells_of HR.out 1 _ rfl
      obtain ⟨e2, f2⟩ := cells_of HR.out 2 _ rfl
      obtain ⟨e3, f3⟩ := cells_of HR.out 3 _ rfl
      obtain ⟨e4, f4⟩ := cells_of HR.out 4 _ rfl
      obtain ⟨Au, cu, eu⟩ := Kd.R_slice HO.out
      obtain ⟨lu, hlu⟩ : ∃ x, ((nd.take nd.length).map b43).length = x := ⟨_, rfl⟩
      rw [hlu] at eu
      subst eu
      have HRV := Aside0.mk (Lib.heap_setCell_same (i := 4) (Lib.heap_setCell_same (i := 3) (Lib.heap_setCell_same (i := 2) (Lib.heap_setCell_same (i := 1) (Lib.heap_setCell_same (i := 0) HR.out (.int .u8 k)) (.int .u8 0)) (.int .u32 3)) (.slice Au lu cu)) (.slice none 0 0))
      have HBV : Aside0 (Below n w (((((wr.setCell ⟨n, 0, none⟩ (.int .u8 k)).setCell ⟨n, 1, none⟩ (.int .u8 0)).setCell ⟨n, 2, none⟩ (.int .u32 3)).setCell ⟨n, 3, none⟩ (.slice Au lu cu)).setCell ⟨n, 4, none⟩ (.slice none 0 0))) := ⟨((((HB.out.setCell (p := ⟨n, 0, none⟩) (Nat.le_refl _) _).setCell (p := ⟨n, 1, none⟩) (Nat.le_refl _) _).setCell (p := ⟨n, 2, none⟩) (Nat.le_refl _) _).setCell (p := ⟨n, 3, none⟩) (Nat.le_refl _) _).setCell (p := ⟨n, 4, none⟩) (Nat.le_refl _) _⟩
      have HOV : Aside0 (Kd.R k43 43 (((((wr.setCell ⟨n, 0, none⟩ (.int .u8 k)).setCell ⟨n, 1, none⟩ (.int .u8 0)).setCell ⟨n, 2, none⟩ (.int .u32 3)).setCell ⟨n, 3, none⟩ (.slice Au lu cu)).setCell ⟨n, 4, none⟩ (.slice none 0 0)) n (fun _ => True) (.slice Au lu cu) ((nd.take nd.length).map b43)) := ⟨by
        have h0 := HR.out
        have h1 := Lib.heap_setCell_same (i := 0) h0 (.int .u8 k)
        have h2 := Lib.heap_setCell_same (i := 1) h1 (.int .u8 0)
        have h3 := Lib.heap_setCell_same (i := 2) h2 (.int .u32 3)
        have h4 := Lib.heap_setCell_same (i := 3) h3 (.slice Au lu cu)
        exact Kd.R_set (Kd.R_set (Kd.R_set (Kd.R_set (Kd.R_set HO.out h0 (by decide) 0 _) h1 (by decide) 1 _) h2 (by decide) 2 _) h3 (by decide) 3 _) h4 (by decide) 4 _⟩
      obtain ⟨g0, -⟩ := cells_of HRV.out 0 _ rfl
      obtain ⟨g1, -⟩ := cells_of HRV.out 1 _ rfl
      obtain ⟨g2, -⟩ := cells_of HRV.out 2 _ rfl
      obtain ⟨g3, -⟩ := cells_of HRV.out 3 _ rfl
      obtain ⟨g4, -⟩ := cells_of HRV.out 4 _ rfl
      have hnn : n ≠ n + 1 := by omega
      clear HR HG HO HROW
      go_wp2_with fail
      refine bodyPost_ret (v := .agg #[.int .u8 k, .int .u8 0, .int .u32 3, .slice Au lu cu, .slice none 0 0]) (by simp [results, go_sem, g0, g1, g2, g3, g4]) rfl ⟨_, _, rfl, ?_, Kd.R_nil _ _ _ _ _, hn ▸ HBV.out⟩
      rw [List.take_length] at HOV
      rw [hn]
      exact Kd.R_mono HOV.out (fun _ _ => by simp [Value.ownBlock])
end Go.Proofs.YtldjigfnagfalaaGreatDoor.Given
end
section
namespace Go.Proofs.YtldjigfnagfalaaGreatDoor.PMn
open Go.RowKit Go.Proofs.YtldjigfnagfalaaGreatDoorW.PrintWords Go.Proofs.YtldjigfnagfalaaGreatDoorW.PrintLast Go.Proofs.YtldjigfnagfalaaGreatDoorW.PrintMore
open Go.Proofs.YtldjigfnagfalaaGreatDoor.PMi (S27 z27 k27 k27_open k27_openM k27_mk k27_mkM rd_T27 at_T27 S43 z43 k43 k43_open k43_openM k43_mk k43_mkM rd_T43 at_T43 F27 mono27 sub27 sz27)
attribute [local go_sem] max2_int min2_int max_two min_two max_three min_three max_four min_four   -- for this text's walks alone
set_option linter.unusedVariables false
set_option linter.unusedSimpArgs false
def laws_msBase.l0 : Nat → List Int → Int → Int → Int → Int → Int → List (S43) → Option (Int × Int × Int × (List (S43)) × (List (S27)))
  | 0, _, _, _, _, _, _, _ => none
  | k + 1, x10, x11, x12, x144000, x144001, x144002, x144003 => if x12 < x11 then (if 0 ≤ x12 then (if x12 < (x10.length : Int) then ((spec_FieldKind.f k (rd x10 x12)).bind fun t148 => (if (rd x10 x12) = 1 then (if x144003.length < 2199023255552 then (laws_msBase.l0 k x10 x11 (wrap64 (x12 + 1)) x144000 x144001 x144002 (x144003 ++ [(⟨rd x10 x12, (⟨t148, 0, (⟨#[47, 97]⟩ : ByteArray), ([] : List (S27))⟩ : S27)⟩ : S43)])) else (none)) else (if (rd x10 x12) = 3 then (if x144003.length < 2199023255552 then (laws_msBase.l0 k x10 x11 (wrap64 (x12 + 1)) x144000 x144001 x144002 (x144003 ++ [(⟨rd x10 x12, (⟨t148, 0, (⟨#[98]⟩ : ByteArray), ([] : List (S27))⟩ : S27)⟩ : S43)])) else (none)) else (if (rd x10 x12) = 5 then (if x144003.length < 2199023255552 then (laws_msBase.l0 k x10 x11 (wrap64 (x12 + 1)) x144000 x144001 x144002 (x144003 ++ [(⟨rd x10 x12, (⟨t148, 9, (⟨#[]⟩ : ByteArray), ([] : List (S27))⟩ : S27)⟩ : S43)])) else (none)) else (if x144003.length < 2199023255552 then (laws_msBase.l0 k x10 x11 (wrap64 (x12 + 1)) x144000 x144001 x144002 (x144003 ++ [(⟨rd x10 x12, (⟨t148, 0, (⟨#[97, 46, 98]⟩ : ByteArray), ([] : List (S27))⟩ : S27)⟩ : S43)])) else (none)))))) else (none)) else (none)) else (some (x144000, x144001, x144002, x144003, ([] : List (S27))))
def laws_msBase.f (k : Nat) (a0 : Int) : Option (Int × Int × Int × (List (S43)) × (List (S27))) := (spec_Needs.f a0).bind fun t144 => (laws_msBase.l0 k t144 (t144.length : Int) 0 a0 0 3 ([] : List (S43)))
theorem laws_msBase.mono_l : ∀ k, (∀ y0 y1 y2 y3 y4 y5 y6, LeO (laws_msBase.l0 k y0 y1 y2 y3 y4 y5 y6) (laws_msBase.l0 (k + 1) y0 y1 y2 y3 y4 y5 y6))
  | 0 => fun _ _ _ _ _ _ _ r h => by simp [laws_msBase.l0] at h
  | k + 1 => by
    have ih0 := laws_msBase.mono_l k
    · intro y0 y1 y2 y3 y4 y5 y6
      unfold laws_msBase.l0
      repeat' first
      | (with_reducible exact ih0 _ _ _ _ _ _ _)
      | (with_reducible exact spec_FieldKind.mono _ _)
      | (with_reducible exact LeO.refl _)
      | (with_reducible exact LeO.none _)
      | (with_reducible refine LeO.ite ?_ ?_)
      | (with_reducible refine LeO.bind ?_ (fun _ => ?_))
      | exact ih0 _ _ _ _ _ _ _
      | exact spec_FieldKind.mono _ _
      | exact LeO.none _
      | refine LeO.ite ?_ ?_
      | refine LeO.bind ?_ (fun _ => ?_)
theorem laws_msBase.mono : ∀ a0 k, LeO (laws_msBase.f k a0) (laws_msBase.f (k + 1) a0) := by
  intro a0 k
  have ih0 := laws_msBase.mono_l k
  unfold laws_msBase.f
  repeat' first
      | (with_reducible exact ih0 _ _ _ _ _ _ _)
      | (with_reducible exact spec_FieldKind.mono _ _)
      | (with_reducible exact LeO.refl _)
      | (with_reducible exact LeO.none _)
      | (with_reducible refine LeO.ite ?_ ?_)
      | (with_reducible refine LeO.bind ?_ (fun _ => ?_))
      | exact ih0 _ _ _ _ _ _ _
      | exact spec_FieldKind.mono _ _
      | exact LeO.none _
      | refine LeO.ite ?_ ?_
      | refine LeO.bind ?_ (fun _ => ?_)
theorem fk_det (k : Nat) (c t : Int) (h : spec_FieldKind.f k c = some t) (hc : c = 1 ∨ c = 2 ∨ c = 3 ∨ c = 4 ∨ c = 5) : t = (Given.b43 c).f1.f0 := by
  rcases hc with rfl | rfl | rfl | rfl | rfl <;> simp [spec_FieldKind.f, Given.b43] at h ⊢
  · exact h.symm
  all_goals
    cases k with
    | zero => simp [spec_FieldKind.j0] at h
    | succ k =>
      simp [spec_FieldKind.j0] at h
      first
        | exact h.symm
        | (cases k with
           | zero => simp [spec_FieldKind.j1] at h
           | succ k => simp [spec_FieldKind.j1] at h; exact h.symm)
theorem l0_det (nd : List Int) (hl : nd.length ≤ 3) (hc : ∀ c ∈ nd, c = 1 ∨ c = 2 ∨ c = 3 ∨ c = 4 ∨ c = 5) (a0 : Int) (R : Int × Int × Int × (List (S43)) × (List (S27))) : ∀ (k j : Nat) (acc : List S43), j ≤ nd.length → laws_msBase.l0 k nd (nd.length : Int) j a0 0 3 acc = some R → R = (a0, 0, 3, acc ++ (nd.drop j).map Given.b43, []) := by
  intro k
  induction k with
  | zero => intro j acc hj h; simp [laws_msBase.l0] at h
  | succ k ih =>
    intro j acc hj h
    unfold laws_msBase.l0 at h
    by_cases hlt : j < nd.length
    · have h1 : (j : Int) < (nd.length : Int) := by omega
      have h2 : (0 : Int) ≤ (j : Int) := by omega
      have hrd : rd nd (j : Int) = nd[j] := by
        unfold rd
        rw [Int.toNat_natCast, List.getD_eq_getElem?_getD, List.getElem?_eq_getElem hlt]
        rfl
      have hw : wrap64 ((j : Int) + 1) = ((j + 1 : Nat) : Int) := by unfold wrap64; omega
      have hcc := hc _ (List.getElem_mem hlt)
      have hdr : (nd.drop j).map Given.b43 = Given.b43 nd[j] :: (nd.drop (j + 1)).map Given.b43 := by rw [List.drop_eq_getElem_cons hlt]; rfl
      rw [if_pos h1, if_pos h2, if_pos h1, hrd, hw] at h
      obtain ⟨t, ht, h⟩ := Option.bind_eq_some_iff.mp h
      have hk := fk_det k _ t ht hcc
      rw [hdr]
      obtain ⟨c, hcj⟩ : ∃ c, nd[j] = c := ⟨_, rfl⟩
      rw [hcj] at h hk hcc ⊢
      have fin : ∀ x : S43, x = Given.b43 c → (if acc.length < 2199023255552 then laws_msBase.l0 k nd (nd.length : Int) ((j + 1 : Nat) : Int) a0 0 3 (acc ++ [x]) else none) = some R → R = (a0, 0, 3, acc ++ Given.b43 c :: (nd.drop (j + 1)).map Given.b43, []) := by
        intro x hx hh
        split at hh
        · have := ih (j + 1) _ (by omega) hh
          rw [this, hx, List.append_assoc]
          rfl
        · cases hh
      rcases hcc with rfl | rfl | rfl | rfl | rfl
      · rw [if_pos rfl] at h
        exact fin _ (by rw [hk]; rfl) h
      · rw [if_neg (by decide), if_neg (by decide), if_neg (by decide)] at h
        exact fin _ (by rw [hk]; rfl) h
      · rw [if_neg (by decide), if_pos rfl] at h
        exact fin _ (by rw [hk]; rfl) h
      · rw [if_neg (by decide), if_neg (by decide), if_neg (by decide)] at h
        exact fin _ (by rw [hk]; rfl) h
      · rw [if_neg (by decide), if_neg (by decide), if_pos rfl] at h
        exact fin _ (by rw [hk]; rfl) h
    · have h1 : ¬ ((j : Int) < (nd.length : Int)) := by omega
      rw [if_neg h1] at h
      rw [List.drop_of_length_le (by omega)]
      have := Option.some.inj h
      rw [← this]
      simp
theorem needs_codes (a0 : Int) (nd : List Int) (h : spec_Needs.f a0 = some nd) : nd.length ≤ 3 ∧ ∀ c ∈ nd, c = 1 ∨ c = 2 ∨ c = 3 ∨ c = 4 ∨ c = 5 := by
  unfold spec_Needs.f at h
  repeat' (split at h)
  all_goals
    have := Option.some.inj h
    subst this
    simp
theorem laws_msBase.calls (k : Nat) (a0 : Int) (r1 : Int) (r2 : Int) (r3 : Int) (r4 : List (S43)) (r5 : List (S27)) (w : World) (h : laws_msBase.f k a0 = some (r1, r2, r3, r4, r5)) :
    Calls Tryz.prog 11 #[.int .u8 a0] w fun e w' => ∃ v3_ v4_ : Value, e = .returned (.agg #[.int .u8 r1, .int .u8 r2, .int .u32 r3, v3_, v4_]) ∧ Kd.R k43 43 w' w.heap.size (fun k_ => some k_ ≠ (v4_ : Value).ownBlock) v3_ r4 ∧ Kd.R k27 27 w' w.heap.size (fun _ => True) v4_ r5 ∧ Below w.heap.size w w' := by
  unfold laws_msBase.f at h
  obtain ⟨nd, hnd, h⟩ := Option.bind_eq_some_iff.mp h
  obtain ⟨hl, hc⟩ := needs_codes a0 nd hnd
  have hR := l0_det nd hl hc a0 _ k 0 [] (Nat.zero_le _) h
  simp only [Prod.mk.injEq, List.nil_append, List.drop_zero] at hR
  obtain ⟨rfl, rfl, rfl, rfl, rfl⟩ := hR
  exact Given.msBase_walk r1 nd hnd hc hl w
end Go.Proofs.YtldjigfnagfalaaGreatDoor.PMn
end
