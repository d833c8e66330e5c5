/- io.ReadAtLeast, io.ReadFull over the door's reader. -/
import Derived.Test.YtdooimdefmegaaaDoorGvRead
import Derived.Deep.RegionWith
import Derived.LaidEql
namespace Go.Proofs.YtdooimdefmegaaaDoor.Given
open Go.RowKit Go.Proofs.YtdooimdefmegaaaDoorW.PrintWords

theorem nil_ahead (a : Addr) (w : World) : (nilAhead 204 43 (.pointer (some a)) "Read").run Tryd.prog w = .ok (some false) w := by kernel_rfl
theorem method_read (a : Addr) (w : World) : (method 204 43 (.pointer (some a)) "Read").run Tryd.prog w = .ok (63, .pointer (some a)) w := by kernel_rfl

/-- What ReadAtLeast hands back, and leaves. -/
def LeastPost (R g o m : Nat) (P : List ByteArray) (bs : List Int) (E0 E1 : Value) (w : World) (e : Ending) (w' : World) : Prop :=
  Fr w w' R g ∧ ∃ P', Rd w' R g P' ∧
    ((m ≤ (flat P).length ∧ e = .returned (.tuple #[.int .i64 m, .nilIface]) ∧ flat P' = (flat P).drop m ∧ P'.length ≤ P.length ∧ Bts w' g (bs.take o ++ (flat P).take m ++ bs.drop (o + m))) ∨
     ((flat P).length < m ∧ e = .returned (.tuple #[.int .i64 (flat P).length, if flat P = [] then E0 else E1]) ∧ flat P' = [] ∧ P'.length ≤ P.length ∧ Bts w' g (bs.take o ++ flat P ++ bs.drop (o + (flat P).length))))

/-- The same in one form: a number and an error. -/
def ReadOne (R g o m : Nat) (P : List ByteArray) (bs : List Int) (E0 : Value) (w w' : World) (k : Nat) (E : Value) : Prop :=
  Fr w w' R g ∧ ∃ P', Rd w' R g P' ∧ k ≤ m ∧ k ≤ (flat P).length ∧ P'.length ≤ P.length ∧ flat P' = (flat P).drop k ∧ Bts w' g (bs.take o ++ (flat P).take k ++ bs.drop (o + k)) ∧ ((E = .nilIface ∧ 1 ≤ k) ∨ (E = E0 ∧ k = 0 ∧ flat P = []))
theorem read_one {R g o m : Nat} {P : List ByteArray} {bs : List Int} {E0 : Value} {w w' : World} {e : Ending} (h : ReadPost R g o m P bs E0 w e w') : ∃ (k : Nat) (E : Value), e = .returned (.tuple #[.int .i64 k, E]) ∧ Aside0 (ReadOne R g o m P bs E0 w w' k E) := by
  obtain ⟨hf, ⟨h0, he, hr, hb⟩ | ⟨k, P', h1, h2, h3, h4, he, hr, hfl, hb⟩⟩ := h
  · refine ⟨0, E0, he, ⟨hf, [], hr, by omega, by omega, by simp, by rw [h0]; rfl, ?_, .inr ⟨rfl, rfl, h0⟩⟩⟩
    simpa using hb
  · exact ⟨k, .nilIface, he, ⟨hf, P', hr, h2, h3, h4, hfl, hb, .inl ⟨rfl, h1⟩⟩⟩

theorem splice_step (bs D : List Int) (o n k : Nat) (ho : o ≤ bs.length) (hn : n ≤ D.length) :
    (bs.take o ++ D.take n ++ bs.drop (o + n)).take (o + n) ++ (D.drop n).take k ++ (bs.take o ++ D.take n ++ bs.drop (o + n)).drop (o + n + k) = bs.take o ++ D.take (n + k) ++ bs.drop (o + (n + k)) := by
  have hl : (bs.take o ++ D.take n).length = o + n := by rw [List.length_append, List.length_take, List.length_take]; omega
  have e1 : (bs.take o ++ D.take n ++ bs.drop (o + n)).take (o + n) = bs.take o ++ D.take n := by
    rw [← hl, List.take_left]
  have e2 : (bs.take o ++ D.take n ++ bs.drop (o + n)).drop (o + n + k) = bs.drop (o + (n + k)) := by
    rw [show o + n + k = (bs.take o ++ D.take n).length + k by omega, List.drop_append, List.drop_eq_nil_of_le (by omega), List.nil_append, List.drop_drop]
    congr 1
    omega
  rw [e1, e2, List.append_assoc (bs.take o), List.take_add]
theorem least_step {g o n k : Nat} {P P' P1 : List ByteArray} {bs : List Int} {w1 : World} (ho : o ≤ bs.length) (hn : n ≤ (flat P).length) (hf : flat P' = (flat P).drop n) (hk : k ≤ (flat P').length) (hf1 : flat P1 = (flat P').drop k)
    (hb : Bts w1 g ((bs.take o ++ (flat P).take n ++ bs.drop (o + n)).take (o + n) ++ (flat P').take k ++ (bs.take o ++ (flat P).take n ++ bs.drop (o + n)).drop (o + n + k))) :
    n + k ≤ (flat P).length ∧ flat P1 = (flat P).drop (n + k) ∧ Bts w1 g (bs.take o ++ (flat P).take (n + k) ++ bs.drop (o + (n + k))) := by
  rw [hf] at hk hb hf1
  rw [List.length_drop] at hk
  rw [splice_step bs (flat P) o n k ho hn] at hb
  refine ⟨by omega, by rw [hf1, List.drop_drop], hb⟩

set_option maxRecDepth 100000 in
set_option maxHeartbeats 4000000 in
theorem least.calls (R g o m c : Nat) (P : List ByteArray) (bs : List Int) (a0 : Addr) (t0 : TypeId) (E1 : Value) (w : World) (hr : Rd w R g P) (hb : Bts w g bs) (hm2 : m ≤ 4611686018427387904) (hmc : m ≤ c) (hom : o + m ≤ bs.length) (hP : P.length ≤ 1099511627776) (hRg : R ≠ g) (hE : w.cell? ⟨0, 0, none⟩ = some (.iface t0 (.pointer (some a0)))) (hE1 : w.cell? ⟨1, 0, none⟩ = some E1) (hR0 : 1 < R) (hg0 : 1 < g)
    (hq : ∀ w', (binOp .eql 38 (.iface t0 (.pointer (some a0))) (.iface t0 (.pointer (some a0)))).run Tryd.prog w' = .ok (.bool true) w') :
    Calls Tryd.prog 30 #[.iface 43 (.pointer (some ⟨R, 0, none⟩)), .slice (some ⟨g, o, none⟩) m c, .int .i64 m] w (LeastPost R g o m P bs (.iface t0 (.pointer (some a0))) E1 w) := by
  have nA := nil_ahead
  have mR := method_read
  have HR := Aside0.mk hr
  have HBt := Aside0.mk hb
  have H0 := Aside0.mk hE
  have H1 := Aside0.mk hE1
  clear hr hb hE hE1
  go_enter Tryd.func30, Tryd.ntmps30
  go_wp2
  go_loopw [6, 7] (fun i e wr => ∃ (n : Nat) (P' : List ByteArray), i = .int .i64 n ∧ n ≤ m ∧ Rd wr R g P' ∧ P'.length ≤ P.length ∧ Aside0 (n ≤ (flat P).length ∧ flat P' = (flat P).drop n ∧ Bts wr g (bs.take o ++ (flat P).take n ++ bs.drop (o + n))) ∧ Fr w wr R g ∧ (e = .nilIface ∨ (e = .iface t0 (.pointer (some a0)) ∧ Aside0 (n = (flat P).length) ∧ n < m))) (fun i e _ => (m - (intOf i).toNat) + (match e with | .nilIface => 1 | _ => 0))
  case atStart => exact ⟨0, P, rfl, by omega, HR.out, Nat.le_refl _, ⟨by omega, by simp, by simpa using HBt.out⟩, Fr.refl _ _ _, .inl rfl⟩
  case round =>
    obtain ⟨n, P', rfl, hn, hrd, hPl, hA, hfr, hcase⟩ := hrel
    have hE0 : wr.cell? ⟨0, 0, none⟩ = some (.iface t0 (.pointer (some a0))) := by
      have h := H0.out
      have hlt := block_lt_of_cell h
      rw [← h]
      exact World.cell?_of_block (hfr.block 0 hlt (by omega) (by omega))
    have hE1 : wr.cell? ⟨1, 0, none⟩ = some E1 := by
      have h := H1.out
      have hlt := block_lt_of_cell h
      rw [← h]
      exact World.cell?_of_block (hfr.block 1 hlt (by omega) (by omega))
    have HRd := Aside0.mk hrd
    have HFr := Aside0.mk hfr
    clear hrd hfr
    rcases hcase with rfl | ⟨rfl, hnD, hnm⟩
    · by_cases hlt : n < m
      · have hcn : (c = n) = False := eq_false (by omega)
        have hcn2 : (n = c) = False := eq_false (by omega)
        have HC := Aside0.mk (read.calls R g (o + n) (m - n) (c - n) P' (bs.take o ++ (flat P).take n ++ bs.drop (o + n)) (.iface t0 (.pointer (some a0))) wr.drew (show Rd wr.drew R g P' from HRd.out) (show Bts wr.drew g _ from hA.out.2.2) (by omega) (by omega) (by
          have h1 := hA.out.1
          simp only [List.length_append, List.length_take, List.length_drop]; omega) (by omega) hRg (show wr.drew.cell? _ = _ from hE0) (by omega) (by omega))
        go_wp2_with (fail)
        go_region_with (go_at_call 63; refine (HC.out).mono ?_; rintro e w1 hp; obtain ⟨k, E, rfl, hone⟩ := read_one hp; clear hp)
        obtain ⟨hf1, P1, hrd1, hkm, hkD, hPl1, hfl1, hb1, hE⟩ := hone.out
        have hstep := Aside0.mk (least_step (k := k) (by omega) hA.out.1 hA.out.2.1 hkD hfl1 hb1)
        have HRd1 := Aside0.mk hrd1
        have HFr1 := Aside0.mk (HFr.out.trans (Fr.trans ((Fr.refl wr R g).drewN 1) hf1))
        have hlD : (flat P').length = (flat P).length - n := by rw [hA.out.2.1, List.length_drop]
        have HLD := Aside0.mk hlD
        clear hrd1 hf1 hfl1 hb1 hone hlD
        rcases hE with ⟨rfl, hk1⟩ | ⟨rfl, rfl, hnil⟩
        · go_wp2
          go_roundw
          case rel => exact ⟨n + k, P1, by go_num, by omega, HRd1.out, by omega, hstep, HFr1.out, .inl rfl⟩
          case measure => simp [intOf]; omega
        · have HN := Aside0.mk hnil
          clear hnil
          go_wp2
          go_roundw
          case rel => exact ⟨n, P1, by go_num, by omega, HRd1.out, by omega, by simpa using hstep, HFr1.out, .inr ⟨rfl, ⟨by
            have h1 := HLD.out
            have h2 := hA.out.1
            rw [HN.out] at h1
            simp at h1; omega⟩, hlt⟩⟩
          case measure => simp [intOf]
      · obtain rfl : n = m := by omega
        have g5 : (n ≤ n) = True := eq_true (Nat.le_refl _)
        go_wp2
        go_ret2
        exact ⟨HFr.out, P', HRd.out, .inl ⟨hA.out.1, rfl, hA.out.2.1, hPl, hA.out.2.2⟩⟩
    · have hnm2 : ¬ (m ≤ n) := by omega
      have hnD2 := hnD.out
      by_cases hn0 : n = 0
      · subst hn0
        have HD : Aside0 (flat P = []) := ⟨List.eq_nil_of_length_eq_zero hnD2.symm⟩
        clear hnD2
        go_wp2
        go_ret2
        have hfl := hA.out.2.1
        have hbt := hA.out.2.2
        refine ⟨HFr.out, P', HRd.out, .inr ⟨by rw [HD.out]; simpa using hnm, by rw [HD.out]; simp, by rw [hfl, HD.out]; rfl, hPl, by rw [HD.out]; simpa using hbt⟩⟩
      · have g6 : (0 < n) = True := eq_true (by omega)
        have g7 : (0 < (n : Int)) = True := eq_true (by omega)
        have HD : Aside0 (flat P ≠ [] ∧ (flat P).length = n) := ⟨fun e => by rw [e] at hnD2; simp at hnD2; omega, hnD2.symm⟩
        clear hnD2
        have q := hq
        go_wp2
        go_ret2
        have hfl := hA.out.2.1
        have hbt := hA.out.2.2
        rw [← HD.out.2] at hbt hfl
        refine ⟨HFr.out, P', HRd.out, .inr ⟨by rw [HD.out.2]; exact hnm, ?_, by rw [hfl, List.drop_length], hPl, by rw [List.take_length] at hbt; exact hbt⟩⟩
        rw [if_neg HD.out.1, HD.out.2]; rfl

theorem least_one {g o m : Nat} {P P' : List ByteArray} {bs : List Int} {E0 E1 : Value} {e : Ending} {w' : World}
    (h : (m ≤ (flat P).length ∧ e = .returned (.tuple #[.int .i64 m, .nilIface]) ∧ flat P' = (flat P).drop m ∧ P'.length ≤ P.length ∧ Bts w' g (bs.take o ++ (flat P).take m ++ bs.drop (o + m))) ∨
     ((flat P).length < m ∧ e = .returned (.tuple #[.int .i64 (flat P).length, if flat P = [] then E0 else E1]) ∧ flat P' = [] ∧ P'.length ≤ P.length ∧ Bts w' g (bs.take o ++ flat P ++ bs.drop (o + (flat P).length)))) :
    ∃ (k : Nat) (E : Value), e = .returned (.tuple #[.int .i64 k, E]) ∧ Aside0 ((m ≤ (flat P).length ∧ (Ending.returned (.tuple #[.int .i64 k, E])) = .returned (.tuple #[.int .i64 m, .nilIface]) ∧ flat P' = (flat P).drop m ∧ P'.length ≤ P.length ∧ Bts w' g (bs.take o ++ (flat P).take m ++ bs.drop (o + m))) ∨
     ((flat P).length < m ∧ (Ending.returned (.tuple #[.int .i64 k, E])) = .returned (.tuple #[.int .i64 (flat P).length, if flat P = [] then E0 else E1]) ∧ flat P' = [] ∧ P'.length ≤ P.length ∧ Bts w' g (bs.take o ++ flat P ++ bs.drop (o + (flat P).length)))) := by
  rcases h with ⟨h1, rfl, h2, h3, h4⟩ | ⟨h1, rfl, h2, h3, h4⟩
  · exact ⟨_, _, rfl, ⟨.inl ⟨h1, rfl, h2, h3, h4⟩⟩⟩
  · exact ⟨_, _, rfl, ⟨.inr ⟨h1, rfl, h2, h3, h4⟩⟩⟩

set_option maxRecDepth 100000 in
set_option maxHeartbeats 4000000 in
theorem full.calls (R g o m c : Nat) (P : List ByteArray) (bs : List Int) (a0 : Addr) (t0 : TypeId) (E1 : Value) (w : World) (hr : Rd w R g P) (hb : Bts w g bs) (hm2 : m ≤ 4611686018427387904) (hmc : m ≤ c) (hom : o + m ≤ bs.length) (hP : P.length ≤ 1099511627776) (hRg : R ≠ g) (hE : w.cell? ⟨0, 0, none⟩ = some (.iface t0 (.pointer (some a0)))) (hE1 : w.cell? ⟨1, 0, none⟩ = some E1) (hR0 : 1 < R) (hg0 : 1 < g)
    (hq : ∀ w', (binOp .eql 38 (.iface t0 (.pointer (some a0))) (.iface t0 (.pointer (some a0)))).run Tryd.prog w' = .ok (.bool true) w') :
    Calls Tryd.prog 17 #[.iface 43 (.pointer (some ⟨R, 0, none⟩)), .slice (some ⟨g, o, none⟩) m c] w (LeastPost R g o m P bs (.iface t0 (.pointer (some a0))) E1 w) := by
  have HL := Aside0.mk (least.calls R g o m c P bs a0 t0 E1 w hr hb hm2 hmc hom hP hRg hE hE1 hR0 hg0 hq)
  clear hr hb hE hE1 hq
  go_enter Tryd.func17, Tryd.ntmps17
  go_wp2_with (go_at_call 30; refine (HL.out).mono ?_; rintro e w1 ⟨hf, P', hrd, hp⟩; obtain ⟨k, E, rfl, HP⟩ := least_one hp; clear hp)
  go_ret2
  exact ⟨hf, P', hrd, HP.out⟩
end Go.Proofs.YtdooimdefmegaaaDoor.Given
