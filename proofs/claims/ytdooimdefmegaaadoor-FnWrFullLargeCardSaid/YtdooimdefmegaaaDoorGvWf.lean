/- WrFull: what it reads out of pieces. -/
import Derived.Test.YtdooimdefmegaaaDoorGvRg
namespace Go.Proofs.YtdooimdefmegaaaDoor.Given
open Go.RowKit Go.Proofs.YtdooimdefmegaaaDoorW.PrintWords

theorem conv_bytes {w : World} {g k c : Nat} {out rest : List Int} (hb : Bts w g (out ++ rest)) (hk : k = out.length) (hkb : k ≤ 9223372036854775807) : (convert 36 9 (.slice (some ⟨g, 0, none⟩) k c)).run Tryd.prog w = .ok (.string (strOfNums out)) w := by
  refine Kd.C_string Tryd.underlying36 Tryd.underlying5 Tryd.underlying9 ?_
  refine ⟨hk.symm, hkb, fun _ => ⟨_, rfl, fun j p hj => ⟨[.int .u8 p], rfl, rfl, fun i u hu => ?_⟩⟩⟩
  match i, hu with
  | 0, hu =>
    cases hu
    have h := cell_of_row w g j _ _ _ hb
    have e : (⟨g, 0, none⟩ : Addr).add (j * 1 + 0) = ⟨g, j, none⟩ := by
      unfold Addr.add
      by_cases hj0 : j = 0 <;> simp [hj0]
    have hjl : j < out.length := (List.getElem?_eq_some_iff.1 hj).1
    show w.cell? ((⟨g, 0, none⟩ : Addr).add (j * 1 + 0)) = _
    rw [e, h, List.getElem?_toArray, List.getElem?_map, List.getElem?_append_left hjl, hj]; rfl

theorem make_room (room : Nat) (h : room ≤ 4398046511104) : ∀ W : World, (Instr.makeSlice 36 (.int .i64 0) (.int .i64 (room : Int))).run Tryd.prog W = .ok (.slice (some ⟨W.heap.size, 0, none⟩) 0 room) (W.alloc (.cells (madeCells #[.int .u8 0] room) 5)) := by
  intro W
  have h := make_buf 0 room (by omega) W
  rw [Nat.zero_add, show ((0 : Nat) : Int) + (room : Int) = (room : Int) by omega] at h
  exact h

/-- The two errors that the reading may end in, as the program's text lays them. -/
def Glob (w : World) : Prop :=
  ∃ a0 a1 : Addr, w.cell? ⟨0, 0, none⟩ = some (.iface 83 (.pointer (some a0))) ∧ w.cell? ⟨1, 0, none⟩ = some (.iface 83 (.pointer (some a1))) ∧ a0 ≠ a1 ∧
    (∃ c t, w.heap[a0.block]? = some (.cells c t (0, 0))) ∧ (∃ c t, w.heap[a1.block]? = some (.cells c t (0, 0)))
theorem Glob.below {w w' : World} (h : Glob w) (hb : Below w.heap.size w w') : Glob w' := by
  obtain ⟨a0, a1, h0, h1, hne, ⟨c0, t0, q0⟩, ⟨c1, t1, q1⟩⟩ := h
  exact ⟨a0, a1, (hb.cell (p := ⟨0, 0, none⟩) (block_lt_of_cell h0)).trans h0, (hb.cell (p := ⟨1, 0, none⟩) (block_lt_of_cell h1)).trans h1, hne, ⟨c0, t0, heap_of_below hb (Array.getElem?_eq_some_iff.1 q0).1 q0⟩, ⟨c1, t1, heap_of_below hb (Array.getElem?_eq_some_iff.1 q1).1 q1⟩⟩
theorem infoPtr : (Tryd.prog.info? 83).map (·.comparable) = some true := by kernel_rfl
theorem infoErr : (Tryd.prog.info? 101).map (fun i => decide (i.size = 0)) = some false := by kernel_rfl
theorem eq_same (a : Addr) (w : World) : (binOp .eql 38 (.iface 83 (.pointer (some a))) (.iface 83 (.pointer (some a)))).run Tryd.prog w = .ok (.bool true) w := by
  obtain ⟨i, hi, hc⟩ := Option.map_eq_some_iff.1 infoPtr
  obtain ⟨j, hj, _⟩ := Option.map_eq_some_iff.1 infoErr
  exact run_eql_iface_ptr_same w a Tryd.underlying38 Tryd.underlying83 hi hc hj
theorem eq_other {a b : Addr} {w : World} (hne : a ≠ b) (ha : ∃ c t, w.heap[a.block]? = some (.cells c t (0, 0))) (hb : ∃ c t, w.heap[b.block]? = some (.cells c t (0, 0))) : (binOp .eql 38 (.iface 83 (.pointer (some a))) (.iface 83 (.pointer (some b)))).run Tryd.prog w = .ok (.bool false) w := by
  obtain ⟨i, hi, hc⟩ := Option.map_eq_some_iff.1 infoPtr
  obtain ⟨j, hj, hs⟩ := Option.map_eq_some_iff.1 infoErr
  obtain ⟨c1, t1, q1⟩ := ha
  obtain ⟨c2, t2, q2⟩ := hb
  exact run_eql_iface_ptr_other w Tryd.underlying38 Tryd.underlying83 hi hc hj (by simpa using hs) hne q1 q2

/-- readFull, whatever is asked for. -/
theorem rf_calls (R g n room : Nat) (P : List ByteArray) (w : World) (B : Nat) (hG : Glob w) (hr : Rd w R g P) (hb : Bts w g (List.replicate room 0)) (hroom : room ≤ 1048576) (hn : n ≤ 1048576) (hP : P.length ≤ 1099511627776) (hRg : R ≠ g) (hRl : R < w.heap.size) (hBR : B ≤ R) (hBg : B ≤ g) (hB2 : 1 < B)
    (ha : ∀ a0 a1 : Addr, w.cell? ⟨0, 0, none⟩ = some (.iface 83 (.pointer (some a0))) → w.cell? ⟨1, 0, none⟩ = some (.iface 83 (.pointer (some a1))) → a0.block < B ∧ a1.block < B) :
    Calls Tryd.prog 13 #[.iface 43 (.pointer (some ⟨R, 0, none⟩)), .slice (some ⟨g, 0, none⟩) 0 room, .int .i64 n] w (RfPost B (flat P) room n w) := by
  obtain ⟨a0, a1, h0, h1, hne, q0, q1⟩ := hG
  obtain ⟨l0, l1⟩ := ha a0 a1 h0 h1
  have hB : B ≤ w.heap.size := by omega
  by_cases h1' : n ≤ room
  · exact rf_room B R g n room P a0 83 (.iface 83 (.pointer (some a1))) w hr hb h1' (by omega) hP hRg h0 h1 (by omega) (by omega) ⟨_, _, rfl⟩ (fun w' => eq_same a0 w') hBR hBg hB
  · by_cases h2 : n ≤ 65536
    · exact rf_make B R g n room P a0 83 (.iface 83 (.pointer (some a1))) w hr (by omega) h2 hP h0 h1 (by omega) hRl ⟨_, _, rfl⟩ (fun w' => eq_same a0 w') hBR hB
    · refine rf_grow B R g n room P a0 83 (.iface 83 (.pointer (some a1))) w hr hb (by omega) (by omega) (by omega) hP hRg h0 h1 (by omega) (by omega) hRl ⟨_, _, rfl⟩ (fun w' => eq_same a0 w') (fun w' hbw => ?_) hBR hBg hB hB2
      obtain ⟨c0, t0, q0⟩ := q0
      obtain ⟨c1, t1, q1⟩ := q1
      exact eq_other (fun e => hne e.symm) ⟨c1, t1, heap_of_below hbw l1 q1⟩ ⟨c0, t0, heap_of_below hbw l0 q0⟩

theorem rf_out_size (D : List Int) (room n : Nat) (h : n ≤ 1048576) : (rfOut D room n).1.length ≤ 1048576 := by
  unfold rfOut
  split
  · rw [List.length_take]; omega
  · rename_i h1
    split
    · show (D ++ List.replicate (n - D.length) 0).length ≤ _
      rw [List.length_append, List.length_replicate]; omega
    · show D.length ≤ _
      omega

def DoorPost (D : List Int) (room n : Nat) (w : World) (e : Ending) (w' : World) : Prop :=
  ∃ E, e = .returned (.tuple #[.string (strOfNums (rfOut D room n).1), E]) ∧ ErrOf (rfOut D room n).2 E ∧ Below w.heap.size w w'

set_option maxRecDepth 100000 in
set_option maxHeartbeats 4000000 in
theorem door_full (A : Option Addr) (c room n : Nat) (P : List ByteArray) (w : World) (hG : Glob w) (hC : Kd.string.C w A P.length P) (hc : P.length ≤ c) (hroom : room ≤ 1048576) (hn : n ≤ 1048576) (hP : P.length ≤ 1099511627776) :
    Calls Tryd.prog 11 #[.slice A P.length c, .int .i64 room, .int .i64 n] w (DoorPost (flat P) room n w) := by
  have hmk := make_room room (by omega)
  have h1lt : 1 < w.heap.size := by obtain ⟨a0, a1, h0, h1, _⟩ := hG; exact block_lt_of_cell h1
  have hrd0 : Rd (w.alloc (.cells #[.slice A P.length c, .int .i64 0] 45)) w.heap.size (w.heap.size + 1) P := by
    refine ⟨A, c, 0, heap_alloc_new w _, hc, Kd.C_below hC ((Below.refl _ _).alloc (Nat.le_refl _) _), fun ad ha hn => ?_⟩
    obtain ⟨ad', e, hcell⟩ := Kd.at_string hC 0 (by omega) (by omega)
    rw [ha] at e
    cases e
    have := block_lt_of_cell hcell
    rw [show ad.add (0 : Int).toNat = ad from rfl] at this
    omega
  have hb1 : Below w.heap.size w (w.alloc (.cells #[.slice A P.length c, .int .i64 0] 45)) := (Below.refl _ _).alloc (Nat.le_refl _) _
  have hs1 : (w.alloc (.cells #[.slice A P.length c, .int .i64 0] 45)).heap.size = w.heap.size + 1 := by simp
  have hrd1 := rd_alloc hrd0 (by rw [hs1]; omega) (.cells (madeCells #[.int .u8 0] room) 5)
  rw [hs1] at hrd1
  have hbt1 := bts_made (w.alloc (.cells #[.slice A P.length c, .int .i64 0] 45)) room
  rw [hs1] at hbt1
  have hb2 : Below w.heap.size w ((w.alloc (.cells #[.slice A P.length c, .int .i64 0] 45)).alloc (.cells (madeCells #[.int .u8 0] room) 5)) := hb1.alloc hb1.size _
  have HRF := Aside0.mk (rf_calls w.heap.size (w.heap.size + 1) n room P _ w.heap.size (hG.below hb2) hrd1 hbt1 hroom hn hP (by omega) (by simp; omega) (Nat.le_refl _) (by omega) h1lt (fun a0 a1 e0 e1 => by
    obtain ⟨b0, b1, h0, h1, _, ⟨c0, t0, q0⟩, ⟨c1, t1, q1⟩⟩ := hG
    have z0 := (hb2.cell (p := ⟨0, 0, none⟩) (block_lt_of_cell h0)).trans h0
    have z1 := (hb2.cell (p := ⟨1, 0, none⟩) (block_lt_of_cell h1)).trans h1
    rw [z0] at e0
    rw [z1] at e1
    cases e0; cases e1
    exact ⟨(Array.getElem?_eq_some_iff.1 q0).1, (Array.getElem?_eq_some_iff.1 q1).1⟩))
  have HB2 := Aside0.mk hb2
  have HSZ := Aside0.mk (rf_out_size (flat P) room n hn)
  clear hrd0 hrd1 hbt1 hb1 hb2 hC hc hs1 hG
  go_enter Tryd.func11, Tryd.ntmps11
  go_wp2_with (go_at_call 13; refine (HRF.out).mono ?_; rintro e w1 ⟨g, k, c1, E, rest, rfl, hk, hkc, hE, hbt, hbl⟩; have hcv := conv_bytes (c := c1) hbt hk (by rw [hk]; exact Nat.le_trans HSZ.out (by omega)); have HE := Aside0.mk hE; have HBL := Aside0.mk (HB2.out.trans hbl); clear hbt hbl hE hk)
  go_ret2
  exact ⟨E, rfl, HE.out, HBL.out⟩

/-- What WrFull says. -/
def WrFull.f (P : List ByteArray) (room n : Int) : Option (ByteArray × Bool) :=
  if 0 ≤ room ∧ room ≤ 1048576 ∧ 0 ≤ n ∧ n ≤ 1048576 ∧ P.length ≤ 1099511627776 then some (strOfNums (rfOut (flat P) room.toNat n.toNat).1, (rfOut (flat P) room.toNat n.toNat).2) else none

set_option maxRecDepth 100000 in
set_option maxHeartbeats 4000000 in
theorem WrFull.calls (A0 : Option Addr) (c0 : Nat) (l0 : List ByteArray) (a1 a2 : Int) (r1 : ByteArray) (r2 : Bool) (w : World) (hr0 : Kd.C Kd.string w A0 l0.length l0) (hc0 : l0.length ≤ c0) (hG : Glob w) (h : WrFull.f l0 a1 a2 = some (r1, r2)) :
    Calls Tryd.prog 7 #[.slice A0 l0.length c0, .int .i64 a1, .int .i64 a2] w fun e w' => e = .returned (.tuple #[.string r1, .bool r2]) ∧ Below w.heap.size w w' := by
  unfold WrFull.f at h
  split at h
  · rename_i hh
    obtain ⟨room, rfl⟩ := Int.eq_ofNat_of_zero_le hh.1
    obtain ⟨n, rfl⟩ := Int.eq_ofNat_of_zero_le hh.2.2.1
    rw [Int.toNat_natCast, Int.toNat_natCast] at h
    have h := Option.some.inj h
    obtain ⟨e1, e2⟩ := Prod.mk.inj h
    have HD := Aside0.mk (door_full A0 c0 room n l0 w hG hr0 hc0 (by omega) (by omega) hh.2.2.2.2)
    clear hr0 hG hh h
    have HE := Aside0.mk (And.intro e1 e2)
    clear e1 e2
    go_enter Tryd.func7, Tryd.ntmps7
    go_upto_region 2 with (go_at_call 11; refine (HD.out).mono ?_; rintro e w1 ⟨E, rfl, hE, hbl⟩)
    rcases hE with ⟨h2, rfl⟩ | ⟨h2, t, u, rfl⟩
    · have H2 := Aside0.mk h2
      clear h2
      go_quiet (fail)
      go_wp2
      go_ret2
      exact ⟨by rw [← HE.out.1, ← HE.out.2, H2.out]; rfl, pw_below_drewN hbl _⟩
    · have H2 := Aside0.mk h2
      clear h2
      go_quiet (fail)
      go_wp2
      go_ret2
      exact ⟨by rw [← HE.out.1, ← HE.out.2, H2.out]; rfl, pw_below_drewN hbl _⟩
  · cases h
end Go.Proofs.YtdooimdefmegaaaDoor.Given
