/- readFull over the door's reader: where the buffer is large enough, or made at once. -/
import Derived.Test.YtdooimdefmegaaaDoorGvFull
namespace Go.Proofs.YtdooimdefmegaaaDoor.Given
open Go.RowKit Go.Proofs.YtdooimdefmegaaaDoorW.PrintWords

/-- What is read of the bytes D, and whether all of it. -/
def rfOut (D : List Int) (room n : Nat) : List Int × Bool :=
  if n ≤ D.length then (D.take n, true) else (if n ≤ room ∨ n ≤ 65536 then D ++ List.replicate (n - D.length) 0 else D, false)

def ErrOf (ok : Bool) (E : Value) : Prop := (ok = true ∧ E = .nilIface) ∨ (ok = false ∧ ∃ t u, E = .iface t u)
def RfPost (B : Nat) (D : List Int) (room n : Nat) (w : World) (e : Ending) (w' : World) : Prop :=
  ∃ (g k c : Nat) (E : Value) (rest : List Int), e = .returned (.tuple #[.slice (some ⟨g, 0, none⟩) k c, E]) ∧ k = (rfOut D room n).1.length ∧ k ≤ c ∧ ErrOf (rfOut D room n).2 E ∧ Bts w' g ((rfOut D room n).1 ++ rest) ∧ Below B w w'

theorem info5' : (Tryd.prog.info? 5).map (fun i => (i.zero, i.size, i.bytes)) = some (some (.int .u8 0), 1, 1) := by kernel_rfl
theorem bts_made (w : World) (n : Nat) : Bts (w.alloc (.cells (madeCells #[.int .u8 0] n) 5)) w.heap.size (List.replicate n 0) := by
  unfold Bts
  rw [heap_alloc_new]
  have e : madeCells #[Value.int .u8 0] n = ((List.replicate n (0 : Int)).map (Value.int .u8)).toArray := by
    unfold madeCells
    apply Array.ext
    · simp
    · intro i h1 h2
      simp [Nat.mod_one]
  rw [e]
theorem rd_alloc {w : World} {R g : Nat} {P : List ByteArray} (h : Rd w R g P) (hR : R < w.heap.size) (o : Obj) : Rd (w.alloc o) R w.heap.size P := by
  obtain ⟨A, c, rd, q1, q2, q3, q4⟩ := h
  refine ⟨A, c, rd, (Below.heap_alloc w o R hR).trans q1, q2, Kd.C_below q3 ((Below.refl _ _).alloc (Nat.le_refl _) _), fun ad ha hn => ⟨(q4 ad ha hn).1, ?_⟩⟩
  obtain ⟨ad', e, hc⟩ := Kd.at_string q3 0 (by omega) (by omega)
  rw [ha] at e
  cases e
  have := block_lt_of_cell hc
  rw [show ad.add (0 : Int).toNat = ad from rfl] at this
  omega

/-- From what ReadFull leaves to what readFull says: a buffer of n zeros from its first place on. -/
theorem rf_of_least {g n room : Nat} {P P' : List ByteArray} {bs : List Int} {E0 E1 : Value} {w' : World} {k : Nat} {E : Value} (hz : bs.take n = List.replicate n 0) (hsmall : n ≤ room ∨ n ≤ 65536) (hE0 : ∃ t u, E0 = .iface t u) (hE1 : ∃ t u, E1 = .iface t u)
    (h : (n ≤ (flat P).length ∧ (Ending.returned (.tuple #[.int .i64 k, E])) = .returned (.tuple #[.int .i64 n, .nilIface]) ∧ flat P' = (flat P).drop n ∧ P'.length ≤ P.length ∧ Bts w' g (bs.take 0 ++ (flat P).take n ++ bs.drop (0 + n))) ∨
     ((flat P).length < n ∧ (Ending.returned (.tuple #[.int .i64 k, E])) = .returned (.tuple #[.int .i64 (flat P).length, if flat P = [] then E0 else E1]) ∧ flat P' = [] ∧ P'.length ≤ P.length ∧ Bts w' g (bs.take 0 ++ flat P ++ bs.drop (0 + (flat P).length)))) :
    ∃ rest, n = (rfOut (flat P) room n).1.length ∧ ErrOf (rfOut (flat P) room n).2 E ∧ Bts w' g ((rfOut (flat P) room n).1 ++ rest) := by
  rcases h with ⟨h1, he, _, _, hb⟩ | ⟨h1, he, _, _, hb⟩
  · have e : rfOut (flat P) room n = ((flat P).take n, true) := by unfold rfOut; rw [if_pos h1]
    rw [e]
    simp only [Ending.returned.injEq, Value.tuple.injEq, Array.mk.injEq, List.cons.injEq, and_true] at he
    exact ⟨bs.drop (0 + n), by rw [List.length_take]; omega, .inl ⟨rfl, he.2⟩, by simpa using hb⟩
  · have e : rfOut (flat P) room n = (flat P ++ List.replicate (n - (flat P).length) 0, false) := by unfold rfOut; rw [if_neg (by omega), if_pos hsmall]
    rw [e]
    simp only [Ending.returned.injEq, Value.tuple.injEq, Array.mk.injEq, List.cons.injEq, and_true] at he
    refine ⟨bs.drop n, by rw [List.length_append, List.length_replicate]; omega, .inr ⟨rfl, ?_⟩, ?_⟩
    · rw [he.2]; split
      · exact hE0
      · exact hE1
    · have e2 : bs.drop (flat P).length = List.replicate (n - (flat P).length) 0 ++ bs.drop n := by
        have h3 : (bs.take n).drop (flat P).length = List.replicate (n - (flat P).length) 0 := by rw [hz, List.drop_replicate]
        rw [← h3, List.drop_take]
        rw [show bs.drop n = (bs.drop (flat P).length).drop (n - (flat P).length) by rw [List.drop_drop]; congr 1; omega, List.take_append_drop]
      have hb2 : Bts w' g (flat P ++ bs.drop (flat P).length) := by simpa using hb
      rw [e2, ← List.append_assoc] at hb2
      exact hb2

set_option maxRecDepth 100000 in
set_option maxHeartbeats 4000000 in
theorem rf_room (B R g n room : Nat) (P : List ByteArray) (a0 : Addr) (t0 : TypeId) (E1 : Value) (w : World) (hr : Rd w R g P) (hb : Bts w g (List.replicate room 0)) (hn : n ≤ room) (hroom : room ≤ 4611686018427387904) (hP : P.length ≤ 1099511627776) (hRg : R ≠ g) (hE : w.cell? ⟨0, 0, none⟩ = some (.iface t0 (.pointer (some a0)))) (hE1 : w.cell? ⟨1, 0, none⟩ = some E1) (hR0 : 1 < R) (hg0 : 1 < g)
    (hE1i : ∃ t u, E1 = .iface t u) (hq : ∀ w', (binOp .eql 38 (.iface t0 (.pointer (some a0))) (.iface t0 (.pointer (some a0)))).run Tryd.prog w' = .ok (.bool true) w') (hBR : B ≤ R) (hBg : B ≤ g) (hB : B ≤ w.heap.size) :
    Calls Tryd.prog 13 #[.iface 43 (.pointer (some ⟨R, 0, none⟩)), .slice (some ⟨g, 0, none⟩) 0 room, .int .i64 n] w (RfPost B (flat P) room n w) := by
  have HL := Aside0.mk (full.calls R g 0 n room P (List.replicate room 0) a0 t0 E1 w hr hb (by omega) hn (by simp; omega) hP hRg hE hE1 hR0 hg0 hq)
  have g1 : ((n : Int) ≤ (room : Int)) = True := eq_true (by omega)
  have g2 : ((room : Int) < (n : Int)) = False := eq_false (by omega)
  have g3 : (n ≤ room) = True := eq_true hn
  have g4 : (room < n) = False := eq_false (by omega)
  have HI := Aside0.mk hE1i
  clear hr hb hE hE1 hq hE1i
  go_enter Tryd.func13, Tryd.ntmps13
  go_wp2_with (go_at_call 17; refine (HL.out).mono ?_; rintro e w1 ⟨hf, P', hrd, hp⟩; obtain ⟨k, E, rfl, HP⟩ := least_one hp; clear hp hrd)
  go_ret2
  obtain ⟨rest, r1, r2, r3⟩ := rf_of_least (by rw [List.take_replicate]; congr 1; omega) (.inl hn) ⟨_, _, rfl⟩ HI.out HP.out
  exact ⟨g, n, room, E, rest, rfl, r1, hn, r2, r3, Fr.below (Below.refl _ _) hf hBR hBg hB⟩

set_option maxRecDepth 100000 in
set_option maxHeartbeats 4000000 in
theorem rf_make (B R g n room : Nat) (P : List ByteArray) (a0 : Addr) (t0 : TypeId) (E1 : Value) (w : World) (hr : Rd w R g P) (hn : room < n) (hn2 : n ≤ 65536) (hP : P.length ≤ 1099511627776) (hE : w.cell? ⟨0, 0, none⟩ = some (.iface t0 (.pointer (some a0)))) (hE1 : w.cell? ⟨1, 0, none⟩ = some E1) (hR0 : 1 < R) (hRl : R < w.heap.size)
    (hE1i : ∃ t u, E1 = .iface t u) (hq : ∀ w', (binOp .eql 38 (.iface t0 (.pointer (some a0))) (.iface t0 (.pointer (some a0)))).run Tryd.prog w' = .ok (.bool true) w') (hBR : B ≤ R) (hB : B ≤ w.heap.size) :
    Calls Tryd.prog 13 #[.iface 43 (.pointer (some ⟨R, 0, none⟩)), .slice (some ⟨g, 0, none⟩) 0 room, .int .i64 n] w (RfPost B (flat P) room n w) := by
  have b0 : (w.alloc (.cells (madeCells #[.int .u8 0] n) 5)).cell? ⟨0, 0, none⟩ = some (.iface t0 (.pointer (some a0))) := (World.cell?_alloc_lt w _ _ (block_lt_of_cell hE)).trans hE
  have b1 : (w.alloc (.cells (madeCells #[.int .u8 0] n) 5)).cell? ⟨1, 0, none⟩ = some E1 := (World.cell?_alloc_lt w _ _ (block_lt_of_cell hE1)).trans hE1
  have HL := Aside0.mk (full.calls R w.heap.size 0 n n P (List.replicate n 0) a0 t0 E1 (w.alloc (.cells (madeCells #[.int .u8 0] n) 5)) (rd_alloc hr hRl _) (bts_made w n) (by omega) (Nat.le_refl _) (by simp) hP (by omega) b0 b1 hR0 (by omega) hq)
  have hmk := print_make (P := Tryd.prog) 36 5 .u8 1 Tryd.underlying36 info5' (by omega) n (by omega)
  have g1 : ((n : Int) ≤ (room : Int)) = False := eq_false (by omega)
  have g2 : ((room : Int) < (n : Int)) = True := eq_true (by omega)
  have g3 : (n ≤ room) = False := eq_false (by omega)
  have g4 : (room < n) = True := eq_true hn
  have g5 : ((n : Int) ≤ 65536) = True := eq_true (by omega)
  have HI := Aside0.mk hE1i
  clear hr hE hE1 hq hE1i b0 b1
  go_enter Tryd.func13, Tryd.ntmps13
  go_wp2_with (go_at_call 17; refine (HL.out).mono ?_; rintro e w1 ⟨hf, P', hrd, hp⟩; obtain ⟨k, E, rfl, HP⟩ := least_one hp; clear hp hrd)
  go_ret2
  obtain ⟨rest, r1, r2, r3⟩ := rf_of_least (room := room) (by simp) (.inr hn2) ⟨_, _, rfl⟩ HI.out HP.out
  exact ⟨w.heap.size, n, n, E, rest, rfl, r1, Nat.le_refl _, r2, r3, Fr.below ((Below.refl _ _).alloc hB _) hf hBR hB (by simp; omega)⟩
end Go.Proofs.YtdooimdefmegaaaDoor.Given
