/- spec.Upper. -/
import Derived.Test.YthjbopjclkbhfaaGreatDoorDg
import Derived.Lib.BufferMore
import Derived.Lib.ItoaMem
import Derived.LoopTactic
import Derived.Deep.QuietTactic
import Derived.BigQuiet
import Derived.Deep.LoopGhost
namespace Go.Proofs.YthjbopjclkbhfaaGreatDoor.Given
open Go.RowKit Go.Proofs.YthjbopjclkbhfaaGreatDoorW.PrintWords

/-- The bytes so far: those below place k are great. -/
structure Ups (w wr : World) (bs : List UInt8) (k : Nat) : Prop where
  ex : ∃ (R : Array Value) (T : TypeId) (lo hi : Nat), wr.heap[w.heap.size]? = some (.cells R T (lo, hi)) ∧ bs.length ≤ lo ∧ bs.length ≤ R.size ∧ ∀ j, j < bs.length → R[j]? = some (.int .u8 ((if j < k then up (bs.getD j 0) else bs.getD j 0).toNat : Int))
  bel : Below w.heap.size w wr
theorem Ups.start (w : World) (t : ByteArray) : Ups w (Lib.bytesWorld w 5 t) t.data.toList 0 := by
  have hl : t.data.toList.length = t.size := by rw [Lib.size_eq]
  have hsz : t.size ≤ (Lib.bytesCells w 5 t).size := by
    unfold Lib.bytesCells; simp
  refine ⟨⟨_, _, _, _, Lib.bytesWorld_at_new w 5 t, by rw [hl]; exact hsz, by rw [hl]; exact hsz, fun j hj => ?_⟩, bw_below w 5 t⟩
  have h := Lib.bytesWorld_cell w 5 t j (by omega)
  unfold World.cell? at h
  rw [Lib.bytesWorld_at_new] at h
  simpa using h
theorem Ups.cell {w wr : World} {bs : List UInt8} {k : Nat} (h : Ups w wr bs k) (j : Nat) (hj : j < bs.length) : wr.cell? ⟨w.heap.size, j, none⟩ = some (.int .u8 ((if j < k then up (bs.getD j 0) else bs.getD j 0).toNat : Int)) ∧ wr.frozen? ⟨w.heap.size, j, none⟩ = false := by
  obtain ⟨R, T, lo, hi, h1, h2, h3, h4⟩ := h.ex
  constructor
  · rw [cell_of_row wr w.heap.size j _ _ _ h1]; exact h4 j hj
  · simp [World.frozen?, h1]; omega
theorem Ups.put {w wr : World} {bs : List UInt8} {k : Nat} (h : Ups w wr bs k) (hk : k < bs.length) : Ups w (wr.setCell ⟨w.heap.size, k, none⟩ (.int .u8 ((up (bs.getD k 0)).toNat : Int))) bs (k + 1) := by
  obtain ⟨R, T, lo, hi, h1, h2, h3, h4⟩ := h.ex
  refine ⟨⟨_, _, _, _, Lib.heap_setCell_same h1 _, h2, by simpa using h3, fun j hj => ?_⟩, h.bel.setCell (p := ⟨w.heap.size, k, none⟩) (Nat.le_refl _) _⟩
  rw [Array.getElem?_setIfInBounds]
  by_cases hjk : k = j
  · subst hjk
    rw [if_pos rfl, if_pos (by omega), if_pos (by omega)]
  · rw [if_neg hjk, h4 j hj]
    by_cases h5 : j < k
    · rw [if_pos h5, if_pos (by omega)]
    · rw [if_neg h5, if_neg (by omega)]
theorem Ups.keep {w wr : World} {bs : List UInt8} {k : Nat} (h : Ups w wr bs k) (_hk : k < bs.length) (he : up (bs.getD k 0) = bs.getD k 0) : Ups w wr bs (k + 1) := by
  obtain ⟨R, T, lo, hi, h1, h2, h3, h4⟩ := h.ex
  refine ⟨⟨R, T, lo, hi, h1, h2, h3, fun j hj => ?_⟩, h.bel⟩
  rw [h4 j hj]
  by_cases hjk : k = j
  · subst hjk
    rw [if_neg (by omega), if_pos (by omega), he]
  · by_cases h5 : j < k
    · rw [if_pos h5, if_pos (by omega)]
    · rw [if_neg h5, if_neg (by omega)]
theorem Ups.read {w wr : World} {bs : List UInt8} (h : Ups w wr bs bs.length) (c : Nat) : (convert 43 9 (.slice (some ⟨w.heap.size, 0, none⟩) bs.length c)).run Tryz.prog wr = .ok (.string ⟨(bs.map up).toArray⟩) wr := by
  have hr := run_convert_bytes_back (P := Tryz.prog) wr 43 9 5 ⟨w.heap.size, 0, none⟩ c (bs.map up) Tryz.underlying43 Tryz.underlying5 Tryz.underlying9 (fun j hj => by
    have hj' : j < bs.length := by simpa using hj
    rw [Lib.add_plain, Nat.zero_add, (h.cell j hj').1, if_pos hj']
    simp [List.getD, List.getElem?_eq_getElem hj'])
  rw [List.length_map] at hr
  exact hr
theorem up_cases (u : UInt8) : (97 ≤ (u.toNat : Int) ∧ (u.toNat : Int) ≤ 122 → ((up u).toNat : Int) = u.toNat - 32) ∧ (¬ (97 ≤ (u.toNat : Int) ∧ (u.toNat : Int) ≤ 122) → up u = u) := by
  have e : (97 ≤ u ∧ u ≤ 122) ↔ (97 ≤ (u.toNat : Int) ∧ (u.toNat : Int) ≤ 122) := by
    rw [UInt8.le_iff_toNat_le, UInt8.le_iff_toNat_le]
    show 97 ≤ u.toNat ∧ u.toNat ≤ 122 ↔ _
    omega
  constructor
  · intro h
    unfold up
    rw [if_pos (e.2 h), UInt8.toNat_sub_of_le _ _ (UInt8.le_iff_toNat_le.2 (by show 32 ≤ u.toNat; omega))]
    show ((u.toNat - 32 : Nat) : Int) = _
    omega
  · intro h
    unfold up
    rw [if_neg (fun h2 => h (e.1 h2))]

set_option maxHeartbeats 4000000 in
set_option maxRecDepth 100000 in
theorem upper.calls (t : ByteArray) (hmax : t.size ≤ 281474976710656) (w : World) :
    Calls Tryz.prog 6 #[.string t] w fun e w' => e = .returned (.string ⟨(t.data.toList.map up).toArray⟩) ∧ Below w.heap.size w w' := by
  have hcv := Lib.run_convert_string_bytes (P := Tryz.prog) w 9 43 5 t (u := .string) Tryz.underlying9 Tryz.underlying43 Tryz.underlying5
  have hst := Aside0.mk (Ups.start w t)
  obtain ⟨W1, hW1⟩ : ∃ W1, W1 = Lib.bytesWorld w 5 t := ⟨_, rfl⟩
  rw [← hW1] at hcv hst
  clear hW1
  obtain ⟨bs, hL⟩ : ∃ bs, bs = t.data.toList := ⟨_, rfl⟩
  have hLn : bs.length = t.size := by rw [hL, Lib.size_eq]
  rw [← hL] at hst ⊢
  rw [← hLn] at hcv hmax
  clear hL hLn
  go_enter Tryz.func6, Tryz.ntmps6
  go_wp2
  go_loopw [10] (fun vi wr => ∃ (k : Nat), vi = .int .i64 k ∧ k ≤ bs.length ∧ Aside0 (Ups w wr bs k))
    (fun vi _ => bs.length - (intOf vi).toNat)
  case atStart => exact ⟨0, rfl, Nat.zero_le _, hst⟩
  case round =>
    obtain ⟨k, rfl, hk, hr⟩ := hrel
    clear hst hcv
    by_cases hkn : k < bs.length
    · obtain ⟨hc, hz⟩ := hr.out.cell k hkn
      rw [if_neg (Nat.lt_irrefl k)] at hc
      have HK := Aside0.mk (hr.out.keep hkn)
      have HP := Aside0.mk (hr.out.put hkn)
      clear hr
      obtain ⟨u, hu⟩ : ∃ u, bs.getD k 0 = u := ⟨_, rfl⟩
      rw [hu] at hc HK HP
      clear hu
      have HU := Aside0.mk (up_cases u)
      obtain ⟨c, hcu⟩ : ∃ c : Int, (u.toNat : Int) = c := ⟨_, rfl⟩
      have hcb : 0 ≤ c ∧ c ≤ 255 := by have := u.toNat_lt; omega
      obtain ⟨c0, c1⟩ := hcb
      rw [hcu] at hc HU
      clear hcu
      by_cases h1 : 97 ≤ c ∧ c ≤ 122
      · obtain ⟨h2, h3⟩ := h1
        have HW : Aside0 (Ups w (wr.setCell ⟨w.heap.size, k, none⟩ (.int .u8 (c - 32))) bs (k + 1)) := ⟨by have := HP.out; rw [HU.out.1 ⟨h2, h3⟩] at this; exact this⟩
        go_wp2
        go_roundw
        case rel => exact ⟨k + 1, (by first | rfl | (congr 1; omega)), by omega, HW⟩
        case measure => simp [intOf]; omega
      · have HW := Aside0.mk (HK.out (HU.out.2 h1))
        have h2 : c < 97 ∨ 122 < c := by omega
        clear h1
        by_cases h3 : c < 97
        · go_wp2
          go_roundw
          case rel => exact ⟨k + 1, (by first | rfl | (congr 1; omega)), by omega, HW⟩
          case measure => simp [intOf]; omega
        · have h4 : 97 ≤ c := by omega
          have h5 : 122 < c := by omega
          go_wp2
          go_roundw
          case rel => exact ⟨k + 1, (by first | rfl | (congr 1; omega)), by omega, HW⟩
          case measure => simp [intOf]; omega
    · have hkk : k = bs.length := by omega
      subst hkk
      have hcv := hr.out.read
      have HB := Aside0.mk hr.out.bel
      clear hr hkn
      go_wp2
      go_ret
      exact ⟨rfl, HB.out⟩
end Go.Proofs.YthjbopjclkbhfaaGreatDoor.Given
