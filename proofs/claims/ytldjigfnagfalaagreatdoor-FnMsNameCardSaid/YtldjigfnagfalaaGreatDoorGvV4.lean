/- Part of the proof of LawFnMsName. -/
import Derived.Test.YtldjigfnagfalaaGreatDoorGvKi
set_option linter.unusedVariables false
set_option linter.unusedSimpArgs false
section
namespace Go.Proofs.YtldjigfnagfalaaGreatDoor.Given
open Go.RowKit Go.Proofs.YtldjigfnagfalaaGreatDoorW.PrintWords
set_option linter.unusedVariables false
attribute [local go_sem] ai_135 ai_9
set_option maxHeartbeats 32000000 in
set_option maxRecDepth 100000 in
theorem valid_1 (S : ByteArray) (hM : IsMember.f S = some true) (m r s : Nat) (w : World) (hm : w.heap[m]? = some (.cells #[.int .u8 1, .int .u8 0, .map (some r), .slice none 0 0, .int .u32 s] 109)) (hr : MapIs w r (fieldsOf 1 S)) :
    Calls Tryz.prog 77 #[.pointer (some ⟨m, 0, none⟩)] w fun e w' => e = .returned .nilIface ∧ Below w.heap.size w w' := by
  have hlm := Lib.lt_of_heap hm
  have hlr := hr.lt
  have hA : ∀ W o, Below w.heap.size w W → Below w.heap.size w (W.alloc o) := fun W o h => bl_alloc h (Nat.le_refl _) o
  have hA2 : ∀ W o o2, Below w.heap.size w W → Below w.heap.size w ((W.alloc o).alloc o2) := fun W o o2 h => hA _ o2 (hA W o h)
  have hA3 : ∀ W o o2 o3, Below w.heap.size w W → Below w.heap.size w (((W.alloc o).alloc o2).alloc o3) := fun W o o2 o3 h => hA _ o3 (hA2 W o o2 h)
  have h0 : Below w.heap.size w w := Below.refl _ _
  have hmm : ∀ W, Below w.heap.size w W → W.heap[m]? = some (.cells #[.int .u8 1, .int .u8 0, .map (some r), .slice none 0 0, .int .u32 s] 109) := fun W h => (h.block m hlm).trans hm
  have hc0 : ∀ W, Below w.heap.size w W → W.cell? ⟨m, 0, none⟩ = some (.int .u8 1) := fun W h => by rw [Lib.cell_of_heap (hmm W h)]; rfl
  have hc1 : ∀ W, Below w.heap.size w W → W.cell? ⟨m, 1, none⟩ = some (.int .u8 0) := fun W h => by rw [Lib.cell_of_heap (hmm W h)]; rfl
  have hc2 : ∀ W, Below w.heap.size w W → W.cell? ⟨m, 2, none⟩ = some (.map (some r)) := fun W h => by rw [Lib.cell_of_heap (hmm W h)]; rfl
  have hc3 : ∀ W, Below w.heap.size w W → W.cell? ⟨m, 3, none⟩ = some (.slice none 0 0) := fun W h => by rw [Lib.cell_of_heap (hmm W h)]; rfl
  have hl1 : ∀ W, Below w.heap.size w W → (Instr.lookup 107 (.map (some r)) (.int .u8 1) true).run Tryz.prog W = .ok (.tuple #[.agg #[.string ⟨#[111]⟩, .iface 135 (.string pa)], .bool true]) W := fun W h =>
    (hr.old (h.block r hlr)).lookup_some 1 (.path pa) (by simp [fieldsOf]) (by simp [fieldsOf]) 1 rfl
  have hl2 : ∀ W, Below w.heap.size w W → (Instr.lookup 107 (.map (some r)) (.int .u8 2) true).run Tryz.prog W = .ok (.tuple #[.agg #[.string ⟨#[]⟩, .nilIface], .bool false]) W := fun W h =>
    (hr.old (h.block r hlr)).lookup_none 2 (by simp [fieldsOf]) 2 rfl
  have hl3 : ∀ W, Below w.heap.size w W → (Instr.lookup 107 (.map (some r)) (.int .u8 3) true).run Tryz.prog W = .ok (.tuple #[.agg #[.string ⟨#[115]⟩, .iface 9 (.string S)], .bool true]) W := fun W h =>
    (hr.old (h.block r hlr)).lookup_some 3 (.str S) (by simp [fieldsOf]) (by simp [fieldsOf]) 3 rfl
  have hl4 : ∀ W, Below w.heap.size w W → (Instr.lookup 107 (.map (some r)) (.int .u8 4) true).run Tryz.prog W = .ok (.tuple #[.agg #[.string ⟨#[]⟩, .nilIface], .bool false]) W := fun W h =>
    (hr.old (h.block r hlr)).lookup_none 4 (by simp [fieldsOf]) 4 rfl
  obtain ⟨es, clock, hb, hs, he⟩ := hr.ex
  have hrg := run_range_map (P := Tryz.prog) w 107 115 113 r es clock u107 hb
  have HB := Aside0.mk hb
  have HS := Aside0.mk hs
  have HE := Aside0.mk he
  clear hb hs he hr hm hmm
  go_enter Tryz.func77, Tryz.ntmps77
  go_wp2_with fail
  go_loopw [] (fun wr => Aside0 (Rg w r clock w.heap.size wr)) (fun wr => (leftOf es (wr.iterSeen w.heap.size)).size)
  case atStart => exact ⟨hA _ _ h0, #[], heap_alloc_new _ _⟩
  case round =>
    obtain ⟨hbw, seen, hit⟩ := hrel.out
    clear hrel hrg
    have hbr : wr.heap[r]? = some (.map es clock) := (hbw.block r hlr).trans HB.out
    have law := Go.run_next_at (P := Tryz.prog) wr 0 w.heap.size r clock clock seen es clock hit hbr HS.out.1 (Nat.le_refl _)
    rcases law with ⟨hl0, hrun⟩ | ⟨e, hel, w1, hw1, hrun⟩
    · have hnx : ∀ ty, (Instr.next (.pointer (some ⟨w.heap.size, 0, none⟩)) false ty).run Tryz.prog wr = _ := fun _ => hrun
      go_wp2_with fail
      refine (need_1 _).mono ?_
      rintro r' w2 ⟨rfl, hw2⟩
      have hB2 : Below w.heap.size w w2 := hw2 ▸ hA _ _ hbw
      have hrow : w2.heap[wr.heap.size]? = some (.cells #[.int .u8 1, .int .u8 3] 115) := by rw [hw2]; exact heap_alloc_new wr _
      obtain ⟨g, hg⟩ : ∃ g, wr.heap.size = g := ⟨_, rfl⟩
      rw [hg] at hrow ⊢
      clear hw2 hnx hrun hl0 hbr hit hg hbw
      go_wp2_with fail
      go_loopw [69] (fun i wr => Aside0 (i = .int .i64 0 ∧ Below w.heap.size w wr ∧ wr.heap[g]? = some (.cells #[.int .u8 1, .int .u8 3] 115)) ∨ Aside0 (i = .int .i64 1 ∧ Below w.heap.size w wr ∧ wr.heap[g]? = some (.cells #[.int .u8 1, .int .u8 3] 115)) ∨ Aside0 (i = .int .i64 2 ∧ Below w.heap.size w wr ∧ wr.heap[g]? = some (.cells #[.int .u8 1, .int .u8 3] 115))) (fun i _ => 2 - (intOf i).toNat)
      case atStart => exact Or.inl ⟨rfl, hB2, hrow⟩
      case round =>
        clear hB2 hrow
        rcases hrel with ⟨rfl, hB, hrow⟩ | ⟨rfl, hB, hrow⟩ | ⟨rfl, hB, hrow⟩
        · have cg : wr.cell? ⟨g, 0, none⟩ = some (.int .u8 1) := by rw [Lib.cell_of_heap hrow]; rfl
          go_wp2_with fail
          go_roundw
          case rel => exact Or.inr (Or.inl ⟨by go_num, hA _ _ hB, (Below.heap_alloc _ _ _ (Lib.lt_of_heap hrow)).trans hrow⟩)
          case measure => simp [intOf]
        · have cg : wr.cell? ⟨g, 1, none⟩ = some (.int .u8 3) := by rw [Lib.cell_of_heap hrow]; rfl
          go_wp2_with fail
          go_roundw
          case rel => exact Or.inr (Or.inr (⟨by go_num, hA _ _ hB, (Below.heap_alloc _ _ _ (Lib.lt_of_heap hrow)).trans hrow⟩))
          case measure => simp [intOf]
        · clear hrow
          go_wp2_with fail
          refine (IsPath.calls pa true _ pa_path).mono ?_
          rintro r' wc1 ⟨rfl, hbc⟩
          have hB1 : Below w.heap.size w wc1 := bl_step (by repeat (first | assumption | apply hA)) (Nat.le_refl _) hbc
          clear hbc
          go_wp2_with fail
          refine (IsMember.calls S true _ hM).mono ?_
          rintro r' wc3 ⟨rfl, hbc⟩
          have hB3 : Below w.heap.size w wc3 := bl_step (by repeat (first | assumption | apply hA)) (Nat.le_refl _) hbc
          clear hbc
          go_wp2_with fail
          go_ret
          exact ⟨rfl, by repeat (first | assumption | apply hA)⟩
    · have hmem := (mem_left hel).1
      have hkv : (e.key, e.val) ∈ (fieldsOf 1 S).map (fun x => (Value.int .u8 (x.1 : Int), x.2.cell)) := by rw [← HE.out]; exact List.mem_map_of_mem (f := fun e : MapEntry => (e.key, e.val)) hmem
      simp [fieldsOf, HV.cell, HV.sig, HV.T, HV.y] at hkv
      have hB1 : Below w.heap.size w w1 := by
        rcases hw1 with rfl | rfl
        · exact hbw
        · exact hbw.drew
      have hit1 : w1.heap[w.heap.size]? = some (.mapIter (some r) clock seen clock) := by
        rcases hw1 with rfl | rfl
        · exact hit
        · exact hit
      obtain ⟨wN, hwN⟩ : ∃ wN, Go.ChangeMaps.setBlock w1 w.heap.size (.mapIter (some r) clock (seen.push e.born) clock) = wN := ⟨_, rfl⟩
      have hBN : Below w.heap.size w wN := hwN ▸ below_block hB1 (Nat.le_refl _) _
      have hitN : wN.heap[w.heap.size]? = some (.mapIter (some r) clock (seen.push e.born) clock) := by rw [← hwN]; exact (MapKept.heap_set hit1).1
      have hen := Go.run_entry_at (P := Tryz.prog) wN w.heap.size r clock seen es clock e hitN ((hBN.block r hlr).trans HB.out) hmem HS.out.2.1
      have hms : (leftOf es (seen.push e.born)).size < (leftOf es seen).size := left_shrinks es seen e hel
      have his := iterSeen_of hit
      rw [hwN] at hrun
      have HIT := Aside0.mk hitN
      have HMS := Aside0.mk hms
      have HIS := Aside0.mk his
      clear hwN hw1 hit hit1 hB1 hbr hel hmem hitN hms his hl1 hl2 hl3 hl4 hc0 hc1 hc2 hc3
      rcases hkv with ⟨hk, hv⟩ | ⟨hk, hv⟩
      · rw [hk, hv] at hrun hen
        have hnx : ∀ ty, (Instr.next (.pointer (some ⟨w.heap.size, 0, none⟩)) false ty).run Tryz.prog wr = _ := fun _ => hrun
        clear hrun hk hv
        go_wp2_with fail
        refine (typeOf_o pa _).mono ?_
        rintro r' w3 ⟨rfl, hb3⟩
        have hz3 : w.heap.size < (wN.alloc (.cells #[.string ⟨#[]⟩, .nilIface] 113)).heap.size := by have := hBN.size; simp; omega
        have hB3 : Below w.heap.size w w3 := (hA _ _ hBN).trans (hb3.mono (by have := hBN.size; simp; omega))
        have hit3 : w3.heap[w.heap.size]? = some (.mapIter (some r) clock (seen.push e.born) clock) := (hb3.block _ (by have := Lib.lt_of_heap HIT.out; simp; omega)).trans ((Below.heap_alloc _ _ _ (Lib.lt_of_heap HIT.out)).trans HIT.out)
        clear hb3 hnx hen
        go_wp2_with fail
        refine (ftype_1 _).mono ?_
        rintro r' w4 ⟨rfl, rfl⟩
        go_wp2_with fail
        go_roundw
        case rel => exact ⟨_, _, _, _, _, _, _, _, _, _, _, _, _, _, _, _, _, _, _, _, _, _, ⟨hB3, _, hit3⟩, rfl⟩
        case measure => rw [iterSeen_of hit3, HIS.out]; exact HMS.out
      · rw [hk, hv] at hrun hen
        have hnx : ∀ ty, (Instr.next (.pointer (some ⟨w.heap.size, 0, none⟩)) false ty).run Tryz.prog wr = _ := fun _ => hrun
        clear hrun hk hv
        go_wp2_with fail
        refine (typeOf_s S _).mono ?_
        rintro r' w3 ⟨rfl, hb3⟩
        have hz3 : w.heap.size < (wN.alloc (.cells #[.string ⟨#[]⟩, .nilIface] 113)).heap.size := by have := hBN.size; simp; omega
        have hB3 : Below w.heap.size w w3 := (hA _ _ hBN).trans (hb3.mono (by have := hBN.size; simp; omega))
        have hit3 : w3.heap[w.heap.size]? = some (.mapIter (some r) clock (seen.push e.born) clock) := (hb3.block _ (by have := Lib.lt_of_heap HIT.out; simp; omega)).trans ((Below.heap_alloc _ _ _ (Lib.lt_of_heap HIT.out)).trans HIT.out)
        clear hb3 hnx hen
        go_wp2_with fail
        refine (ftype_3 _).mono ?_
        rintro r' w4 ⟨rfl, rfl⟩
        go_wp2_with fail
        go_roundw
        case rel => exact ⟨_, _, _, _, _, _, _, _, _, _, _, _, _, _, _, _, _, _, _, _, _, _, ⟨hB3, _, hit3⟩, rfl⟩
        case measure => rw [iterSeen_of hit3, HIS.out]; exact HMS.out
end Go.Proofs.YtldjigfnagfalaaGreatDoor.Given
end
section
namespace Go.Proofs.YtldjigfnagfalaaGreatDoor.Given
open Go.RowKit Go.Proofs.YtldjigfnagfalaaGreatDoorW.PrintWords
set_option linter.unusedVariables false
attribute [local go_sem] ai_135 ai_9
set_option maxHeartbeats 32000000 in
set_option maxRecDepth 100000 in
theorem valid_2 (S : ByteArray) (hM : IsMember.f S = some true) (m r s : Nat) (w : World) (hm : w.heap[m]? = some (.cells #[.int .u8 2, .int .u8 0, .map (some r), .slice none 0 0, .int .u32 s] 109)) (hr : MapIs w r (fieldsOf 2 S)) :
    Calls Tryz.prog 77 #[.pointer (some ⟨m, 0, none⟩)] w fun e w' => e = .returned .nilIface ∧ Below w.heap.size w w' := by
  have hlm := Lib.lt_of_heap hm
  have hlr := hr.lt
  have hA : ∀ W o, Below w.heap.size w W → Below w.heap.size w (W.alloc o) := fun W o h => bl_alloc h (Nat.le_refl _) o
  have hA2 : ∀ W o o2, Below w.heap.size w W → Below w.heap.size w ((W.alloc o).alloc o2) := fun W o o2 h => hA _ o2 (hA W o h)
  have hA3 : ∀ W o o2 o3, Below w.heap.size w W → Below w.heap.size w (((W.alloc o).alloc o2).alloc o3) := fun W o o2 o3 h => hA _ o3 (hA2 W o o2 h)
  have h0 : Below w.heap.size w w := Below.refl _ _
  have hmm : ∀ W, Below w.heap.size w W → W.heap[m]? = some (.cells #[.int .u8 2, .int .u8 0, .map (some r), .slice none 0 0, .int .u32 s] 109) := fun W h => (h.block m hlm).trans hm
  have hc0 : ∀ W, Below w.heap.size w W → W.cell? ⟨m, 0, none⟩ = some (.int .u8 2) := fun W h => by rw [Lib.cell_of_heap (hmm W h)]; rfl
  have hc1 : ∀ W, Below w.heap.size w W → W.cell? ⟨m, 1, none⟩ = some (.int .u8 0) := fun W h => by rw [Lib.cell_of_heap (hmm W h)]; rfl
  have hc2 : ∀ W, Below w.heap.size w W → W.cell? ⟨m, 2, none⟩ = some (.map (some r)) := fun W h => by rw [Lib.cell_of_heap (hmm W h)]; rfl
  have hc3 : ∀ W, Below w.heap.size w W → W.cell? ⟨m, 3, none⟩ = some (.slice none 0 0) := fun W h => by rw [Lib.cell_of_heap (hmm W h)]; rfl
  have hl1 : ∀ W, Below w.heap.size w W → (Instr.lookup 107 (.map (some r)) (.int .u8 1) true).run Tryz.prog W = .ok (.tuple #[.agg #[.string ⟨#[]⟩, .nilIface], .bool false]) W := fun W h =>
    (hr.old (h.block r hlr)).lookup_none 1 (by simp [fieldsOf]) 1 rfl
  have hl2 : ∀ W, Below w.heap.size w W → (Instr.lookup 107 (.map (some r)) (.int .u8 2) true).run Tryz.prog W = .ok (.tuple #[.agg #[.string ⟨#[]⟩, .nilIface], .bool false]) W := fun W h =>
    (hr.old (h.block r hlr)).lookup_none 2 (by simp [fieldsOf]) 2 rfl
  have hl3 : ∀ W, Below w.heap.size w W → (Instr.lookup 107 (.map (some r)) (.int .u8 3) true).run Tryz.prog W = .ok (.tuple #[.agg #[.string ⟨#[115]⟩, .iface 9 (.string S)], .bool true]) W := fun W h =>
    (hr.old (h.block r hlr)).lookup_some 3 (.str S) (by simp [fieldsOf]) (by simp [fieldsOf]) 3 rfl
  have hl4 : ∀ W, Below w.heap.size w W → (Instr.lookup 107 (.map (some r)) (.int .u8 4) true).run Tryz.prog W = .ok (.tuple #[.agg #[.string ⟨#[]⟩, .nilIface], .bool false]) W := fun W h =>
    (hr.old (h.block r hlr)).lookup_none 4 (by simp [fieldsOf]) 4 rfl
  have hl5 : ∀ W, Below w.heap.size w W → (Instr.lookup 107 (.map (some r)) (.int .u8 5) true).run Tryz.prog W = .ok (.tuple #[.agg #[.string ⟨#[117]⟩, .iface 36 (.int .u32 9)], .bool true]) W := fun W h =>
    (hr.old (h.block r hlr)).lookup_some 5 (.num 9) (by simp [fieldsOf]) (by simp [fieldsOf]) 5 rfl
  obtain ⟨es, clock, hb, hs, he⟩ := hr.ex
  have hrg := run_range_map (P := Tryz.prog) w 107 115 113 r es clock u107 hb
  have HB := Aside0.mk hb
  have HS := Aside0.mk hs
  have HE := Aside0.mk he
  clear hb hs he hr hm hmm
  go_enter Tryz.func77, Tryz.ntmps77
  go_wp2_with fail
  go_loopw [] (fun wr => Aside0 (Rg w r clock w.heap.size wr)) (fun wr => (leftOf es (wr.iterSeen w.heap.size)).size)
  case atStart => exact ⟨hA _ _ h0, #[], heap_alloc_new _ _⟩
  case round =>
    obtain ⟨hbw, seen, hit⟩ := hrel.out
    clear hrel hrg
    have hbr : wr.heap[r]? = some (.map es clock) := (hbw.block r hlr).trans HB.out
    have law := Go.run_next_at (P := Tryz.prog) wr 0 w.heap.size r clock clock seen es clock hit hbr HS.out.1 (Nat.le_refl _)
    rcases law with ⟨hl0, hrun⟩ | ⟨e, hel, w1, hw1, hrun⟩
    · have hnx : ∀ ty, (Instr.next (.pointer (some ⟨w.heap.size, 0, none⟩)) false ty).run Tryz.prog wr = _ := fun _ => hrun
      go_wp2_with fail
      refine (need_2 _).mono ?_
      rintro r' w2 ⟨rfl, hw2⟩
      have hB2 : Below w.heap.size w w2 := hw2 ▸ hA _ _ hbw
      have hrow : w2.heap[wr.heap.size]? = some (.cells #[.int .u8 5] 115) := by rw [hw2]; exact heap_alloc_new wr _
      obtain ⟨g, hg⟩ : ∃ g, wr.heap.size = g := ⟨_, rfl⟩
      rw [hg] at hrow ⊢
      clear hw2 hnx hrun hl0 hbr hit hg hbw
      go_wp2_with fail
      go_loopw [69] (fun i wr => Aside0 (i = .int .i64 0 ∧ Below w.heap.size w wr ∧ wr.heap[g]? = some (.cells #[.int .u8 5] 115)) ∨ Aside0 (i = .int .i64 1 ∧ Below w.heap.size w wr ∧ wr.heap[g]? = some (.cells #[.int .u8 5] 115))) (fun i _ => 1 - (intOf i).toNat)
      case atStart => exact Or.inl ⟨rfl, hB2, hrow⟩
      case round =>
        clear hB2 hrow
        rcases hrel with ⟨rfl, hB, hrow⟩ | ⟨rfl, hB, hrow⟩
        · have cg : wr.cell? ⟨g, 0, none⟩ = some (.int .u8 5) := by rw [Lib.cell_of_heap hrow]; rfl
          go_wp2_with fail
          go_roundw
          case rel => exact Or.inr (⟨by go_num, hA _ _ hB, (Below.heap_alloc _ _ _ (Lib.lt_of_heap hrow)).trans hrow⟩)
          case measure => simp [intOf]
        · clear hrow
          go_wp2_with fail
          refine (IsMember.calls S true _ hM).mono ?_
          rintro r' wc3 ⟨rfl, hbc⟩
          have hB3 : Below w.heap.size w wc3 := bl_step (by repeat (first | assumption | apply hA)) (Nat.le_refl _) hbc
          clear hbc
          go_wp2_with fail
          go_ret
          exact ⟨rfl, by repeat (first | assumption | apply hA)⟩
    · have hmem := (mem_left hel).1
      have hkv : (e.key, e.val) ∈ (fieldsOf 2 S).map (fun x => (Value.int .u8 (x.1 : Int), x.2.cell)) := by rw [← HE.out]; exact List.mem_map_of_mem (f := fun e : MapEntry => (e.key, e.val)) hmem
      simp [fieldsOf, HV.cell, HV.sig, HV.T, HV.y] at hkv
      have hB1 : Below w.heap.size w w1 := by
        rcases hw1 with rfl | rfl
        · exact hbw
        · exact hbw.drew
      have hit1 : w1.heap[w.heap.size]? = some (.mapIter (some r) clock seen clock) := by
        rcases hw1 with rfl | rfl
        · exact hit
        · exact hit
      obtain ⟨wN, hwN⟩ : ∃ wN, Go.ChangeMaps.setBlock w1 w.heap.size (.mapIter (some r) clock (seen.push e.born) clock) = wN := ⟨_, rfl⟩
      have hBN : Below w.heap.size w wN := hwN ▸ below_block hB1 (Nat.le_refl _) _
      have hitN : wN.heap[w.heap.size]? = some (.mapIter (some r) clock (seen.push e.born) clock) := by rw [← hwN]; exact (MapKept.heap_set hit1).1
      have hen := Go.run_entry_at (P := Tryz.prog) wN w.heap.size r clock seen es clock e hitN ((hBN.block r hlr).trans HB.out) hmem HS.out.2.1
      have hms : (leftOf es (seen.push e.born)).size < (leftOf es seen).size := left_shrinks es seen e hel
      have his := iterSeen_of hit
      rw [hwN] at hrun
      have HIT := Aside0.mk hitN
      have HMS := Aside0.mk hms
      have HIS := Aside0.mk his
      clear hwN hw1 hit hit1 hB1 hbr hel hmem hitN hms his hl1 hl2 hl3 hl4 hc0 hc1 hc2 hc3
      rcases hkv with ⟨hk, hv⟩ | ⟨hk, hv⟩
      · rw [hk, hv] at hrun hen
        have hnx : ∀ ty, (Instr.next (.pointer (some ⟨w.heap.size, 0, none⟩)) false ty).run Tryz.prog wr = _ := fun _ => hrun
        clear hrun hk hv
        go_wp2_with fail
        refine (typeOf_s S _).mono ?_
        rintro r' w3 ⟨rfl, hb3⟩
        have hz3 : w.heap.size < (wN.alloc (.cells #[.string ⟨#[]⟩, .nilIface] 113)).heap.size := by have := hBN.size; simp; omega
        have hB3 : Below w.heap.size w w3 := (hA _ _ hBN).trans (hb3.mono (by have := hBN.size; simp; omega))
        have hit3 : w3.heap[w.heap.size]? = some (.mapIter (some r) clock (seen.push e.born) clock) := (hb3.block _ (by have := Lib.lt_of_heap HIT.out; simp; omega)).trans ((Below.heap_alloc _ _ _ (Lib.lt_of_heap HIT.out)).trans HIT.out)
        clear hb3 hnx hen
        go_wp2_with fail
        refine (ftype_3 _).mono ?_
        rintro r' w4 ⟨rfl, rfl⟩
        go_wp2_with fail
        go_roundw
        case rel => exact ⟨_, _, _, _, _, _, _, _, _, _, _, _, _, _, _, _, _, _, _, _, _, _, ⟨hB3, _, hit3⟩, rfl⟩
        case measure => rw [iterSeen_of hit3, HIS.out]; exact HMS.out
      · rw [hk, hv] at hrun hen
        have hnx : ∀ ty, (Instr.next (.pointer (some ⟨w.heap.size, 0, none⟩)) false ty).run Tryz.prog wr = _ := fun _ => hrun
        clear hrun hk hv
        go_wp2_with fail
        refine (typeOf_117 _ _).mono ?_
        rintro r' w3 ⟨rfl, hb3⟩
        have hz3 : w.heap.size < (wN.alloc (.cells #[.string ⟨#[]⟩, .nilIface] 113)).heap.size := by have := hBN.size; simp; omega
        have hB3 : Below w.heap.size w w3 := (hA _ _ hBN).trans (hb3.mono (by have := hBN.size; simp; omega))
        have hit3 : w3.heap[w.heap.size]? = some (.mapIter (some r) clock (seen.push e.born) clock) := (hb3.block _ (by have := Lib.lt_of_heap HIT.out; simp; omega)).trans ((Below.heap_alloc _ _ _ (Lib.lt_of_heap HIT.out)).trans HIT.out)
        clear hb3 hnx hen
        go_wp2_with fail
        refine (ftype_5 _).mono ?_
        rintro r' w4 ⟨rfl, rfl⟩
        go_wp2_with fail
        go_roundw
        case rel => exact ⟨_, _, _, _, _, _, _, _, _, _, _, _, _, _, _, _, _, _, _, _, _, _, ⟨hB3, _, hit3⟩, rfl⟩
        case measure => rw [iterSeen_of hit3, HIS.out]; exact HMS.out
end Go.Proofs.YtldjigfnagfalaaGreatDoor.Given
end
section
namespace Go.Proofs.YtldjigfnagfalaaGreatDoor.Given
open Go.RowKit Go.Proofs.YtldjigfnagfalaaGreatDoorW.PrintWords
set_option linter.unusedVariables false
attribute [local go_sem] ai_135 ai_9
set_option maxHeartbeats 32000000 in
set_option maxRecDepth 100000 in
theorem valid_3 (S : ByteArray) (hM : IsMember.f S = some true) (m r s : Nat) (w : World) (hm : w.heap[m]? = some (.cells #[.int .u8 3, .int .u8 0, .map (some r), .slice none 0 0, .int .u32 s] 109)) (hr : MapIs w r (fieldsOf 3 S)) :
    Calls Tryz.prog 77 #[.pointer (some ⟨m, 0, none⟩)] w fun e w' => e = .returned .nilIface ∧ Below w.heap.size w w' := by
  have hlm := Lib.lt_of_heap hm
  have hlr := hr.lt
  have hA : ∀ W o, Below w.heap.size w W → Below w.heap.size w (W.alloc o) := fun W o h => bl_alloc h (Nat.le_refl _) o
  have hA2 : ∀ W o o2, Below w.heap.size w W → Below w.heap.size w ((W.alloc o).alloc o2) := fun W o o2 h => hA _ o2 (hA W o h)
  have hA3 : ∀ W o o2 o3, Below w.heap.size w W → Below w.heap.size w (((W.alloc o).alloc o2).alloc o3) := fun W o o2 o3 h => hA _ o3 (hA2 W o o2 h)
  have h0 : Below w.heap.size w w := Below.refl _ _
  have hmm : ∀ W, Below w.heap.size w W → W.heap[m]? = some (.cells #[.int .u8 3, .int .u8 0, .map (some r), .slice none 0 0, .int .u32 s] 109) := fun W h => (h.block m hlm).trans hm
  have hc0 : ∀ W, Below w.heap.size w W → W.cell? ⟨m, 0, none⟩ = some (.int .u8 3) := fun W h => by rw [Lib.cell_of_heap (hmm W h)]; rfl
  have hc1 : ∀ W, Below w.heap.size w W → W.cell? ⟨m, 1, none⟩ = some (.int .u8 0) := fun W h => by rw [Lib.cell_of_heap (hmm W h)]; rfl
  have hc2 : ∀ W, Below w.heap.size w W → W.cell? ⟨m, 2, none⟩ = some (.map (some r)) := fun W h => by rw [Lib.cell_of_heap (hmm W h)]; rfl
  have hc3 : ∀ W, Below w.heap.size w W → W.cell? ⟨m, 3, none⟩ = some (.slice none 0 0) := fun W h => by rw [Lib.cell_of_heap (hmm W h)]; rfl
  have hl1 : ∀ W, Below w.heap.size w W → (Instr.lookup 107 (.map (some r)) (.int .u8 1) true).run Tryz.prog W = .ok (.tuple #[.agg #[.string ⟨#[]⟩, .nilIface], .bool false]) W := fun W h =>
    (hr.old (h.block r hlr)).lookup_none 1 (by simp [fieldsOf]) 1 rfl
  have hl2 : ∀ W, Below w.heap.size w W → (Instr.lookup 107 (.map (some r)) (.int .u8 2) true).run Tryz.prog W = .ok (.tuple #[.agg #[.string ⟨#[]⟩, .nilIface], .bool false]) W := fun W h =>
    (hr.old (h.block r hlr)).lookup_none 2 (by simp [fieldsOf]) 2 rfl
  have hl3 : ∀ W, Below w.heap.size w W → (Instr.lookup 107 (.map (some r)) (.int .u8 3) true).run Tryz.prog W = .ok (.tuple #[.agg #[.string ⟨#[115]⟩, .iface 9 (.string S)], .bool true]) W := fun W h =>
    (hr.old (h.block r hlr)).lookup_some 3 (.str S) (by simp [fieldsOf]) (by simp [fieldsOf]) 3 rfl
  have hl4 : ∀ W, Below w.heap.size w W → (Instr.lookup 107 (.map (some r)) (.int .u8 4) true).run Tryz.prog W = .ok (.tuple #[.agg #[.string ⟨#[115]⟩, .iface 9 (.string ab)], .bool true]) W := fun W h =>
    (hr.old (h.block r hlr)).lookup_some 4 (.str ab) (by simp [fieldsOf]) (by simp [fieldsOf]) 4 rfl
  have hl5 : ∀ W, Below w.heap.size w W → (Instr.lookup 107 (.map (some r)) (.int .u8 5) true).run Tryz.prog W = .ok (.tuple #[.agg #[.string ⟨#[117]⟩, .iface 36 (.int .u32 9)], .bool true]) W := fun W h =>
    (hr.old (h.block r hlr)).lookup_some 5 (.num 9) (by simp [fieldsOf]) (by simp [fieldsOf]) 5 rfl
  obtain ⟨es, clock, hb, hs, he⟩ := hr.ex
  have hrg := run_range_map (P := Tryz.prog) w 107 115 113 r es clock u107 hb
  have HB := Aside0.mk hb
  have HS := Aside0.mk hs
  have HE := Aside0.mk he
  clear hb hs he hr hm hmm
  go_enter Tryz.func77, Tryz.ntmps77
  go_wp2_with fail
  go_loopw [] (fun wr => Aside0 (Rg w r clock w.heap.size wr)) (fun wr => (leftOf es (wr.iterSeen w.heap.size)).size)
  case atStart => exact ⟨hA _ _ h0, #[], heap_alloc_new _ _⟩
  case round =>
    obtain ⟨hbw, seen, hit⟩ := hrel.out
    clear hrel hrg
    have hbr : wr.heap[r]? = some (.map es clock) := (hbw.block r hlr).trans HB.out
    have law := Go.run_next_at (P := Tryz.prog) wr 0 w.heap.size r clock clock seen es clock hit hbr HS.out.1 (Nat.le_refl _)
    rcases law with ⟨hl0, hrun⟩ | ⟨e, hel, w1, hw1, hrun⟩
    · have hnx : ∀ ty, (Instr.next (.pointer (some ⟨w.heap.size, 0, none⟩)) false ty).run Tryz.prog wr = _ := fun _ => hrun
      go_wp2_with fail
      refine (need_3 _).mono ?_
      rintro r' w2 ⟨rfl, hw2⟩
      have hB2 : Below w.heap.size w w2 := hw2 ▸ hA _ _ hbw
      have hrow : w2.heap[wr.heap.size]? = some (.cells #[.int .u8 4, .int .u8 5] 115) := by rw [hw2]; exact heap_alloc_new wr _
      obtain ⟨g, hg⟩ : ∃ g, wr.heap.size = g := ⟨_, rfl⟩
      rw [hg] at hrow ⊢
      clear hw2 hnx hrun hl0 hbr hit hg hbw
      go_wp2_with fail
      go_loopw [69] (fun i wr => Aside0 (i = .int .i64 0 ∧ Below w.heap.size w wr ∧ wr.heap[g]? = some (.cells #[.int .u8 4, .int .u8 5] 115)) ∨ Aside0 (i = .int .i64 1 ∧ Below w.heap.size w wr ∧ wr.heap[g]? = some (.cells #[.int .u8 4, .int .u8 5] 115)) ∨ Aside0 (i = .int .i64 2 ∧ Below w.heap.size w wr ∧ wr.heap[g]? = some (.cells #[.int .u8 4, .int .u8 5] 115))) (fun i _ => 2 - (intOf i).toNat)
      case atStart => exact Or.inl ⟨rfl, hB2, hrow⟩
      case round =>
        clear hB2 hrow
        rcases hrel with ⟨rfl, hB, hrow⟩ | ⟨rfl, hB, hrow⟩ | ⟨rfl, hB, hrow⟩
        · have cg : wr.cell? ⟨g, 0, none⟩ = some (.int .u8 4) := by rw [Lib.cell_of_heap hrow]; rfl
          go_wp2_with fail
          go_roundw
          case rel => exact Or.inr (Or.inl ⟨by go_num, hA _ _ hB, (Below.heap_alloc _ _ _ (Lib.lt_of_heap hrow)).trans hrow⟩)
          case measure => simp [intOf]
        · have cg : wr.cell? ⟨g, 1, none⟩ = some (.int .u8 5) := by rw [Lib.cell_of_heap hrow]; rfl
          go_wp2_with fail
          go_roundw
          case rel => exact Or.inr (Or.inr (⟨by go_num, hA _ _ hB, (Below.heap_alloc _ _ _ (Lib.lt_of_heap hrow)).trans hrow⟩))
          case measure => simp [intOf]
        · clear hrow
          go_wp2_with fail
          refine (IsMember.calls S true _ hM).mono ?_
          rintro r' wc3 ⟨rfl, hbc⟩
          have hB3 : Below w.heap.size w wc3 := bl_step (by repeat (first | assumption | apply hA)) (Nat.le_refl _) hbc
          clear hbc
          go_wp2_with fail
          refine (IsInterface.calls ab true _ ab_iface).mono ?_
          rintro r' wc4 ⟨rfl, hbc⟩
          have hB4 : Below w.heap.size w wc4 := bl_step (by repeat (first | assumption | apply hA)) (Nat.le_refl _) hbc
          clear hbc
          go_wp2_with fail
          go_ret
          exact ⟨rfl, by repeat (first | assumption | apply hA)⟩
    · have hmem := (mem_left hel).1
      have hkv : (e.key, e.val) ∈ (fieldsOf 3 S).map (fun x => (Value.int .u8 (x.1 : Int), x.2.cell)) := by rw [← HE.out]; exact List.mem_map_of_mem (f := fun e : MapEntry => (e.key, e.val)) hmem
      simp [fieldsOf, HV.cell, HV.sig, HV.T, HV.y] at hkv
      have hB1 : Below w.heap.size w w1 := by
        rcases hw1 with rfl | rfl
        · exact hbw
        · exact hbw.drew
      have hit1 : w1.heap[w.heap.size]? = some (.mapIter (some r) clock seen clock) := by
        rcases hw1 with rfl | rfl
        · exact hit
        · exact hit
      obtain ⟨wN, hwN⟩ : ∃ wN, Go.ChangeMaps.setBlock w1 w.heap.size (.mapIter (some r) clock (seen.push e.born) clock) = wN := ⟨_, rfl⟩
      have hBN : Below w.heap.size w wN := hwN ▸ below_block hB1 (Nat.le_refl _) _
      have hitN : wN.heap[w.heap.size]? = some (.mapIter (some r) clock (seen.push e.born) clock) := by rw [← hwN]; exact (MapKept.heap_set hit1).1
      have hen := Go.run_entry_at (P := Tryz.prog) wN w.heap.size r clock seen es clock e hitN ((hBN.block r hlr).trans HB.out) hmem HS.out.2.1
      have hms : (leftOf es (seen.push e.born)).size < (leftOf es seen).size := left_shrinks es seen e hel
      have his := iterSeen_of hit
      rw [hwN] at hrun
      have HIT := Aside0.mk hitN
      have HMS := Aside0.mk hms
      have HIS := Aside0.mk his
      clear hwN hw1 hit hit1 hB1 hbr hel hmem hitN hms his hl1 hl2 hl3 hl4 hc0 hc1 hc2 hc3
      rcases hkv with ⟨hk, hv⟩ | ⟨hk, hv⟩ | ⟨hk, hv⟩
      · rw [hk, hv] at hrun hen
        have hnx : ∀ ty, (Instr.next (.pointer (some ⟨w.heap.size, 0, none⟩)) false ty).run Tryz.prog wr = _ := fun _ => hrun
        clear hrun hk hv
        go_wp2_with fail
        refine (typeOf_s S _).mono ?_
        rintro r' w3 ⟨rfl, hb3⟩
        have hz3 : w.heap.size < (wN.alloc (.cells #[.string ⟨#[]⟩, .nilIface] 113)).heap.size := by have := hBN.size; simp; omega
        have hB3 : Below w.heap.size w w3 := (hA _ _ hBN).trans (hb3.mono (by have := hBN.size; simp; omega))
        have hit3 : w3.heap[w.heap.size]? = some (.mapIter (some r) clock (seen.push e.born) clock) := (hb3.block _ (by have := Lib.lt_of_heap HIT.out; simp; omega)).trans ((Below.heap_alloc _ _ _ (Lib.lt_of_heap HIT.out)).trans HIT.out)
        clear hb3 hnx hen
        go_wp2_with fail
        refine (ftype_3 _).mono ?_
        rintro r' w4 ⟨rfl, rfl⟩
        go_wp2_with fail
        go_roundw
        case rel => exact ⟨_, _, _, _, _, _, _, _, _, _, _, _, _, _, _, _, _, _, _, _, _, _, ⟨hB3, _, hit3⟩, rfl⟩
        case measure => rw [iterSeen_of hit3, HIS.out]; exact HMS.out
      · rw [hk, hv] at hrun hen
        have hnx : ∀ ty, (Instr.next (.pointer (some ⟨w.heap.size, 0, none⟩)) false ty).run Tryz.prog wr = _ := fun _ => hrun
        clear hrun hk hv
        go_wp2_with fail
        refine (typeOf_s ab _).mono ?_
        rintro r' w3 ⟨rfl, hb3⟩
        have hz3 : w.heap.size < (wN.alloc (.cells #[.string ⟨#[]⟩, .nilIface] 113)).heap.size := by have := hBN.size; simp; omega
        have hB3 : Below w.heap.size w w3 := (hA _ _ hBN).trans (hb3.mono (by have := hBN.size; simp; omega))
        have hit3 : w3.heap[w.heap.size]? = some (.mapIter (some r) clock (seen.push e.born) clock) := (hb3.block _ (by have := Lib.lt_of_heap HIT.out; simp; omega)).trans ((Below.heap_alloc _ _ _ (Lib.lt_of_heap HIT.out)).trans HIT.out)
        clear hb3 hnx hen
        go_wp2_with fail
        refine (ftype_4 _).mono ?_
        rintro r' w4 ⟨rfl, rfl⟩
        go_wp2_with fail
        go_roundw
        case rel => exact ⟨_, _, _, _, _, _, _, _, _, _, _, _, _, _, _, _, _, _, _, _, _, _, ⟨hB3, _, hit3⟩, rfl⟩
        case measure => rw [iterSeen_of hit3, HIS.out]; exact HMS.out
      · rw [hk, hv] at hrun hen
        have hnx : ∀ ty, (Instr.next (.pointer (some ⟨w.heap.size, 0, none⟩)) false ty).run Tryz.prog wr = _ := fun _ => hrun
        clear hrun hk hv
        go_wp2_with fail
        refine (typeOf_117 _ _).mono ?_
        rintro r' w3 ⟨rfl, hb3⟩
        have hz3 : w.heap.size < (wN.alloc (.cells #[.string ⟨#[]⟩, .nilIface] 113)).heap.size := by have := hBN.size; simp; omega
        have hB3 : Below w.heap.size w w3 := (hA _ _ hBN).trans (hb3.mono (by have := hBN.size; simp; omega))
        have hit3 : w3.heap[w.heap.size]? = some (.mapIter (some r) clock (seen.push e.born) clock) := (hb3.block _ (by have := Lib.lt_of_heap HIT.out; simp; omega)).trans ((Below.heap_alloc _ _ _ (Lib.lt_of_heap HIT.out)).trans HIT.out)
        clear hb3 hnx hen
        go_wp2_with fail
        refine (ftype_5 _).mono ?_
        rintro r' w4 ⟨rfl, rfl⟩
        go_wp2_with fail
        go_roundw
        case rel => exact ⟨_, _, _, _, _, _, _, _, _, _, _, _, _, _, _, _, _, _, _, _, _, _, ⟨hB3, _, hit3⟩, rfl⟩
        case measure => rw [iterSeen_of hit3, HIS.out]; exact HMS.out
end Go.Proofs.YtldjigfnagfalaaGreatDoor.Given
end
section
namespace Go.Proofs.YtldjigfnagfalaaGreatDoor.Given
open Go.RowKit Go.Proofs.YtldjigfnagfalaaGreatDoorW.PrintWords
set_option linter.unusedVariables false
attribute [local go_sem] ai_135 ai_9
set_option maxHeartbeats 32000000 in
set_option maxRecDepth 100000 in
theorem valid_4 (S : ByteArray) (hM : IsMember.f S = some true) (m r s : Nat) (w : World) (hm : w.heap[m]? = some (.cells #[.int .u8 4, .int .u8 0, .map (some r), .slice none 0 0, .int .u32 s] 109)) (hr : MapIs w r (fieldsOf 4 S)) :
    Calls Tryz.prog 77 #[.pointer (some ⟨m, 0, none⟩)] w fun e w' => e = .returned .nilIface ∧ Below w.heap.size w w' := by
  have hlm := Lib.lt_of_heap hm
  have hlr := hr.lt
  have hA : ∀ W o, Below w.heap.size w W → Below w.heap.size w (W.alloc o) := fun W o h => bl_alloc h (Nat.le_refl _) o
  have hA2 : ∀ W o o2, Below w.heap.size w W → Below w.heap.size w ((W.alloc o).alloc o2) := fun W o o2 h => hA _ o2 (hA W o h)
  have hA3 : ∀ W o o2 o3, Below w.heap.size w W → Below w.heap.size w (((W.alloc o).alloc o2).alloc o3) := fun W o o2 o3 h => hA _ o3 (hA2 W o o2 h)
  have h0 : Below w.heap.size w w := Below.refl _ _
  have hmm : ∀ W, Below w.heap.size w W → W.heap[m]? = some (.cells #[.int .u8 4, .int .u8 0, .map (some r), .slice none 0 0, .int .u32 s] 109) := fun W h => (h.block m hlm).trans hm
  have hc0 : ∀ W, Below w.heap.size w W → W.cell? ⟨m, 0, none⟩ = some (.int .u8 4) := fun W h => by rw [Lib.cell_of_heap (hmm W h)]; rfl
  have hc1 : ∀ W, Below w.heap.size w W → W.cell? ⟨m, 1, none⟩ = some (.int .u8 0) := fun W h => by rw [Lib.cell_of_heap (hmm W h)]; rfl
  have hc2 : ∀ W, Below w.heap.size w W → W.cell? ⟨m, 2, none⟩ = some (.map (some r)) := fun W h => by rw [Lib.cell_of_heap (hmm W h)]; rfl
  have hc3 : ∀ W, Below w.heap.size w W → W.cell? ⟨m, 3, none⟩ = some (.slice none 0 0) := fun W h => by rw [Lib.cell_of_heap (hmm W h)]; rfl
  have hl1 : ∀ W, Below w.heap.size w W → (Instr.lookup 107 (.map (some r)) (.int .u8 1) true).run Tryz.prog W = .ok (.tuple #[.agg #[.string ⟨#[111]⟩, .iface 135 (.string pa)], .bool true]) W := fun W h =>
    (hr.old (h.block r hlr)).lookup_some 1 (.path pa) (by simp [fieldsOf]) (by simp [fieldsOf]) 1 rfl
  have hl2 : ∀ W, Below w.heap.size w W → (Instr.lookup 107 (.map (some r)) (.int .u8 2) true).run Tryz.prog W = .ok (.tuple #[.agg #[.string ⟨#[115]⟩, .iface 9 (.string ab)], .bool true]) W := fun W h =>
    (hr.old (h.block r hlr)).lookup_some 2 (.str ab) (by simp [fieldsOf]) (by simp [fieldsOf]) 2 rfl
  have hl3 : ∀ W, Below w.heap.size w W → (Instr.lookup 107 (.map (some r)) (.int .u8 3) true).run Tryz.prog W = .ok (.tuple #[.agg #[.string ⟨#[115]⟩, .iface 9 (.string S)], .bool true]) W := fun W h =>
    (hr.old (h.block r hlr)).lookup_some 3 (.str S) (by simp [fieldsOf]) (by simp [fieldsOf]) 3 rfl
  have hl4 : ∀ W, Below w.heap.size w W → (Instr.lookup 107 (.map (some r)) (.int .u8 4) true).run Tryz.prog W = .ok (.tuple #[.agg #[.string ⟨#[]⟩, .nilIface], .bool false]) W := fun W h =>
    (hr.old (h.block r hlr)).lookup_none 4 (by simp [fieldsOf]) 4 rfl
  obtain ⟨es, clock, hb, hs, he⟩ := hr.ex
  have hrg := run_range_map (P := Tryz.prog) w 107 115 113 r es clock u107 hb
  have HB := Aside0.mk hb
  have HS := Aside0.mk hs
  have HE := Aside0.mk he
  clear hb hs he hr hm hmm
  go_enter Tryz.func77, Tryz.ntmps77
  go_wp2_with fail
  go_loopw [] (fun wr => Aside0 (Rg w r clock w.heap.size wr)) (fun wr => (leftOf es (wr.iterSeen w.heap.size)).size)
  case atStart => exact ⟨hA _ _ h0, #[], heap_alloc_new _ _⟩
  case round =>
    obtain ⟨hbw, seen, hit⟩ := hrel.out
    clear hrel hrg
    have hbr : wr.heap[r]? = some (.map es clock) := (hbw.block r hlr).trans HB.out
    have law := Go.run_next_at (P := Tryz.prog) wr 0 w.heap.size r clock clock seen es clock hit hbr HS.out.1 (Nat.le_refl _)
    rcases law with ⟨hl0, hrun⟩ | ⟨e, hel, w1, hw1, hrun⟩
    · have hnx : ∀ ty, (Instr.next (.pointer (some ⟨w.heap.size, 0, none⟩)) false ty).run Tryz.prog wr = _ := fun _ => hrun
      go_wp2_with fail
      refine (need_4 _).mono ?_
      rintro r' w2 ⟨rfl, hw2⟩
      have hB2 : Below w.heap.size w w2 := hw2 ▸ hA _ _ hbw
      have hrow : w2.heap[wr.heap.size]? = some (.cells #[.int .u8 1, .int .u8 2, .int .u8 3] 115) := by rw [hw2]; exact heap_alloc_new wr _
      obtain ⟨g, hg⟩ : ∃ g, wr.heap.size = g := ⟨_, rfl⟩
      rw [hg] at hrow ⊢
      clear hw2 hnx hrun hl0 hbr hit hg hbw
      go_wp2_with fail
      go_loopw [69] (fun i wr => Aside0 (i = .int .i64 0 ∧ Below w.heap.size w wr ∧ wr.heap[g]? = some (.cells #[.int .u8 1, .int .u8 2, .int .u8 3] 115)) ∨ Aside0 (i = .int .i64 1 ∧ Below w.heap.size w wr ∧ wr.heap[g]? = some (.cells #[.int .u8 1, .int .u8 2, .int .u8 3] 115)) ∨ Aside0 (i = .int .i64 2 ∧ Below w.heap.size w wr ∧ wr.heap[g]? = some (.cells #[.int .u8 1, .int .u8 2, .int .u8 3] 115)) ∨ Aside0 (i = .int .i64 3 ∧ Below w.heap.size w wr ∧ wr.heap[g]? = some (.cells #[.int .u8 1, .int .u8 2, .int .u8 3] 115))) (fun i _ => 3 - (intOf i).toNat)
      case atStart => exact Or.inl ⟨rfl, hB2, hrow⟩
      case round =>
        clear hB2 hrow
        rcases hrel with ⟨rfl, hB, hrow⟩ | ⟨rfl, hB, hrow⟩ | ⟨rfl, hB, hrow⟩ | ⟨rfl, hB, hrow⟩
        · have cg : wr.cell? ⟨g, 0, none⟩ = some (.int .u8 1) := by rw [Lib.cell_of_heap hrow]; rfl
          go_wp2_with fail
          go_roundw
          case rel => exact Or.inr (Or.inl ⟨by go_num, hA _ _ hB, (Below.heap_alloc _ _ _ (Lib.lt_of_heap hrow)).trans hrow⟩)
          case measure => simp [intOf]
        · have cg : wr.cell? ⟨g, 1, none⟩ = some (.int .u8 2) := by rw [Lib.cell_of_heap hrow]; rfl
          go_wp2_with fail
          go_roundw
          case rel => exact Or.inr (Or.inr (Or.inl ⟨by go_num, hA _ _ hB, (Below.heap_alloc _ _ _ (Lib.lt_of_heap hrow)).trans hrow⟩))
          case measure => simp [intOf]
        · have cg : wr.cell? ⟨g, 2, none⟩ = some (.int .u8 3) := by rw [Lib.cell_of_heap hrow]; rfl
          go_wp2_with fail
          go_roundw
          case rel => exact Or.inr (Or.inr (Or.inr (⟨by go_num, hA _ _ hB, (Below.heap_alloc _ _ _ (Lib.lt_of_heap hrow)).trans hrow⟩)))
          case measure => simp [intOf]
        · clear hrow
          go_wp2_with fail
          refine (IsPath.calls pa true _ pa_path).mono ?_
          rintro r' wc1 ⟨rfl, hbc⟩
          have hB1 : Below w.heap.size w wc1 := bl_step (by repeat (first | assumption | apply hA)) (Nat.le_refl _) hbc
          clear hbc
          go_wp2_with fail
          refine (IsInterface.calls ab true _ ab_iface).mono ?_
          rintro r' wc2 ⟨rfl, hbc⟩
          have hB2 : Below w.heap.size w wc2 := bl_step (by repeat (first | assumption | apply hA)) (Nat.le_refl _) hbc
          clear hbc
          go_wp2_with fail
          refine (IsMember.calls S true _ hM).mono ?_
          rintro r' wc3 ⟨rfl, hbc⟩
          have hB3 : Below w.heap.size w wc3 := bl_step (by repeat (first | assumption | apply hA)) (Nat.le_refl _) hbc
          clear hbc
          go_wp2_with fail
          go_ret
          exact ⟨rfl, by repeat (first | assumption | apply hA)⟩
    · have hmem := (mem_left hel).1
      have hkv : (e.key, e.val) ∈ (fieldsOf 4 S).map (fun x => (Value.int .u8 (x.1 : Int), x.2.cell)) := by rw [← HE.out]; exact List.mem_map_of_mem (f := fun e : MapEntry => (e.key, e.val)) hmem
      simp [fieldsOf, HV.cell, HV.sig, HV.T, HV.y] at hkv
      have hB1 : Below w.heap.size w w1 := by
        rcases hw1 with rfl | rfl
        · exact hbw
        · exact hbw.drew
      have hit1 : w1.heap[w.heap.size]? = some (.mapIter (some r) clock seen clock) := by
        rcases hw1 with rfl | rfl
        · exact hit
        · exact hit
      obtain ⟨wN, hwN⟩ : ∃ wN, Go.ChangeMaps.setBlock w1 w.heap.size (.mapIter (some r) clock (seen.push e.born) clock) = wN := ⟨_, rfl⟩
      have hBN : Below w.heap.size w wN := hwN ▸ below_block hB1 (Nat.le_refl _) _
      have hitN : wN.heap[w.heap.size]? = some (.mapIter (some r) clock (seen.push e.born) clock) := by rw [← hwN]; exact (MapKept.heap_set hit1).1
      have hen := Go.run_entry_at (P := Tryz.prog) wN w.heap.size r clock seen es clock e hitN ((hBN.block r hlr).trans HB.out) hmem HS.out.2.1
      have hms : (leftOf es (seen.push e.born)).size < (leftOf es seen).size := left_shrinks es seen e hel
      have his := iterSeen_of hit
      rw [hwN] at hrun
      have HIT := Aside0.mk hitN
      have HMS := Aside0.mk hms
      have HIS := Aside0.mk his
      clear hwN hw1 hit hit1 hB1 hbr hel hmem hitN hms his hl1 hl2 hl3 hl4 hc0 hc1 hc2 hc3
      rcases hkv with ⟨hk, hv⟩ | ⟨hk, hv⟩ | ⟨hk, hv⟩
      · rw [hk, hv] at hrun hen
        have hnx : ∀ ty, (Instr.next (.pointer (some ⟨w.heap.size, 0, none⟩)) false ty).run Tryz.prog wr = _ := fun _ => hrun
        clear hrun hk hv
        go_wp2_with fail
        refine (typeOf_o pa _).mono ?_
        rintro r' w3 ⟨rfl, hb3⟩
        have hz3 : w.heap.size < (wN.alloc (.cells #[.string ⟨#[]⟩, .nilIface] 113)).heap.size := by have := hBN.size; simp; omega
        have hB3 : Below w.heap.size w w3 := (hA _ _ hBN).trans (hb3.mono (by have := hBN.size; simp; omega))
        have hit3 : w3.heap[w.heap.size]? = some (.mapIter (some r) clock (seen.push e.born) clock) := (hb3.block _ (by have := Lib.lt_of_heap HIT.out; simp; omega)).trans ((Below.heap_alloc _ _ _ (Lib.lt_of_heap HIT.out)).trans HIT.out)
        clear hb3 hnx hen
        go_wp2_with fail
        refine (ftype_1 _).mono ?_
        rintro r' w4 ⟨rfl, rfl⟩
        go_wp2_with fail
        go_roundw
        case rel => exact ⟨_, _, _, _, _, _, _, _, _, _, _, _, _, _, _, _, _, _, _, _, _, _, ⟨hB3, _, hit3⟩, rfl⟩
        case measure => rw [iterSeen_of hit3, HIS.out]; exact HMS.out
      · rw [hk, hv] at hrun hen
        have hnx : ∀ ty, (Instr.next (.pointer (some ⟨w.heap.size, 0, none⟩)) false ty).run Tryz.prog wr = _ := fun _ => hrun
        clear hrun hk hv
        go_wp2_with fail
        refine (typeOf_s ab _).mono ?_
        rintro r' w3 ⟨rfl, hb3⟩
        have hz3 : w.heap.size < (wN.alloc (.cells #[.string ⟨#[]⟩, .nilIface] 113)).heap.size := by have := hBN.size; simp; omega
        have hB3 : Below w.heap.size w w3 := (hA _ _ hBN).trans (hb3.mono (by have := hBN.size; simp; omega))
        have hit3 : w3.heap[w.heap.size]? = some (.mapIter (some r) clock (seen.push e.born) clock) := (hb3.block _ (by have := Lib.lt_of_heap HIT.out; simp; omega)).trans ((Below.heap_alloc _ _ _ (Lib.lt_of_heap HIT.out)).trans HIT.out)
        clear hb3 hnx hen
        go_wp2_with fail
        refine (ftype_2 _).mono ?_
        rintro r' w4 ⟨rfl, rfl⟩
        go_wp2_with fail
        go_roundw
        case rel => exact ⟨_, _, _, _, _, _, _, _, _, _, _, _, _, _, _, _, _, _, _, _, _, _, ⟨hB3, _, hit3⟩, rfl⟩
        case measure => rw [iterSeen_of hit3, HIS.out]; exact HMS.out
      · rw [hk, hv] at hrun hen
        have hnx : ∀ ty, (Instr.next (.pointer (some ⟨w.heap.size, 0, none⟩)) false ty).run Tryz.prog wr = _ := fun _ => hrun
        clear hrun hk hv
        go_wp2_with fail
        refine (typeOf_s S _).mono ?_
        rintro r' w3 ⟨rfl, hb3⟩
        have hz3 : w.heap.size < (wN.alloc (.cells #[.string ⟨#[]⟩, .nilIface] 113)).heap.size := by have := hBN.size; simp; omega
        have hB3 : Below w.heap.size w w3 := (hA _ _ hBN).trans (hb3.mono (by have := hBN.size; simp; omega))
        have hit3 : w3.heap[w.heap.size]? = some (.mapIter (some r) clock (seen.push e.born) clock) := (hb3.block _ (by have := Lib.lt_of_heap HIT.out; simp; omega)).trans ((Below.heap_alloc _ _ _ (Lib.lt_of_heap HIT.out)).trans HIT.out)
        clear hb3 hnx hen
        go_wp2_with fail
        refine (ftype_3 _).mono ?_
        rintro r' w4 ⟨rfl, rfl⟩
        go_wp2_with fail
        go_roundw
        case rel => exact ⟨_, _, _, _, _, _, _, _, _, _, _, _, _, _, _, _, _, _, _, _, _, _, ⟨hB3, _, hit3⟩, rfl⟩
        case measure => rw [iterSeen_of hit3, HIS.out]; exact HMS.out
end Go.Proofs.YtldjigfnagfalaaGreatDoor.Given
end
