/- strconv's ParseUint at some written bases and sizes. -/
import Derived.Test.YthjbopjclkbhfaaGreatDoorGvPu
namespace Go.Proofs.YthjbopjclkbhfaaGreatDoor.Given
open Go.RowKit Go.Proofs.YthjbopjclkbhfaaGreatDoorW.PrintWords


set_option maxHeartbeats 32000000 in
set_option maxRecDepth 100000 in
theorem inner_8_8.calls (t : ByteArray) (hne : t.size ≠ 0) (hmax : t.size ≤ 281474976710656) (w : World) :
    Calls Tryz.prog 37 #[.string t, .int .i64 8, .int .i64 8] w fun e w' => e = .returned (PE.tuple 255 (puGo 8 255 0 t.data.toList)) ∧ w' = Lib.bytesWorld w 5 t := by
  have hemp : t.toList.isEmpty = false := by
    rw [← decide_eq_emptyBytes]
    exact decide_eq_false (fun h => hne (by rw [h]; rfl))
  have hcv := Lib.run_convert_string_bytes (P := Tryz.prog) w 9 43 5 t (u := .string) Tryz.underlying9 Tryz.underlying43 Tryz.underlying5
  have hB : ∀ j, j < t.size → (Lib.bytesWorld w 5 t).cell? ⟨w.heap.size, j, none⟩ = some (.int .u8 (t.data.toList.getD j 0).toNat) := fun j hj => Lib.bytesWorld_cell w 5 t j hj
  obtain ⟨W1, hW1⟩ : ∃ W1, W1 = Lib.bytesWorld w 5 t := ⟨_, rfl⟩
  rw [← hW1] at hcv hB ⊢
  clear hW1
  obtain ⟨bs, hL⟩ : ∃ bs, bs = t.data.toList := ⟨_, rfl⟩
  have hLn : bs.length = t.size := by rw [hL, Lib.size_eq]
  rw [← hL] at hB ⊢
  clear hL
  have HB := Lib.hid hB
  clear hB
  go_enter Tryz.func37, Tryz.ntmps37
  go_wp2
  go_loop [12, 13, 101] (fun vu vn vi => ∃ (k : Nat) (a : Int), vu = .bool false ∧ vn = .int .u64 a ∧ vi = .int .i64 k ∧ k ≤ t.size ∧ Hid (0 ≤ a ∧ a ≤ 255 ∧ puGo 8 255 0 bs = puGo 8 255 a (bs.drop k)))
    (fun _ _ vi => t.size - (intOf vi).toNat)
  case atStart => exact ⟨0, 0, rfl, rfl, rfl, by omega, by omega, by omega, rfl⟩
  case round =>
    obtain ⟨k, a, rfl, rfl, rfl, hk, hh⟩ := hrel
    obtain ⟨a0, a1, hdec⟩ := hh.out
    clear hh
    by_cases hkn : k < t.size
    · have hc := HB.out k hkn
      have hdrop : bs.drop k = bs[k]'(by omega) :: bs.drop (k + 1) := List.drop_eq_getElem_cons (by omega)
      have hget : bs.getD k 0 = bs[k]'(by omega) := by simp [List.getD, List.getElem?_eq_getElem (show k < bs.length by omega)]
      rw [hdrop] at hdec
      rw [hget] at hc
      generalize bs[k]'(by omega) = u at hc hdec
      obtain ⟨c, hcu⟩ : ∃ c : Int, (u.toNat : Int) = c := ⟨_, rfl⟩
      have hcb : 0 ≤ c ∧ c ≤ 255 := by have := u.toNat_lt; omega
      obtain ⟨c0, c1⟩ := hcb
      rw [hcu] at hc
      obtain ⟨l, hl⟩ : ∃ l : Int, bits .or .u8 c 32 = l := ⟨_, rfl⟩
      have l0 : 0 ≤ l := by rw [← hl]; exact bits_lo_u8 .or c 32
      have l1 : l ≤ 255 := by rw [← hl]; have := bits_hi_u8 .or c 32; omega
      have h95 : c = 95 → l = 127 := by rintro rfl; rw [← hl]; decide
      have HCU := Lib.hid hcu
      have HL := Lib.hid hl
      have HD := Lib.hid hdec
      clear hdrop hget hcu hl hdec
      by_cases hdig : 48 ≤ c ∧ c ≤ 57
      · obtain ⟨hd0, hd1⟩ := hdig
        have hdg : dg u.toNat = c - 48 := by rw [HCU.out]; unfold dg; rw [if_pos ⟨hd0, hd1⟩]
        have hw8 : 0 ≤ c - 48 := by omega
        have n95 : (c == 95) = false := by rw [beq_eq_false_iff_ne]; omega
        have HF := Lib.hid (puGo_digit (B := 8) (M := 255) (a := a) (r := bs.drop (k + 1)) hdg)
        clear hdg h95
        by_cases hbig : c - 48 ≥ 8
        · have HE : Hid (puGo 8 255 0 bs = .syn) := Lib.hid (by rw [HD.out, HF.out, if_pos hbig])
          go_wp2
          go_ret2
          exact ⟨by rw [HE.out]; rfl, rfl⟩
        · by_cases hov : a * 8 + (c - 48) > 255
          · have HE : Hid (puGo 8 255 0 bs = .rng) := Lib.hid (by rw [HD.out, HF.out, if_neg hbig, if_pos hov])
            have hsm : c - 48 < 8 := by omega
            clear hbig
            go_wp2
            all_goals go_ret2
            all_goals exact ⟨by rw [HE.out]; rfl, rfl⟩
          · have HE : Hid (0 ≤ a * 8 + (c - 48) ∧ a * 8 + (c - 48) ≤ 255 ∧ puGo 8 255 0 bs = puGo 8 255 (a * 8 + (c - 48)) (bs.drop (k + 1))) := Lib.hid ⟨by omega, by omega, by rw [HD.out, HF.out, if_neg hbig, if_neg hov]⟩
            have hsm : c - 48 < 8 := by omega
            have hov' : a * 8 + (c - 48) ≤ 255 := by omega
            clear hbig hov
            go_wp2
            refine ⟨⟨k + 1, a * 8 + (c - 48), rfl, (by first | rfl | (congr 1; omega)), (by first | rfl | (congr 1; omega)), by omega, HE⟩, by simp [intOf]; omega⟩
      · by_cases hlet : 97 ≤ l ∧ l ≤ 122
        · obtain ⟨hd0, hd1⟩ := hlet
          have n95 : (c == 95) = false := by rw [beq_eq_false_iff_ne]; omega
          have hdg : dg u.toNat = l - 87 := by rw [HCU.out]; unfold dg; rw [if_neg hdig, HL.out, if_pos ⟨hd0, hd1⟩]
          have hndig : c < 48 ∨ 57 < c := by omega
          have HF := Lib.hid (puGo_digit (B := 8) (M := 255) (a := a) (r := bs.drop (k + 1)) hdg)
          clear hdg h95 hdig
          have e1 : (l - 97 + 10 : Int) = l - 87 := by omega
          have HE1 := Lib.hid e1
          clear e1
          by_cases hbig : l - 87 ≥ 8
          · have HE : Hid (puGo 8 255 0 bs = .syn) := Lib.hid (by rw [HD.out, HF.out, if_pos hbig])
            have hbig' : l - 97 + 10 ≥ 8 := by omega
            clear hbig
            rcases hndig with hn | hn
            all_goals
              go_wp2_with (go_at_call 46; refine (lower.calls _ _ _ HL.out).mono ?_; rintro e w' ⟨rfl, rfl⟩)
              go_ret2
              exact ⟨by rw [HE.out]; rfl, rfl⟩
          · exact absurd (show l - 87 ≥ 8 by omega) hbig
        · have hdg : dg u.toNat = 255 := by rw [HCU.out]; unfold dg; rw [if_neg hdig, HL.out, if_neg hlet]
          have HE : Hid (puGo 8 255 0 bs = .syn) := Lib.hid (by rw [HD.out, puGo_digit hdg, if_pos (by decide)])
          have hnl : l < 97 ∨ 122 < l := by omega
          have hnd : c < 48 ∨ 57 < c := by omega
          clear hdg hlet hdig h95
          obtain ⟨q, hq⟩ : ∃ q, (c == 95) = q := ⟨_, rfl⟩
          cases q
          all_goals
            rcases hnl with hn | hn
            all_goals
              rcases hnd with hm | hm
              all_goals
                go_wp2_with (go_at_call 46; refine (lower.calls _ _ _ HL.out).mono ?_; rintro e w' ⟨rfl, rfl⟩)
                go_ret2
                exact ⟨by rw [HE.out]; rfl, rfl⟩
    · have hkk : k = t.size := by omega
      have HE : Hid (puGo 8 255 0 bs = .ok a) := Lib.hid (by rw [hdec, List.drop_eq_nil_of_le (by omega)]; rfl)
      clear hdec hkn
      subst hkk
      go_wp2
      go_ret2
      exact ⟨by rw [HE.out]; rfl, rfl⟩

set_option maxHeartbeats 8000000 in
set_option maxRecDepth 100000 in
theorem pub_8_8.calls (t : ByteArray) (hne : t.size ≠ 0) (hmax : t.size ≤ 281474976710656) (w : World) (hG : Glob w) :
    Calls Tryz.prog 25 #[.string t, .int .i64 8, .int .i64 8] w fun e w' => ∃ v, e = .returned (.tuple #[.int .u64 (PE.out 255 (puGo 8 255 0 t.data.toList)).1, v]) ∧ IsErr v (PE.out 255 (puGo 8 255 0 t.data.toList)).2 ∧ Below w.heap.size w w' := by
  obtain ⟨p, hp⟩ : ∃ p, puGo 8 255 0 t.data.toList = p := ⟨_, rfl⟩
  have HI := fun W => inner_8_8.calls t hne hmax W
  rw [hp] at HI ⊢
  clear hp
  have hb := bw_below w 5 t
  have HGW := Lib.hid hG
  have HG2 := Lib.hid (hG.below hb (Nat.le_refl _))
  clear hG
  cases p with
  | ok n =>
    simp only [PE.tuple] at HI
    simp only [PE.out]
    go_enter Tryz.func25, Tryz.ntmps25
    go_wp2_with (go_at_call 37; refine (HI _).mono ?_; rintro e w' ⟨rfl, rfl⟩)
    go_ret2
    exact ⟨_, rfl, rfl, hb⟩
  | syn =>
    simp only [PE.tuple] at HI
    simp only [PE.out]
    go_enter Tryz.func25, Tryz.ntmps25
    go_wp2_with (first
      | (go_at_call 37; refine (HI _).mono ?_; rintro e w' ⟨rfl, rfl⟩)
      | (go_at_call 36; refine (toErr.calls _ _ _ _ 2 _ hmax HG2.out (.inr rfl)).mono ?_; rintro e w2 ⟨t2, u2, rfl, h3⟩))
    go_ret2
    exact ⟨_, rfl, ⟨_, _, rfl⟩, hb.trans (h3.mono hb.size)⟩
  | rng =>
    simp only [PE.tuple] at HI
    simp only [PE.out]
    go_enter Tryz.func25, Tryz.ntmps25
    go_wp2_with (first
      | (go_at_call 37; refine (HI _).mono ?_; rintro e w' ⟨rfl, rfl⟩)
      | (go_at_call 36; refine (toErr.calls _ _ _ _ 1 _ hmax HG2.out (.inl rfl)).mono ?_; rintro e w2 ⟨t2, u2, rfl, h3⟩))
    go_ret2
    exact ⟨_, rfl, ⟨_, _, rfl⟩, hb.trans (h3.mono hb.size)⟩

set_option maxHeartbeats 32000000 in
set_option maxRecDepth 100000 in
theorem inner_8_16.calls (t : ByteArray) (hne : t.size ≠ 0) (hmax : t.size ≤ 281474976710656) (w : World) :
    Calls Tryz.prog 37 #[.string t, .int .i64 8, .int .i64 16] w fun e w' => e = .returned (PE.tuple 65535 (puGo 8 65535 0 t.data.toList)) ∧ w' = Lib.bytesWorld w 5 t := by
  have hemp : t.toList.isEmpty = false := by
    rw [← decide_eq_emptyBytes]
    exact decide_eq_false (fun h => hne (by rw [h]; rfl))
  have hcv := Lib.run_convert_string_bytes (P := Tryz.prog) w 9 43 5 t (u := .string) Tryz.underlying9 Tryz.underlying43 Tryz.underlying5
  have hB : ∀ j, j < t.size → (Lib.bytesWorld w 5 t).cell? ⟨w.heap.size, j, none⟩ = some (.int .u8 (t.data.toList.getD j 0).toNat) := fun j hj => Lib.bytesWorld_cell w 5 t j hj
  obtain ⟨W1, hW1⟩ : ∃ W1, W1 = Lib.bytesWorld w 5 t := ⟨_, rfl⟩
  rw [← hW1] at hcv hB ⊢
  clear hW1
  obtain ⟨bs, hL⟩ : ∃ bs, bs = t.data.toList := ⟨_, rfl⟩
  have hLn : bs.length = t.size := by rw [hL, Lib.size_eq]
  rw [← hL] at hB ⊢
  clear hL
  have HB := Lib.hid hB
  clear hB
  go_enter Tryz.func37, Tryz.ntmps37
  go_wp2
  go_loop [12, 13, 101] (fun vu vn vi => ∃ (k : Nat) (a : Int), vu = .bool false ∧ vn = .int .u64 a ∧ vi = .int .i64 k ∧ k ≤ t.size ∧ Hid (0 ≤ a ∧ a ≤ 65535 ∧ puGo 8 65535 0 bs = puGo 8 65535 a (bs.drop k)))
    (fun _ _ vi => t.size - (intOf vi).toNat)
  case atStart => exact ⟨0, 0, rfl, rfl, rfl, by omega, by omega, by omega, rfl⟩
  case round =>
    obtain ⟨k, a, rfl, rfl, rfl, hk, hh⟩ := hrel
    obtain ⟨a0, a1, hdec⟩ := hh.out
    clear hh
    by_cases hkn : k < t.size
    · have hc := HB.out k hkn
      have hdrop : bs.drop k = bs[k]'(by omega) :: bs.drop (k + 1) := List.drop_eq_getElem_cons (by omega)
      have hget : bs.getD k 0 = bs[k]'(by omega) := by simp [List.getD, List.getElem?_eq_getElem (show k < bs.length by omega)]
      rw [hdrop] at hdec
      rw [hget] at hc
      generalize bs[k]'(by omega) = u at hc hdec
      obtain ⟨c, hcu⟩ : ∃ c : Int, (u.toNat : Int) = c := ⟨_, rfl⟩
      have hcb : 0 ≤ c ∧ c ≤ 255 := by have := u.toNat_lt; omega
      obtain ⟨c0, c1⟩ := hcb
      rw [hcu] at hc
      obtain ⟨l, hl⟩ : ∃ l : Int, bits .or .u8 c 32 = l := ⟨_, rfl⟩
      have l0 : 0 ≤ l := by rw [← hl]; exact bits_lo_u8 .or c 32
      have l1 : l ≤ 255 := by rw [← hl]; have := bits_hi_u8 .or c 32; omega
      have h95 : c = 95 → l = 127 := by rintro rfl; rw [← hl]; decide
      have HCU := Lib.hid hcu
      have HL := Lib.hid hl
      have HD := Lib.hid hdec
      clear hdrop hget hcu hl hdec
      by_cases hdig : 48 ≤ c ∧ c ≤ 57
      · obtain ⟨hd0, hd1⟩ := hdig
        have hdg : dg u.toNat = c - 48 := by rw [HCU.out]; unfold dg; rw [if_pos ⟨hd0, hd1⟩]
        have hw8 : 0 ≤ c - 48 := by omega
        have n95 : (c == 95) = false := by rw [beq_eq_false_iff_ne]; omega
        have HF := Lib.hid (puGo_digit (B := 8) (M := 65535) (a := a) (r := bs.drop (k + 1)) hdg)
        clear hdg h95
        by_cases hbig : c - 48 ≥ 8
        · have HE : Hid (puGo 8 65535 0 bs = .syn) := Lib.hid (by rw [HD.out, HF.out, if_pos hbig])
          go_wp2
          go_ret2
          exact ⟨by rw [HE.out]; rfl, rfl⟩
        · by_cases hov : a * 8 + (c - 48) > 65535
          · have HE : Hid (puGo 8 65535 0 bs = .rng) := Lib.hid (by rw [HD.out, HF.out, if_neg hbig, if_pos hov])
            have hsm : c - 48 < 8 := by omega
            clear hbig
            go_wp2
            all_goals go_ret2
            all_goals exact ⟨by rw [HE.out]; rfl, rfl⟩
          · have HE : Hid (0 ≤ a * 8 + (c - 48) ∧ a * 8 + (c - 48) ≤ 65535 ∧ puGo 8 65535 0 bs = puGo 8 65535 (a * 8 + (c - 48)) (bs.drop (k + 1))) := Lib.hid ⟨by omega, by omega, by rw [HD.out, HF.out, if_neg hbig, if_neg hov]⟩
            have hsm : c - 48 < 8 := by omega
            have hov' : a * 8 + (c - 48) ≤ 65535 := by omega
            clear hbig hov
            go_wp2
            refine ⟨⟨k + 1, a * 8 + (c - 48), rfl, (by first | rfl | (congr 1; omega)), (by first | rfl | (congr 1; omega)), by omega, HE⟩, by simp [intOf]; omega⟩
      · by_cases hlet : 97 ≤ l ∧ l ≤ 122
        · obtain ⟨hd0, hd1⟩ := hlet
          have n95 : (c == 95) = false := by rw [beq_eq_false_iff_ne]; omega
          have hdg : dg u.toNat = l - 87 := by rw [HCU.out]; unfold dg; rw [if_neg hdig, HL.out, if_pos ⟨hd0, hd1⟩]
          have hndig : c < 48 ∨ 57 < c := by omega
          have HF := Lib.hid (puGo_digit (B := 8) (M := 65535) (a := a) (r := bs.drop (k + 1)) hdg)
          clear hdg h95 hdig
          have e1 : (l - 97 + 10 : Int) = l - 87 := by omega
          have HE1 := Lib.hid e1
          clear e1
          by_cases hbig : l - 87 ≥ 8
          · have HE : Hid (puGo 8 65535 0 bs = .syn) := Lib.hid (by rw [HD.out, HF.out, if_pos hbig])
            have hbig' : l - 97 + 10 ≥ 8 := by omega
            clear hbig
            rcases hndig with hn | hn
            all_goals
              go_wp2_with (go_at_call 46; refine (lower.calls _ _ _ HL.out).mono ?_; rintro e w' ⟨rfl, rfl⟩)
              go_ret2
              exact ⟨by rw [HE.out]; rfl, rfl⟩
          · exact absurd (show l - 87 ≥ 8 by omega) hbig
        · have hdg : dg u.toNat = 255 := by rw [HCU.out]; unfold dg; rw [if_neg hdig, HL.out, if_neg hlet]
          have HE : Hid (puGo 8 65535 0 bs = .syn) := Lib.hid (by rw [HD.out, puGo_digit hdg, if_pos (by decide)])
          have hnl : l < 97 ∨ 122 < l := by omega
          have hnd : c < 48 ∨ 57 < c := by omega
          clear hdg hlet hdig h95
          obtain ⟨q, hq⟩ : ∃ q, (c == 95) = q := ⟨_, rfl⟩
          cases q
          all_goals
            rcases hnl with hn | hn
            all_goals
              rcases hnd with hm | hm
              all_goals
                go_wp2_with (go_at_call 46; refine (lower.calls _ _ _ HL.out).mono ?_; rintro e w' ⟨rfl, rfl⟩)
                go_ret2
                exact ⟨by rw [HE.out]; rfl, rfl⟩
    · have hkk : k = t.size := by omega
      have HE : Hid (puGo 8 65535 0 bs = .ok a) := Lib.hid (by rw [hdec, List.drop_eq_nil_of_le (by omega)]; rfl)
      clear hdec hkn
      subst hkk
      go_wp2
      go_ret2
      exact ⟨by rw [HE.out]; rfl, rfl⟩

set_option maxHeartbeats 8000000 in
set_option maxRecDepth 100000 in
theorem pub_8_16.calls (t : ByteArray) (hne : t.size ≠ 0) (hmax : t.size ≤ 281474976710656) (w : World) (hG : Glob w) :
    Calls Tryz.prog 25 #[.string t, .int .i64 8, .int .i64 16] w fun e w' => ∃ v, e = .returned (.tuple #[.int .u64 (PE.out 65535 (puGo 8 65535 0 t.data.toList)).1, v]) ∧ IsErr v (PE.out 65535 (puGo 8 65535 0 t.data.toList)).2 ∧ Below w.heap.size w w' := by
  obtain ⟨p, hp⟩ : ∃ p, puGo 8 65535 0 t.data.toList = p := ⟨_, rfl⟩
  have HI := fun W => inner_8_16.calls t hne hmax W
  rw [hp] at HI ⊢
  clear hp
  have hb := bw_below w 5 t
  have HGW := Lib.hid hG
  have HG2 := Lib.hid (hG.below hb (Nat.le_refl _))
  clear hG
  cases p with
  | ok n =>
    simp only [PE.tuple] at HI
    simp only [PE.out]
    go_enter Tryz.func25, Tryz.ntmps25
    go_wp2_with (go_at_call 37; refine (HI _).mono ?_; rintro e w' ⟨rfl, rfl⟩)
    go_ret2
    exact ⟨_, rfl, rfl, hb⟩
  | syn =>
    simp only [PE.tuple] at HI
    simp only [PE.out]
    go_enter Tryz.func25, Tryz.ntmps25
    go_wp2_with (first
      | (go_at_call 37; refine (HI _).mono ?_; rintro e w' ⟨rfl, rfl⟩)
      | (go_at_call 36; refine (toErr.calls _ _ _ _ 2 _ hmax HG2.out (.inr rfl)).mono ?_; rintro e w2 ⟨t2, u2, rfl, h3⟩))
    go_ret2
    exact ⟨_, rfl, ⟨_, _, rfl⟩, hb.trans (h3.mono hb.size)⟩
  | rng =>
    simp only [PE.tuple] at HI
    simp only [PE.out]
    go_enter Tryz.func25, Tryz.ntmps25
    go_wp2_with (first
      | (go_at_call 37; refine (HI _).mono ?_; rintro e w' ⟨rfl, rfl⟩)
      | (go_at_call 36; refine (toErr.calls _ _ _ _ 1 _ hmax HG2.out (.inl rfl)).mono ?_; rintro e w2 ⟨t2, u2, rfl, h3⟩))
    go_ret2
    exact ⟨_, rfl, ⟨_, _, rfl⟩, hb.trans (h3.mono hb.size)⟩

set_option maxHeartbeats 32000000 in
set_option maxRecDepth 100000 in
theorem inner_8_32.calls (t : ByteArray) (hne : t.size ≠ 0) (hmax : t.size ≤ 281474976710656) (w : World) :
    Calls Tryz.prog 37 #[.string t, .int .i64 8, .int .i64 32] w fun e w' => e = .returned (PE.tuple 4294967295 (puGo 8 4294967295 0 t.data.toList)) ∧ w' = Lib.bytesWorld w 5 t := by
  have hemp : t.toList.isEmpty = false := by
    rw [← decide_eq_emptyBytes]
    exact decide_eq_false (fun h => hne (by rw [h]; rfl))
  have hcv := Lib.run_convert_string_bytes (P := Tryz.prog) w 9 43 5 t (u := .string) Tryz.underlying9 Tryz.underlying43 Tryz.underlying5
  have hB : ∀ j, j < t.size → (Lib.bytesWorld w 5 t).cell? ⟨w.heap.size, j, none⟩ = some (.int .u8 (t.data.toList.getD j 0).toNat) := fun j hj => Lib.bytesWorld_cell w 5 t j hj
  obtain ⟨W1, hW1⟩ : ∃ W1, W1 = Lib.bytesWorld w 5 t := ⟨_, rfl⟩
  rw [← hW1] at hcv hB ⊢
  clear hW1
  obtain ⟨bs, hL⟩ : ∃ bs, bs = t.data.toList := ⟨_, rfl⟩
  have hLn : bs.length = t.size := by rw [hL, Lib.size_eq]
  rw [← hL] at hB ⊢
  clear hL
  have HB := Lib.hid hB
  clear hB
  go_enter Tryz.func37, Tryz.ntmps37
  go_wp2
  go_loop [12, 13, 101] (fun vu vn vi => ∃ (k : Nat) (a : Int), vu = .bool false ∧ vn = .int .u64 a ∧ vi = .int .i64 k ∧ k ≤ t.size ∧ Hid (0 ≤ a ∧ a ≤ 4294967295 ∧ puGo 8 4294967295 0 bs = puGo 8 4294967295 a (bs.drop k)))
    (fun _ _ vi => t.size - (intOf vi).toNat)
  case atStart => exact ⟨0, 0, rfl, rfl, rfl, by omega, by omega, by omega, rfl⟩
  case round =>
    obtain ⟨k, a, rfl, rfl, rfl, hk, hh⟩ := hrel
    obtain ⟨a0, a1, hdec⟩ := hh.out
    clear hh
    by_cases hkn : k < t.size
    · have hc := HB.out k hkn
      have hdrop : bs.drop k = bs[k]'(by omega) :: bs.drop (k + 1) := List.drop_eq_getElem_cons (by omega)
      have hget : bs.getD k 0 = bs[k]'(by omega) := by simp [List.getD, List.getElem?_eq_getElem (show k < bs.length by omega)]
      rw [hdrop] at hdec
      rw [hget] at hc
      generalize bs[k]'(by omega) = u at hc hdec
      obtain ⟨c, hcu⟩ : ∃ c : Int, (u.toNat : Int) = c := ⟨_, rfl⟩
      have hcb : 0 ≤ c ∧ c ≤ 255 := by have := u.toNat_lt; omega
      obtain ⟨c0, c1⟩ := hcb
      rw [hcu] at hc
      obtain ⟨l, hl⟩ : ∃ l : Int, bits .or .u8 c 32 = l := ⟨_, rfl⟩
      have l0 : 0 ≤ l := by rw [← hl]; exact bits_lo_u8 .or c 32
      have l1 : l ≤ 255 := by rw [← hl]; have := bits_hi_u8 .or c 32; omega
      have h95 : c = 95 → l = 127 := by rintro rfl; rw [← hl]; decide
      have HCU := Lib.hid hcu
      have HL := Lib.hid hl
      have HD := Lib.hid hdec
      clear hdrop hget hcu hl hdec
      by_cases hdig : 48 ≤ c ∧ c ≤ 57
      · obtain ⟨hd0, hd1⟩ := hdig
        have hdg : dg u.toNat = c - 48 := by rw [HCU.out]; unfold dg; rw [if_pos ⟨hd0, hd1⟩]
        have hw8 : 0 ≤ c - 48 := by omega
        have n95 : (c == 95) = false := by rw [beq_eq_false_iff_ne]; omega
        have HF := Lib.hid (puGo_digit (B := 8) (M := 4294967295) (a := a) (r := bs.drop (k + 1)) hdg)
        clear hdg h95
        by_cases hbig : c - 48 ≥ 8
        · have HE : Hid (puGo 8 4294967295 0 bs = .syn) := Lib.hid (by rw [HD.out, HF.out, if_pos hbig])
          go_wp2
          go_ret2
          exact ⟨by rw [HE.out]; rfl, rfl⟩
        · by_cases hov : a * 8 + (c - 48) > 4294967295
          · have HE : Hid (puGo 8 4294967295 0 bs = .rng) := Lib.hid (by rw [HD.out, HF.out, if_neg hbig, if_pos hov])
            have hsm : c - 48 < 8 := by omega
            clear hbig
            go_wp2
            all_goals go_ret2
            all_goals exact ⟨by rw [HE.out]; rfl, rfl⟩
          · have HE : Hid (0 ≤ a * 8 + (c - 48) ∧ a * 8 + (c - 48) ≤ 4294967295 ∧ puGo 8 4294967295 0 bs = puGo 8 4294967295 (a * 8 + (c - 48)) (bs.drop (k + 1))) := Lib.hid ⟨by omega, by omega, by rw [HD.out, HF.out, if_neg hbig, if_neg hov]⟩
            have hsm : c - 48 < 8 := by omega
            have hov' : a * 8 + (c - 48) ≤ 4294967295 := by omega
            clear hbig hov
            go_wp2
            refine ⟨⟨k + 1, a * 8 + (c - 48), rfl, (by first | rfl | (congr 1; omega)), (by first | rfl | (congr 1; omega)), by omega, HE⟩, by simp [intOf]; omega⟩
      · by_cases hlet : 97 ≤ l ∧ l ≤ 122
        · obtain ⟨hd0, hd1⟩ := hlet
          have n95 : (c == 95) = false := by rw [beq_eq_false_iff_ne]; omega
          have hdg : dg u.toNat = l - 87 := by rw [HCU.out]; unfold dg; rw [if_neg hdig, HL.out, if_pos ⟨hd0, hd1⟩]
          have hndig : c < 48 ∨ 57 < c := by omega
          have HF := Lib.hid (puGo_digit (B := 8) (M := 4294967295) (a := a) (r := bs.drop (k + 1)) hdg)
          clear hdg h95 hdig
          have e1 : (l - 97 + 10 : Int) = l - 87 := by omega
          have HE1 := Lib.hid e1
          clear e1
          by_cases hbig : l - 87 ≥ 8
          · have HE : Hid (puGo 8 4294967295 0 bs = .syn) := Lib.hid (by rw [HD.out, HF.out, if_pos hbig])
            have hbig' : l - 97 + 10 ≥ 8 := by omega
            clear hbig
            rcases hndig with hn | hn
            all_goals
              go_wp2_with (go_at_call 46; refine (lower.calls _ _ _ HL.out).mono ?_; rintro e w' ⟨rfl, rfl⟩)
              go_ret2
              exact ⟨by rw [HE.out]; rfl, rfl⟩
          · exact absurd (show l - 87 ≥ 8 by omega) hbig
        · have hdg : dg u.toNat = 255 := by rw [HCU.out]; unfold dg; rw [if_neg hdig, HL.out, if_neg hlet]
          have HE : Hid (puGo 8 4294967295 0 bs = .syn) := Lib.hid (by rw [HD.out, puGo_digit hdg, if_pos (by decide)])
          have hnl : l < 97 ∨ 122 < l := by omega
          have hnd : c < 48 ∨ 57 < c := by omega
          clear hdg hlet hdig h95
          obtain ⟨q, hq⟩ : ∃ q, (c == 95) = q := ⟨_, rfl⟩
          cases q
          all_goals
            rcases hnl with hn | hn
            all_goals
              rcases hnd with hm | hm
              all_goals
                go_wp2_with (go_at_call 46; refine (lower.calls _ _ _ HL.out).mono ?_; rintro e w' ⟨rfl, rfl⟩)
                go_ret2
                exact ⟨by rw [HE.out]; rfl, rfl⟩
    · have hkk : k = t.size := by omega
      have HE : Hid (puGo 8 4294967295 0 bs = .ok a) := Lib.hid (by rw [hdec, List.drop_eq_nil_of_le (by omega)]; rfl)
      clear hdec hkn
      subst hkk
      go_wp2
      go_ret2
      exact ⟨by rw [HE.out]; rfl, rfl⟩

set_option maxHeartbeats 8000000 in
set_option maxRecDepth 100000 in
theorem pub_8_32.calls (t : ByteArray) (hne : t.size ≠ 0) (hmax : t.size ≤ 281474976710656) (w : World) (hG : Glob w) :
    Calls Tryz.prog 25 #[.string t, .int .i64 8, .int .i64 32] w fun e w' => ∃ v, e = .returned (.tuple #[.int .u64 (PE.out 4294967295 (puGo 8 4294967295 0 t.data.toList)).1, v]) ∧ IsErr v (PE.out 4294967295 (puGo 8 4294967295 0 t.data.toList)).2 ∧ Below w.heap.size w w' := by
  obtain ⟨p, hp⟩ : ∃ p, puGo 8 4294967295 0 t.data.toList = p := ⟨_, rfl⟩
  have HI := fun W => inner_8_32.calls t hne hmax W
  rw [hp] at HI ⊢
  clear hp
  have hb := bw_below w 5 t
  have HGW := Lib.hid hG
  have HG2 := Lib.hid (hG.below hb (Nat.le_refl _))
  clear hG
  cases p with
  | ok n =>
    simp only [PE.tuple] at HI
    simp only [PE.out]
    go_enter Tryz.func25, Tryz.ntmps25
    go_wp2_with (go_at_call 37; refine (HI _).mono ?_; rintro e w' ⟨rfl, rfl⟩)
    go_ret2
    exact ⟨_, rfl, rfl, hb⟩
  | syn =>
    simp only [PE.tuple] at HI
    simp only [PE.out]
    go_enter Tryz.func25, Tryz.ntmps25
    go_wp2_with (first
      | (go_at_call 37; refine (HI _).mono ?_; rintro e w' ⟨rfl, rfl⟩)
      | (go_at_call 36; refine (toErr.calls _ _ _ _ 2 _ hmax HG2.out (.inr rfl)).mono ?_; rintro e w2 ⟨t2, u2, rfl, h3⟩))
    go_ret2
    exact ⟨_, rfl, ⟨_, _, rfl⟩, hb.trans (h3.mono hb.size)⟩
  | rng =>
    simp only [PE.tuple] at HI
    simp only [PE.out]
    go_enter Tryz.func25, Tryz.ntmps25
    go_wp2_with (first
      | (go_at_call 37; refine (HI _).mono ?_; rintro e w' ⟨rfl, rfl⟩)
      | (go_at_call 36; refine (toErr.calls _ _ _ _ 1 _ hmax HG2.out (.inl rfl)).mono ?_; rintro e w2 ⟨t2, u2, rfl, h3⟩))
    go_ret2
    exact ⟨_, rfl, ⟨_, _, rfl⟩, hb.trans (h3.mono hb.size)⟩

set_option maxHeartbeats 32000000 in
set_option maxRecDepth 100000 in
theorem inner_8_64.calls (t : ByteArray) (hne : t.size ≠ 0) (hmax : t.size ≤ 281474976710656) (w : World) :
    Calls Tryz.prog 37 #[.string t, .int .i64 8, .int .i64 64] w fun e w' => e = .returned (PE.tuple 18446744073709551615 (puGo 8 18446744073709551615 0 t.data.toList)) ∧ w' = Lib.bytesWorld w 5 t := by
  have hemp : t.toList.isEmpty = false := by
    rw [← decide_eq_emptyBytes]
    exact decide_eq_false (fun h => hne (by rw [h]; rfl))
  have hcv := Lib.run_convert_string_bytes (P := Tryz.prog) w 9 43 5 t (u := .string) Tryz.underlying9 Tryz.underlying43 Tryz.underlying5
  have hB : ∀ j, j < t.size → (Lib.bytesWorld w 5 t).cell? ⟨w.heap.size, j, none⟩ = some (.int .u8 (t.data.toList.getD j 0).toNat) := fun j hj => Lib.bytesWorld_cell w 5 t j hj
  obtain ⟨W1, hW1⟩ : ∃ W1, W1 = Lib.bytesWorld w 5 t := ⟨_, rfl⟩
  rw [← hW1] at hcv hB ⊢
  clear hW1
  obtain ⟨bs, hL⟩ : ∃ bs, bs = t.data.toList := ⟨_, rfl⟩
  have hLn : bs.length = t.size := by rw [hL, Lib.size_eq]
  rw [← hL] at hB ⊢
  clear hL
  have HB := Lib.hid hB
  clear hB
  have hmv : IntKind.u64.wrap (IntKind.u64.wrap 18446744073709551616 - 1) = 18446744073709551615 := by
    rw [IntKind.wrap_u64, IntKind.wrap_u64]
    decide
  go_enter Tryz.func37, Tryz.ntmps37
  go_wp2
  go_loop [12, 13, 101] (fun vu vn vi => ∃ (k : Nat) (a : Int), vu = .bool false ∧ vn = .int .u64 a ∧ vi = .int .i64 k ∧ k ≤ t.size ∧ Hid (0 ≤ a ∧ a ≤ 18446744073709551615 ∧ puGo 8 18446744073709551615 0 bs = puGo 8 18446744073709551615 a (bs.drop k)))
    (fun _ _ vi => t.size - (intOf vi).toNat)
  case atStart => exact ⟨0, 0, rfl, rfl, rfl, by omega, by omega, by omega, rfl⟩
  case round =>
    obtain ⟨k, a, rfl, rfl, rfl, hk, hh⟩ := hrel
    obtain ⟨a0, a1, hdec⟩ := hh.out
    clear hh
    by_cases hkn : k < t.size
    · have hc := HB.out k hkn
      have hdrop : bs.drop k = bs[k]'(by omega) :: bs.drop (k + 1) := List.drop_eq_getElem_cons (by omega)
      have hget : bs.getD k 0 = bs[k]'(by omega) := by simp [List.getD, List.getElem?_eq_getElem (show k < bs.length by omega)]
      rw [hdrop] at hdec
      rw [hget] at hc
      generalize bs[k]'(by omega) = u at hc hdec
      obtain ⟨c, hcu⟩ : ∃ c : Int, (u.toNat : Int) = c := ⟨_, rfl⟩
      have hcb : 0 ≤ c ∧ c ≤ 255 := by have := u.toNat_lt; omega
      obtain ⟨c0, c1⟩ := hcb
      rw [hcu] at hc
      obtain ⟨l, hl⟩ : ∃ l : Int, bits .or .u8 c 32 = l := ⟨_, rfl⟩
      have l0 : 0 ≤ l := by rw [← hl]; exact bits_lo_u8 .or c 32
      have l1 : l ≤ 255 := by rw [← hl]; have := bits_hi_u8 .or c 32; omega
      have h95 : c = 95 → l = 127 := by rintro rfl; rw [← hl]; decide
      have HCU := Lib.hid hcu
      have HL := Lib.hid hl
      have HD := Lib.hid hdec
      clear hdrop hget hcu hl hdec
      by_cases hdig : 48 ≤ c ∧ c ≤ 57
      · obtain ⟨hd0, hd1⟩ := hdig
        have hdg : dg u.toNat = c - 48 := by rw [HCU.out]; unfold dg; rw [if_pos ⟨hd0, hd1⟩]
        have hw8 : 0 ≤ c - 48 := by omega
        have n95 : (c == 95) = false := by rw [beq_eq_false_iff_ne]; omega
        have HF := Lib.hid (puGo_digit (B := 8) (M := 18446744073709551615) (a := a) (r := bs.drop (k + 1)) hdg)
        clear hdg h95
        by_cases hbig : c - 48 ≥ 8
        · have HE : Hid (puGo 8 18446744073709551615 0 bs = .syn) := Lib.hid (by rw [HD.out, HF.out, if_pos hbig])
          go_wp2
          go_ret2
          exact ⟨by rw [HE.out]; rfl, rfl⟩
        · by_cases hov : a * 8 + (c - 48) > 18446744073709551615
          · have HE : Hid (puGo 8 18446744073709551615 0 bs = .rng) := Lib.hid (by rw [HD.out, HF.out, if_neg hbig, if_pos hov])
            have hsm : c - 48 < 8 := by omega
            clear hbig
            by_cases icut : 2305843009213693952 ≤ a
            · clear hov
              go_wp2
              all_goals go_ret2
              all_goals exact ⟨by rw [HE.out]; rfl, rfl⟩
            · exact absurd (show a * 8 + (c - 48) ≤ 18446744073709551615 by omega) (by omega)
          · have HE : Hid (0 ≤ a * 8 + (c - 48) ∧ a * 8 + (c - 48) ≤ 18446744073709551615 ∧ puGo 8 18446744073709551615 0 bs = puGo 8 18446744073709551615 (a * 8 + (c - 48)) (bs.drop (k + 1))) := Lib.hid ⟨by omega, by omega, by rw [HD.out, HF.out, if_neg hbig, if_neg hov]⟩
            have hsm : c - 48 < 8 := by omega
            have hov' : a * 8 + (c - 48) ≤ 18446744073709551615 := by omega
            have icut : a < 2305843009213693952 := by omega
            clear hbig hov
            go_wp2
            refine ⟨⟨k + 1, a * 8 + (c - 48), rfl, (by first | rfl | (congr 1; omega)), (by first | rfl | (congr 1; omega)), by omega, HE⟩, by simp [intOf]; omega⟩
      · by_cases hlet : 97 ≤ l ∧ l ≤ 122
        · obtain ⟨hd0, hd1⟩ := hlet
          have n95 : (c == 95) = false := by rw [beq_eq_false_iff_ne]; omega
          have hdg : dg u.toNat = l - 87 := by rw [HCU.out]; unfold dg; rw [if_neg hdig, HL.out, if_pos ⟨hd0, hd1⟩]
          have hndig : c < 48 ∨ 57 < c := by omega
          have HF := Lib.hid (puGo_digit (B := 8) (M := 18446744073709551615) (a := a) (r := bs.drop (k + 1)) hdg)
          clear hdg h95 hdig
          have e1 : (l - 97 + 10 : Int) = l - 87 := by omega
          have HE1 := Lib.hid e1
          clear e1
          by_cases hbig : l - 87 ≥ 8
          · have HE : Hid (puGo 8 18446744073709551615 0 bs = .syn) := Lib.hid (by rw [HD.out, HF.out, if_pos hbig])
            have hbig' : l - 97 + 10 ≥ 8 := by omega
            clear hbig
            rcases hndig with hn | hn
            all_goals
              go_wp2_with (go_at_call 46; refine (lower.calls _ _ _ HL.out).mono ?_; rintro e w' ⟨rfl, rfl⟩)
              go_ret2
              exact ⟨by rw [HE.out]; rfl, rfl⟩
          · exact absurd (show l - 87 ≥ 8 by omega) hbig
        · have hdg : dg u.toNat = 255 := by rw [HCU.out]; unfold dg; rw [if_neg hdig, HL.out, if_neg hlet]
          have HE : Hid (puGo 8 18446744073709551615 0 bs = .syn) := Lib.hid (by rw [HD.out, puGo_digit hdg, if_pos (by decide)])
          have hnl : l < 97 ∨ 122 < l := by omega
          have hnd : c < 48 ∨ 57 < c := by omega
          clear hdg hlet hdig h95
          obtain ⟨q, hq⟩ : ∃ q, (c == 95) = q := ⟨_, rfl⟩
          cases q
          all_goals
            rcases hnl with hn | hn
            all_goals
              rcases hnd with hm | hm
              all_goals
                go_wp2_with (go_at_call 46; refine (lower.calls _ _ _ HL.out).mono ?_; rintro e w' ⟨rfl, rfl⟩)
                go_ret2
                exact ⟨by rw [HE.out]; rfl, rfl⟩
    · have hkk : k = t.size := by omega
      have HE : Hid (puGo 8 18446744073709551615 0 bs = .ok a) := Lib.hid (by rw [hdec, List.drop_eq_nil_of_le (by omega)]; rfl)
      clear hdec hkn
      subst hkk
      go_wp2
      go_ret2
      exact ⟨by rw [HE.out]; rfl, rfl⟩

set_option maxHeartbeats 8000000 in
set_option maxRecDepth 100000 in
theorem pub_8_64.calls (t : ByteArray) (hne : t.size ≠ 0) (hmax : t.size ≤ 281474976710656) (w : World) (hG : Glob w) :
    Calls Tryz.prog 25 #[.string t, .int .i64 8, .int .i64 64] w fun e w' => ∃ v, e = .returned (.tuple #[.int .u64 (PE.out 18446744073709551615 (puGo 8 18446744073709551615 0 t.data.toList)).1, v]) ∧ IsErr v (PE.out 18446744073709551615 (puGo 8 18446744073709551615 0 t.data.toList)).2 ∧ Below w.heap.size w w' := by
  obtain ⟨p, hp⟩ : ∃ p, puGo 8 18446744073709551615 0 t.data.toList = p := ⟨_, rfl⟩
  have HI := fun W => inner_8_64.calls t hne hmax W
  rw [hp] at HI ⊢
  clear hp
  have hb := bw_below w 5 t
  have HGW := Lib.hid hG
  have HG2 := Lib.hid (hG.below hb (Nat.le_refl _))
  clear hG
  cases p with
  | ok n =>
    simp only [PE.tuple] at HI
    simp only [PE.out]
    go_enter Tryz.func25, Tryz.ntmps25
    go_wp2_with (go_at_call 37; refine (HI _).mono ?_; rintro e w' ⟨rfl, rfl⟩)
    go_ret2
    exact ⟨_, rfl, rfl, hb⟩
  | syn =>
    simp only [PE.tuple] at HI
    simp only [PE.out]
    go_enter Tryz.func25, Tryz.ntmps25
    go_wp2_with (first
      | (go_at_call 37; refine (HI _).mono ?_; rintro e w' ⟨rfl, rfl⟩)
      | (go_at_call 36; refine (toErr.calls _ _ _ _ 2 _ hmax HG2.out (.inr rfl)).mono ?_; rintro e w2 ⟨t2, u2, rfl, h3⟩))
    go_ret2
    exact ⟨_, rfl, ⟨_, _, rfl⟩, hb.trans (h3.mono hb.size)⟩
  | rng =>
    simp only [PE.tuple] at HI
    simp only [PE.out]
    go_enter Tryz.func25, Tryz.ntmps25
    go_wp2_with (first
      | (go_at_call 37; refine (HI _).mono ?_; rintro e w' ⟨rfl, rfl⟩)
      | (go_at_call 36; refine (toErr.calls _ _ _ _ 1 _ hmax HG2.out (.inl rfl)).mono ?_; rintro e w2 ⟨t2, u2, rfl, h3⟩))
    go_ret2
    exact ⟨_, rfl, ⟨_, _, rfl⟩, hb.trans (h3.mono hb.size)⟩
end Go.Proofs.YthjbopjclkbhfaaGreatDoor.Given
