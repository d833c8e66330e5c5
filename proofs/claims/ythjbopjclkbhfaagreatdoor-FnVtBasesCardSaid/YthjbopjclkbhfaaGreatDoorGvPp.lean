/- strconv.ParseInt and strconv.ParseUint of a text that stands for a number. -/
import Derived.Test.YthjbopjclkbhfaaGreatDoorGvPi
namespace Go.Proofs.YthjbopjclkbhfaaGreatDoor.Given
open Go.RowKit Go.Proofs.YthjbopjclkbhfaaGreatDoorW.PrintWords

theorem ok_u_10_8 (t : ByteArray) (n : Int) (hI : Is 10 t n) (hn : n ≤ 255) (w : World) (hG : Glob w) :
    Calls Tryz.prog 25 #[.string t, .int .i64 10, .int .i64 8] w fun e w' => e = .returned (.tuple #[.int .u64 n, .nilIface]) ∧ Below w.heap.size w w' := by
  have hmax : t.size ≤ 281474976710656 := Nat.le_trans hI.2.1 (by decide)
  have h := pub_10_8.calls t hI.1 hmax w hG
  rw [hI.2.2 255 (by decide), if_pos hn] at h
  refine h.mono ?_
  rintro e w' ⟨v, rfl, hv, hb⟩
  cases hv
  exact ⟨rfl, hb⟩
theorem bad_u_10_8 (t : ByteArray) (n : Int) (hI : Is 10 t n) (hn : 255 < n) (w : World) (hG : Glob w) :
    Calls Tryz.prog 25 #[.string t, .int .i64 10, .int .i64 8] w fun e w' => (∃ x u, e = .returned (.tuple #[.int .u64 255, .iface x u])) ∧ Below w.heap.size w w' := by
  have hmax : t.size ≤ 281474976710656 := Nat.le_trans hI.2.1 (by decide)
  have h := pub_10_8.calls t hI.1 hmax w hG
  rw [hI.2.2 255 (by decide), if_neg (by omega)] at h
  refine h.mono ?_
  rintro e w' ⟨v, rfl, hv, hb⟩
  obtain ⟨x, u, rfl⟩ := hv
  exact ⟨⟨x, u, rfl⟩, hb⟩

set_option maxHeartbeats 4000000 in
set_option maxRecDepth 100000 in
theorem ok_i_10_16 (t : ByteArray) (n : Int) (hI : Is 10 t n) (hn0 : 0 ≤ n) (hn : n ≤ 32767) (w : World) :
    Calls Tryz.prog 26 #[.string t, .int .i64 10, .int .i64 16] w fun e w' => e = .returned (.tuple #[.int .i64 n, .nilIface]) ∧ Below w.heap.size w w' := by
  have HI := fun W => pii_10_16.calls t n hI hn0 W
  rw [if_pos hn] at HI
  have hb := bw_below w 5 t
  clear hI
  go_enter Tryz.func26, Tryz.ntmps26
  go_wp2_with (go_at_call 38; refine (HI _).mono ?_; rintro e w' ⟨rfl, rfl⟩)
  go_ret2
  exact ⟨rfl, hb⟩
set_option maxHeartbeats 4000000 in
set_option maxRecDepth 100000 in
theorem bad_i_10_16 (t : ByteArray) (n : Int) (hI : Is 10 t n) (hn0 : 0 ≤ n) (hn : 32767 < n) (w : World) (hG : Glob w) :
    Calls Tryz.prog 26 #[.string t, .int .i64 10, .int .i64 16] w fun e w' => (∃ x u, e = .returned (.tuple #[.int .i64 32767, .iface x u])) ∧ Below w.heap.size w w' := by
  have hmax : t.size ≤ 281474976710656 := Nat.le_trans hI.2.1 (by decide)
  have HI := fun W => pii_10_16.calls t n hI hn0 W
  rw [if_neg (by omega)] at HI
  have hb := bw_below w 5 t
  have HG2 := Lib.hid (hG.below hb (Nat.le_refl _))
  clear hI hG
  go_enter Tryz.func26, Tryz.ntmps26
  go_wp2_with (first
    | (go_at_call 38; refine (HI _).mono ?_; rintro e w' ⟨rfl, rfl⟩)
    | (go_at_call 36; refine (toErr.calls _ _ _ _ 1 _ hmax HG2.out (.inl rfl)).mono ?_; rintro e w2 ⟨t2, u2, rfl, h3⟩))
  go_ret2
  exact ⟨⟨_, _, rfl⟩, hb.trans (h3.mono hb.size)⟩

theorem ok_u_10_16 (t : ByteArray) (n : Int) (hI : Is 10 t n) (hn : n ≤ 65535) (w : World) (hG : Glob w) :
    Calls Tryz.prog 25 #[.string t, .int .i64 10, .int .i64 16] w fun e w' => e = .returned (.tuple #[.int .u64 n, .nilIface]) ∧ Below w.heap.size w w' := by
  have hmax : t.size ≤ 281474976710656 := Nat.le_trans hI.2.1 (by decide)
  have h := pub_10_16.calls t hI.1 hmax w hG
  rw [hI.2.2 65535 (by decide), if_pos hn] at h
  refine h.mono ?_
  rintro e w' ⟨v, rfl, hv, hb⟩
  cases hv
  exact ⟨rfl, hb⟩
theorem bad_u_10_16 (t : ByteArray) (n : Int) (hI : Is 10 t n) (hn : 65535 < n) (w : World) (hG : Glob w) :
    Calls Tryz.prog 25 #[.string t, .int .i64 10, .int .i64 16] w fun e w' => (∃ x u, e = .returned (.tuple #[.int .u64 65535, .iface x u])) ∧ Below w.heap.size w w' := by
  have hmax : t.size ≤ 281474976710656 := Nat.le_trans hI.2.1 (by decide)
  have h := pub_10_16.calls t hI.1 hmax w hG
  rw [hI.2.2 65535 (by decide), if_neg (by omega)] at h
  refine h.mono ?_
  rintro e w' ⟨v, rfl, hv, hb⟩
  obtain ⟨x, u, rfl⟩ := hv
  exact ⟨⟨x, u, rfl⟩, hb⟩

set_option maxHeartbeats 4000000 in
set_option maxRecDepth 100000 in
theorem ok_i_10_32 (t : ByteArray) (n : Int) (hI : Is 10 t n) (hn0 : 0 ≤ n) (hn : n ≤ 2147483647) (w : World) :
    Calls Tryz.prog 26 #[.string t, .int .i64 10, .int .i64 32] w fun e w' => e = .returned (.tuple #[.int .i64 n, .nilIface]) ∧ Below w.heap.size w w' := by
  have HI := fun W => pii_10_32.calls t n hI hn0 W
  rw [if_pos hn] at HI
  have hb := bw_below w 5 t
  clear hI
  go_enter Tryz.func26, Tryz.ntmps26
  go_wp2_with (go_at_call 38; refine (HI _).mono ?_; rintro e w' ⟨rfl, rfl⟩)
  go_ret2
  exact ⟨rfl, hb⟩
set_option maxHeartbeats 4000000 in
set_option maxRecDepth 100000 in
theorem bad_i_10_32 (t : ByteArray) (n : Int) (hI : Is 10 t n) (hn0 : 0 ≤ n) (hn : 2147483647 < n) (w : World) (hG : Glob w) :
    Calls Tryz.prog 26 #[.string t, .int .i64 10, .int .i64 32] w fun e w' => (∃ x u, e = .returned (.tuple #[.int .i64 2147483647, .iface x u])) ∧ Below w.heap.size w w' := by
  have hmax : t.size ≤ 281474976710656 := Nat.le_trans hI.2.1 (by decide)
  have HI := fun W => pii_10_32.calls t n hI hn0 W
  rw [if_neg (by omega)] at HI
  have hb := bw_below w 5 t
  have HG2 := Lib.hid (hG.below hb (Nat.le_refl _))
  clear hI hG
  go_enter Tryz.func26, Tryz.ntmps26
  go_wp2_with (first
    | (go_at_call 38; refine (HI _).mono ?_; rintro e w' ⟨rfl, rfl⟩)
    | (go_at_call 36; refine (toErr.calls _ _ _ _ 1 _ hmax HG2.out (.inl rfl)).mono ?_; rintro e w2 ⟨t2, u2, rfl, h3⟩))
  go_ret2
  exact ⟨⟨_, _, rfl⟩, hb.trans (h3.mono hb.size)⟩

theorem ok_u_10_32 (t : ByteArray) (n : Int) (hI : Is 10 t n) (hn : n ≤ 4294967295) (w : World) (hG : Glob w) :
    Calls Tryz.prog 25 #[.string t, .int .i64 10, .int .i64 32] w fun e w' => e = .returned (.tuple #[.int .u64 n, .nilIface]) ∧ Below w.heap.size w w' := by
  have hmax : t.size ≤ 281474976710656 := Nat.le_trans hI.2.1 (by decide)
  have h := pub_10_32.calls t hI.1 hmax w hG
  rw [hI.2.2 4294967295 (by decide), if_pos hn] at h
  refine h.mono ?_
  rintro e w' ⟨v, rfl, hv, hb⟩
  cases hv
  exact ⟨rfl, hb⟩
theorem bad_u_10_32 (t : ByteArray) (n : Int) (hI : Is 10 t n) (hn : 4294967295 < n) (w : World) (hG : Glob w) :
    Calls Tryz.prog 25 #[.string t, .int .i64 10, .int .i64 32] w fun e w' => (∃ x u, e = .returned (.tuple #[.int .u64 4294967295, .iface x u])) ∧ Below w.heap.size w w' := by
  have hmax : t.size ≤ 281474976710656 := Nat.le_trans hI.2.1 (by decide)
  have h := pub_10_32.calls t hI.1 hmax w hG
  rw [hI.2.2 4294967295 (by decide), if_neg (by omega)] at h
  refine h.mono ?_
  rintro e w' ⟨v, rfl, hv, hb⟩
  obtain ⟨x, u, rfl⟩ := hv
  exact ⟨⟨x, u, rfl⟩, hb⟩

set_option maxHeartbeats 4000000 in
set_option maxRecDepth 100000 in
theorem ok_i_10_64 (t : ByteArray) (n : Int) (hI : Is 10 t n) (hn0 : 0 ≤ n) (hn : n ≤ 9223372036854775807) (w : World) :
    Calls Tryz.prog 26 #[.string t, .int .i64 10, .int .i64 64] w fun e w' => e = .returned (.tuple #[.int .i64 n, .nilIface]) ∧ Below w.heap.size w w' := by
  have HI := fun W => pii_10_64.calls t n hI hn0 W
  rw [if_pos hn] at HI
  have hb := bw_below w 5 t
  clear hI
  go_enter Tryz.func26, Tryz.ntmps26
  go_wp2_with (go_at_call 38; refine (HI _).mono ?_; rintro e w' ⟨rfl, rfl⟩)
  go_ret2
  exact ⟨rfl, hb⟩
set_option maxHeartbeats 4000000 in
set_option maxRecDepth 100000 in
theorem bad_i_10_64 (t : ByteArray) (n : Int) (hI : Is 10 t n) (hn0 : 0 ≤ n) (hn : 9223372036854775807 < n) (w : World) (hG : Glob w) :
    Calls Tryz.prog 26 #[.string t, .int .i64 10, .int .i64 64] w fun e w' => (∃ x u, e = .returned (.tuple #[.int .i64 9223372036854775807, .iface x u])) ∧ Below w.heap.size w w' := by
  have hmax : t.size ≤ 281474976710656 := Nat.le_trans hI.2.1 (by decide)
  have HI := fun W => pii_10_64.calls t n hI hn0 W
  rw [if_neg (by omega)] at HI
  have hb := bw_below w 5 t
  have HG2 := Lib.hid (hG.below hb (Nat.le_refl _))
  clear hI hG
  go_enter Tryz.func26, Tryz.ntmps26
  go_wp2_with (first
    | (go_at_call 38; refine (HI _).mono ?_; rintro e w' ⟨rfl, rfl⟩)
    | (go_at_call 36; refine (toErr.calls _ _ _ _ 1 _ hmax HG2.out (.inl rfl)).mono ?_; rintro e w2 ⟨t2, u2, rfl, h3⟩))
  go_ret2
  exact ⟨⟨_, _, rfl⟩, hb.trans (h3.mono hb.size)⟩

theorem ok_u_10_64 (t : ByteArray) (n : Int) (hI : Is 10 t n) (hn : n ≤ 18446744073709551615) (w : World) (hG : Glob w) :
    Calls Tryz.prog 25 #[.string t, .int .i64 10, .int .i64 64] w fun e w' => e = .returned (.tuple #[.int .u64 n, .nilIface]) ∧ Below w.heap.size w w' := by
  have hmax : t.size ≤ 281474976710656 := Nat.le_trans hI.2.1 (by decide)
  have h := pub_10_64.calls t hI.1 hmax w hG
  rw [hI.2.2 18446744073709551615 (by decide), if_pos hn] at h
  refine h.mono ?_
  rintro e w' ⟨v, rfl, hv, hb⟩
  cases hv
  exact ⟨rfl, hb⟩
theorem bad_u_10_64 (t : ByteArray) (n : Int) (hI : Is 10 t n) (hn : 18446744073709551615 < n) (w : World) (hG : Glob w) :
    Calls Tryz.prog 25 #[.string t, .int .i64 10, .int .i64 64] w fun e w' => (∃ x u, e = .returned (.tuple #[.int .u64 18446744073709551615, .iface x u])) ∧ Below w.heap.size w w' := by
  have hmax : t.size ≤ 281474976710656 := Nat.le_trans hI.2.1 (by decide)
  have h := pub_10_64.calls t hI.1 hmax w hG
  rw [hI.2.2 18446744073709551615 (by decide), if_neg (by omega)] at h
  refine h.mono ?_
  rintro e w' ⟨v, rfl, hv, hb⟩
  obtain ⟨x, u, rfl⟩ := hv
  exact ⟨⟨x, u, rfl⟩, hb⟩

theorem ok_u_16_8 (t : ByteArray) (n : Int) (hI : Is 16 t n) (hn : n ≤ 255) (w : World) (hG : Glob w) :
    Calls Tryz.prog 25 #[.string t, .int .i64 16, .int .i64 8] w fun e w' => e = .returned (.tuple #[.int .u64 n, .nilIface]) ∧ Below w.heap.size w w' := by
  have hmax : t.size ≤ 281474976710656 := Nat.le_trans hI.2.1 (by decide)
  have h := pub_16_8.calls t hI.1 hmax w hG
  rw [hI.2.2 255 (by decide), if_pos hn] at h
  refine h.mono ?_
  rintro e w' ⟨v, rfl, hv, hb⟩
  cases hv
  exact ⟨rfl, hb⟩
theorem bad_u_16_8 (t : ByteArray) (n : Int) (hI : Is 16 t n) (hn : 255 < n) (w : World) (hG : Glob w) :
    Calls Tryz.prog 25 #[.string t, .int .i64 16, .int .i64 8] w fun e w' => (∃ x u, e = .returned (.tuple #[.int .u64 255, .iface x u])) ∧ Below w.heap.size w w' := by
  have hmax : t.size ≤ 281474976710656 := Nat.le_trans hI.2.1 (by decide)
  have h := pub_16_8.calls t hI.1 hmax w hG
  rw [hI.2.2 255 (by decide), if_neg (by omega)] at h
  refine h.mono ?_
  rintro e w' ⟨v, rfl, hv, hb⟩
  obtain ⟨x, u, rfl⟩ := hv
  exact ⟨⟨x, u, rfl⟩, hb⟩

set_option maxHeartbeats 4000000 in
set_option maxRecDepth 100000 in
theorem ok_i_16_16 (t : ByteArray) (n : Int) (hI : Is 16 t n) (hn0 : 0 ≤ n) (hn : n ≤ 32767) (w : World) :
    Calls Tryz.prog 26 #[.string t, .int .i64 16, .int .i64 16] w fun e w' => e = .returned (.tuple #[.int .i64 n, .nilIface]) ∧ Below w.heap.size w w' := by
  have HI := fun W => pii_16_16.calls t n hI hn0 W
  rw [if_pos hn] at HI
  have hb := bw_below w 5 t
  clear hI
  go_enter Tryz.func26, Tryz.ntmps26
  go_wp2_with (go_at_call 38; refine (HI _).mono ?_; rintro e w' ⟨rfl, rfl⟩)
  go_ret2
  exact ⟨rfl, hb⟩
set_option maxHeartbeats 4000000 in
set_option maxRecDepth 100000 in
theorem bad_i_16_16 (t : ByteArray) (n : Int) (hI : Is 16 t n) (hn0 : 0 ≤ n) (hn : 32767 < n) (w : World) (hG : Glob w) :
    Calls Tryz.prog 26 #[.string t, .int .i64 16, .int .i64 16] w fun e w' => (∃ x u, e = .returned (.tuple #[.int .i64 32767, .iface x u])) ∧ Below w.heap.size w w' := by
  have hmax : t.size ≤ 281474976710656 := Nat.le_trans hI.2.1 (by decide)
  have HI := fun W => pii_16_16.calls t n hI hn0 W
  rw [if_neg (by omega)] at HI
  have hb := bw_below w 5 t
  have HG2 := Lib.hid (hG.below hb (Nat.le_refl _))
  clear hI hG
  go_enter Tryz.func26, Tryz.ntmps26
  go_wp2_with (first
    | (go_at_call 38; refine (HI _).mono ?_; rintro e w' ⟨rfl, rfl⟩)
    | (go_at_call 36; refine (toErr.calls _ _ _ _ 1 _ hmax HG2.out (.inl rfl)).mono ?_; rintro e w2 ⟨t2, u2, rfl, h3⟩))
  go_ret2
  exact ⟨⟨_, _, rfl⟩, hb.trans (h3.mono hb.size)⟩

theorem ok_u_16_16 (t : ByteArray) (n : Int) (hI : Is 16 t n) (hn : n ≤ 65535) (w : World) (hG : Glob w) :
    Calls Tryz.prog 25 #[.string t, .int .i64 16, .int .i64 16] w fun e w' => e = .returned (.tuple #[.int .u64 n, .nilIface]) ∧ Below w.heap.size w w' := by
  have hmax : t.size ≤ 281474976710656 := Nat.le_trans hI.2.1 (by decide)
  have h := pub_16_16.calls t hI.1 hmax w hG
  rw [hI.2.2 65535 (by decide), if_pos hn] at h
  refine h.mono ?_
  rintro e w' ⟨v, rfl, hv, hb⟩
  cases hv
  exact ⟨rfl, hb⟩
theorem bad_u_16_16 (t : ByteArray) (n : Int) (hI : Is 16 t n) (hn : 65535 < n) (w : World) (hG : Glob w) :
    Calls Tryz.prog 25 #[.string t, .int .i64 16, .int .i64 16] w fun e w' => (∃ x u, e = .returned (.tuple #[.int .u64 65535, .iface x u])) ∧ Below w.heap.size w w' := by
  have hmax : t.size ≤ 281474976710656 := Nat.le_trans hI.2.1 (by decide)
  have h := pub_16_16.calls t hI.1 hmax w hG
  rw [hI.2.2 65535 (by decide), if_neg (by omega)] at h
  refine h.mono ?_
  rintro e w' ⟨v, rfl, hv, hb⟩
  obtain ⟨x, u, rfl⟩ := hv
  exact ⟨⟨x, u, rfl⟩, hb⟩

set_option maxHeartbeats 4000000 in
set_option maxRecDepth 100000 in
theorem ok_i_16_32 (t : ByteArray) (n : Int) (hI : Is 16 t n) (hn0 : 0 ≤ n) (hn : n ≤ 2147483647) (w : World) :
    Calls Tryz.prog 26 #[.string t, .int .i64 16, .int .i64 32] w fun e w' => e = .returned (.tuple #[.int .i64 n, .nilIface]) ∧ Below w.heap.size w w' := by
  have HI := fun W => pii_16_32.calls t n hI hn0 W
  rw [if_pos hn] at HI
  have hb := bw_below w 5 t
  clear hI
  go_enter Tryz.func26, Tryz.ntmps26
  go_wp2_with (go_at_call 38; refine (HI _).mono ?_; rintro e w' ⟨rfl, rfl⟩)
  go_ret2
  exact ⟨rfl, hb⟩
set_option maxHeartbeats 4000000 in
set_option maxRecDepth 100000 in
theorem bad_i_16_32 (t : ByteArray) (n : Int) (hI : Is 16 t n) (hn0 : 0 ≤ n) (hn : 2147483647 < n) (w : World) (hG : Glob w) :
    Calls Tryz.prog 26 #[.string t, .int .i64 16, .int .i64 32] w fun e w' => (∃ x u, e = .returned (.tuple #[.int .i64 2147483647, .iface x u])) ∧ Below w.heap.size w w' := by
  have hmax : t.size ≤ 281474976710656 := Nat.le_trans hI.2.1 (by decide)
  have HI := fun W => pii_16_32.calls t n hI hn0 W
  rw [if_neg (by omega)] at HI
  have hb := bw_below w 5 t
  have HG2 := Lib.hid (hG.below hb (Nat.le_refl _))
  clear hI hG
  go_enter Tryz.func26, Tryz.ntmps26
  go_wp2_with (first
    | (go_at_call 38; refine (HI _).mono ?_; rintro e w' ⟨rfl, rfl⟩)
    | (go_at_call 36; refine (toErr.calls _ _ _ _ 1 _ hmax HG2.out (.inl rfl)).mono ?_; rintro e w2 ⟨t2, u2, rfl, h3⟩))
  go_ret2
  exact ⟨⟨_, _, rfl⟩, hb.trans (h3.mono hb.size)⟩

theorem ok_u_16_32 (t : ByteArray) (n : Int) (hI : Is 16 t n) (hn : n ≤ 4294967295) (w : World) (hG : Glob w) :
    Calls Tryz.prog 25 #[.string t, .int .i64 16, .int .i64 32] w fun e w' => e = .returned (.tuple #[.int .u64 n, .nilIface]) ∧ Below w.heap.size w w' := by
  have hmax : t.size ≤ 281474976710656 := Nat.le_trans hI.2.1 (by decide)
  have h := pub_16_32.calls t hI.1 hmax w hG
  rw [hI.2.2 4294967295 (by decide), if_pos hn] at h
  refine h.mono ?_
  rintro e w' ⟨v, rfl, hv, hb⟩
  cases hv
  exact ⟨rfl, hb⟩
theorem bad_u_16_32 (t : ByteArray) (n : Int) (hI : Is 16 t n) (hn : 4294967295 < n) (w : World) (hG : Glob w) :
    Calls Tryz.prog 25 #[.string t, .int .i64 16, .int .i64 32] w fun e w' => (∃ x u, e = .returned (.tuple #[.int .u64 4294967295, .iface x u])) ∧ Below w.heap.size w w' := by
  have hmax : t.size ≤ 281474976710656 := Nat.le_trans hI.2.1 (by decide)
  have h := pub_16_32.calls t hI.1 hmax w hG
  rw [hI.2.2 4294967295 (by decide), if_neg (by omega)] at h
  refine h.mono ?_
  rintro e w' ⟨v, rfl, hv, hb⟩
  obtain ⟨x, u, rfl⟩ := hv
  exact ⟨⟨x, u, rfl⟩, hb⟩

set_option maxHeartbeats 4000000 in
set_option maxRecDepth 100000 in
theorem ok_i_16_64 (t : ByteArray) (n : Int) (hI : Is 16 t n) (hn0 : 0 ≤ n) (hn : n ≤ 9223372036854775807) (w : World) :
    Calls Tryz.prog 26 #[.string t, .int .i64 16, .int .i64 64] w fun e w' => e = .returned (.tuple #[.int .i64 n, .nilIface]) ∧ Below w.heap.size w w' := by
  have HI := fun W => pii_16_64.calls t n hI hn0 W
  rw [if_pos hn] at HI
  have hb := bw_below w 5 t
  clear hI
  go_enter Tryz.func26, Tryz.ntmps26
  go_wp2_with (go_at_call 38; refine (HI _).mono ?_; rintro e w' ⟨rfl, rfl⟩)
  go_ret2
  exact ⟨rfl, hb⟩
set_option maxHeartbeats 4000000 in
set_option maxRecDepth 100000 in
theorem bad_i_16_64 (t : ByteArray) (n : Int) (hI : Is 16 t n) (hn0 : 0 ≤ n) (hn : 9223372036854775807 < n) (w : World) (hG : Glob w) :
    Calls Tryz.prog 26 #[.string t, .int .i64 16, .int .i64 64] w fun e w' => (∃ x u, e = .returned (.tuple #[.int .i64 9223372036854775807, .iface x u])) ∧ Below w.heap.size w w' := by
  have hmax : t.size ≤ 281474976710656 := Nat.le_trans hI.2.1 (by decide)
  have HI := fun W => pii_16_64.calls t n hI hn0 W
  rw [if_neg (by omega)] at HI
  have hb := bw_below w 5 t
  have HG2 := Lib.hid (hG.below hb (Nat.le_refl _))
  clear hI hG
  go_enter Tryz.func26, Tryz.ntmps26
  go_wp2_with (first
    | (go_at_call 38; refine (HI _).mono ?_; rintro e w' ⟨rfl, rfl⟩)
    | (go_at_call 36; refine (toErr.calls _ _ _ _ 1 _ hmax HG2.out (.inl rfl)).mono ?_; rintro e w2 ⟨t2, u2, rfl, h3⟩))
  go_ret2
  exact ⟨⟨_, _, rfl⟩, hb.trans (h3.mono hb.size)⟩

theorem ok_u_16_64 (t : ByteArray) (n : Int) (hI : Is 16 t n) (hn : n ≤ 18446744073709551615) (w : World) (hG : Glob w) :
    Calls Tryz.prog 25 #[.string t, .int .i64 16, .int .i64 64] w fun e w' => e = .returned (.tuple #[.int .u64 n, .nilIface]) ∧ Below w.heap.size w w' := by
  have hmax : t.size ≤ 281474976710656 := Nat.le_trans hI.2.1 (by decide)
  have h := pub_16_64.calls t hI.1 hmax w hG
  rw [hI.2.2 18446744073709551615 (by decide), if_pos hn] at h
  refine h.mono ?_
  rintro e w' ⟨v, rfl, hv, hb⟩
  cases hv
  exact ⟨rfl, hb⟩
theorem bad_u_16_64 (t : ByteArray) (n : Int) (hI : Is 16 t n) (hn : 18446744073709551615 < n) (w : World) (hG : Glob w) :
    Calls Tryz.prog 25 #[.string t, .int .i64 16, .int .i64 64] w fun e w' => (∃ x u, e = .returned (.tuple #[.int .u64 18446744073709551615, .iface x u])) ∧ Below w.heap.size w w' := by
  have hmax : t.size ≤ 281474976710656 := Nat.le_trans hI.2.1 (by decide)
  have h := pub_16_64.calls t hI.1 hmax w hG
  rw [hI.2.2 18446744073709551615 (by decide), if_neg (by omega)] at h
  refine h.mono ?_
  rintro e w' ⟨v, rfl, hv, hb⟩
  obtain ⟨x, u, rfl⟩ := hv
  exact ⟨⟨x, u, rfl⟩, hb⟩

theorem ok_u_8_8 (t : ByteArray) (n : Int) (hI : Is 8 t n) (hn : n ≤ 255) (w : World) (hG : Glob w) :
    Calls Tryz.prog 25 #[.string t, .int .i64 8, .int .i64 8] w fun e w' => e = .returned (.tuple #[.int .u64 n, .nilIface]) ∧ Below w.heap.size w w' := by
  have hmax : t.size ≤ 281474976710656 := Nat.le_trans hI.2.1 (by decide)
  have h := pub_8_8.calls t hI.1 hmax w hG
  rw [hI.2.2 255 (by decide), if_pos hn] at h
  refine h.mono ?_
  rintro e w' ⟨v, rfl, hv, hb⟩
  cases hv
  exact ⟨rfl, hb⟩
theorem bad_u_8_8 (t : ByteArray) (n : Int) (hI : Is 8 t n) (hn : 255 < n) (w : World) (hG : Glob w) :
    Calls Tryz.prog 25 #[.string t, .int .i64 8, .int .i64 8] w fun e w' => (∃ x u, e = .returned (.tuple #[.int .u64 255, .iface x u])) ∧ Below w.heap.size w w' := by
  have hmax : t.size ≤ 281474976710656 := Nat.le_trans hI.2.1 (by decide)
  have h := pub_8_8.calls t hI.1 hmax w hG
  rw [hI.2.2 255 (by decide), if_neg (by omega)] at h
  refine h.mono ?_
  rintro e w' ⟨v, rfl, hv, hb⟩
  obtain ⟨x, u, rfl⟩ := hv
  exact ⟨⟨x, u, rfl⟩, hb⟩

set_option maxHeartbeats 4000000 in
set_option maxRecDepth 100000 in
theorem ok_i_8_16 (t : ByteArray) (n : Int) (hI : Is 8 t n) (hn0 : 0 ≤ n) (hn : n ≤ 32767) (w : World) :
    Calls Tryz.prog 26 #[.string t, .int .i64 8, .int .i64 16] w fun e w' => e = .returned (.tuple #[.int .i64 n, .nilIface]) ∧ Below w.heap.size w w' := by
  have HI := fun W => pii_8_16.calls t n hI hn0 W
  rw [if_pos hn] at HI
  have hb := bw_below w 5 t
  clear hI
  go_enter Tryz.func26, Tryz.ntmps26
  go_wp2_with (go_at_call 38; refine (HI _).mono ?_; rintro e w' ⟨rfl, rfl⟩)
  go_ret2
  exact ⟨rfl, hb⟩
set_option maxHeartbeats 4000000 in
set_option maxRecDepth 100000 in
theorem bad_i_8_16 (t : ByteArray) (n : Int) (hI : Is 8 t n) (hn0 : 0 ≤ n) (hn : 32767 < n) (w : World) (hG : Glob w) :
    Calls Tryz.prog 26 #[.string t, .int .i64 8, .int .i64 16] w fun e w' => (∃ x u, e = .returned (.tuple #[.int .i64 32767, .iface x u])) ∧ Below w.heap.size w w' := by
  have hmax : t.size ≤ 281474976710656 := Nat.le_trans hI.2.1 (by decide)
  have HI := fun W => pii_8_16.calls t n hI hn0 W
  rw [if_neg (by omega)] at HI
  have hb := bw_below w 5 t
  have HG2 := Lib.hid (hG.below hb (Nat.le_refl _))
  clear hI hG
  go_enter Tryz.func26, Tryz.ntmps26
  go_wp2_with (first
    | (go_at_call 38; refine (HI _).mono ?_; rintro e w' ⟨rfl, rfl⟩)
    | (go_at_call 36; refine (toErr.calls _ _ _ _ 1 _ hmax HG2.out (.inl rfl)).mono ?_; rintro e w2 ⟨t2, u2, rfl, h3⟩))
  go_ret2
  exact ⟨⟨_, _, rfl⟩, hb.trans (h3.mono hb.size)⟩

theorem ok_u_8_16 (t : ByteArray) (n : Int) (hI : Is 8 t n) (hn : n ≤ 65535) (w : World) (hG : Glob w) :
    Calls Tryz.prog 25 #[.string t, .int .i64 8, .int .i64 16] w fun e w' => e = .returned (.tuple #[.int .u64 n, .nilIface]) ∧ Below w.heap.size w w' := by
  have hmax : t.size ≤ 281474976710656 := Nat.le_trans hI.2.1 (by decide)
  have h := pub_8_16.calls t hI.1 hmax w hG
  rw [hI.2.2 65535 (by decide), if_pos hn] at h
  refine h.mono ?_
  rintro e w' ⟨v, rfl, hv, hb⟩
  cases hv
  exact ⟨rfl, hb⟩
theorem bad_u_8_16 (t : ByteArray) (n : Int) (hI : Is 8 t n) (hn : 65535 < n) (w : World) (hG : Glob w) :
    Calls Tryz.prog 25 #[.string t, .int .i64 8, .int .i64 16] w fun e w' => (∃ x u, e = .returned (.tuple #[.int .u64 65535, .iface x u])) ∧ Below w.heap.size w w' := by
  have hmax : t.size ≤ 281474976710656 := Nat.le_trans hI.2.1 (by decide)
  have h := pub_8_16.calls t hI.1 hmax w hG
  rw [hI.2.2 65535 (by decide), if_neg (by omega)] at h
  refine h.mono ?_
  rintro e w' ⟨v, rfl, hv, hb⟩
  obtain ⟨x, u, rfl⟩ := hv
  exact ⟨⟨x, u, rfl⟩, hb⟩

set_option maxHeartbeats 4000000 in
set_option maxRecDepth 100000 in
theorem ok_i_8_32 (t : ByteArray) (n : Int) (hI : Is 8 t n) (hn0 : 0 ≤ n) (hn : n ≤ 2147483647) (w : World) :
    Calls Tryz.prog 26 #[.string t, .int .i64 8, .int .i64 32] w fun e w' => e = .returned (.tuple #[.int .i64 n, .nilIface]) ∧ Below w.heap.size w w' := by
  have HI := fun W => pii_8_32.calls t n hI hn0 W
  rw [if_pos hn] at HI
  have hb := bw_below w 5 t
  clear hI
  go_enter Tryz.func26, Tryz.ntmps26
  go_wp2_with (go_at_call 38; refine (HI _).mono ?_; rintro e w' ⟨rfl, rfl⟩)
  go_ret2
  exact ⟨rfl, hb⟩
set_option maxHeartbeats 4000000 in
set_option maxRecDepth 100000 in
theorem bad_i_8_32 (t : ByteArray) (n : Int) (hI : Is 8 t n) (hn0 : 0 ≤ n) (hn : 2147483647 < n) (w : World) (hG : Glob w) :
    Calls Tryz.prog 26 #[.string t, .int .i64 8, .int .i64 32] w fun e w' => (∃ x u, e = .returned (.tuple #[.int .i64 2147483647, .iface x u])) ∧ Below w.heap.size w w' := by
  have hmax : t.size ≤ 281474976710656 := Nat.le_trans hI.2.1 (by decide)
  have HI := fun W => pii_8_32.calls t n hI hn0 W
  rw [if_neg (by omega)] at HI
  have hb := bw_below w 5 t
  have HG2 := Lib.hid (hG.below hb (Nat.le_refl _))
  clear hI hG
  go_enter Tryz.func26, Tryz.ntmps26
  go_wp2_with (first
    | (go_at_call 38; refine (HI _).mono ?_; rintro e w' ⟨rfl, rfl⟩)
    | (go_at_call 36; refine (toErr.calls _ _ _ _ 1 _ hmax HG2.out (.inl rfl)).mono ?_; rintro e w2 ⟨t2, u2, rfl, h3⟩))
  go_ret2
  exact ⟨⟨_, _, rfl⟩, hb.trans (h3.mono hb.size)⟩

theorem ok_u_8_32 (t : ByteArray) (n : Int) (hI : Is 8 t n) (hn : n ≤ 4294967295) (w : World) (hG : Glob w) :
    Calls Tryz.prog 25 #[.string t, .int .i64 8, .int .i64 32] w fun e w' => e = .returned (.tuple #[.int .u64 n, .nilIface]) ∧ Below w.heap.size w w' := by
  have hmax : t.size ≤ 281474976710656 := Nat.le_trans hI.2.1 (by decide)
  have h := pub_8_32.calls t hI.1 hmax w hG
  rw [hI.2.2 4294967295 (by decide), if_pos hn] at h
  refine h.mono ?_
  rintro e w' ⟨v, rfl, hv, hb⟩
  cases hv
  exact ⟨rfl, hb⟩
theorem bad_u_8_32 (t : ByteArray) (n : Int) (hI : Is 8 t n) (hn : 4294967295 < n) (w : World) (hG : Glob w) :
    Calls Tryz.prog 25 #[.string t, .int .i64 8, .int .i64 32] w fun e w' => (∃ x u, e = .returned (.tuple #[.int .u64 4294967295, .iface x u])) ∧ Below w.heap.size w w' := by
  have hmax : t.size ≤ 281474976710656 := Nat.le_trans hI.2.1 (by decide)
  have h := pub_8_32.calls t hI.1 hmax w hG
  rw [hI.2.2 4294967295 (by decide), if_neg (by omega)] at h
  refine h.mono ?_
  rintro e w' ⟨v, rfl, hv, hb⟩
  obtain ⟨x, u, rfl⟩ := hv
  exact ⟨⟨x, u, rfl⟩, hb⟩

set_option maxHeartbeats 4000000 in
set_option maxRecDepth 100000 in
theorem ok_i_8_64 (t : ByteArray) (n : Int) (hI : Is 8 t n) (hn0 : 0 ≤ n) (hn : n ≤ 9223372036854775807) (w : World) :
    Calls Tryz.prog 26 #[.string t, .int .i64 8, .int .i64 64] w fun e w' => e = .returned (.tuple #[.int .i64 n, .nilIface]) ∧ Below w.heap.size w w' := by
  have HI := fun W => pii_8_64.calls t n hI hn0 W
  rw [if_pos hn] at HI
  have hb := bw_below w 5 t
  clear hI
  go_enter Tryz.func26, Tryz.ntmps26
  go_wp2_with (go_at_call 38; refine (HI _).mono ?_; rintro e w' ⟨rfl, rfl⟩)
  go_ret2
  exact ⟨rfl, hb⟩
set_option maxHeartbeats 4000000 in
set_option maxRecDepth 100000 in
theorem bad_i_8_64 (t : ByteArray) (n : Int) (hI : Is 8 t n) (hn0 : 0 ≤ n) (hn : 9223372036854775807 < n) (w : World) (hG : Glob w) :
    Calls Tryz.prog 26 #[.string t, .int .i64 8, .int .i64 64] w fun e w' => (∃ x u, e = .returned (.tuple #[.int .i64 9223372036854775807, .iface x u])) ∧ Below w.heap.size w w' := by
  have hmax : t.size ≤ 281474976710656 := Nat.le_trans hI.2.1 (by decide)
  have HI := fun W => pii_8_64.calls t n hI hn0 W
  rw [if_neg (by omega)] at HI
  have hb := bw_below w 5 t
  have HG2 := Lib.hid (hG.below hb (Nat.le_refl _))
  clear hI hG
  go_enter Tryz.func26, Tryz.ntmps26
  go_wp2_with (first
    | (go_at_call 38; refine (HI _).mono ?_; rintro e w' ⟨rfl, rfl⟩)
    | (go_at_call 36; refine (toErr.calls _ _ _ _ 1 _ hmax HG2.out (.inl rfl)).mono ?_; rintro e w2 ⟨t2, u2, rfl, h3⟩))
  go_ret2
  exact ⟨⟨_, _, rfl⟩, hb.trans (h3.mono hb.size)⟩

theorem ok_u_8_64 (t : ByteArray) (n : Int) (hI : Is 8 t n) (hn : n ≤ 18446744073709551615) (w : World) (hG : Glob w) :
    Calls Tryz.prog 25 #[.string t, .int .i64 8, .int .i64 64] w fun e w' => e = .returned (.tuple #[.int .u64 n, .nilIface]) ∧ Below w.heap.size w w' := by
  have hmax : t.size ≤ 281474976710656 := Nat.le_trans hI.2.1 (by decide)
  have h := pub_8_64.calls t hI.1 hmax w hG
  rw [hI.2.2 18446744073709551615 (by decide), if_pos hn] at h
  refine h.mono ?_
  rintro e w' ⟨v, rfl, hv, hb⟩
  cases hv
  exact ⟨rfl, hb⟩
theorem bad_u_8_64 (t : ByteArray) (n : Int) (hI : Is 8 t n) (hn : 18446744073709551615 < n) (w : World) (hG : Glob w) :
    Calls Tryz.prog 25 #[.string t, .int .i64 8, .int .i64 64] w fun e w' => (∃ x u, e = .returned (.tuple #[.int .u64 18446744073709551615, .iface x u])) ∧ Below w.heap.size w w' := by
  have hmax : t.size ≤ 281474976710656 := Nat.le_trans hI.2.1 (by decide)
  have h := pub_8_64.calls t hI.1 hmax w hG
  rw [hI.2.2 18446744073709551615 (by decide), if_neg (by omega)] at h
  refine h.mono ?_
  rintro e w' ⟨v, rfl, hv, hb⟩
  obtain ⟨x, u, rfl⟩ := hv
  exact ⟨⟨x, u, rfl⟩, hb⟩
end Go.Proofs.YthjbopjclkbhfaaGreatDoor.Given
