/- wrNumber, wrCount, wrZeros: what they compute for the nine kinds. -/
import Derived.Test.YtldjigfnagfalaaGreatDoorPWix1
import Derived.Test.YtldjigfnagfalaaGreatDoorGvDi
import Derived.Laws.Bits64b
namespace Go.Proofs.YtldjigfnagfalaaGreatDoor.Given
open Go.RowKit Go.Proofs.YtldjigfnagfalaaGreatDoorW.PrintWords Go.Proofs.YtldjigfnagfalaaGreatDoorW.PrintMore Go.Proofs.YtldjigfnagfalaaGreatDoor.PWi
set_option linter.unusedVariables false
def byteAt (x : Nat) (j : Nat) : Int := ((x / 256 ^ j % 256 : Nat) : Int)
theorem shr_byte (x j : Nat) (hj : j < 8) : (shr .u64 (x : Int) (IntKind.u64.wrap (wrap64 (8 * (j : Int))))) % 256 = byteAt x j := by
  have h1 : wrap64 (8 * (j : Int)) = 8 * j := by unfold wrap64; omega
  have h2 : IntKind.u64.wrap (8 * (j : Int)) = 8 * j := by unfold IntKind.wrap; simp [IntKind.signed, IntKind.bits]; omega
  rw [h1, h2]
  unfold shr byteAt
  have h3 : (8 * (j : Int)).toNat = 8 * j := by omega
  rw [h3, Nat.min_eq_left (by simp [IntKind.bits]; omega), Int.pow_mul, show ((2 : Int) ^ 8) = 256 by decide, Int.natCast_emod, Int.natCast_ediv, Int.natCast_pow]
  rfl
theorem wrap_nonneg (j : Nat) (hj : j < 8) : 0 ≤ IntKind.u64.wrap (wrap64 (8 * (j : Int))) := by
  have h1 : wrap64 (8 * (j : Int)) = 8 * j := by unfold wrap64; omega
  have h2 : IntKind.u64.wrap (8 * (j : Int)) = 8 * j := by unfold IntKind.wrap; simp [IntKind.signed, IntKind.bits]; omega
  rw [h1, h2]; omega
theorem wn_le (a : Int) (x s : Nat) (hs : s ≤ 8) : ∀ (d i : Nat) (ys : List Int), ys.length = s → i + d = s →
    laws_wrNumber.l0 (d + 1) a x false s ys s i = (spec_Wide.f a x).bind fun t => some (a, t, (⟨#[]⟩ : ByteArray), ([] : List S27), strOfNums (ys.take i ++ (List.range' i d).map (byteAt x)))
  | 0, i, ys, hl, hi => by
    rw [laws_wrNumber.l0, if_neg (by omega), List.take_of_length_le (by omega)]
    simp
  | d + 1, i, ys, hl, hi => by
    rw [laws_wrNumber.l0, if_pos (by omega), if_neg (by decide), if_pos (wrap_nonneg i (by omega)), if_pos (by omega), if_pos (by omega), shr_byte x i (by omega), Int.toNat_natCast,
      show wrap64 ((i : Int) + 1) = ((i + 1 : Nat) : Int) by unfold wrap64; omega, wn_le a x s hs d (i + 1) (ys.set i (byteAt x i)) (by simpa using hl) (by omega)]
    have e : (ys.set i (byteAt x i)).take (i + 1) ++ (List.range' (i + 1) d).map (byteAt x) = ys.take i ++ (List.range' i (d + 1)).map (byteAt x) := by
      rw [List.range'_succ, List.map_cons, List.take_succ_eq_append_getElem (by simp; omega), List.getElem_set_self, List.take_set_of_le (Nat.le_refl _)]
      simp
    rw [e]
theorem wn_be (a : Int) (x s : Nat) (hs : s ≤ 8) : ∀ (d i : Nat) (ys : List Int), ys.length = s → i + d = s →
    laws_wrNumber.l0 (d + 1) a x true s ys s i = (spec_Wide.f a x).bind fun t => some (a, t, (⟨#[]⟩ : ByteArray), ([] : List S27), strOfNums (((List.range' i d).map (byteAt x)).reverse ++ ys.drop d))
  | 0, i, ys, hl, hi => by
    rw [laws_wrNumber.l0, if_neg (by omega)]
    simp
  | d + 1, i, ys, hl, hi => by
    have e1 : wrap64 ((s : Int) - 1) = (s : Int) - 1 := by unfold wrap64; omega
    have e2 : wrap64 ((s : Int) - 1 - i) = (d : Int) := by unfold wrap64; omega
    rw [laws_wrNumber.l0, if_pos (by omega), if_pos rfl, if_pos (wrap_nonneg i (by omega)), e1, e2, if_pos (by omega), if_pos (by omega), shr_byte x i (by omega), Int.toNat_natCast,
      show wrap64 ((i : Int) + 1) = ((i + 1 : Nat) : Int) by unfold wrap64; omega, wn_be a x s hs d (i + 1) (ys.set d (byteAt x i)) (by simpa using hl) (by omega)]
    have e : ((List.range' (i + 1) d).map (byteAt x)).reverse ++ (ys.set d (byteAt x i)).drop d = ((List.range' i (d + 1)).map (byteAt x)).reverse ++ ys.drop (d + 1) := by
      rw [List.range'_succ, List.map_cons, List.reverse_cons, List.append_assoc, List.drop_eq_getElem_cons (by simp; omega), List.getElem_set_self, List.drop_set_of_lt (by omega)]
      rfl
    rw [e]
theorem le_bytes : ∀ (s x : Nat), ((List.range' 0 s).map (byteAt x)).map (fun n => UInt8.ofNat n.toNat) = Lib.leBytes s x
  | 0, _ => rfl
  | s + 1, x => by
    have ih := le_bytes s (x / 256)
    rw [List.range'_succ, List.map_cons, List.map_cons, Lib.leBytes, ← ih]
    congr 1
    · show UInt8.ofNat (byteAt x 0).toNat = UInt8.ofNat (x % 256)
      simp only [byteAt, Nat.pow_zero, Nat.div_one, Int.toNat_natCast]
    · rw [show List.range' (0 + 1) s = (List.range' 0 s).map (· + 1) by simp [List.range'_eq_map_range, Nat.add_comm], List.map_map, List.map_map, List.map_map]
      refine List.map_congr_left fun j _ => ?_
      simp only [Function.comp, byteAt]
      rw [Nat.pow_succ, Nat.mul_comm, Nat.div_div_eq_div_mul]
theorem str_le (s x : Nat) : strOfNums ((List.range' 0 s).map (byteAt x)) = ⟨(Lib.leBytes s x).toArray⟩ := by
  unfold strOfNums
  rw [le_bytes]
theorem str_be (s x : Nat) : strOfNums (((List.range' 0 s).map (byteAt x)).reverse) = ⟨(Lib.beBytes s x).toArray⟩ := by
  unfold strOfNums Lib.beBytes
  rw [List.map_reverse, le_bytes]
/-- What stands in the number's field. -/
def NK.wide : NK → Nat → Nat
  | .y, v => v % 256
  | .n, v => (IntKind.u64.wrap (wrap64 (IntKind.i16.wrap ((v % 65536 : Nat) : Int)))).toNat
  | .q, v => v % 65536
  | .i, v => (IntKind.u64.wrap (wrap64 (wrap32 ((v % 4294967296 : Nat) : Int)))).toNat
  | .u, v => v % 4294967296
  | .x, v => v
  | .t, v => v
  | .d, v => v
  | .h, v => v % 4294967296
theorem and_mask (v m j : Nat) (hv : v < 18446744073709551616) (hj : j ≤ 63) (hm : m + 1 = 2 ^ j) : Go.bits .and .u64 (v : Int) (m : Int) = ((v % 2 ^ j : Nat) : Int) := by
  have h1 : 2 ^ j ≤ 2 ^ 63 := Nat.pow_le_pow_right (by decide) hj
  rw [bits_and_u64_nat v m hv (by omega), show m = 2 ^ j - 1 by omega, Nat.and_two_pow_sub_one_eq_mod]
theorem j0_eval (a : Int) (x s : Nat) (h1 : 1 ≤ s) (hs : s ≤ 8) (big : Bool) :
    laws_wrNumber.j0 (s + 2) a x big s = (spec_Wide.f a x).bind fun t => some (a, t, (⟨#[]⟩ : ByteArray), ([] : List S27), ⟨(if big then Lib.beBytes s x else Lib.leBytes s x).toArray⟩) := by
  have hr : (List.replicate (s : Int).toNat (0 : Int)).length = s := by simp
  rw [laws_wrNumber.j0, if_pos (by omega), if_pos (by simp; omega), Option.bind_some, hr]
  cases big
  · rw [show (0 : Int) = ((0 : Nat) : Int) from rfl, wn_le a x s hs s 0 _ (by simp) (by omega)]
    simp only [List.take_zero, List.nil_append, str_le]
    rfl
  · rw [show (0 : Int) = ((0 : Nat) : Int) from rfl, wn_be a x s hs s 0 _ (by simp) (by omega)]
    rw [List.drop_of_length_le (by simp), List.append_nil]
    simp only [str_be]
    rfl
theorem size_eval (k : NK) : spec_Size.f (k.size + 2) k.code.toNat = some (k.size : Int) := by cases k <;> rfl
theorem wide_lt (k : NK) (v : Nat) (hv : v < 18446744073709551616) : k.wide v < 18446744073709551616 := by
  cases k <;> simp only [NK.wide] <;> first | omega | (unfold IntKind.wrap; simp [IntKind.signed, IntKind.bits]; omega)
theorem bytes_wide (k : NK) (big : Bool) (v : Nat) (hv : v < 18446744073709551616) : k.bytes big (k.wide v) = k.bytes big v := by
  have h16 : (IntKind.u64.wrap (wrap64 (IntKind.i16.wrap ((v % 65536 : Nat) : Int)))).toNat % 65536 = v % 65536 := by
    unfold wrap64 IntKind.wrap; simp [IntKind.signed, IntKind.bits]; omega
  have h32 : (IntKind.u64.wrap (wrap64 (wrap32 ((v % 4294967296 : Nat) : Int)))).toNat % 4294967296 = v % 4294967296 := by
    unfold wrap64 wrap32 IntKind.wrap; simp [IntKind.signed, IntKind.bits]; omega
  cases k <;> simp only [NK.bytes, NK.wide, h16, h32, Nat.mod_mod]
theorem wn_y (v : Nat) (hv : v < 18446744073709551616) (big : Bool) : laws_wrNumber.f 3 121 v big = some (121, (NK.y.wide v : Int), (⟨#[]⟩ : ByteArray), ([] : List S27), ⟨(NK.y.bytes big v).toArray⟩) := by
  have hz : spec_Size.f 3 121 = some 1 := size_eval .y
  have hm : IntKind.u64.wrap ((shl .u64 1 (IntKind.u64.wrap (wrap64 (8 * 1)))) - 1) = ((255 : Nat) : Int) := by kernel_rfl
  rw [laws_wrNumber.f, hz, Option.bind_some, if_pos (by decide), if_pos (show (0 : Int) ≤ IntKind.u64.wrap (wrap64 (8 * 1)) from wrap_nonneg 1 (by decide)), hm, and_mask v 255 8 hv (by decide) (by decide), show ((1 : Int)) = ((1 : Nat) : Int) from rfl, j0_eval 121 _ 1 (by decide) (by decide)]
  have e : (if big then Lib.beBytes 1 (v % 2 ^ 8) else Lib.leBytes 1 (v % 2 ^ 8)) = [UInt8.ofNat (v % 256)] := by
    cases big <;> simp [Lib.beBytes, Lib.leBytes, Nat.toUInt8]
  rw [e]
  rfl
theorem wn_n (v : Nat) (hv : v < 18446744073709551616) (big : Bool) : laws_wrNumber.f 4 110 v big = some (110, (NK.n.wide v : Int), (⟨#[]⟩ : ByteArray), ([] : List S27), ⟨(NK.n.bytes big v).toArray⟩) := by
  have hz : spec_Size.f 4 110 = some 2 := size_eval .n
  have hm : IntKind.u64.wrap ((shl .u64 1 (IntKind.u64.wrap (wrap64 (8 * 2)))) - 1) = ((65535 : Nat) : Int) := by kernel_rfl
  rw [laws_wrNumber.f, hz, Option.bind_some, if_pos (by decide), if_pos (show (0 : Int) ≤ IntKind.u64.wrap (wrap64 (8 * 2)) from wrap_nonneg 2 (by decide)), hm, and_mask v 65535 16 hv (by decide) (by decide), show ((2 : Int)) = ((2 : Nat) : Int) from rfl, j0_eval 110 _ 2 (by decide) (by decide)]
  have hw : (0 : Int) ≤ IntKind.u64.wrap (wrap64 (IntKind.i16.wrap ((v % 65536 : Nat) : Int))) := by unfold IntKind.wrap; simp [IntKind.signed, IntKind.bits]; omega
  show (spec_Wide.f 110 ((v % 65536 : Nat) : Int)).bind _ = _
  rw [spec_Wide.f, if_pos rfl, Option.bind_some]
  simp only [NK.wide, Int.toNat_of_nonneg hw]
  rfl
theorem wn_q (v : Nat) (hv : v < 18446744073709551616) (big : Bool) : laws_wrNumber.f 4 113 v big = some (113, (NK.q.wide v : Int), (⟨#[]⟩ : ByteArray), ([] : List S27), ⟨(NK.q.bytes big v).toArray⟩) := by
  have hz : spec_Size.f 4 113 = some 2 := size_eval .q
  have hm : IntKind.u64.wrap ((shl .u64 1 (IntKind.u64.wrap (wrap64 (8 * 2)))) - 1) = ((65535 : Nat) : Int) := by kernel_rfl
  rw [laws_wrNumber.f, hz, Option.bind_some, if_pos (by decide), if_pos (show (0 : Int) ≤ IntKind.u64.wrap (wrap64 (8 * 2)) from wrap_nonneg 2 (by decide)), hm, and_mask v 65535 16 hv (by decide) (by decide), show ((2 : Int)) = ((2 : Nat) : Int) from rfl, j0_eval 113 _ 2 (by decide) (by decide)]
  rw [spec_Wide.f, if_neg (by decide), if_neg (by decide), Option.bind_some]
  rfl
theorem wn_i (v : Nat) (hv : v < 18446744073709551616) (big : Bool) : laws_wrNumber.f 6 105 v big = some (105, (NK.i.wide v : Int), (⟨#[]⟩ : ByteArray), ([] : List S27), ⟨(NK.i.bytes big v).toArray⟩) := by
  have hz : spec_Size.f 6 105 = some 4 := size_eval .i
  have hm : IntKind.u64.wrap ((shl .u64 1 (IntKind.u64.wrap (wrap64 (8 * 4)))) - 1) = ((4294967295 : Nat) : Int) := by kernel_rfl
  rw [laws_wrNumber.f, hz, Option.bind_some, if_pos (by decide), if_pos (show (0 : Int) ≤ IntKind.u64.wrap (wrap64 (8 * 4)) from wrap_nonneg 4 (by decide)), hm, and_mask v 4294967295 32 hv (by decide) (by decide), show ((4 : Int)) = ((4 : Nat) : Int) from rfl, j0_eval 105 _ 4 (by decide) (by decide)]
  have hw : (0 : Int) ≤ IntKind.u64.wrap (wrap64 (wrap32 ((v % 4294967296 : Nat) : Int))) := by unfold IntKind.wrap; simp [IntKind.signed, IntKind.bits]; omega
  show (spec_Wide.f 105 ((v % 4294967296 : Nat) : Int)).bind _ = _
  rw [spec_Wide.f, if_neg (by decide), if_pos rfl, Option.bind_some]
  simp only [NK.wide, Int.toNat_of_nonneg hw]
  rfl
theorem wn_u (v : Nat) (hv : v < 18446744073709551616) (big : Bool) : laws_wrNumber.f 6 117 v big = some (117, (NK.u.wide v : Int), (⟨#[]⟩ : ByteArray), ([] : List S27), ⟨(NK.u.bytes big v).toArray⟩) := by
  have hz : spec_Size.f 6 117 = some 4 := size_eval .u
  have hm : IntKind.u64.wrap ((shl .u64 1 (IntKind.u64.wrap (wrap64 (8 * 4)))) - 1) = ((4294967295 : Nat) : Int) := by kernel_rfl
  rw [laws_wrNumber.f, hz, Option.bind_some, if_pos (by decide), if_pos (show (0 : Int) ≤ IntKind.u64.wrap (wrap64 (8 * 4)) from wrap_nonneg 4 (by decide)), hm, and_mask v 4294967295 32 hv (by decide) (by decide), show ((4 : Int)) = ((4 : Nat) : Int) from rfl, j0_eval 117 _ 4 (by decide) (by decide)]
  rw [spec_Wide.f, if_neg (by decide), if_neg (by decide), Option.bind_some]
  rfl
theorem wn_x (v : Nat) (hv : v < 18446744073709551616) (big : Bool) : laws_wrNumber.f 10 120 v big = some (120, (NK.x.wide v : Int), (⟨#[]⟩ : ByteArray), ([] : List S27), ⟨(NK.x.bytes big v).toArray⟩) := by
  have hz : spec_Size.f 10 120 = some 8 := size_eval .x
  rw [laws_wrNumber.f, hz, Option.bind_some, if_neg (by decide), show ((8 : Int)) = ((8 : Nat) : Int) from rfl, j0_eval 120 _ 8 (by decide) (by decide)]
  rw [spec_Wide.f, if_neg (by decide), if_neg (by decide), Option.bind_some]
  simp only [NK.wide, NK.bytes, Nat.mod_eq_of_lt hv]
theorem wn_t (v : Nat) (hv : v < 18446744073709551616) (big : Bool) : laws_wrNumber.f 10 116 v big = some (116, (NK.t.wide v : Int), (⟨#[]⟩ : ByteArray), ([] : List S27), ⟨(NK.t.bytes big v).toArray⟩) := by
  have hz : spec_Size.f 10 116 = some 8 := size_eval .t
  rw [laws_wrNumber.f, hz, Option.bind_some, if_neg (by decide), show ((8 : Int)) = ((8 : Nat) : Int) from rfl, j0_eval 116 _ 8 (by decide) (by decide)]
  rw [spec_Wide.f, if_neg (by decide), if_neg (by decide), Option.bind_some]
  simp only [NK.wide, NK.bytes, Nat.mod_eq_of_lt hv]
theorem wn_d (v : Nat) (hv : v < 18446744073709551616) (big : Bool) : laws_wrNumber.f 10 100 v big = some (100, (NK.d.wide v : Int), (⟨#[]⟩ : ByteArray), ([] : List S27), ⟨(NK.d.bytes big v).toArray⟩) := by
  have hz : spec_Size.f 10 100 = some 8 := size_eval .d
  rw [laws_wrNumber.f, hz, Option.bind_some, if_neg (by decide), show ((8 : Int)) = ((8 : Nat) : Int) from rfl, j0_eval 100 _ 8 (by decide) (by decide)]
  rw [spec_Wide.f, if_neg (by decide), if_neg (by decide), Option.bind_some]
  simp only [NK.wide, NK.bytes, Nat.mod_eq_of_lt hv]
theorem wn_h (v : Nat) (hv : v < 18446744073709551616) (big : Bool) : laws_wrNumber.f 6 104 v big = some (104, (NK.h.wide v : Int), (⟨#[]⟩ : ByteArray), ([] : List S27), ⟨(NK.h.bytes big v).toArray⟩) := by
  have hz : spec_Size.f 6 104 = some 4 := size_eval .h
  have hm : IntKind.u64.wrap ((shl .u64 1 (IntKind.u64.wrap (wrap64 (8 * 4)))) - 1) = ((4294967295 : Nat) : Int) := by kernel_rfl
  rw [laws_wrNumber.f, hz, Option.bind_some, if_pos (by decide), if_pos (show (0 : Int) ≤ IntKind.u64.wrap (wrap64 (8 * 4)) from wrap_nonneg 4 (by decide)), hm, and_mask v 4294967295 32 hv (by decide) (by decide), show ((4 : Int)) = ((4 : Nat) : Int) from rfl, j0_eval 104 _ 4 (by decide) (by decide)]
  rw [spec_Wide.f, if_neg (by decide), if_neg (by decide), Option.bind_some]
  rfl
theorem NK.wn (k : NK) (v : Nat) (hv : v < 18446744073709551616) (big : Bool) : laws_wrNumber.f (k.size + 2) (k.code.toNat : Int) v big = some ((k.code.toNat : Int), (k.wide v : Int), (⟨#[]⟩ : ByteArray), ([] : List S27), ⟨(k.bytes big v).toArray⟩) := by
  cases k
  · exact wn_y v hv big
  · exact wn_n v hv big
  · exact wn_q v hv big
  · exact wn_i v hv big
  · exact wn_u v hv big
  · exact wn_x v hv big
  · exact wn_t v hv big
  · exact wn_d v hv big
  · exact wn_h v hv big
/-- wrNumber of a number of a kind. -/
theorem wrNumber_calls (k : NK) (v : Nat) (hv : v < 18446744073709551616) (big : Bool) (w : World) :
    Calls Tryz.prog 5 #[.int .u8 (k.code.toNat : Int), .int .u64 v, .bool big] w fun e w' => e = .returned (.tuple #[.agg #[.int .u8 (k.code.toNat : Int), .int .u64 (k.wide v : Int), .string ⟨#[]⟩, .slice none 0 0], .string ⟨(k.bytes big v).toArray⟩]) ∧ Below w.heap.size w w' := by
  refine (laws_wrNumber.calls _ _ _ _ _ _ _ _ _ w (k.wn v hv big)).mono ?_
  rintro e w' ⟨v3, rfl, rfl, -, hb⟩
  exact ⟨rfl, hb⟩
theorem wrCount_eval (n : Nat) (hn : n < 4294967296) (big : Bool) : laws_wrCount.f 6 (n : Int) big = some ⟨(cntBytes big n).toArray⟩ := by
  have h1 : IntKind.u64.wrap (n : Int) = n := by unfold IntKind.wrap; simp [IntKind.signed, IntKind.bits]; omega
  have hb : NK.u.bytes big n = cntBytes big n := by
    show (if big then Lib.beBytes 4 (n % 4294967296) else Lib.leBytes 4 (n % 4294967296)) = _
    rw [Nat.mod_eq_of_lt hn]
    rfl
  have := NK.u.wn n (by omega) big
  unfold laws_wrCount.f
  rw [h1, show laws_wrNumber.f 6 117 (n : Int) big = _ from this, Option.bind_some, hb]
theorem wrCount_calls (n : Nat) (hn : n < 4294967296) (big : Bool) (w : World) :
    Calls Tryz.prog 8 #[.int .i64 n, .bool big] w fun e w' => e = .returned (.string ⟨(cntBytes big n).toArray⟩) ∧ Below w.heap.size w w' :=
  laws_wrCount.calls 6 n big _ w (wrCount_eval n hn big)
theorem zeros_4 : laws_wrZeros.f 6 4 8 = some ⟨#[0, 0, 0, 0]⟩ := by kernel_rfl
theorem zeros_0 (s : Int) (hs : s = 1 ∨ s = 2 ∨ s = 4) : laws_wrZeros.f 6 4 s = some ⟨#[]⟩ := by
  rcases hs with rfl | rfl | rfl <;> kernel_rfl
end Go.Proofs.YtldjigfnagfalaaGreatDoor.Given
