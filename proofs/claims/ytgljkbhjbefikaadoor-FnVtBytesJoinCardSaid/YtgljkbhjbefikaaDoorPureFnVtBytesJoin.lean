/- The bytes of a byte string with another inside behind it are its bytes and the other's. -/
import Derived.Test.YtgljkbhjbefikaaDoorVbp
namespace Go.Proofs.YtgljkbhjbefikaaDoor.Pure
open Go.RowKit Go.Proofs.YtgljkbhjbefikaaDoor.PVb Go.Proofs.YtgljkbhjbefikaaDoorW.PrintWords Go.Proofs.YtgljkbhjbefikaaDoorW.PrintLast Go.Proofs.YtgljkbhjbefikaaDoor.Pl Go.Proofs.YtgljkbhjbefikaaDoor.By Go.Proofs.YtgljkbhjbefikaaDoor.Vb
set_option linter.unusedSimpArgs false
set_option linter.unusedVariables false

theorem sn_append (a b : List Int) : strOfNums (a ++ b) = strOfNums a ++ strOfNums b := by
  apply ByteArray.ext
  rw [ByteArray.data_append]
  simp [strOfNums]
theorem sn_size (a : List Int) : (strOfNums a).size = a.length := by
  show (List.map (fun n : Int => UInt8.ofNat n.toNat) a).toArray.size = a.length
  simp
theorem sn_cut (a : List Int) (x : Int) : (strOfNums (a ++ [x])).extract 0 a.length = strOfNums a := by
  apply bytesOf_inj
  rw [bytesOf_extract, List.drop_zero, sn_append, bytesOf_append, List.take_append_of_le_length (by rw [bytesOf_length, sn_size]; exact Nat.le_refl _), List.take_of_length_le (by rw [bytesOf_length, sn_size]; exact Nat.le_refl _)]

def vres : Option (List Int) → ByteArray × Bool
  | some r => (strOfNums (r ++ [0]), true)
  | none => (⟨#[]⟩, false)
theorem vtB (T : ByteArray) (m m' : Int) (L : List Int) (hT : bytesOf T = 98 :: m :: (L ++ [m'])) (hs : T.size ≤ 1099511627776) (hok : okp L.length L = true) :
    Ev (fun k => impl_VtBytes.f k T) (vres (pl L.length L)) := by
  have hz : T.size = L.length + 3 := by rw [← bytesOf_length, hT]; simp
  have e1 : wrap64 ((T.size : Int) - 1) = ((L.length + 2 : Nat) : Int) := by rw [w64 (by omega) (by omega)]; omega
  have hb : bytesOf (T.extract 2 (((L.length + 2 : Nat) : Int)).toNat) = L := by
    rw [bytesOf_extract, hT, Int.toNat_natCast]
    simp
  have hp := par L.length (T.extract 2 (((L.length + 2 : Nat) : Int)).toNat) [] (by rw [← bytesOf_length, hb]; exact Nat.le_refl _) (by rw [← bytesOf_length, hb]; simp; omega) (by rw [hb]; exact hok)
  rw [hb] at hp
  unfold impl_VtBytes.f dbus_DoorBytes.f dbus_varParseByteString.f
  simp only [if_neg (show ¬ (T.size : Int) < 3 by omega), e1, if_pos (show (0 : Int) ≤ 281474976710656 by decide), if_pos (show (2 : Int) ≤ ((L.length + 2 : Nat) : Int) by omega), if_pos (show ((L.length + 2 : Nat) : Int) ≤ (T.size : Int) by omega)]
  cases hr : pl L.length L with
  | none =>
    rw [hr] at hp
    refine Ev.bind (Ev.bind hp (Ev.now _)) ?_
    simp only [ans, Option.isNone_some, if_neg (show ¬ (false = true) by decide)]
    exact Ev_some rfl
  | some r =>
    rw [hr] at hp
    refine Ev.bind (Ev.bind hp (Ev.now _)) ?_
    simp only [ans, Option.isNone_none, if_true]
    exact Ev_some rfl
theorem spB (T : ByteArray) (m m' : Int) (L : List Int) (hT : bytesOf T = 98 :: m :: (L ++ [m'])) (hs : T.size ≤ 1099511627776) (hok : okp L.length L = true) (hn : pl L.length L = none) :
    Ev (fun k => spec_BytesOf.f k T) (⟨#[]⟩, false) := by
  have hz : T.size = L.length + 3 := by rw [← bytesOf_length, hT]; simp
  have e1 : wrap64 ((T.size : Int) - 1) = ((L.length + 2 : Nat) : Int) := by rw [w64 (by omega) (by omega)]; omega
  have hb : ((bytesOf T).take (L.length + 2)).drop 2 = L := by
    rw [hT]
    simp
  have hp := sp T (L.length + 2) (by omega) hs L.length 2 [] (by omega) (by omega) (by simp) (by rw [hb]; exact hok)
  rw [hb, hn] at hp
  unfold spec_BytesOf.f
  simp only [e1]
  exact hp

theorem FnVtBytesJoin : laws_FnVtBytesJoin.Pure := by
  intro a0 a1 b _ _
  refine Ev.rounds ?_
  unfold laws_FnVtBytesJoin.f
  by_cases h0 : (a0.size : Int) > 2147483647
  · simp only [if_pos h0]
    refine Ev_up ?_
    simp only [laws_FnVtBytesJoin.j0, if_true]
    exact Ev_some rfl
  simp only [if_neg h0]
  by_cases h1 : (a1.size : Int) > 2147483647
  · simp only [decide_eq_true h1]
    refine Ev_up ?_
    simp only [laws_FnVtBytesJoin.j0, if_true]
    exact Ev_some rfl
  simp only [decide_eq_false h1]
  refine Ev_up ?_
  simp only [laws_FnVtBytesJoin.j0, if_neg (show ¬ (false = true) by decide)]
  refine Ev.bind (inside a0 b (by omega)) ?_
  refine Ev.bind (inside a1 b (by omega)) ?_
  obtain ⟨m, hm⟩ : ∃ m, bt (mk b) 0 = m := ⟨_, rfl⟩
  have hmb := mk_bytes b
  have hmz := mk_size b
  simp only [hm] at hmb ⊢
  obtain ⟨q0, hq0⟩ : ∃ q, inB m a0.size (bytesOf a0) = q := ⟨_, rfl⟩
  obtain ⟨q1, hq1⟩ : ∃ q, inB m a1.size (bytesOf a1) = q := ⟨_, rfl⟩
  simp only [hq0, hq1]
  have done : ∀ (X Y : ByteArray), Ev (fun k => laws_FnVtBytesJoin.j1 k X Y true) true := by
    intro X Y
    refine Ev_up ?_
    simp only [laws_FnVtBytesJoin.j1, if_true]
    exact Ev_some rfl
  cases q0 with
  | false => simp only [if_neg (show ¬ (false = true) by decide)]; exact done _ _
  | true =>
  cases q1 with
  | false => simp only [if_true, if_neg (show ¬ (false = true) by decide)]; exact done _ _
  | true =>
  simp only [if_true]
  have ok0 : okp (bytesOf a0).length (bytesOf a0) = true := by rw [bytesOf_length]; exact okp_of_in m _ _ hq0
  have ok1 : okp (bytesOf a1).length (bytesOf a1) = true := by rw [bytesOf_length]; exact okp_of_in m _ _ hq1
  obtain ⟨X, hX⟩ : ∃ X, mk b ++ a0 ++ mk b = X := ⟨_, rfl⟩
  obtain ⟨Y, hY⟩ : ∃ Y, mk b ++ a1 ++ mk b = Y := ⟨_, rfl⟩
  have hXb : bytesOf X = m :: (bytesOf a0 ++ [m]) := by rw [← hX, bytesOf_append, bytesOf_append, hmb]; simp
  have hYb : bytesOf Y = m :: (bytesOf a1 ++ [m]) := by rw [← hY, bytesOf_append, bytesOf_append, hmb]; simp
  have hXz : X.size = a0.size + 2 := by rw [← hX, ByteArray.size_append, ByteArray.size_append, hmz]; omega
  have hYz : Y.size = a1.size + 2 := by rw [← hY, ByteArray.size_append, ByteArray.size_append, hmz]; omega
  simp only [hX, hY]
  by_cases hbig : wrap64 ((X.size : Int) + (Y.size : Int)) > 4096
  · simp only [decide_eq_true hbig]; exact done _ _
  simp only [decide_eq_false hbig]
  refine Ev_up ?_
  have h98 : bytesOf (⟨#[98]⟩ : ByteArray) = [98] := by decide
  have z98 : (⟨#[98]⟩ : ByteArray).size = 1 := rfl
  have eX : wrap64 ((X.size : Int) - 1) = ((a0.size + 1 : Nat) : Int) := by rw [w64 (by omega) (by omega)]; omega
  obtain ⟨X', hX'⟩ : ∃ X', X.extract 0 (a0.size + 1) = X' := ⟨_, rfl⟩
  obtain ⟨Y', hY'⟩ : ∃ Y', Y.extract 1 Y.size = Y' := ⟨_, rfl⟩
  have hXb' : bytesOf X' = m :: bytesOf a0 := by
    rw [← hX', bytesOf_extract, hXb, List.drop_zero]
    rw [List.take_succ_cons, List.take_append_of_le_length (by rw [bytesOf_length]; exact Nat.le_refl _), List.take_of_length_le (by rw [bytesOf_length]; exact Nat.le_refl _)]
  have hYb' : bytesOf Y' = bytesOf a1 ++ [m] := by rw [← hY', bytesOf_from, hYb]; rfl
  have hXz' : X'.size = a0.size + 1 := by rw [← bytesOf_length, hXb', List.length_cons, bytesOf_length]
  have hYz' : Y'.size = a1.size + 1 := by rw [← bytesOf_length, hYb']; simp [bytesOf_length]
  have v1 := vtB ((⟨#[98]⟩ : ByteArray) ++ X) m m (bytesOf a0) (by rw [bytesOf_append, h98, hXb]; rfl) (by rw [ByteArray.size_append, z98]; omega) ok0
  have v2 := vtB ((⟨#[98]⟩ : ByteArray) ++ Y) m m (bytesOf a1) (by rw [bytesOf_append, h98, hYb]; rfl) (by rw [ByteArray.size_append, z98]; omega) ok1
  simp only [laws_FnVtBytesJoin.j1, if_neg (show ¬ (false = true) by decide), if_pos (show 1 + X.size ≤ 9223372036854775807 by omega)]
  refine Ev.bind v1 ?_
  cases hr : pl (bytesOf a0).length (bytesOf a0) with
  | none =>
    simp only [vres, if_neg (show ¬ (false = true) by decide)]
    refine Ev.bind (spB ((⟨#[98]⟩ : ByteArray) ++ X) m m (bytesOf a0) (by rw [bytesOf_append, h98, hXb]; rfl) (by rw [ByteArray.size_append, z98]; omega) ok0 hr) ?_
    exact Ev_some rfl
  | some r =>
    have okj : okp (bytesOf a0 ++ bytesOf a1).length (bytesOf a0 ++ bytesOf a1) = true := by
      rw [List.length_append]; exact okp_join _ _ _ (Nat.le_refl _) ok0 ok1
    have v3 := vtB (((⟨#[98]⟩ : ByteArray) ++ X') ++ Y') m m (bytesOf a0 ++ bytesOf a1) (by rw [bytesOf_append, bytesOf_append, h98, hXb', hYb']; simp) (by rw [ByteArray.size_append, ByteArray.size_append, z98]; omega) okj
    have hj := pl_join (bytesOf a0).length (bytesOf a0) (bytesOf a1) r (Nat.le_refl _) hr
    rw [List.length_append, hj, pl_more _ (bytesOf a1).length (bytesOf a1) (by omega) (Nat.le_refl _)] at v3
    simp only [vres, if_true, if_pos (show 1 + Y.size ≤ 9223372036854775807 by omega)]
    refine Ev.bind v2 ?_
    have ne : ¬ (strOfNums (r ++ [0])).toList = ([] : List UInt8) := by
      rw [toList_nil, sn_size, List.length_append]; simp
    simp only [eX, Int.toNat_natCast, hX', hY', if_pos (show (0 : Int) ≤ ((a0.size + 1 : Nat) : Int) by omega), if_pos (show ((a0.size + 1 : Nat) : Int) ≤ (X.size : Int) by omega), if_pos (show 1 + X'.size ≤ 9223372036854775807 by omega), if_pos (show (1 : Int) ≤ (Y.size : Int) by omega), if_pos (show ((⟨#[98]⟩ : ByteArray) ++ X').size + (Y.size - 1) ≤ 9223372036854775807 by rw [ByteArray.size_append, z98]; omega)]
    refine Ev.bind v3 ?_
    refine Ev.congr (fun _ => if_neg ne) ?_
    have hrl := pl_len _ _ _ hr
    rw [bytesOf_length] at hrl
    have hz : (strOfNums (r ++ [0])).size = r.length + 1 := by rw [sn_size]; simp
    have ez : wrap64 (((strOfNums (r ++ [0])).size : Int) - 1) = (r.length : Int) := by rw [hz, w64 (by omega) (by omega)]; omega
    cases ht : pl (bytesOf a1).length (bytesOf a1) with
    | none =>
      simp only [vres, Option.map_none, show ((false == false) = true) from rfl, if_true, if_neg (show ¬ (false = true) by decide)]
      exact Ev_some rfl
    | some t =>
      have htl := pl_len _ _ _ ht
      rw [bytesOf_length] at htl
      have hz2 : (strOfNums (t ++ [0])).size = t.length + 1 := by rw [sn_size]; simp
      have hj2 : strOfNums r ++ strOfNums (t ++ [0]) = strOfNums (r ++ t ++ [0]) := by rw [← sn_append, List.append_assoc]
      have hrz : (strOfNums r).size = r.length := sn_size r
      simp only [vres, Option.map_some, show ((true == true) = true) from rfl, if_true, ez, if_pos (show (0 : Int) ≤ (r.length : Int) by omega), if_pos (show (r.length : Int) ≤ ((strOfNums (r ++ [0])).size : Int) by omega), Int.toNat_natCast, sn_cut, if_pos (show (strOfNums r).size + (strOfNums (t ++ [0])).size ≤ 9223372036854775807 by omega), hj2]
      exact Ev_some (by simp)
end Go.Proofs.YtgljkbhjbefikaaDoor.Pure
