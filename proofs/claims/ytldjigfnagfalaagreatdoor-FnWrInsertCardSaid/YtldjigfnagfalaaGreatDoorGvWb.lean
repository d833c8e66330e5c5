/- Plain facts for the law on arrays: bytes, kinds, and what the array of some numbers is written as. -/
import Derived.Test.YtldjigfnagfalaaGreatDoorGvWn
import Derived.Test.YtldjigfnagfalaaGreatDoorGvWe
namespace Go.Proofs.YtldjigfnagfalaaGreatDoor.Given
open Go.RowKit Go.Proofs.YtldjigfnagfalaaGreatDoorW.PrintWords Go.Proofs.YtldjigfnagfalaaGreatDoorW.PrintMore Go.Proofs.YtldjigfnagfalaaGreatDoor.PWi
set_option linter.unusedVariables false
/-- A text of bytes. -/
def bsOf (l : List UInt8) : ByteArray := ⟨l.toArray⟩
theorem bsOf_size (l : List UInt8) : (bsOf l).size = l.length := rfl
theorem bsOf_append (a b : List UInt8) : bsOf a ++ bsOf b = bsOf (a ++ b) := by
  apply ByteArray.ext; simp [bsOf]
theorem bsOf_extract (l : List UInt8) (a b : Nat) : (bsOf l).extract a b = bsOf ((l.drop a).take (b - a)) := by
  apply ByteArray.ext; simp [bsOf]
theorem up_rounds {α : Type} {g : Nat → Option α} (hm : ∀ k, LeO (g k) (g (k + 1))) {r : α} {K : Nat} (h : g K = some r) : ∀ k, K ≤ k → g k = some r := by
  intro k hk
  induction k with
  | zero => obtain rfl : K = 0 := by omega
            exact h
  | succ k ih =>
    rcases Nat.lt_or_ge k K with hlt | hge
    · obtain rfl : K = k + 1 := by omega
      exact h
    · exact hm k r (ih hge)
theorem wn_up (k : NK) (v : Nat) (hv : v < 18446744073709551616) (big : Bool) (K : Nat) (hK : 10 ≤ K) : laws_wrNumber.f K (k.code.toNat : Int) v big = some ((k.code.toNat : Int), (k.wide v : Int), (⟨#[]⟩ : ByteArray), ([] : List S27), bsOf (k.bytes big v)) :=
  up_rounds (fun j => laws_wrNumber.mono _ _ _ j) (k.wn v hv big) K (by have h8 : k.size ≤ 8 := (by cases k <;> decide); omega)
theorem wc_up (n : Nat) (hn : n < 4294967296) (big : Bool) (K : Nat) (hK : 6 ≤ K) : laws_wrCount.f K (n : Int) big = some (bsOf (cntBytes big n)) :=
  up_rounds (fun j => laws_wrCount.mono _ _ j) (wrCount_eval n hn big) K hK
/-- The zeros behind the count. -/
def NK.zeros (k : NK) : List UInt8 := List.replicate (k.head - 4).toNat 0
theorem zeros_up (k : NK) (K : Nat) (hK : 6 ≤ K) : laws_wrZeros.f K 4 (k.size : Int) = some (bsOf k.zeros) := by
  have h : laws_wrZeros.f 6 4 (k.size : Int) = some (bsOf k.zeros) := by cases k <;> kernel_rfl
  exact up_rounds (fun j => laws_wrZeros.mono _ _ j) h K hK
/-- The numbers' bytes. -/
def NK.flat (k : NK) (big : Bool) (vs : List Nat) : List UInt8 := vs.flatMap (k.bytes big)
theorem NK.flat_length (k : NK) (big : Bool) : ∀ vs : List Nat, (k.flat big vs).length = vs.length * k.size
  | [] => by simp [NK.flat]
  | v :: vs => by
    have := NK.flat_length k big vs
    unfold NK.flat at this ⊢
    rw [List.flatMap_cons, List.length_append, k.bytes_length, this, List.length_cons, Nat.succ_mul, Nat.add_comm]
theorem firstBytes_all (k : NK) (big : Bool) (vs : List Nat) (hv : ∀ v ∈ vs, v < 18446744073709551616) : firstBytes (numList k big (vs.map k.wide)) (numList k big (vs.map k.wide)).length = k.flat big vs := by
  unfold firstBytes numList NK.flat
  rw [List.take_length, List.map_map, List.flatMap_map]
  induction vs with
  | nil => rfl
  | cons v vs ih =>
    rw [List.flatMap_cons, List.flatMap_cons, ih (fun x hx => hv x (List.mem_cons_of_mem _ hx))]
    congr 1
    exact bytes_wide k big v (hv v List.mem_cons_self)
/-- The array of some numbers, as it is written. -/
def NK.arr (k : NK) (big : Bool) (vs : List Nat) : List UInt8 := cntBytes big (vs.length * k.size) ++ (k.zeros ++ k.flat big vs)
theorem outBytes_eq (k : NK) (big : Bool) (vs : List Nat) (hv : ∀ v ∈ vs, v < 18446744073709551616) : outBytes k big (vs.map k.wide) = bsOf (k.arr big vs) := by
  unfold outBytes arrBytes NK.arr bsOf
  rw [firstBytes_all k big vs hv, List.append_assoc]
  congr 4
  simp [numList]
/-- A number's value. -/
def NK.el (k : NK) (v : Nat) : S27 := ⟨(k.code.toNat : Int), (k.wide v : Int), ⟨#[]⟩, []⟩
theorem enc_arr (k : NK) (big : Bool) (vs : List Nat) (hv : ∀ v ∈ vs, v < 18446744073709551616) (hl : vs.length ≤ 1000) (n0 : Int) : WrEncode.f [⟨97, n0, ⟨#[k.code]⟩, vs.map k.el⟩] big 0 = some (bsOf (k.arr big vs), true) := by
  have hok : numsOk k (vs.map k.el) = true := by
    refine List.all_eq_true.2 fun y hy => ?_
    obtain ⟨v, hvm, rfl⟩ := List.mem_map.1 hy
    have := wide_lt k v (hv v hvm)
    have e1 : decide (0 ≤ (k.wide v : Int)) = true := decide_eq_true (by omega)
    have e2 : decide ((k.wide v : Int) < 18446744073709551616) = true := decide_eq_true (by omega)
    have e3 : decide ((k.code.toNat : Int) = k.code.toNat) = true := decide_eq_true rfl
    show (decide ((k.code.toNat : Int) = k.code.toNat) && decide (0 ≤ (k.wide v : Int)) && decide ((k.wide v : Int) < 18446744073709551616) && true) = true
    rw [e1, e2, e3]
    rfl
  have hm : (vs.map k.el).map (·.f1.toNat) = vs.map k.wide := by
    rw [List.map_map]
    exact List.map_congr_left fun v _ => by simp [NK.el]
  unfold WrEncode.f
  simp only [NK.of_code]
  rw [if_pos ⟨trivial, trivial, by simpa using hl, hok⟩, hm, outBytes_eq k big vs hv]
theorem kind_at (i : Nat) (hi : i < 9) : ∃ k : NK, bt (⟨#[121, 110, 113, 105, 117, 120, 116, 100, 104]⟩ : ByteArray) (i : Int) = (k.code.toNat : Int) := by
  match i, hi with
  | 0, _ => exact ⟨.y, rfl⟩
  | 1, _ => exact ⟨.n, rfl⟩
  | 2, _ => exact ⟨.q, rfl⟩
  | 3, _ => exact ⟨.i, rfl⟩
  | 4, _ => exact ⟨.u, rfl⟩
  | 5, _ => exact ⟨.x, rfl⟩
  | 6, _ => exact ⟨.t, rfl⟩
  | 7, _ => exact ⟨.d, rfl⟩
  | 8, _ => exact ⟨.h, rfl⟩
theorem one_str (k : NK) : strOfNums [(k.code.toNat : Int)] = ⟨#[k.code]⟩ := by cases k <;> rfl
/-- Where the insertion comes out: the plain law. -/
theorem insert_law (k : NK) (big : Bool) (vs : List Nat) (v : Nat) (j : Nat) (hj : j ≤ vs.length) :
    k.arr big (vs.take j ++ ([v] ++ vs.drop j)) = cntBytes big ((vs.length + 1) * k.size) ++ ((k.arr big vs).drop 4).take ((4 + k.zeros.length + j * k.size) - 4) ++ k.bytes big v ++ ((k.arr big vs).drop (4 + k.zeros.length + j * k.size)) := by
  have hc : (cntBytes big (vs.length * k.size)).length = 4 := cntBytes_length _ _
  have hf : (k.flat big (vs.take j)).length = j * k.size := by rw [k.flat_length, List.length_take, Nat.min_eq_left hj]
  have hsplit : k.flat big vs = k.flat big (vs.take j) ++ k.flat big (vs.drop j) := by
    unfold NK.flat
    rw [← List.flatMap_append, List.take_append_drop]
  have hlen : (vs.take j ++ ([v] ++ vs.drop j)).length = vs.length + 1 := by simp; omega
  have h1 : (k.arr big vs).drop 4 = k.zeros ++ k.flat big vs := by
    unfold NK.arr
    rw [List.drop_left' hc]
  have h2 : ((k.arr big vs).drop 4).take ((4 + k.zeros.length + j * k.size) - 4) = k.zeros ++ k.flat big (vs.take j) := by
    rw [h1, hsplit, ← List.append_assoc]
    exact List.take_left' (by rw [List.length_append, hf]; omega)
  have h3 : (k.arr big vs).drop (4 + k.zeros.length + j * k.size) = k.flat big (vs.drop j) := by
    unfold NK.arr
    rw [hsplit, ← List.append_assoc, ← List.append_assoc]
    exact List.drop_left' (by rw [List.length_append, List.length_append, hc, hf])
  rw [h2, h3]
  unfold NK.arr
  rw [hlen]
  have h4 : k.flat big (vs.take j ++ ([v] ++ vs.drop j)) = k.flat big (vs.take j) ++ (k.bytes big v ++ k.flat big (vs.drop j)) := by
    simp [NK.flat]
  rw [h4]
  simp only [List.append_assoc]
end Go.Proofs.YtldjigfnagfalaaGreatDoor.Given
