/- WrEncode of one array of numbers, as a function that the print can call. -/
import Derived.Test.YtldjigfnagfalaaGreatDoorGvDe
namespace Go.Proofs.YtldjigfnagfalaaGreatDoor.Given
open Go.RowKit Go.Proofs.YtldjigfnagfalaaGreatDoorW.PrintWords Go.Proofs.YtldjigfnagfalaaGreatDoorW.PrintLast Go.Proofs.YtldjigfnagfalaaGreatDoorW.PrintMore Go.Proofs.YtldjigfnagfalaaGreatDoor.PVa
open Go.Proofs.YtldjigfnagfalaaGreatDoor.PWi (S27 z27 k27 rd_T27)
set_option linter.unusedVariables false
def mk80 (y : S27) : S80 := ⟨y.f0, y.f1, y.f2, []⟩
theorem valIn_leaf (k : Nat) (c n : Int) (s : ByteArray) : impl_valIn.f (k + 2) c n s [] = some (c, n, s, []) := by
  simp [impl_valIn.f, impl_valIn.l0]
theorem wrap64_small {x : Int} (h0 : 0 ≤ x) (h1 : x < 9223372036854775807) : wrap64 (x + 1) = x + 1 := by unfold wrap64; omega
theorem valIn_loop (kids : List S27) (hk : ∀ y ∈ kids, y.f3 = []) (hl : kids.length ≤ 1000) (c n : Int) (s : ByteArray) : ∀ (d j : Nat) (acc : List S80), j + d = kids.length → acc.length ≤ j → impl_valIn.l0 (d + 3) kids (kids.length : Int) (j : Int) c n s acc = some (c, n, s, acc ++ (kids.drop j).map mk80)
  | 0, j, acc, hj, ha => by
    rw [impl_valIn.l0, if_neg (by omega), List.drop_of_length_le (by omega)]
    simp
  | d + 1, j, acc, hj, ha => by
    have hlt : j < kids.length := by omega
    have hrd : rd_T27 kids (j : Int) = kids[j] := by
      show kids.getD (j : Int).toNat z27 = kids[j]
      rw [Int.toNat_natCast, List.getD_eq_getElem?_getD, List.getElem?_eq_getElem hlt]
      rfl
    have h3 : (kids[j]).f3 = [] := hk _ (List.getElem_mem hlt)
    rw [show d + 1 + 3 = (d + 3) + 1 from rfl, impl_valIn.l0, if_pos (by omega), if_pos (by omega), if_pos (by omega), hrd, h3, show d + 3 = (d + 1) + 2 from rfl, valIn_leaf, Option.bind_some, if_pos (by omega), wrap64_small (by omega) (by omega)]
    have ih := valIn_loop kids hk hl c n s d (j + 1) (acc ++ [⟨(kids[j]).f0, (kids[j]).f1, (kids[j]).f2, []⟩]) (by omega) (by simp; omega)
    rw [show ((j + 1 : Nat) : Int) = (j : Int) + 1 from rfl] at ih
    rw [show d + 1 + 2 = d + 3 from rfl, ih, List.drop_eq_getElem_cons hlt, List.map_cons]
    simp [mk80]
theorem valIn_arr (kids : List S27) (hk : ∀ y ∈ kids, y.f3 = []) (hl : kids.length ≤ 1000) (c n : Int) (s : ByteArray) : impl_valIn.f (kids.length + 4) c n s kids = some (c, n, s, kids.map mk80) := by
  rw [impl_valIn.f]
  have := valIn_loop kids hk hl c n s kids.length 0 [] (by omega) (by simp)
  simpa using this
theorem valsIn_arr (kids : List S27) (hk : ∀ y ∈ kids, y.f3 = []) (hl : kids.length ≤ 1000) (c n : Int) (s : ByteArray) : impl_valsIn.f (kids.length + 5) [⟨c, n, s, kids⟩] = some [⟨c, n, s, kids.map mk80⟩] := by
  have hrd : rd_T27 [⟨c, n, s, kids⟩] 0 = ⟨c, n, s, kids⟩ := rfl
  unfold impl_valsIn.f
  rw [show kids.length + 5 = (kids.length + 4) + 1 from rfl, impl_valsIn.l0, if_pos (by simp), if_pos (by omega), if_pos (by simp), hrd, valIn_arr kids hk hl, Option.bind_some, if_pos (by simp), show kids.length + 4 = (kids.length + 3) + 1 from rfl, impl_valsIn.l0, if_neg (by simp [wrap64])]
  rfl
/-- The kind that a letter names. -/
def NK.of (s : ByteArray) : Option NK := if s = ⟨#[121]⟩ then some .y else if s = ⟨#[110]⟩ then some .n else if s = ⟨#[113]⟩ then some .q else if s = ⟨#[105]⟩ then some .i else if s = ⟨#[117]⟩ then some .u else if s = ⟨#[120]⟩ then some .x else if s = ⟨#[116]⟩ then some .t else if s = ⟨#[100]⟩ then some .d else if s = ⟨#[104]⟩ then some .h else none
theorem NK.of_code (k : NK) : NK.of ⟨#[k.code]⟩ = some k := by cases k <;> rfl
theorem NK.of_some {s : ByteArray} {k : NK} (h : NK.of s = some k) : s = ⟨#[k.code]⟩ := by
  unfold NK.of at h
  repeat' split at h
  all_goals first | (cases h; assumption) | cases h
/-- Whether these are numbers of a kind, without anything within them. -/
def numsOk (k : NK) (l : List S27) : Bool := l.all fun y => decide (y.f0 = k.code.toNat) && decide (0 ≤ y.f1) && decide (y.f1 < 18446744073709551616) && y.f3.isEmpty
theorem numsOk_iff {k : NK} {l : List S27} (h : numsOk k l = true) : ∀ y ∈ l, y.f0 = k.code.toNat ∧ 0 ≤ y.f1 ∧ y.f1 < 18446744073709551616 ∧ y.f3 = [] := by
  intro y hy
  have := List.all_eq_true.1 h y hy
  simpa [and_assoc] using this
def outBytes (k : NK) (big : Bool) (ns : List Nat) : ByteArray := ⟨(arrBytes big (k.size : Int) k.head (numList k big ns)).toArray⟩
/-- WrEncode, of one array of numbers from the place 0 on. -/
def WrEncode.f (l0 : List S27) (a1 : Bool) (a2 : Int) : Option (ByteArray × Bool) :=
  match l0 with
  | [x] => match NK.of x.f2 with
    | some k => if x.f0 = 97 ∧ a2 = 0 ∧ x.f3.length ≤ 1000 ∧ numsOk k x.f3 = true then some (outBytes k a1 (x.f3.map (·.f1.toNat)), true) else none
    | none => none
  | _ => none
theorem isNs_of (k : NK) (l : List S27) (h : numsOk k l = true) : IsNs k (l.map mk80) (l.map (·.f1.toNat)) := by
  have hk := numsOk_iff h
  refine ⟨by simp, fun i hi => ?_⟩
  have hi2 : i < l.length := by simpa using hi
  obtain ⟨h0, h1, h2, h3⟩ := hk l[i] (List.getElem_mem hi2)
  have e1 : rd_T80 (l.map mk80) (i : Int) = mk80 l[i] := by
    show (l.map mk80).getD (i : Int).toNat z80 = _
    rw [Int.toNat_natCast, List.getD_eq_getElem?_getD, List.getElem?_eq_getElem hi]
    simp
  have e2 : (l.map (·.f1.toNat)).getD i 0 = (l[i]).f1.toNat := by
    rw [List.getD_eq_getElem?_getD, List.getElem?_eq_getElem (by simpa using hi2)]
    simp
  rw [e1, e2]
  refine ⟨h0, ?_, ?_⟩
  · show (l[i]).f1 = _
    omega
  · omega
set_option maxHeartbeats 16000000 in
set_option maxRecDepth 100000 in
theorem WrEncode.calls (A0 : Option Addr) (c0 : Nat) (l0 : List S27) (a1 : Bool) (a2 : Int) (r1 : ByteArray) (r2 : Bool) (w : World) (hr0 : Kd.C k27 w A0 l0.length l0) (hc0 : l0.length ≤ c0) (h : WrEncode.f l0 a1 a2 = some (r1, r2)) :
    Calls Tryz.prog 6 #[.slice A0 l0.length c0, .bool a1, .int .i64 a2] w fun e w' => e = .returned (.tuple #[.string r1, .bool r2]) ∧ Below w.heap.size w w' := by
  obtain ⟨x, rfl⟩ : ∃ x, l0 = [x] := by
    match l0, h with
    | [x], _ => exact ⟨x, rfl⟩
  obtain ⟨f0, f1, f2, f3⟩ := x
  unfold WrEncode.f at h
  simp only at h
  cases hk : NK.of f2 with
  | none => rw [hk] at h; cases h
  | some k =>
    rw [hk] at h
    simp only at h
    by_cases hc : f0 = 97 ∧ a2 = 0 ∧ f3.length ≤ 1000 ∧ numsOk k f3 = true
    · rw [if_pos hc] at h
      obtain ⟨rfl, rfl, hl, hn⟩ := hc
      obtain rfl := NK.of_some hk
      simp only [Option.some.injEq, Prod.mk.injEq] at h
      obtain ⟨rfl, rfl⟩ := h
      have HVI := Aside0.mk (impl_valsIn.calls (f3.length + 5) A0 c0 [⟨97, f1, ⟨#[k.code]⟩, f3⟩] _ w hr0 hc0 (valsIn_arr f3 (fun y hy => (numsOk_iff hn y hy).2.2.2) hl 97 f1 ⟨#[k.code]⟩))
      have HN := Aside0.mk (isNs_of k f3 hn)
      have HL : Aside0 ((f3.map mk80).length ≤ 1000) := ⟨by simpa using hl⟩
      clear hk hn hr0 hc0 hl
      go_enter Tryz.func6, Tryz.ntmps6
      go_wp2_with fail
      refine (HVI.out).mono ?_
      clear HVI
      rintro r w1 ⟨v, rfl, hR, hb⟩
      obtain ⟨A, m, rfl, hm, hC⟩ := Kd.R_reads hR
      have HDE := Aside0.mk (doorEncode_arr k a1 (f3.map mk80) (f3.map (·.f1.toNat)) HN.out HL.out f1 A m hm w1 hC)
      have HB := Aside0.mk hb
      clear hR hC hb
      go_wp2_with fail
      refine (HDE.out).mono ?_
      clear HDE
      rintro r w2 ⟨rfl, hb2⟩
      have HB2 := Aside0.mk (below_step HB.out hb2)
      clear hb2
      go_wp2_with fail
      go_quiet (fail)
      go_wp2
      go_ret2
      exact ⟨rfl, below_drewN HB2.out _⟩
    · rw [if_neg hc] at h; cases h
end Go.Proofs.YtldjigfnagfalaaGreatDoor.Given
