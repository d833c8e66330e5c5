/- strconv's ParseUint at a written base and size, and errors.New, as plain functions of the text. -/
import Derived.Test.YtgljkbhjbefikaaDoorProg
import Derived.Test.YtgljkbhjbefikaaDoorWWords
import Derived.WalkKit
import Derived.Below
import Derived.Lib.Strings
import Derived.Lib.Walk
import Derived.Lib.BufferWrite
import Derived.Lib.UnsafeStr
import Derived.Lib.Hide
import Derived.Lib.ConvBytes
import Derived.Lib.IfaceEq
import Derived.Laws.MakeOwn
import Derived.Laws.Strings3
import Derived.Laws.Closers25
import Derived.Laws.Closers25b
import Derived.RegionTactic
import Derived.Deep.RegionWith
import Derived.BigCall
import Derived.BigGuard
import Derived.LaidLaws
import Derived.KernelRfl
namespace Go.Proofs.YtgljkbhjbefikaaDoor.Given
open Go.RowKit Go.Proofs.YtgljkbhjbefikaaDoorW.PrintWords

/-- An error's value: nil, or some value of an interface. -/
def IsErr (v : Value) : Option Int → Prop
  | none => v = .nilIface
  | some _ => ∃ t u, v = .iface t u
def errNew.f (_ : ByteArray) : Option (Option Int) := some (some 0)
set_option maxHeartbeats 1000000 in
theorem errNew.calls (a0 : ByteArray) (r : Option Int) (w : World) (h : errNew.f a0 = some r) :
    Calls Tryd.prog 37 #[.string a0] w fun e w' => ∃ v, e = .returned v ∧ IsErr v r ∧ Below w.heap.size w w' := by
  have H : some 0 = r := Option.some.inj h
  subst H
  clear h
  go_enter Tryd.func37, Tryd.ntmps37
  go_wp2
  go_ret
  exact ⟨_, rfl, ⟨_, _, rfl⟩, (Below.refl _ _).alloc (Nat.le_refl _) _⟩

/-- The two sentinels of strconv's hold some errors. -/
def Glob (w : World) : Prop := (∃ t u, w.cell? ⟨5, 0, none⟩ = some (.iface t u)) ∧ (∃ t u, w.cell? ⟨6, 0, none⟩ = some (.iface t u))
theorem Glob.below {w w' : World} {n : Nat} (h : Glob w) (hb : Below n w w') (hn : w.heap.size ≤ n) : Glob w' := by
  obtain ⟨⟨t, u, h1⟩, t2, u2, h2⟩ := h
  exact ⟨⟨t, u, (hb.cell (p := ⟨5, 0, none⟩) (Nat.lt_of_lt_of_le (block_lt_of_cell h1) hn)).trans h1⟩, t2, u2, (hb.cell (p := ⟨6, 0, none⟩) (Nat.lt_of_lt_of_le (block_lt_of_cell h2) hn)).trans h2⟩

theorem infoU8 : (Tryd.prog.info? 5).map (fun i => (i.zero, i.size, i.bytes)) = some (some (.int .u8 0), 1, 1) := by kernel_rfl

set_option maxHeartbeats 4000000 in
set_option maxRecDepth 100000 in
/-- A copy of a text. -/
theorem clone.calls (s : ByteArray) (w : World) (hlim : s.size ≤ 281474976710656) :
    Calls Tryd.prog 98 #[.string s] w fun e w' => e = .returned (.string s) ∧ Below w.heap.size w w' := by
  by_cases h0 : s.size = 0
  · have hs : s = ⟨#[]⟩ := by
      apply ByteArray.ext
      exact Array.eq_empty_of_size_eq_zero h0
    subst hs
    go_enter Tryd.func98, Tryd.ntmps98
    go_wp2
    go_ret
    exact ⟨rfl, Below.refl _ _⟩
  · obtain ⟨i0, hi, hzz⟩ := Option.map_eq_some_iff.1 infoU8
    simp only [Prod.mk.injEq] at hzz
    obtain ⟨hz0, hz1, hz2⟩ := hzz
    have hinfo : (Tryd.prog.info? 5).map (·.size) = some 1 := by rw [hi]; simp [hz1]
    have hco : Tryd.prog.cellsOf 5 = 1 := by simp [Program.cellsOf, hi, hz1]
    obtain ⟨M, hM⟩ : ∃ M, M = madeCells (Value.int .u8 0).cells (((s.size : Nat) : Int).toNat * i0.size) := ⟨_, rfl⟩
    have hMs : M.size = s.size := by rw [hM, size_madeCells, hz1]; simp
    have hmk : ∀ W : World, (Instr.makeSlice 26 (.int .i64 (s.size : Int)) (.int .i64 (s.size : Int))).run Tryd.prog W = .ok (.slice (some ⟨W.heap.size, 0, none⟩) s.size s.size) (W.alloc (.cells M 5)) := fun W => by
      have h := run_make (P := Tryd.prog) W 26 5 i0 (.int .u8 0) Tryd.underlying26 hi hz0 .i64 .i64 (s.size : Int) (s.size : Int) (by omega) (by omega) (by rw [hz2]; omega) (by omega)
      rw [← hM] at h
      simpa using h
    clear hM
    have hcp := Lib.run_copy_row_string (P := Tryd.prog) (w.alloc (.cells M 5)) 26 9 3 5 w.heap.size 0 s.size s.size s M 5 Tryd.underlying26 hinfo (heap_alloc_new w _) (Nat.le_refl _) (by omega)
    obtain ⟨Y, hY⟩ : ∃ Y, Y = (M.toList.take 0 ++ Lib.byteCells s.data.toList ++ M.toList.drop (0 + s.size)).toArray := ⟨_, rfl⟩
    rw [← hY] at hcp
    have hYl : Y.toList = Lib.byteCells s.data.toList := by
      rw [hY, List.toList_toArray, List.take_zero, List.nil_append, List.drop_of_length_le (by rw [Array.length_toList]; omega), List.append_nil]
    have hYs : Y.size = s.size := by rw [← Array.length_toList, hYl, Lib.byteCells_length, ← Lib.size_eq]
    have hgY : ((w.alloc (.cells M 5)).setRow w.heap.size Y).heap[w.heap.size]? = some (.cells Y 5 (0, 0)) := setRow_heap _ _ M _ 5 (0, 0) (heap_alloc_new w _)
    have hne : s.data.toList ≠ [] := fun e => h0 (by rw [Lib.size_eq, e]; rfl)
    have hUS := Lib.run_unsafeString_row (P := Tryd.prog) ((w.alloc (.cells M 5)).setRow w.heap.size Y) 169 3 9 5 Tryd.underlying169 hco w.heap.size Y.size (by unfold World.shape?; rw [hgY]) s.data.toList hne (by rw [← Lib.size_eq]; omega) (by rw [← Lib.size_eq]; omega)
      (fun j x hx => Lib.cells_of_row hgY Y.size j _ (by rw [List.take_of_length_le (by rw [Array.length_toList]; exact Nat.le_refl _), hYl]; simp [Lib.byteCells, hx]))
    rw [← Lib.size_eq] at hUS
    clear hY
    go_enter Tryd.func98, Tryd.ntmps98
    go_wp2
    go_ret
    have hb1 : Below w.heap.size w (w.alloc (.cells M 5)) := (Below.refl _ w).alloc (Nat.le_refl _) _
    have hb2 : Below w.heap.size (w.alloc (.cells M 5)) ((w.alloc (.cells M 5)).setRow w.heap.size Y) := ⟨rfl, rfl, rfl, by simp, fun k hk => setRow_other _ _ _ _ (by omega)⟩
    exact ⟨rfl, Lib.below_freeze (hb1.trans hb2) (p := ⟨w.heap.size, 0, none⟩) (Nat.le_refl _) _⟩

set_option maxHeartbeats 6400000 in
set_option maxRecDepth 100000 in
theorem syn.calls (fn s : ByteArray) (te : TypeId) (pe : Value) (w : World) (hlim : s.size ≤ 281474976710656) (hv : w.cell? ⟨5, 0, none⟩ = some (.iface te pe)) :
    Calls Tryd.prog 84 #[.string fn, .string s] w fun e w' => ∃ N, e = .returned (.pointer (some ⟨N, 0, none⟩)) ∧ Below w.heap.size w w' := by
  have hG : 5 < w.heap.size := block_lt_of_cell hv
  have hvd : w.drew.cell? ⟨5, 0, none⟩ = some (.iface te pe) := hv
  go_enter Tryd.func84, Tryd.ntmps84
  go_wp2
  go_region_with (
      go_at_call 98
      refine (clone.calls s _ hlim).mono ?_
      rintro e w2 ⟨rfl, hbel⟩
      have hv2 : w2.cell? ⟨5, 0, none⟩ = some (.iface te pe) := (hbel.cell (show (⟨5, 0, none⟩ : Addr).block < w.drew.heap.size from hG)).trans hvd)
  all_goals (
    go_wp2
    go_ret
    have hs2 : w.heap.size ≤ w2.heap.size := hbel.size
    exact ⟨_, rfl, ((Below.drew (Below.refl _ w)).trans hbel).alloc hs2 _⟩)

set_option maxHeartbeats 6400000 in
set_option maxRecDepth 100000 in
theorem rng.calls (fn s : ByteArray) (te : TypeId) (pe : Value) (w : World) (hlim : s.size ≤ 281474976710656) (hv : w.cell? ⟨6, 0, none⟩ = some (.iface te pe)) :
    Calls Tryd.prog 85 #[.string fn, .string s] w fun e w' => ∃ N, e = .returned (.pointer (some ⟨N, 0, none⟩)) ∧ Below w.heap.size w w' := by
  have hG : 6 < w.heap.size := block_lt_of_cell hv
  have hvd : w.drew.cell? ⟨6, 0, none⟩ = some (.iface te pe) := hv
  go_enter Tryd.func85, Tryd.ntmps85
  go_wp2
  go_region_with (
      go_at_call 98
      refine (clone.calls s _ hlim).mono ?_
      rintro e w2 ⟨rfl, hbel⟩
      have hv2 : w2.cell? ⟨6, 0, none⟩ = some (.iface te pe) := (hbel.cell (show (⟨6, 0, none⟩ : Addr).block < w.drew.heap.size from hG)).trans hvd)
  all_goals (
    go_wp2
    go_ret
    have hs2 : w.heap.size ≤ w2.heap.size := hbel.size
    exact ⟨_, rfl, ((Below.drew (Below.refl _ w)).trans hbel).alloc hs2 _⟩)

theorem cmpS : (Tryd.prog.info? 144).map (·.comparable) = some true := by kernel_rfl
set_option maxHeartbeats 4000000 in
set_option maxRecDepth 100000 in
/-- What the outer package makes of the inner one's two errors. -/
theorem toErr.calls (fn s : ByteArray) (base bits m : Int) (w : World) (hlim : s.size ≤ 281474976710656) (hG : Glob w) (hm : m = 1 ∨ m = 2) :
    Calls Tryd.prog 52 #[.string fn, .string s, .int .i64 base, .int .i64 bits, .iface 144 (.int .i64 m)] w fun e w' => ∃ t u, e = .returned (.iface t u) ∧ Below w.heap.size w w' := by
  obtain ⟨⟨t1, u1, h1⟩, t2, u2, h2⟩ := hG
  rcases hm with rfl | rfl
  · have hq12 : ∀ W, (binOp .eql 37 (.iface 144 (.int .i64 1)) (.iface 144 (.int .i64 2))).run Tryd.prog W = .ok (.bool false) W := fun W => Lib.run_eql_iface_int W 1 2 Tryd.underlying37 cmpS Tryd.underlying144
    have hq11 : ∀ W, (binOp .eql 37 (.iface 144 (.int .i64 1)) (.iface 144 (.int .i64 1))).run Tryd.prog W = .ok (.bool true) W := fun W => Lib.run_eql_iface_int W 1 1 Tryd.underlying37 cmpS Tryd.underlying144
    have H1 := Lib.hid h1
    have H2 := Lib.hid h2
    clear h1 h2
    go_enter Tryd.func52, Tryd.ntmps52
    go_wp2_with (go_at_call 85; refine (rng.calls fn s t2 u2 _ hlim H2.out).mono ?_; rintro e w2 ⟨N, rfl, h3⟩)
    go_ret
    exact ⟨_, _, rfl, h3⟩
  · have hq22 : ∀ W, (binOp .eql 37 (.iface 144 (.int .i64 2)) (.iface 144 (.int .i64 2))).run Tryd.prog W = .ok (.bool true) W := fun W => Lib.run_eql_iface_int W 2 2 Tryd.underlying37 cmpS Tryd.underlying144
    have H1 := Lib.hid h1
    have H2 := Lib.hid h2
    clear h1 h2
    go_enter Tryd.func52, Tryd.ntmps52
    go_wp2_with (go_at_call 84; refine (syn.calls fn s t1 u1 _ hlim H1.out).mono ?_; rintro e w2 ⟨N, rfl, h3⟩)
    go_ret
    exact ⟨_, _, rfl, h3⟩

/-- A byte's value as a digit of a great base (255: it is none). -/
def dg (c : Int) : Int := if 48 ≤ c ∧ c ≤ 57 then c - 48 else if 97 ≤ bits .or .u8 c 32 ∧ bits .or .u8 c 32 ≤ 122 then bits .or .u8 c 32 - 87 else 255
/-- What comes of the digits: a number, bad syntax, too great. -/
inductive PE where
  | ok (n : Int)
  | syn
  | rng
def puGo (B M : Int) : Int → List UInt8 → PE
  | a, [] => .ok a
  | a, c :: r => if dg c.toNat ≥ B then .syn else if a * B + dg c.toNat > M then .rng else puGo B M (a * B + dg c.toNat) r
def PE.tuple (M : Int) : PE → Value
  | .ok n => .tuple #[.int .u64 n, .nilIface]
  | .syn => .tuple #[.int .u64 0, .iface 144 (.int .i64 2)]
  | .rng => .tuple #[.int .u64 M, .iface 144 (.int .i64 1)]
/-- What the outer ParseUint hands back: the number, and whether there is an error. -/
def PE.out (M : Int) : PE → Int × Option Int
  | .ok n => (n, none)
  | .syn => (0, some 0)
  | .rng => (M, some 0)
theorem puGo_digit {B M a : Int} {c : UInt8} {r : List UInt8} {d : Int} (h : dg c.toNat = d) : puGo B M a (c :: r) = if d ≥ B then .syn else if a * B + d > M then .rng else puGo B M (a * B + d) r := by
  subst h; rfl

theorem lower.calls (c l : Int) (w : World) (h : bits .or .u8 c 32 = l) :
    Calls Tryd.prog 82 #[.int .u8 c] w fun e w' => e = .returned (.int .u8 l) ∧ w = w' := by
  subst h
  go_enter Tryd.func82, Tryd.ntmps82
  go_wp2
  go_ret
  exact ⟨rfl, rfl⟩
theorem bw_below (w : World) (e : TypeId) (s : ByteArray) : Below w.heap.size w (Lib.bytesWorld w e s) :=
  Lib.below_freeze (((Below.drew (Below.refl _ w))).alloc (Nat.le_refl _) _) (p := ⟨w.heap.size, (Lib.bytesCells w e s).size, none⟩) (Nat.le_refl _) _

set_option maxHeartbeats 32000000 in
set_option maxRecDepth 100000 in
theorem inner_16_8.calls (t : ByteArray) (hne : t.size ≠ 0) (hmax : t.size ≤ 281474976710656) (w : World) :
    Calls Tryd.prog 51 #[.string t, .int .i64 16, .int .i64 8] w fun e w' => e = .returned (PE.tuple 255 (puGo 16 255 0 t.data.toList)) ∧ w' = Lib.bytesWorld w 5 t := by
  have hemp : t.toList.isEmpty = false := by
    rw [← decide_eq_emptyBytes]
    exact decide_eq_false (fun h => hne (by rw [h]; rfl))
  have hcv := Lib.run_convert_string_bytes (P := Tryd.prog) w 9 26 5 t (u := .string) Tryd.underlying9 Tryd.underlying26 Tryd.underlying5
  have hB : ∀ j, j < t.size → (Lib.bytesWorld w 5 t).cell? ⟨w.heap.size, j, none⟩ = some (.int .u8 (t.data.toList.getD j 0).toNat) := fun j hj => Lib.bytesWorld_cell w 5 t j hj
  obtain ⟨W1, hW1⟩ : ∃ W1, W1 = Lib.bytesWorld w 5 t := ⟨_, rfl⟩
  rw [← hW1] at hcv hB ⊢
  clear hW1
  obtain ⟨bs, hL⟩ : ∃ bs, bs = t.data.toList := ⟨_, rfl⟩
  have hLn : bs.length = t.size := by rw [hL, Lib.size_eq]
  rw [← hL] at hB ⊢
  clear hL
  have HB := Lib.hid hB
  clear hB
  go_enter Tryd.func51, Tryd.ntmps51
  go_wp2
  go_loop [12, 13, 101] (fun vu vn vi => ∃ (k : Nat) (a : Int), vu = .bool false ∧ vn = .int .u64 a ∧ vi = .int .i64 k ∧ k ≤ t.size ∧ Hid (0 ≤ a ∧ a ≤ 255 ∧ puGo 16 255 0 bs = puGo 16 255 a (bs.drop k)))
    (fun _ _ vi => t.size - (intOf vi).toNat)
  case atStart => exact ⟨0, 0, rfl, rfl, rfl, by omega, by omega, by omega, rfl⟩
  case round =>
    obtain ⟨k, a, rfl, rfl, rfl, hk, hh⟩ := hrel
    obtain ⟨a0, a1, hdec⟩ := hh.out
    clear hh
    by_cases hkn : k < t.size
    · have hc := HB.out k hkn
      have hdrop : bs.drop k = bs[k]'(by omega) :: bs.drop (k + 1) := List.drop_eq_getElem_cons (by omega)
      have hget : bs.getD k 0 = bs[k]'(by omega) := by simp [List.getD, List.getElem?_eq_getElem (show k < bs.length by omega)]
      rw [hdrop] at hdec
      rw [hget] at hc
      generalize bs[k]'(by omega) = u at hc hdec
      obtain ⟨c, hcu⟩ : ∃ c : Int, (u.toNat : Int) = c := ⟨_, rfl⟩
      have hcb : 0 ≤ c ∧ c ≤ 255 := by have := u.toNat_lt; omega
      obtain ⟨c0, c1⟩ := hcb
      rw [hcu] at hc
      obtain ⟨l, hl⟩ : ∃ l : Int, bits .or .u8 c 32 = l := ⟨_, rfl⟩
      have l0 : 0 ≤ l := by rw [← hl]; exact bits_lo_u8 .or c 32
      have l1 : l ≤ 255 := by rw [← hl]; have := bits_hi_u8 .or c 32; omega
      have h95 : c = 95 → l = 127 := by rintro rfl; rw [← hl]; decide
      have HCU := Lib.hid hcu
      have HL := Lib.hid hl
      have HD := Lib.hid hdec
      clear hdrop hget hcu hl hdec
      by_cases hdig : 48 ≤ c ∧ c ≤ 57
      · obtain ⟨hd0, hd1⟩ := hdig
        have hdg : dg u.toNat = c - 48 := by rw [HCU.out]; unfold dg; rw [if_pos ⟨hd0, hd1⟩]
        have hw8 : 0 ≤ c - 48 := by omega
        have n95 : (c == 95) = false := by rw [beq_eq_false_iff_ne]; omega
        have HF := Lib.hid (puGo_digit (B := 16) (M := 255) (a := a) (r := bs.drop (k + 1)) hdg)
        clear hdg h95
        by_cases hbig : c - 48 ≥ 16
        · have HE : Hid (puGo 16 255 0 bs = .syn) := Lib.hid (by rw [HD.out, HF.out, if_pos hbig])
          go_wp2
          go_ret2
          exact ⟨by rw [HE.out]; rfl, rfl⟩
        · by_cases hov : a * 16 + (c - 48) > 255
          · have HE : Hid (puGo 16 255 0 bs = .rng) := Lib.hid (by rw [HD.out, HF.out, if_neg hbig, if_pos hov])
            have hsm : c - 48 < 16 := by omega
            clear hbig
            go_wp2
            all_goals go_ret2
            all_goals exact ⟨by rw [HE.out]; rfl, rfl⟩
          · have HE : Hid (0 ≤ a * 16 + (c - 48) ∧ a * 16 + (c - 48) ≤ 255 ∧ puGo 16 255 0 bs = puGo 16 255 (a * 16 + (c - 48)) (bs.drop (k + 1))) := Lib.hid ⟨by omega, by omega, by rw [HD.out, HF.out, if_neg hbig, if_neg hov]⟩
            have hsm : c - 48 < 16 := by omega
            have hov' : a * 16 + (c - 48) ≤ 255 := by omega
            clear hbig hov
            go_wp2
            refine ⟨⟨k + 1, a * 16 + (c - 48), rfl, (by first | rfl | (congr 1; omega)), (by first | rfl | (congr 1; omega)), by omega, HE⟩, by simp [intOf]; omega⟩
      · by_cases hlet : 97 ≤ l ∧ l ≤ 122
        · obtain ⟨hd0, hd1⟩ := hlet
          have n95 : (c == 95) = false := by rw [beq_eq_false_iff_ne]; omega
          have hdg : dg u.toNat = l - 87 := by rw [HCU.out]; unfold dg; rw [if_neg hdig, HL.out, if_pos ⟨hd0, hd1⟩]
          have hndig : c < 48 ∨ 57 < c := by omega
          have HF := Lib.hid (puGo_digit (B := 16) (M := 255) (a := a) (r := bs.drop (k + 1)) hdg)
          clear hdg h95 hdig
          have e1 : (l - 97 + 10 : Int) = l - 87 := by omega
          have HE1 := Lib.hid e1
          clear e1
          by_cases hbig : l - 87 ≥ 16
          · have HE : Hid (puGo 16 255 0 bs = .syn) := Lib.hid (by rw [HD.out, HF.out, if_pos hbig])
            have hbig' : l - 97 + 10 ≥ 16 := by omega
            clear hbig
            rcases hndig with hn | hn
            all_goals
              go_wp2_with (go_at_call 82; refine (lower.calls _ _ _ HL.out).mono ?_; rintro e w' ⟨rfl, rfl⟩)
              go_ret2
              exact ⟨by rw [HE.out]; rfl, rfl⟩
          · by_cases hov : a * 16 + (l - 87) > 255
            · have HE : Hid (puGo 16 255 0 bs = .rng) := Lib.hid (by rw [HD.out, HF.out, if_neg hbig, if_pos hov])
              have hsm : l - 97 + 10 < 16 := by omega
              have hov' : a * 16 + (l - 97 + 10) > 255 := by omega
              clear hbig hov
              rcases hndig with hn | hn
              all_goals
                go_wp2_with (go_at_call 82; refine (lower.calls _ _ _ HL.out).mono ?_; rintro e w' ⟨rfl, rfl⟩)
                all_goals go_ret2
                all_goals exact ⟨by rw [HE.out]; rfl, rfl⟩
            · have HE : Hid (0 ≤ a * 16 + (l - 97 + 10) ∧ a * 16 + (l - 97 + 10) ≤ 255 ∧ puGo 16 255 0 bs = puGo 16 255 (a * 16 + (l - 97 + 10)) (bs.drop (k + 1))) := Lib.hid (by rw [HE1.out]; exact ⟨by omega, by omega, by rw [HD.out, HF.out, if_neg hbig, if_neg hov]⟩)
              have hsm : l - 97 + 10 < 16 := by omega
              have hov' : a * 16 + (l - 97 + 10) ≤ 255 := by omega
              clear hbig hov
              rcases hndig with hn | hn
              all_goals
                go_wp2_with (go_at_call 82; refine (lower.calls _ _ _ HL.out).mono ?_; rintro e w' ⟨rfl, rfl⟩)
                refine ⟨⟨k + 1, a * 16 + (l - 97 + 10), rfl, (by first | rfl | (congr 1; omega)), (by first | rfl | (congr 1; omega)), by omega, HE⟩, by simp [intOf]; omega⟩
        · have hdg : dg u.toNat = 255 := by rw [HCU.out]; unfold dg; rw [if_neg hdig, HL.out, if_neg hlet]
          have HE : Hid (puGo 16 255 0 bs = .syn) := Lib.hid (by rw [HD.out, puGo_digit hdg, if_pos (by decide)])
          have hnl : l < 97 ∨ 122 < l := by omega
          have hnd : c < 48 ∨ 57 < c := by omega
          clear hdg hlet hdig h95
          obtain ⟨q, hq⟩ : ∃ q, (c == 95) = q := ⟨_, rfl⟩
          cases q
          all_goals
            rcases hnl with hn | hn
            all_goals
              rcases hnd with hm | hm
              all_goals
                go_wp2_with (go_at_call 82; refine (lower.calls _ _ _ HL.out).mono ?_; rintro e w' ⟨rfl, rfl⟩)
                go_ret2
                exact ⟨by rw [HE.out]; rfl, rfl⟩
    · have hkk : k = t.size := by omega
      have HE : Hid (puGo 16 255 0 bs = .ok a) := Lib.hid (by rw [hdec, List.drop_eq_nil_of_le (by omega)]; rfl)
      clear hdec hkn
      subst hkk
      go_wp2
      go_ret2
      exact ⟨by rw [HE.out]; rfl, rfl⟩

set_option maxHeartbeats 8000000 in
set_option maxRecDepth 100000 in
theorem pub_16_8.calls (t : ByteArray) (hne : t.size ≠ 0) (hmax : t.size ≤ 281474976710656) (w : World) (hG : Glob w) :
    Calls Tryd.prog 38 #[.string t, .int .i64 16, .int .i64 8] w fun e w' => ∃ v, e = .returned (.tuple #[.int .u64 (PE.out 255 (puGo 16 255 0 t.data.toList)).1, v]) ∧ IsErr v (PE.out 255 (puGo 16 255 0 t.data.toList)).2 ∧ Below w.heap.size w w' := by
  obtain ⟨p, hp⟩ : ∃ p, puGo 16 255 0 t.data.toList = p := ⟨_, rfl⟩
  have HI := fun W => inner_16_8.calls t hne hmax W
  rw [hp] at HI ⊢
  clear hp
  have hb := bw_below w 5 t
  have HGW := Lib.hid hG
  have HG2 := Lib.hid (hG.below hb (Nat.le_refl _))
  clear hG
  cases p with
  | ok n =>
    simp only [PE.tuple] at HI
    simp only [PE.out]
    go_enter Tryd.func38, Tryd.ntmps38
    go_wp2_with (go_at_call 51; refine (HI _).mono ?_; rintro e w' ⟨rfl, rfl⟩)
    go_ret2
    exact ⟨_, rfl, rfl, hb⟩
  | syn =>
    simp only [PE.tuple] at HI
    simp only [PE.out]
    go_enter Tryd.func38, Tryd.ntmps38
    go_wp2_with (first
      | (go_at_call 51; refine (HI _).mono ?_; rintro e w' ⟨rfl, rfl⟩)
      | (go_at_call 52; refine (toErr.calls _ _ _ _ 2 _ hmax HG2.out (.inr rfl)).mono ?_; rintro e w2 ⟨t2, u2, rfl, h3⟩))
    go_ret2
    exact ⟨_, rfl, ⟨_, _, rfl⟩, hb.trans (h3.mono hb.size)⟩
  | rng =>
    simp only [PE.tuple] at HI
    simp only [PE.out]
    go_enter Tryd.func38, Tryd.ntmps38
    go_wp2_with (first
      | (go_at_call 51; refine (HI _).mono ?_; rintro e w' ⟨rfl, rfl⟩)
      | (go_at_call 52; refine (toErr.calls _ _ _ _ 1 _ hmax HG2.out (.inl rfl)).mono ?_; rintro e w2 ⟨t2, u2, rfl, h3⟩))
    go_ret2
    exact ⟨_, rfl, ⟨_, _, rfl⟩, hb.trans (h3.mono hb.size)⟩

set_option maxHeartbeats 32000000 in
set_option maxRecDepth 100000 in
theorem inner_8_8.calls (t : ByteArray) (hne : t.size ≠ 0) (hmax : t.size ≤ 281474976710656) (w : World) :
    Calls Tryd.prog 51 #[.string t, .int .i64 8, .int .i64 8] w fun e w' => e = .returned (PE.tuple 255 (puGo 8 255 0 t.data.toList)) ∧ w' = Lib.bytesWorld w 5 t := by
  have hemp : t.toList.isEmpty = false := by
    rw [← decide_eq_emptyBytes]
    exact decide_eq_false (fun h => hne (by rw [h]; rfl))
  have hcv := Lib.run_convert_string_bytes (P := Tryd.prog) w 9 26 5 t (u := .string) Tryd.underlying9 Tryd.underlying26 Tryd.underlying5
  have hB : ∀ j, j < t.size → (Lib.bytesWorld w 5 t).cell? ⟨w.heap.size, j, none⟩ = some (.int .u8 (t.data.toList.getD j 0).toNat) := fun j hj => Lib.bytesWorld_cell w 5 t j hj
  obtain ⟨W1, hW1⟩ : ∃ W1, W1 = Lib.bytesWorld w 5 t := ⟨_, rfl⟩
  rw [← hW1] at hcv hB ⊢
  clear hW1
  obtain ⟨bs, hL⟩ : ∃ bs, bs = t.data.toList := ⟨_, rfl⟩
  have hLn : bs.length = t.size := by rw [hL, Lib.size_eq]
  rw [← hL] at hB ⊢
  clear hL
  have HB := Lib.hid hB
  clear hB
  go_enter Tryd.func51, Tryd.ntmps51
  go_wp2
  go_loop [12, 13, 101] (fun vu vn vi => ∃ (k : Nat) (a : Int), vu = .bool false ∧ vn = .int .u64 a ∧ vi = .int .i64 k ∧ k ≤ t.size ∧ Hid (0 ≤ a ∧ a ≤ 255 ∧ puGo 8 255 0 bs = puGo 8 255 a (bs.drop k)))
    (fun _ _ vi => t.size - (intOf vi).toNat)
  case atStart => exact ⟨0, 0, rfl, rfl, rfl, by omega, by omega, by omega, rfl⟩
  case round =>
    obtain ⟨k, a, rfl, rfl, rfl, hk, hh⟩ := hrel
    obtain ⟨a0, a1, hdec⟩ := hh.out
    clear hh
    by_cases hkn : k < t.size
    · have hc := HB.out k hkn
      have hdrop : bs.drop k = bs[k]'(by omega) :: bs.drop (k + 1) := List.drop_eq_getElem_cons (by omega)
      have hget : bs.getD k 0 = bs[k]'(by omega) := by simp [List.getD, List.getElem?_eq_getElem (show k < bs.length by omega)]
      rw [hdrop] at hdec
      rw [hget] at hc
      generalize bs[k]'(by omega) = u at hc hdec
      obtain ⟨c, hcu⟩ : ∃ c : Int, (u.toNat : Int) = c := ⟨_, rfl⟩
      have hcb : 0 ≤ c ∧ c ≤ 255 := by have := u.toNat_lt; omega
      obtain ⟨c0, c1⟩ := hcb
      rw [hcu] at hc
      obtain ⟨l, hl⟩ : ∃ l : Int, bits .or .u8 c 32 = l := ⟨_, rfl⟩
      have l0 : 0 ≤ l := by rw [← hl]; exact bits_lo_u8 .or c 32
      have l1 : l ≤ 255 := by rw [← hl]; have := bits_hi_u8 .or c 32; omega
      have h95 : c = 95 → l = 127 := by rintro rfl; rw [← hl]; decide
      have HCU := Lib.hid hcu
      have HL := Lib.hid hl
      have HD := Lib.hid hdec
      clear hdrop hget hcu hl hdec
      by_cases hdig : 48 ≤ c ∧ c ≤ 57
      · obtain ⟨hd0, hd1⟩ := hdig
        have hdg : dg u.toNat = c - 48 := by rw [HCU.out]; unfold dg; rw [if_pos ⟨hd0, hd1⟩]
        have hw8 : 0 ≤ c - 48 := by omega
        have n95 : (c == 95) = false := by rw [beq_eq_false_iff_ne]; omega
        have HF := Lib.hid (puGo_digit (B := 8) (M := 255) (a := a) (r := bs.drop (k + 1)) hdg)
        clear hdg h95
        by_cases hbig : c - 48 ≥ 8
        · have HE : Hid (puGo 8 255 0 bs = .syn) := Lib.hid (by rw [HD.out, HF.out, if_pos hbig])
          go_wp2
          go_ret2
          exact ⟨by rw [HE.out]; rfl, rfl⟩
        · by_cases hov : a * 8 + (c - 48) > 255
          · have HE : Hid (puGo 8 255 0 bs = .rng) := Lib.hid (by rw [HD.out, HF.out, if_neg hbig, if_pos hov])
            have hsm : c - 48 < 8 := by omega
            clear hbig
            go_wp2
            all_goals go_ret2
            all_goals exact ⟨by rw [HE.out]; rfl, rfl⟩
          · have HE : Hid (0 ≤ a * 8 + (c - 48) ∧ a * 8 + (c - 48) ≤ 255 ∧ puGo 8 255 0 bs = puGo 8 255 (a * 8 + (c - 48)) (bs.drop (k + 1))) := Lib.hid ⟨by omega, by omega, by rw [HD.out, HF.out, if_neg hbig, if_neg hov]⟩
            have hsm : c - 48 < 8 := by omega
            have hov' : a * 8 + (c - 48) ≤ 255 := by omega
            clear hbig hov
            go_wp2
            refine ⟨⟨k + 1, a * 8 + (c - 48), rfl, (by first | rfl | (congr 1; omega)), (by first | rfl | (congr 1; omega)), by omega, HE⟩, by simp [intOf]; omega⟩
      · by_cases hlet : 97 ≤ l ∧ l ≤ 122
        · obtain ⟨hd0, hd1⟩ := hlet
          have n95 : (c == 95) = false := by rw [beq_eq_false_iff_ne]; omega
          have hdg : dg u.toNat = l - 87 := by rw [HCU.out]; unfold dg; rw [if_neg hdig, HL.out, if_pos ⟨hd0, hd1⟩]
          have hndig : c < 48 ∨ 57 < c := by omega
          have HF := Lib.hid (puGo_digit (B := 8) (M := 255) (a := a) (r := bs.drop (k + 1)) hdg)
          clear hdg h95 hdig
          have e1 : (l - 97 + 10 : Int) = l - 87 := by omega
          have HE1 := Lib.hid e1
          clear e1
          by_cases hbig : l - 87 ≥ 8
          · have HE : Hid (puGo 8 255 0 bs = .syn) := Lib.hid (by rw [HD.out, HF.out, if_pos hbig])
            have hbig' : l - 97 + 10 ≥ 8 := by omega
            clear hbig
            rcases hndig with hn | hn
            all_goals
              go_wp2_with (go_at_call 82; refine (lower.calls _ _ _ HL.out).mono ?_; rintro e w' ⟨rfl, rfl⟩)
              go_ret2
              exact ⟨by rw [HE.out]; rfl, rfl⟩
          · exact absurd (show l - 87 ≥ 8 by omega) hbig
        · have hdg : dg u.toNat = 255 := by rw [HCU.out]; unfold dg; rw [if_neg hdig, HL.out, if_neg hlet]
          have HE : Hid (puGo 8 255 0 bs = .syn) := Lib.hid (by rw [HD.out, puGo_digit hdg, if_pos (by decide)])
          have hnl : l < 97 ∨ 122 < l := by omega
          have hnd : c < 48 ∨ 57 < c := by omega
          clear hdg hlet hdig h95
          obtain ⟨q, hq⟩ : ∃ q, (c == 95) = q := ⟨_, rfl⟩
          cases q
          all_goals
            rcases hnl with hn | hn
            all_goals
              rcases hnd with hm | hm
              all_goals
                go_wp2_with (go_at_call 82; refine (lower.calls _ _ _ HL.out).mono ?_; rintro e w' ⟨rfl, rfl⟩)
                go_ret2
                exact ⟨by rw [HE.out]; rfl, rfl⟩
    · have hkk : k = t.size := by omega
      have HE : Hid (puGo 8 255 0 bs = .ok a) := Lib.hid (by rw [hdec, List.drop_eq_nil_of_le (by omega)]; rfl)
      clear hdec hkn
      subst hkk
      go_wp2
      go_ret2
      exact ⟨by rw [HE.out]; rfl, rfl⟩

set_option maxHeartbeats 8000000 in
set_option maxRecDepth 100000 in
theorem pub_8_8.calls (t : ByteArray) (hne : t.size ≠ 0) (hmax : t.size ≤ 281474976710656) (w : World) (hG : Glob w) :
    Calls Tryd.prog 38 #[.string t, .int .i64 8, .int .i64 8] w fun e w' => ∃ v, e = .returned (.tuple #[.int .u64 (PE.out 255 (puGo 8 255 0 t.data.toList)).1, v]) ∧ IsErr v (PE.out 255 (puGo 8 255 0 t.data.toList)).2 ∧ Below w.heap.size w w' := by
  obtain ⟨p, hp⟩ : ∃ p, puGo 8 255 0 t.data.toList = p := ⟨_, rfl⟩
  have HI := fun W => inner_8_8.calls t hne hmax W
  rw [hp] at HI ⊢
  clear hp
  have hb := bw_below w 5 t
  have HGW := Lib.hid hG
  have HG2 := Lib.hid (hG.below hb (Nat.le_refl _))
  clear hG
  cases p with
  | ok n =>
    simp only [PE.tuple] at HI
    simp only [PE.out]
    go_enter Tryd.func38, Tryd.ntmps38
    go_wp2_with (go_at_call 51; refine (HI _).mono ?_; rintro e w' ⟨rfl, rfl⟩)
    go_ret2
    exact ⟨_, rfl, rfl, hb⟩
  | syn =>
    simp only [PE.tuple] at HI
    simp only [PE.out]
    go_enter Tryd.func38, Tryd.ntmps38
    go_wp2_with (first
      | (go_at_call 51; refine (HI _).mono ?_; rintro e w' ⟨rfl, rfl⟩)
      | (go_at_call 52; refine (toErr.calls _ _ _ _ 2 _ hmax HG2.out (.inr rfl)).mono ?_; rintro e w2 ⟨t2, u2, rfl, h3⟩))
    go_ret2
    exact ⟨_, rfl, ⟨_, _, rfl⟩, hb.trans (h3.mono hb.size)⟩
  | rng =>
    simp only [PE.tuple] at HI
    simp only [PE.out]
    go_enter Tryd.func38, Tryd.ntmps38
    go_wp2_with (first
      | (go_at_call 51; refine (HI _).mono ?_; rintro e w' ⟨rfl, rfl⟩)
      | (go_at_call 52; refine (toErr.calls _ _ _ _ 1 _ hmax HG2.out (.inl rfl)).mono ?_; rintro e w2 ⟨t2, u2, rfl, h3⟩))
    go_ret2
    exact ⟨_, rfl, ⟨_, _, rfl⟩, hb.trans (h3.mono hb.size)⟩

/-- strconv.ParseUint of a text that is not empty, at the bases and sizes that are met here. -/
def parseUint.f (s : ByteArray) (base bits : Int) : Option (Int × Option Int) :=
  if s.size = 0 then none else if 281474976710656 < s.size then none else if base = 16 ∧ bits = 8 then some (PE.out 255 (puGo 16 255 0 s.data.toList)) else if base = 8 ∧ bits = 8 then some (PE.out 255 (puGo 8 255 0 s.data.toList)) else none
theorem parseUint.calls (a0 : ByteArray) (a1 a2 r1 : Int) (r2 : Option Int) (w : World) (hG : Glob w) (h : parseUint.f a0 a1 a2 = some (r1, r2)) :
    Calls Tryd.prog 38 #[.string a0, .int .i64 a1, .int .i64 a2] w fun e w' => ∃ v, e = .returned (.tuple #[.int .u64 r1, v]) ∧ IsErr v r2 ∧ Below w.heap.size w w' := by
  unfold parseUint.f at h
  by_cases h0 : a0.size = 0
  · rw [if_pos h0] at h; cases h
  by_cases h1 : 281474976710656 < a0.size
  · rw [if_neg h0, if_pos h1] at h; cases h
  rw [if_neg h0, if_neg h1] at h
  by_cases c0 : a1 = 16 ∧ a2 = 8
  · rw [if_pos c0] at h
    obtain ⟨rfl, rfl⟩ := c0
    have e := Option.some.inj h
    have e1 : (PE.out 255 (puGo 16 255 0 a0.data.toList)).1 = r1 := by rw [e]
    have e2 : (PE.out 255 (puGo 16 255 0 a0.data.toList)).2 = r2 := by rw [e]
    have hc := pub_16_8.calls a0 h0 (by omega) w hG
    rw [e1, e2] at hc
    exact hc
  rw [if_neg c0] at h
  by_cases c1 : a1 = 8 ∧ a2 = 8
  · rw [if_pos c1] at h
    obtain ⟨rfl, rfl⟩ := c1
    have e := Option.some.inj h
    have e1 : (PE.out 255 (puGo 8 255 0 a0.data.toList)).1 = r1 := by rw [e]
    have e2 : (PE.out 255 (puGo 8 255 0 a0.data.toList)).2 = r2 := by rw [e]
    have hc := pub_8_8.calls a0 h0 (by omega) w hG
    rw [e1, e2] at hc
    exact hc
  rw [if_neg c1] at h
  cases h

end Go.Proofs.YtgljkbhjbefikaaDoor.Given
