/- formatMatchOptions, DoorRule, MtRule over pairs of texts. -/
import Derived.Test.YtdooimdefmegaaaGvFit
import Derived.Test.YtdooimdefmegaaaPDrx1
import Derived.Test.YtdooimdefmegaaaShelf
import Derived.Laws.MakeOwn
import Derived.Deep.DeepMust
import Derived.Deep.RegionHeld3
namespace Go.Proofs.Ytdooimdefmegaaa.Given
open Go.RowKit Go.Proofs.YtdooimdefmegaaaW.PrintWords Go.Proofs.Ytdooimdefmegaaa.PDr

def item (p : ByteArray × ByteArray) : ByteArray := ((p.1 ++ ⟨#[61, 39]⟩) ++ p.2) ++ ⟨#[39]⟩
def items (L : List (ByteArray × ByteArray)) : List Value := L.map fun p => .string (item p)
/-- The text of a rule. -/
def rule (L : List (ByteArray × ByteArray)) : ByteArray := ⟨(Lib.join ((L.map item).map (·.data.toList)) ([44] : List UInt8)).toArray⟩
def Small (L : List (ByteArray × ByteArray)) : Prop := ∀ p ∈ L, p.1.size ≤ 300 ∧ p.2.size ≤ 300

theorem item_size (p : ByteArray × ByteArray) : (item p).size = p.1.size + p.2.size + 3 := by
  unfold item
  rw [ByteArray.size_append, ByteArray.size_append, ByteArray.size_append, show (⟨#[61, 39]⟩ : ByteArray).size = 2 from rfl, show (⟨#[39]⟩ : ByteArray).size = 1 from rfl]; omega
theorem infoStr : (Try.prog.info? 9).map (fun i => (i.zero, i.size, i.bytes)) = some (some (.string ⟨#[]⟩), 1, 16) := by kernel_rfl
theorem infoOpt : (Try.prog.info? 30).map (fun i => (i.zero, i.size, i.bytes)) = some (some (.agg #[.string ⟨#[]⟩, .string ⟨#[]⟩]), 2, 32) := by kernel_rfl

theorem make_str (n : Nat) (hn : n ≤ 40) (W : World) : (Instr.makeSlice 33 (.int .i64 0) (.int .i64 (n : Int))).run Try.prog W = .ok (.slice (some ⟨W.heap.size, 0, none⟩) 0 n) (W.alloc (.cells (madeCells #[.string ⟨#[]⟩] n) 9)) := by
  obtain ⟨i0, hi, hzz⟩ := Option.map_eq_some_iff.1 infoStr
  simp only [Prod.mk.injEq] at hzz
  obtain ⟨hz0, hz1, hz2⟩ := hzz
  have hr := run_make (P := Try.prog) W 33 9 i0 _ Try.underlying33 hi hz0 .i64 .i64 0 n (by omega) (by omega) (by rw [hz2]; omega) (by omega)
  rw [hz1, Nat.mul_one] at hr
  have e : (Value.string ⟨#[]⟩).cells = #[.string ⟨#[]⟩] := rfl
  rw [e] at hr
  simpa using hr

theorem lens_le (r : List (List UInt8)) (m : Nat) (h : ∀ x ∈ r, x.length ≤ m) : Lib.lens r ≤ r.length * m := by
  induction r with
  | nil => simp [Lib.lens]
  | cons x r ih =>
    have h1 := h x (by simp)
    have h2 := ih fun y hy => h y (by simp [hy])
    rw [List.length_cons, Nat.add_mul]
    have e : Lib.lens (x :: r) = x.length + Lib.lens r := by simp [Lib.lens]
    omega

theorem join_items (g cap n : Nat) (L : List (ByteArray × ByteArray)) (w : World) (hl : L.length = n) (h1 : 1 ≤ n) (h40 : n ≤ 40) (hs : Small L) {base : Nat} (hown : w.ownsRow base 9 1 (.slice (some ⟨g, 0, none⟩) n cap) n (items L)) (hg : g < w.heap.size) :
    Calls Try.prog 11 #[.slice (some ⟨g, 0, none⟩) n cap, .string ⟨#[44]⟩] w fun e w' => e = .returned (.string (rule L)) ∧ Below w.heap.size w w' := by
  have hcells := hown.cells (g := g) rfl
  have hcap : n ≤ cap := by
    rcases hown.2 with ⟨e, _⟩ | ⟨g', cap', cur, e, _, _, h, _⟩
    · cases e
    · injection e with _ _ e3; omega
  have hlen : (Lib.join ((L.map item).map (·.data.toList)) ([44] : List UInt8)).length ≤ 140737488355328 := by
    cases L with
    | nil => simp at hl; omega
    | cons p r =>
      rw [List.map_cons, List.map_cons, Lib.join_length]
      have h2 := lens_le (((p :: r).map item).map (·.data.toList)) 603 (fun x hx => by
        simp only [List.map_map, List.mem_map, Function.comp] at hx
        obtain ⟨q, hq, rfl⟩ := hx
        have := hs q hq
        have e := item_size q
        show (item q).data.toList.length ≤ 603
        rw [Array.length_toList]
        show (item q).size ≤ 603
        omega)
      rw [List.length_map, List.length_map] at h2
      simp only [List.map_cons, List.length_map, List.length_cons, List.length_nil] at h2 hl ⊢
      omega
  have h := Try.strings_Join g 0 cap (L.map item) ⟨#[44]⟩ w (fun j x hj => by
      rw [List.getElem?_map] at hj
      have h2 : (items L)[j]? = some (.string x) := by
        unfold items
        rw [List.getElem?_map]
        cases hq : L[j]? with
        | none => rw [hq] at hj; cases hj
        | some q => rw [hq] at hj; exact congrArg (fun z => some (Value.string z)) (Option.some.inj hj)
      have h3 := hcells j _ h2
      have e : (⟨g, 0, none⟩ : Addr).add j = ⟨g, 0 + j, none⟩ := by
        unfold Addr.add
        by_cases hj0 : j = 0 <;> simp [hj0]
      rw [e] at h3
      exact h3) hg (by rw [List.length_map]; omega) (by rw [List.length_map]; omega) hlen
  rw [List.length_map, hl] at h
  exact h

set_option maxRecDepth 100000 in
set_option maxHeartbeats 4000000 in
theorem format.calls (A : Option Addr) (n c : Nat) (L : List (ByteArray × ByteArray)) (w : World) (hr : ReadsRow PR 2 w A n L) (hs : Small L) (h1 : 1 ≤ n) (h40 : n ≤ 40) :
    Calls Try.prog 10 #[.slice A n c] w fun e w' => e = .returned (.string (rule L)) ∧ Below w.heap.size w w' := by
  have hl := hr.1
  have HR := Aside0.mk hr
  have HS := Aside0.mk hs
  have hmk := make_str n h40
  clear hr hs
  go_enter Try.func10, Try.ntmps10
  go_wp2
  go_loopw [3, 11] (fun v i w' => ∃ k : Nat, k ≤ n ∧ i = .int .i64 k ∧ w'.ownsRow w.heap.size 9 1 v k (items (L.take k)) ∧ Below w.heap.size w w') (fun _ i _ => n - (intOf i).toNat)
  case atStart =>
    refine ⟨0, by omega, rfl, ?_, (Below.refl _ _).alloc (Nat.le_refl _) _⟩
    exact World.ownsRow_made w _ n (Nat.le_refl _) (by simp [maxLen]; omega) (by rw [size_madeCells]; omega)
  case round =>
    obtain ⟨k, hk, rfl, hown, hbw⟩ := hrel
    by_cases hlt : k < n
    · obtain ⟨ad, p, rfl, hp, c0, c1⟩ := row_at (HR.out.imp_ hbw fun _ _ h => h) hlt
      have hs1 := (HS.out p (List.mem_of_getElem? hp)).1
      have hs2 := (HS.out p (List.mem_of_getElem? hp)).2
      have HP := Aside0.mk hp
      clear hp hmk
      have z1 : (p.1 ++ ⟨#[61, 39]⟩ : ByteArray).size ≤ 302 := by rw [ByteArray.size_append]; exact Nat.add_le_add hs1 (Nat.le_refl 2)
      have z2 : ((p.1 ++ ⟨#[61, 39]⟩ : ByteArray) ++ p.2).size ≤ 602 := by rw [ByteArray.size_append]; exact Nat.add_le_add z1 hs2
      have hfin : items (L.take (k + 1)) = items (L.take k) ++ [.string (item p)] := by
        have hkl : k < L.length := by omega
        have e : L[k] = p := by have := HP.out; rw [List.getElem?_eq_getElem hkl] at this; exact Option.some.inj this
        unfold items
        rw [List.take_succ_eq_append_getElem hkl, e, List.map_append]; rfl
      have HF := Aside0.mk hfin
      clear hfin
      go_wp2_with ((with_reducible refine gate_builtin (b := .append) (xs := #[.tmp 15, .tmp 23]) rfl ?_); at_builtin; go_must (refine print_append_cells (w0 := w) w.heap.size rfl (.tmp 15) (.tmp 23) 33 9 (.string ⟨#[]⟩) 1 16 rfl Try.underlying33 infoStr rfl (by decide) (by omega) _ k (items (L.take k)) [.string (item p)] rfl ?aX rfl ?aP (hown.alloc _) (hbw.alloc hbw.size _) ?aS ?aL ?_); (case aX => show Value.slice (some ⟨wr.heap.size + 1, 0, none⟩) 1 1 = _; simp); (case aP => exact (fun u hu => by simp only [List.mem_singleton] at hu; rw [hu]; rfl)); (case aS => have := hbw.size; simp; omega); (case aL => omega); intro v1 w1 ho hb hg hat; rw [← HF.out] at ho; clear hg hat)
      go_roundw
      case rel => exact ⟨k + 1, by omega, by go_num, ho, hb⟩
      case measure => simp [intOf]; omega
    · obtain rfl : k = n := by omega
      rw [List.take_of_length_le (by omega)] at hown
      obtain ⟨g, cap, rfl, hcap, hg⟩ := hown.form (by omega)
      have hJ := Aside0.mk (join_items g cap k L wr hl h1 h40 HS.out hown hg)
      clear hown
      go_wp2_with (go_at_call 11; refine (hJ.out).mono ?_; rintro e w1 ⟨rfl, hb1⟩)
      go_ret
      exact ⟨rfl, hbw.trans (hb1.mono hbw.size)⟩

set_option maxRecDepth 100000 in
set_option maxHeartbeats 4000000 in
theorem door.calls (A : Option Addr) (n c : Nat) (L : List (ByteArray × ByteArray)) (w : World) (hr : ReadsRow PR 2 w A n L) (hs : Small L) (h1 : 1 ≤ n) (h40 : n ≤ 40) :
    Calls Try.prog 9 #[.slice A n c] w fun e w' => e = .returned (.string (rule L)) ∧ Below w.heap.size w w' := by
  have HF := Aside0.mk (format.calls A n c L w hr hs h1 h40)
  clear hr hs h1 h40
  go_enter Try.func9, Try.ntmps9
  go_wp2_with (go_at_call 10; refine (HF.out).mono ?_; rintro e w1 ⟨rfl, hb1⟩)
  go_ret
  exact ⟨rfl, hb1⟩

theorem own_below {w w1 : World} {base : Nat} {e : TypeId} {size n : Nat} {v : Value} {xs : List Value} (h : w.ownsRow base e size v n xs) (hb : Below w.heap.size w w1) : w1.ownsRow base e size v n xs := by
  refine ⟨h.1, ?_⟩
  rcases h.2 with h0 | ⟨g, cap, cur, hv, hbase, hh, r⟩
  · exact .inl h0
  · have hlt : g < w.heap.size := (Array.getElem?_eq_some_iff.1 hh).1
    exact .inr ⟨g, cap, cur, hv, hbase, (hb.block g hlt).trans hh, r⟩
theorem own_over {R : (ByteArray × ByteArray) → List Value → Prop} {e : TypeId} {size base : Nat} {v : Value} {ps : List (ByteArray × ByteArray)} {w w1 : World} {o : Obj} (h : OwnRow R e size w base v ps) (hb : Below (w.alloc o).heap.size (w.alloc o) w1) : OwnRow R e size w1 base v ps := by
  obtain ⟨inner, ho, hr⟩ := h
  refine ⟨inner, ?_, hr⟩
  have h1 := ho.alloc o
  exact own_below h1 hb

set_option maxRecDepth 100000 in
set_option maxHeartbeats 4000000 in
theorem mtRule.calls (A : Option Addr) (n c : Nat) (L : List (ByteArray × ByteArray)) (w : World) (hr : ReadsRow PR 2 w A n L) (hs : Small L) (h1 : 1 ≤ n) (h40 : n ≤ 40) :
    Calls Try.prog 6 #[.slice A n c] w fun e w' => e = .returned (.string (rule L)) ∧ Below w.heap.size w w' := by
  have hl := hr.1
  have HR := Aside0.mk hr
  have HS := Aside0.mk hs
  clear hr hs
  go_enter Try.func6, Try.ntmps6
  go_wp2
  go_loopw [3, 8] (fun v i w' => ∃ k : Nat, k ≤ n ∧ i = .int .i64 k ∧ OwnRow PR 30 2 w' w.heap.size v (L.take k) ∧ Below w.heap.size w w') (fun _ i _ => n - (intOf i).toNat)
  case atStart => exact ⟨0, by omega, rfl, OwnRow.none_ _ _ _ _ _, Below.refl _ _⟩
  case round =>
    obtain ⟨k, hk, rfl, hown, hbw⟩ := hrel
    by_cases hlt : k < n
    · obtain ⟨ad, p, rfl, hp, c0, c1⟩ := row_at (HR.out.imp_ hbw fun _ _ h => h) hlt
      have hfin : L.take (k + 1) = L.take k ++ [p] := by
        have hkl : k < L.length := by omega
        have e : L[k] = p := by have := hp; rw [List.getElem?_eq_getElem hkl] at this; exact Option.some.inj this
        rw [List.take_succ_eq_append_getElem hkl, e]
      have HF := Aside0.mk hfin
      have HW := Aside0.mk fun w => dbus_WithMatchOption.calls p.1 p.2 _ _ w rfl
      clear hp hfin
      have hbw0 : Below w.heap.size w (wr.alloc (.cells #[.string p.1, .string p.2] 26)) := hbw.alloc hbw.size _
      go_wp2_with (first | (go_at_call 8; refine (HW.out _).mono ?_; rintro e w1 ⟨rfl, hb1⟩; have hbw1 : Below w.heap.size w w1 := hbw0.trans (hb1.mono hbw0.size); have ho1 : OwnRow PR 30 2 w1 w.heap.size u3 (L.take k) := own_over hown hb1) | ((with_reducible refine gate_builtin (b := .append) (xs := #[.tmp 12, .tmp 18]) rfl ?_); at_builtin; go_must (refine OwnRow.append (w0 := w) w.heap.size rfl (.tmp 12) (.tmp 18) 28 30 (.agg #[.string ⟨#[]⟩, .string ⟨#[]⟩]) 2 32 rfl Try.underlying28 infoOpt rfl (by decide) (by omega) _ (L.take k) p [.string p.1, .string p.2] rfl ?aX rfl rfl ?aP ho1 hbw1 hbw1.size ?aL ?_); (case aX => show Value.slice (some ⟨w1.heap.size, 0, none⟩) 1 1 = _; simp); (case aP => exact (fun u hu => by simp only [List.mem_cons, List.not_mem_nil, or_false] at hu; rcases hu with rfl | rfl <;> rfl)); (case aL => rw [List.length_take]; omega); intro v1 w2 ho hb hg hat; rw [← HF.out] at ho; clear hg hat))
      go_roundw
      case rel => exact ⟨k + 1, by omega, by go_num, ho, hb⟩
      case measure => simp [intOf]; omega
    · obtain rfl : k = n := by omega
      rw [List.take_of_length_le (by omega)] at hown
      obtain ⟨A2, c2, rfl, hc2, hrow⟩ := hown.reads
      rw [hl] at hrow
      have HD := Aside0.mk (door.calls A2 k c2 L wr hrow HS.out h1 h40)
      clear hown hrow
      rw [hl]
      go_wp2_with (go_at_call 9; refine (HD.out).mono ?_; rintro e w1 ⟨rfl, hb1⟩)
      go_ret
      exact ⟨rfl, hbw.trans (hb1.mono hbw.size)⟩

end Go.Proofs.Ytdooimdefmegaaa.Given
