/- Part of the proof of LawFnMsName. -/
import Derived.Test.YtldjigfnagfalaaGreatDoorGvSg
import Derived.Test.YtldjigfnagfalaaGreatDoorWMore
set_option linter.unusedVariables false
set_option linter.unusedSimpArgs false
section
namespace Go.Proofs.YtldjigfnagfalaaGreatDoor.Given
open Go.RowKit Go.Proofs.YtldjigfnagfalaaGreatDoorW.PrintWords
set_option linter.unusedVariables false
attribute [local go_sem] ai_113
def Old (w0 w : World) : Prop := w0.heap.size ≤ w.heap.size ∧ ∀ x, x < w0.heap.size → w.heap[x]? = w0.heap[x]?
theorem Old.refl (w : World) : Old w w := ⟨Nat.le_refl _, fun _ _ => rfl⟩
theorem Old.below {w0 w w' : World} {B : Nat} (h : Old w0 w) (hB : w0.heap.size ≤ B) (hb : Below B w w') : Old w0 w' :=
  ⟨Nat.le_trans h.1 hb.size, fun x hx => (hb.block x (by omega)).trans (h.2 x hx)⟩
theorem Old.grown {w0 w w' : World} (h : Old w0 w) (hb : Below w.heap.size w w') : Old w0 w' := h.below h.1 hb
theorem Old.cell {w0 w : World} (h : Old w0 w) {a : Addr} {v : Value} (hc : w0.cell? a = some v) : w.cell? a = some v :=
  (cell_same (h.2 a.block (block_lt_of_cell hc))).trans hc
def EncV (lim : Nat) (dl : Int) (w0 : World) (big : Bool) (x : Value) (ty : ByteArray) (fb : Nat → List UInt8) : Prop :=
  ∀ (e b : Nat) (w : World) (B : Nat) (f : Value) (q : Nat) (dep : Int) (bs : List UInt8), Ef w B e b (ordOf big) f q bs → Old w0 w → w0.heap.size ≤ B → 0 ≤ dep → dep ≤ dl → q ≤ lim → bs.length ≤ lim →
    Calls Tryz.prog 36 #[.pointer (some ⟨e, 0, none⟩), .agg #[x, .string ty], .int .i64 dep] w fun r w' => r = .returned (.tuple #[]) ∧ Eg w w' B e b (ordOf big) f (q + (fb q).length) (bs ++ fb q)
def ValV (x : Value) (ty : ByteArray) : Prop := ∀ w : World, Calls Tryz.prog 37 #[x] w fun r w' => r = .returned (.agg #[x, .string ty]) ∧ Below w.heap.size w w'
theorem Eg.as {w0 w : World} {B e b : Nat} {o : TypeId} {f : Value} {q q2 : Nat} {bs bs2 : List UInt8} (h : Eg w0 w B e b o f q bs) (hq : q = q2) (hb : bs = bs2) : Eg w0 w B e b o f q2 bs2 := hq ▸ hb ▸ h
def textBytes (big : Bool) (S : ByteArray) (q : Nat) : List UInt8 := List.replicate (pd 4 q) 0 ++ cntBytes big S.size ++ (S.data.toList ++ [0])
theorem textBytes_len (big : Bool) (S : ByteArray) (q : Nat) : (textBytes big S q).length = pd 4 q + 4 + (S.size + 1) := by
  unfold textBytes
  simp only [List.length_append, List.length_replicate, cntBytes_length, text_len, List.length_cons, List.length_nil]
def u32Bytes (big : Bool) (v q : Nat) : List UInt8 := List.replicate (pd 4 q) 0 ++ cntBytes big v
theorem u32Bytes_len (big : Bool) (v q : Nat) : (u32Bytes big v q).length = pd 4 q + 4 := by
  unfold u32Bytes
  simp only [List.length_append, List.length_replicate, cntBytes_length]
theorem encV_s (w0 : World) (big : Bool) (S : ByteArray) (hS : Plain S) : EncV 500000 60 w0 big (.iface 9 (.string S)) ⟨#[115]⟩ (textBytes big S) := by
  intro e b w B f q dep bs h _ _ hd0 hd hq hl
  refine (ef_s big e b S hS w B f q dep bs h hd0 (by omega) (by omega) (by omega)).mono ?_
  rintro r w' ⟨rfl, hE⟩
  exact ⟨rfl, hE.as (by rw [textBytes_len]; omega) (by unfold textBytes; simp only [List.append_assoc])⟩
theorem encV_o (w0 : World) (big : Bool) (S : ByteArray) (hS : Plain S) (hP : IsPath.f S = some true) : EncV 500000 60 w0 big (.iface 135 (.string S)) ⟨#[111]⟩ (textBytes big S) := by
  intro e b w B f q dep bs h _ _ hd0 hd hq hl
  refine (ef_o big e b S hS hP w B f q dep bs h hd0 (by omega) (by omega) (by omega)).mono ?_
  rintro r w' ⟨rfl, hE⟩
  exact ⟨rfl, hE.as (by rw [textBytes_len]; omega) (by unfold textBytes; simp only [List.append_assoc])⟩
theorem encV_u (w0 : World) (big : Bool) (v : Nat) (hv : v < 4294967296) : EncV 500000 60 w0 big (.iface 36 (.int .u32 v)) ⟨#[117]⟩ (u32Bytes big v) := by
  intro e b w B f q dep bs h _ _ hd0 hd hq hl
  refine (ef_u big e b v hv w B f q dep bs h hd0 (by omega) (by omega) (by omega)).mono ?_
  rintro r w' ⟨rfl, hE⟩
  exact ⟨rfl, hE.as (by rw [u32Bytes_len]; omega) (by unfold u32Bytes; simp only [List.append_assoc])⟩
def varBytes (S : ByteArray) (fb : Nat → List UInt8) (q : Nat) : List UInt8 := sigBytes S ++ fb (q + (S.size + 2))
set_option maxHeartbeats 16000000 in
set_option maxRecDepth 100000 in
theorem encV_v (w0 : World) (big : Bool) (S : ByteArray) (hS : S.size ≤ 200) (T : TypeId) (y : Value) (ty : ByteArray) (fb : Nat → List UInt8) (hE : EncV 500000 60 w0 big (.iface T y) ty fb) (hV : ValV (.iface T y) ty) :
    EncV 400000 50 w0 big (.iface 113 (.agg #[.string S, .iface T y])) ⟨#[118]⟩ (varBytes S fb) := by
  intro e b w B f q dep bs h hO hB hd0 hd hq hl
  obtain ⟨hA, hbx, hle, hlb⟩ := h.boxed (.cells #[.iface 113 (.agg #[.string S, .iface T y]), .string ⟨#[118]⟩] 102)
  have hne : e ≠ w.heap.size := by omega
  have hneb : b ≠ w.heap.size := by omega
  have HA := Aside0.mk hA
  have HBX := Aside0.mk hbx
  have HE := Aside0.mk hE
  have HV := Aside0.mk hV
  have HO := Aside0.mk hO
  clear h hA hbx hE hV hO
  go_enter Tryz.func36, Tryz.ntmps36
  go_wp2_with fail
  refine (zType _ _ _).mono ?_
  rintro r w1 ⟨rfl, hb1⟩
  have HA := Aside0.mk (HA.out.old hb1)
  have HBX := Aside0.mk (boxed_block HBX.out hb1)
  clear hb1
  go_wp2_with fail
  refine (align_v _).mono ?_
  rintro r w2 ⟨rfl, rfl⟩
  go_wp2_with fail
  refine (align_ef w1 B e b (ordOf big) f q bs HA.out.ef 1 1 rfl (by decide) (by omega) (by omega)).mono ?_
  rintro r w3 ⟨rfl, hE3⟩
  rw [pd_one, Nat.add_zero, List.replicate_zero, List.append_nil] at hE3
  have HBX := Aside0.mk (hE3.box HBX.out hne hneb (by intro c fz hc; cases hc))
  have HA := Aside0.mk (HA.out.trans hE3)
  clear hE3
  obtain ⟨x0, x1⟩ := boxed_cells HBX.out
  go_wp2_with fail
  refine (zKind_v _ _).mono ?_
  rintro r w4 ⟨rfl, hb4⟩
  have HBX := Aside0.mk (boxed_block HBX.out hb4)
  have HA := Aside0.mk (HA.out.old hb4)
  clear hb4 x0 x1
  obtain ⟨x0, x1⟩ := boxed_cells HBX.out
  go_wp2_with fail
  refine (zType _ _ _).mono ?_
  rintro r w5 ⟨rfl, hb5⟩
  have HBX := Aside0.mk (boxed_block HBX.out hb5)
  have HA := Aside0.mk (HA.out.old hb5)
  clear hb5 x0 x1
  obtain ⟨x0, x1⟩ := boxed_cells HBX.out
  go_wp2_with fail
  refine (zIface _ _ _ _).mono ?_
  rintro r w6 ⟨rfl, hb6⟩
  have HA := Aside0.mk (HA.out.old hb6)
  clear hb6 x0 x1 HBX
  have hle6 : e < w6.heap.size := Lib.lt_of_heap HA.out.ef.enc
  have hlb6 : b < w6.heap.size := HA.out.ef.buf.lt
  have HA := Aside0.mk (HA.out.old ((Below.refl _ _).alloc (Nat.le_refl _) (.cells #[.string S, .iface T y] 113)))
  have HBX : Aside0 ((w6.alloc (.cells #[.string S, .iface T y] 113)).heap[w6.heap.size]? = some (.cells #[.string S, .iface T y] 113)) := ⟨heap_alloc_new w6 _⟩
  have hnx : e ≠ w6.heap.size := by omega
  have hnbx : b ≠ w6.heap.size := by omega
  go_wp2_with fail
  refine (valueOf_g S _).mono ?_
  rintro r w7 ⟨rfl, hb7⟩
  have HBX := Aside0.mk (boxed_block HBX.out hb7)
  have HA := Aside0.mk (HA.out.old hb7)
  clear hb7
  go_wp2_with fail
  refine (ef_g big e b S hS w7 B f q (dep + 1) bs HA.out.ef (by omega) (by omega) (by omega) (by omega)).mono ?_
  rintro r w8 ⟨rfl, hE8⟩
  have HBX := Aside0.mk (hE8.box HBX.out hnx hnbx (by intro c fz hc; cases hc))
  have HA := Aside0.mk (HA.out.trans hE8)
  clear hE8
  obtain ⟨x0, x1⟩ := boxed_cells HBX.out
  go_wp2_with fail
  refine (HV.out _).mono ?_
  rintro r w9 ⟨rfl, hb9⟩
  have HA := Aside0.mk (HA.out.old hb9)
  clear hb9 x0 x1 HBX
  go_wp2_with fail
  refine (HE.out e b w9 B f (q + 1 + (S.size + 1)) (dep + 1) _ HA.out.ef (HO.out.below hB HA.out.below) hB (by omega) (by omega) (by omega) (by simp only [List.length_append, text_len, List.length_cons, List.length_nil]; omega)).mono ?_
  rintro r w10 ⟨rfl, hE10⟩
  have HE10 := Aside0.mk (HA.out.trans hE10)
  clear hE10
  go_wp2_with fail
  refine bodyPost_end (results_none (by rfl) _ _ _) rfl ⟨rfl, HE10.out.as ?_ ?_⟩
  · unfold varBytes
    rw [List.length_append, sigBytes_len, show q + 1 + (S.size + 1) = q + (S.size + 2) by omega]; omega
  · unfold varBytes sigBytes
    rw [show q + 1 + (S.size + 1) = q + (S.size + 2) by omega]
    simp only [List.append_assoc]
end Go.Proofs.YtldjigfnagfalaaGreatDoor.Given
end
section
namespace Go.Proofs.YtldjigfnagfalaaGreatDoor.Given
open Go.RowKit Go.Proofs.YtldjigfnagfalaaGreatDoorW.PrintWords Go.Proofs.YtldjigfnagfalaaGreatDoorW.PrintLast Go.Proofs.YtldjigfnagfalaaGreatDoorW.PrintMore
set_option linter.unusedVariables false
theorem info100 : (Tryz.prog.info? 100).map (fun i => (i.zero, i.size, i.bytes)) = some (some (.string ⟨#[]⟩), 1, 16) := by kernel_rfl
set_option maxHeartbeats 2000000 in
theorem zzEnd_y (w : World) : Calls Tryz.prog 101 #[.string ⟨#[121, 118, 41]⟩] w fun r w' => r = .returned (.int .i64 1) ∧ w = w' := by
  go_enter Tryz.func101, Tryz.ntmps101
  go_wp2
  go_ret
  exact ⟨rfl, rfl⟩
set_option maxHeartbeats 2000000 in
theorem zzEnd_v (w : World) : Calls Tryz.prog 101 #[.string ⟨#[118, 41]⟩] w fun r w' => r = .returned (.int .i64 1) ∧ w = w' := by
  go_enter Tryz.func101, Tryz.ntmps101
  go_wp2
  go_ret
  exact ⟨rfl, rfl⟩
def yv : List ByteArray := [⟨#[121]⟩, ⟨#[118]⟩]
set_option maxHeartbeats 8000000 in
set_option maxRecDepth 100000 in
theorem fields_r (w : World) : Calls Tryz.prog 89 #[.string ⟨#[40, 121, 118, 41]⟩] w fun r w' => ∃ v, r = .returned v ∧ Kd.R Kd.string 100 w' w.heap.size (fun _ => True) v yv ∧ Below w.heap.size w w' := by
  have x1 : (⟨#[40, 121, 118, 41]⟩ : ByteArray).extract 1 4 = ⟨#[121, 118, 41]⟩ := rfl
  have x2 : (⟨#[40, 121, 118, 41]⟩ : ByteArray).extract 2 4 = ⟨#[118, 41]⟩ := rfl
  have x3 : (⟨#[40, 121, 118, 41]⟩ : ByteArray).extract 1 2 = ⟨#[121]⟩ := rfl
  have x4 : (⟨#[40, 121, 118, 41]⟩ : ByteArray).extract 2 3 = ⟨#[118]⟩ := rfl
  go_enter Tryz.func89, Tryz.ntmps89
  go_wp2_with fail
  go_loopw [3, 4] (fun v i wr => Aside0 (i = .int .i64 1 ∧ v = .slice none 0 0 ∧ w = wr) ∨ Aside0 (i = .int .i64 2 ∧ Kd.R Kd.string 100 wr w.heap.size (fun _ => True) v [⟨#[121]⟩] ∧ Below w.heap.size w wr) ∨ Aside0 (i = .int .i64 3 ∧ Kd.R Kd.string 100 wr w.heap.size (fun _ => True) v yv ∧ Below w.heap.size w wr)) (fun _ i _ => 3 - (intOf i).toNat)
  case atStart => exact Or.inl ⟨rfl, rfl, rfl⟩
  case round =>
    rcases hrel with ⟨rfl, rfl, rfl⟩ | ⟨rfl, h1, h2⟩ | ⟨rfl, h1, h2⟩
    · have HB := Aside0.mk (Below.refl w.heap.size w)
      go_wp2_with fail
      refine (zzEnd_y _).mono ?_
      rintro r w1 ⟨rfl, rfl⟩
      go_wp2_with ((with_reducible refine gate_builtin (b := .append) (xs := #[.tmp 20, .tmp 27]) rfl ?_); at_builtin; refine Kd.R_append Kd.string (w0 := w) w.heap.size rfl (.tmp 20) (.tmp 27) 190 100 (.string ⟨#[]⟩) 16 rfl Tryz.underlying190 info100 rfl (by decide) (by omega) (.slice none 0 0) [] ⟨#[121]⟩ [.string ⟨#[121]⟩] (fun _ => True) (fun _ => False) rfl rfl rfl (fun _ hk => hk.elim) (fun _ _ => trivial) (Kd.R_nil _ _ _ _ _) HB.out HB.out.size (show (0 + 1) * 16 ≤ 140737488355328 by decide) ?_; intro v4 w4 ho hb4 hg hat; have HO4 := Aside0.mk ho; have HB4 := Aside0.mk hb4; clear ho hb4 hg hat)
      go_roundw
      case rel => exact Or.inr (Or.inl ⟨by go_num, HO4.out, HB4.out⟩)
      case measure => simp [intOf]
    · obtain ⟨A, c, eo⟩ := Kd.R_slice h1
      subst eo
      have HB := Aside0.mk h2
      have HO := Aside0.mk h1
      clear h1 h2
      go_wp2_with fail
      refine (zzEnd_v _).mono ?_
      rintro r w1 ⟨rfl, rfl⟩
      go_wp2_with ((with_reducible refine gate_builtin (b := .append) (xs := #[.tmp 20, .tmp 27]) rfl ?_); at_builtin; refine Kd.R_append Kd.string (w0 := w) w.heap.size rfl (.tmp 20) (.tmp 27) 190 100 (.string ⟨#[]⟩) 16 rfl Tryz.underlying190 info100 rfl (by decide) (by omega) (.slice A 1 c) [⟨#[121]⟩] ⟨#[118]⟩ [.string ⟨#[118]⟩] (fun _ => True) (fun _ => False) rfl rfl rfl (fun _ hk => hk.elim) (fun _ _ => trivial) HO.out HB.out HB.out.size (show (1 + 1) * 16 ≤ 140737488355328 by decide) ?_; intro v4 w4 ho hb4 hg hat; have HO4 := Aside0.mk ho; have HB4 := Aside0.mk hb4; clear ho hb4 hg hat)
      go_roundw
      case rel => exact Or.inr (Or.inr ⟨by go_num, HO4.out, HB4.out⟩)
      case measure => simp [intOf]
    · have HB := Aside0.mk h2
      have HO := Aside0.mk h1
      clear h1 h2
      go_wp2_with fail
      go_ret
      exact ⟨_, rfl, HO.out, HB.out⟩
end Go.Proofs.YtldjigfnagfalaaGreatDoor.Given
end
section
namespace Go.Proofs.YtldjigfnagfalaaGreatDoor.Given
open Go.RowKit Go.Proofs.YtldjigfnagfalaaGreatDoorW.PrintWords Go.Proofs.YtldjigfnagfalaaGreatDoorW.PrintLast Go.Proofs.YtldjigfnagfalaaGreatDoorW.PrintMore
set_option linter.unusedVariables false
set_option maxHeartbeats 2000000 in
theorem numField_r (w : World) : Calls Tryz.prog 63 #[.string ⟨#[40, 121, 118, 41]⟩] w fun r w' => r = .returned (.int .i64 2) ∧ Below w.heap.size w w' := by
  go_enter Tryz.func63, Tryz.ntmps63
  go_wp2_with fail
  refine (fields_r _).mono ?_
  rintro r w1 ⟨v, rfl, h1, hb⟩
  obtain ⟨A, c, eo⟩ := Kd.R_slice h1
  subst eo
  go_wp2_with fail
  go_ret
  exact ⟨rfl, hb⟩
set_option maxHeartbeats 4000000 in
theorem field_r0 (w : World) : Calls Tryz.prog 64 #[.string ⟨#[40, 121, 118, 41]⟩, .int .i64 0] w fun r w' => r = .returned (.agg #[.string ⟨#[121]⟩, .string ⟨#[]⟩, .string ⟨#[]⟩]) ∧ Below w.heap.size w w' := by
  go_enter Tryz.func64, Tryz.ntmps64
  go_wp2_with fail
  refine (fields_r _).mono ?_
  rintro r w1 ⟨v, rfl, h1, hb⟩
  rcases (Kd.own_of_R h1).2 with ⟨-, h0⟩ | ⟨g, cap, cur, hv, hBg, hg, hnc, hcm, hcs, htk⟩
  · simp [yv] at h0
  subst hv
  have hc : w1.cell? ⟨g, 0, none⟩ = some (.string ⟨#[121]⟩) := by
    have hj : (encs Value.string yv)[0]? = some (.string ⟨#[121]⟩) := rfl
    rw [← htk] at hj
    have := Lib.cells_of_row hg _ 0 _ hj
    rwa [Lib.addr_add, Nat.zero_add] at this
  have hy2 : yv.length = 2 := rfl
  rw [hy2]
  obtain ⟨hc1, hf1⟩ := bcell hb
  have hz := hb.size
  clear h1 hg htk hcs hnc hy2
  go_wp2_with fail
  refine bodyPost_ret (v := .agg #[.string ⟨#[121]⟩, .string ⟨#[]⟩, .string ⟨#[]⟩]) (by simp [results, go_sem, hc1]) rfl ⟨rfl, ?_⟩
  have h := below_new hb
  exact ((h.setCell (Nat.le_refl _) _).setCell (Nat.le_refl _) _).setCell (Nat.le_refl _) _
set_option maxHeartbeats 4000000 in
theorem field_r1 (w : World) : Calls Tryz.prog 64 #[.string ⟨#[40, 121, 118, 41]⟩, .int .i64 1] w fun r w' => r = .returned (.agg #[.string ⟨#[118]⟩, .string ⟨#[]⟩, .string ⟨#[]⟩]) ∧ Below w.heap.size w w' := by
  go_enter Tryz.func64, Tryz.ntmps64
  go_wp2_with fail
  refine (fields_r _).mono ?_
  rintro r w1 ⟨v, rfl, h1, hb⟩
  rcases (Kd.own_of_R h1).2 with ⟨-, h0⟩ | ⟨g, cap, cur, hv, hBg, hg, hnc, hcm, hcs, htk⟩
  · simp [yv] at h0
  subst hv
  have hc : w1.cell? ⟨g, 1, none⟩ = some (.string ⟨#[118]⟩) := by
    have hj : (encs Value.string yv)[1]? = some (.string ⟨#[118]⟩) := rfl
    rw [← htk] at hj
    have := Lib.cells_of_row hg _ 1 _ hj
    rwa [Lib.addr_add, Nat.zero_add] at this
  have hy2 : yv.length = 2 := rfl
  rw [hy2]
  obtain ⟨hc1, hf1⟩ := bcell hb
  have hz := hb.size
  clear h1 hg htk hcs hnc hy2
  go_wp2_with fail
  refine bodyPost_ret (v := .agg #[.string ⟨#[118]⟩, .string ⟨#[]⟩, .string ⟨#[]⟩]) (by simp [results, go_sem, hc1]) rfl ⟨rfl, ?_⟩
  have h := below_new hb
  exact ((h.setCell (Nat.le_refl _) _).setCell (Nat.le_refl _) _).setCell (Nat.le_refl _) _
theorem tagGet (a b : ByteArray) (w : World) : Calls Tryz.prog 65 #[.string a, .string b] w fun r w' => r = .returned (.string ⟨#[]⟩) ∧ w = w' := by
  go_enter Tryz.func65, Tryz.ntmps65
  go_wp2
  go_ret
  exact ⟨rfl, rfl⟩
attribute [local go_sem] as_158_111 as_158_158
set_option maxHeartbeats 8000000 in
theorem zField_r (g c i : Nat) (hi : i < 2) (t : ByteArray) (T : TypeId) (y : Value) (ty : ByteArray) (hV : ValV (.iface T y) ty) (w : World) (hc : w.cell? ⟨g, i, none⟩ = some (.iface T y)) :
    Calls Tryz.prog 61 #[.agg #[.iface 158 (.agg #[.slice (some ⟨g, 0, none⟩) 2 c]), .string t], .int .i64 i] w fun e w' => e = .returned (.agg #[.iface T y, .string ty]) ∧ Below w.heap.size w w' := by
  have hg : g < w.heap.size := block_lt_of_cell hc
  have hi2 : (i : Int) < 2 := by omega
  have hi3 : 0 ≤ (i : Int) := by omega
  have hadd : (⟨g, 0, none⟩ : Addr).add i = ⟨g, i, none⟩ := by rw [Lib.addr_add, Nat.zero_add]
  have hne1 : w.heap.size ≠ g := Nat.ne_of_gt hg
  have hne2 : w.heap.size + 1 ≠ g := by omega
  have hcc : ∀ o1 o2 o3, (((w.alloc o1).alloc o2).alloc o3).cell? ⟨g, i, none⟩ = some (.iface T y) := fun o1 o2 o3 =>
    ((below_alloc (below_alloc (below_alloc (Below.refl _ w) o1) o2) o3).cell (p := ⟨g, i, none⟩) hg).trans hc
  have HV := Aside0.mk hV
  clear hV
  go_enter Tryz.func61, Tryz.ntmps61
  go_wp2_with fail
  refine (HV.out _).mono ?_
  rintro r w1 ⟨rfl, hb1⟩
  obtain ⟨hc1, hf1⟩ := bcell hb1
  have hz := hb1.size
  go_wp2_with fail
  refine bodyPost_ret (v := .agg #[.iface T y, .string ty]) (by simp [results, go_sem, hc1]) rfl ⟨rfl, ?_⟩
  have hb := below_step (w := w) (by repeat (first | exact Below.refl _ _ | apply below_alloc | apply below_drew)) hb1
  exact (hb.setCell (by simp) _).setCell (by simp) _
def recBytes (code : Nat) (S : ByteArray) (fb : Nat → List UInt8) (q : Nat) : List UInt8 := List.replicate (pd 8 q) 0 ++ [UInt8.ofNat code] ++ varBytes S fb (q + pd 8 q + 1)
structure RecSt (w : World) (x B e b : Nat) (o : TypeId) (f : Value) (v : Value) (q : Nat) (bs : List UInt8) (wr : World) : Prop where
  eg : Eg w wr B e b o f q bs
  box : wr.heap[x]? = some (.cells #[.iface 158 v, .string ⟨#[40, 121, 118, 41]⟩] 102)
set_option maxHeartbeats 16000000 in
set_option maxRecDepth 100000 in
theorem encV_r (w0 : World) (big : Bool) (code : Nat) (hcd : code < 256) (g c : Nat) (S : ByteArray) (hS : S.size ≤ 200) (T : TypeId) (y : Value) (ty : ByteArray) (fb : Nat → List UInt8) (hE : EncV 500000 60 w0 big (.iface T y) ty fb) (hV : ValV (.iface T y) ty)
    (g0 : w0.cell? ⟨g, 0, none⟩ = some (.iface 5 (.int .u8 code))) (g1 : w0.cell? ⟨g, 1, none⟩ = some (.iface 113 (.agg #[.string S, .iface T y]))) :
    EncV 300000 40 w0 big (.iface 158 (.agg #[.slice (some ⟨g, 0, none⟩) 2 c])) ⟨#[40, 121, 118, 41]⟩ (recBytes code S fb) := by
  intro e b w B f q dep bs h hO hB hd0 hd hq hl
  obtain ⟨hA, hbx, hle, hlb⟩ := h.boxed (.cells #[.iface 158 (.agg #[.slice (some ⟨g, 0, none⟩) 2 c]), .string ⟨#[40, 121, 118, 41]⟩] 102)
  have hne : e ≠ w.heap.size := by omega
  have hneb : b ≠ w.heap.size := by omega
  have hp8 : pd 8 q < 8 := pd_lt (by decide)
  have HA := Aside0.mk hA
  have HBX := Aside0.mk hbx
  have HEV := Aside0.mk (encV_v w0 big S hS T y ty fb hE hV)
  have HO := Aside0.mk hO
  have HG0 := Aside0.mk g0
  have HG1 := Aside0.mk g1
  clear h hA hbx hE hV hO g0 g1
  go_enter Tryz.func36, Tryz.ntmps36
  go_wp2_with fail
  refine (zType _ _ _).mono ?_
  rintro r w1 ⟨rfl, hb1⟩
  have HA := Aside0.mk (HA.out.old hb1)
  have HBX := Aside0.mk (boxed_block HBX.out hb1)
  clear hb1
  go_wp2_with fail
  refine (align_r _).mono ?_
  rintro r w2 ⟨rfl, rfl⟩
  go_wp2_with fail
  refine (align_ef w1 B e b (ordOf big) f q bs HA.out.ef 8 8 rfl (by decide) (by omega) (by omega)).mono ?_
  rintro r w3 ⟨rfl, hE3⟩
  have HBX := Aside0.mk (hE3.box HBX.out hne hneb (by intro c fz hc; cases hc))
  have HA := Aside0.mk (HA.out.trans hE3)
  clear hE3
  obtain ⟨x0, x1⟩ := boxed_cells HBX.out
  go_wp2_with fail
  refine (zKind_r _ _).mono ?_
  rintro r w4 ⟨rfl, hb4⟩
  have HBX := Aside0.mk (boxed_block HBX.out hb4)
  have HA := Aside0.mk (HA.out.old hb4)
  clear hb4 x0 x1
  obtain ⟨x0, x1⟩ := boxed_cells HBX.out
  go_wp2_with fail
  refine (zType _ _ _).mono ?_
  rintro r w5 ⟨rfl, hb5⟩
  have HBX := Aside0.mk (boxed_block HBX.out hb5)
  have HA := Aside0.mk (HA.out.old hb5)
  clear hb5 x0 x1
  go_wp2_with fail
  have HST : Aside0 (RecSt w w.heap.size B e b (ordOf big) f (.agg #[.slice (some ⟨g, 0, none⟩) 2 c]) (q + pd 8 q) (bs ++ List.replicate (pd 8 q) 0) w5) := ⟨HA.out, HBX.out⟩
  clear HA HBX
  go_loopw [29] (fun i wr => Aside0 (i = .int .i64 0 ∧ RecSt w w.heap.size B e b (ordOf big) f (.agg #[.slice (some ⟨g, 0, none⟩) 2 c]) (q + pd 8 q) (bs ++ List.replicate (pd 8 q) 0) wr) ∨ Aside0 (i = .int .i64 1 ∧ RecSt w w.heap.size B e b (ordOf big) f (.agg #[.slice (some ⟨g, 0, none⟩) 2 c]) (q + pd 8 q + 1) (bs ++ List.replicate (pd 8 q) 0 ++ [UInt8.ofNat code]) wr) ∨ Aside0 (i = .int .i64 2 ∧ RecSt w w.heap.size B e b (ordOf big) f (.agg #[.slice (some ⟨g, 0, none⟩) 2 c]) (q + (recBytes code S fb q).length) (bs ++ recBytes code S fb q) wr)) (fun i _ => 3 - (intOf i).toNat)
  case atStart => exact Or.inl ⟨rfl, HST.out⟩
  case round =>
    rcases hrel with ⟨rfl, h1⟩ | ⟨rfl, h1⟩ | ⟨rfl, h1⟩
    · have HA := Aside0.mk h1.eg
      have HBX := Aside0.mk h1.box
      clear h1 HST
      obtain ⟨x0, x1⟩ := boxed_cells HBX.out
      go_wp2_with fail
      refine (zType _ _ _).mono ?_
      rintro r w6 ⟨rfl, hb6⟩
      have HBX := Aside0.mk (boxed_block HBX.out hb6)
      have HA := Aside0.mk (HA.out.old hb6)
      clear hb6 x0 x1
      go_wp2_with fail
      refine (numField_r _).mono ?_
      rintro r w7 ⟨rfl, hb7⟩
      have HBX := Aside0.mk (boxed_block HBX.out hb7)
      have HA := Aside0.mk (HA.out.old hb7)
      clear hb7
      go_wp2_with fail
      refine (field_r0 _).mono ?_
      rintro r w8 ⟨rfl, hb8⟩
      have HBX := Aside0.mk (boxed_block HBX.out hb8)
      have HA := Aside0.mk (HA.out.old hb8)
      clear hb8
      have hbn := (Below.refl w8.heap.size w8).alloc (Nat.le_refl _) (.cells #[.string ⟨#[121]⟩, .string ⟨#[]⟩, .string ⟨#[]⟩] 145)
      have HBX := Aside0.mk (boxed_block HBX.out hbn)
      have HA := Aside0.mk (HA.out.old hbn)
      clear hbn
      go_wp2_with fail
      refine (tagGet _ _ _).mono ?_
      rintro r w9 ⟨rfl, rfl⟩
      obtain ⟨x0, x1⟩ := boxed_cells HBX.out
      go_wp2_with fail
      refine (zField_r g c 0 (by decide) _ 5 (.int .u8 code) _ (valueOf_121 _) _ ((HO.out.below hB HA.out.below).cell HG0.out)).mono ?_
      rintro r w9 ⟨rfl, hb9⟩
      have HBX := Aside0.mk (boxed_block HBX.out hb9)
      have HA := Aside0.mk (HA.out.old hb9)
      clear hb9 x0 x1
      go_wp2_with fail
      refine (ef_y e b code hcd w9 B (ordOf big) f _ (dep + 1) _ HA.out.ef (by omega) (by omega) (by omega) (by rw [List.length_append, List.length_replicate]; omega)).mono ?_
      rintro r w10 ⟨rfl, hE10⟩
      have HBX := Aside0.mk (hE10.box HBX.out hne hneb (by intro c fz hc; cases hc))
      have HA := Aside0.mk (HA.out.trans hE10)
      clear hE10
      go_wp2_with fail
      go_roundw
      case rel => exact Or.inr (Or.inl ⟨by go_num, HA.out, HBX.out⟩)
      case measure => simp [intOf]
    · have HA := Aside0.mk h1.eg
      have HBX := Aside0.mk h1.box
      clear h1 HST
      obtain ⟨x0, x1⟩ := boxed_cells HBX.out
      go_wp2_with fail
      refine (zType _ _ _).mono ?_
      rintro r w6 ⟨rfl, hb6⟩
      have HBX := Aside0.mk (boxed_block HBX.out hb6)
      have HA := Aside0.mk (HA.out.old hb6)
      clear hb6 x0 x1
      go_wp2_with fail
      refine (numField_r _).mono ?_
      rintro r w7 ⟨rfl, hb7⟩
      have HBX := Aside0.mk (boxed_block HBX.out hb7)
      have HA := Aside0.mk (HA.out.old hb7)
      clear hb7
      go_wp2_with fail
      refine (field_r1 _).mono ?_
      rintro r w8 ⟨rfl, hb8⟩
      have HBX := Aside0.mk (boxed_block HBX.out hb8)
      have HA := Aside0.mk (HA.out.old hb8)
      clear hb8
      have hbn := (Below.refl w8.heap.size w8).alloc (Nat.le_refl _) (.cells #[.string ⟨#[118]⟩, .string ⟨#[]⟩, .string ⟨#[]⟩] 145)
      have HBX := Aside0.mk (boxed_block HBX.out hbn)
      have HA := Aside0.mk (HA.out.old hbn)
      clear hbn
      go_wp2_with fail
      refine (tagGet _ _ _).mono ?_
      rintro r w9 ⟨rfl, rfl⟩
      obtain ⟨x0, x1⟩ := boxed_cells HBX.out
      go_wp2_with fail
      refine (zField_r g c 1 (by decide) _ 113 (.agg #[.string S, .iface T y]) _ (valueOf_v _ _ _) _ ((HO.out.below hB HA.out.below).cell HG1.out)).mono ?_
      rintro r w9 ⟨rfl, hb9⟩
      have HBX := Aside0.mk (boxed_block HBX.out hb9)
      have HA := Aside0.mk (HA.out.old hb9)
      clear hb9 x0 x1
      go_wp2_with fail
      refine (HEV.out e b w9 B f _ (dep + 1) _ HA.out.ef (HO.out.below hB HA.out.below) hB (by omega) (by omega) (by omega) (by simp only [List.length_append, List.length_replicate, List.length_cons, List.length_nil]; omega)).mono ?_
      rintro r w10 ⟨rfl, hE10⟩
      have HBX := Aside0.mk (hE10.box HBX.out hne hneb (by intro c fz hc; cases hc))
      have HA := Aside0.mk (HA.out.trans hE10)
      clear hE10
      go_wp2_with fail
      go_roundw
      case rel => exact Or.inr (Or.inr ⟨by go_num, HA.out.as (by unfold recBytes; simp only [List.length_append, List.length_replicate, List.length_cons, List.length_nil]; omega) (by unfold recBytes; simp only [List.append_assoc]), HBX.out⟩)
      case measure => simp [intOf]
    · have HA := Aside0.mk h1.eg
      have HBX := Aside0.mk h1.box
      clear h1 HST
      obtain ⟨x0, x1⟩ := boxed_cells HBX.out
      go_wp2_with fail
      refine (zType _ _ _).mono ?_
      rintro r w6 ⟨rfl, hb6⟩
      have HBX := Aside0.mk (boxed_block HBX.out hb6)
      have HA := Aside0.mk (HA.out.old hb6)
      clear hb6 x0 x1
      go_wp2_with fail
      refine (numField_r _).mono ?_
      rintro r w7 ⟨rfl, hb7⟩
      have HBX := Aside0.mk (boxed_block HBX.out hb7)
      have HA := Aside0.mk (HA.out.old hb7)
      clear hb7
      go_wp2_with fail
      refine bodyPost_end (results_none (by rfl) _ _ _) rfl ⟨rfl, HA.out⟩
end Go.Proofs.YtldjigfnagfalaaGreatDoor.Given
end
