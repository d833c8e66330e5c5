/- WrAlign over the words of trees. -/
import Derived.Test.YthkblpbabcibcaaDoorGvTf
import Derived.Test.YthkblpbabcibcaaDoorPThx3
import Derived.Test.YthkblpbabcibcaaDoorSgC
import Derived.Tactics
import Derived.Tactics2
import Derived.Defers
import Derived.Recover
import Derived.Laws.Pointers
import Derived.Outline
namespace Go.Proofs.YthkblpbabcibcaaDoor.Given
open Go.RowKit Go.Proofs.YthkblpbabcibcaaDoorW.PrintWords Go.Proofs.YthkblpbabcibcaaDoor.Pl Go.Proofs.YthkblpbabcibcaaDoor.Utf Go.Proofs.YthkblpbabcibcaaDoor.Bm Go.Proofs.YthkblpbabcibcaaDoor.By Go.Proofs.YthkblpbabcibcaaDoor.SgT Go.Proofs.YthkblpbabcibcaaDoor.PTh

/-- The alignment, by the first letter of the type. -/
def alg (c : Int) : Int := if c = 121 ∨ c = 98 ∨ c = 103 ∨ c = 118 then 1 else if c = 110 ∨ c = 113 then 2 else if c = 120 ∨ c = 116 ∨ c = 100 then 8 else 4

theorem bt_one (y : UInt8) : bt ⟨#[y]⟩ 0 = (y.toNat : Int) := by
  have h := bytesOf_cons (⟨#[y]⟩ : ByteArray) (by show 0 < 1; omega)
  exact (List.cons.inj h).1.symm
theorem list_one (y : UInt8) : (⟨#[y]⟩ : ByteArray).toList = [y] := by rw [ByteArray.toList_eq]
theorem al_one (y : UInt8) (k r : Int) (h118 : y ≠ 118) (h111 : y ≠ 111) (h103 : y ≠ 103) (hk : dbus_zzType_Kind.f 5 ⟨#[y]⟩ = some k) (hr : (if k = 7 then (some 1) else (if k = 8 then (dbus_alignment.j0 5 ⟨#[y]⟩ k (k == 8)) else (dbus_alignment.j0 5 ⟨#[y]⟩ k (k == 3)))) = some r) :
    dbus_alignment.f 6 ⟨#[y]⟩ = some r := by
  rw [dbus_alignment.f, list_one, if_neg (by simpa using h118), if_neg (by simpa using h111), if_neg (by simpa using h103), if_neg (by simp), hk]
  exact hr
theorem kind_one (y : UInt8) (k : Int) (h : (if (y.toNat : Int) = 121 then (some 7) else (if (y.toNat : Int) = 98 then (some 1) else (if (y.toNat : Int) = 110 then (some 3) else (if (y.toNat : Int) = 113 then (some 8) else (if (y.toNat : Int) = 105 then (dbus_zzType_Kind.j0 5 (y.toNat : Int) ((y.toNat : Int) == 105)) else (dbus_zzType_Kind.j0 5 (y.toNat : Int) ((y.toNat : Int) == 72))))))) = some k) : dbus_zzType_Kind.f 5 ⟨#[y]⟩ = some k := by
  unfold dbus_zzType_Kind.f
  rw [list_one, if_neg (by simp), if_pos (by show (0 : Int) < 1; omega), bt_one]
  exact h

theorem al_lone {c : Int} (h : Given.lone c = true) : dbus_alignment.f 6 (strOfNums [c]) = some (alg c) := by
  rcases is_lone h with ((((((((((((h | h) | h) | h) | h) | h) | h) | h) | h) | h) | h) | h) | h) | h <;> subst h
  · exact al_one 121 7 1 (by decide) (by decide) (by decide) (kind_one 121 7 rfl) rfl
  · exact al_one 98 1 1 (by decide) (by decide) (by decide) (kind_one 98 1 rfl) rfl
  · exact al_one 110 3 2 (by decide) (by decide) (by decide) (kind_one 110 3 rfl) rfl
  · exact al_one 113 8 2 (by decide) (by decide) (by decide) (kind_one 113 8 rfl) rfl
  · exact al_one 105 4 4 (by decide) (by decide) (by decide) (kind_one 105 4 rfl) rfl
  · exact al_one 117 9 4 (by decide) (by decide) (by decide) (kind_one 117 9 rfl) rfl
  · exact al_one 120 5 8 (by decide) (by decide) (by decide) (kind_one 120 5 rfl) rfl
  · exact al_one 116 10 8 (by decide) (by decide) (by decide) (kind_one 116 10 rfl) rfl
  · exact al_one 100 11 8 (by decide) (by decide) (by decide) (kind_one 100 11 rfl) rfl
  · exact al_one 115 17 4 (by decide) (by decide) (by decide) (kind_one 115 17 rfl) rfl
  · show dbus_alignment.f 6 ⟨#[103]⟩ = some 1
    rw [dbus_alignment.f, list_one]; rfl
  · show dbus_alignment.f 6 ⟨#[111]⟩ = some 4
    rw [dbus_alignment.f, list_one]; rfl
  · show dbus_alignment.f 6 ⟨#[118]⟩ = some 1
    rw [dbus_alignment.f, list_one]; rfl
  · exact al_one 104 9 4 (by decide) (by decide) (by decide) (kind_one 104 9 rfl) rfl

theorem al_other {t : ByteArray} (c : Int) (k : Int) (hc : (c = 91 ∧ k = 16) ∨ (c = 123 ∧ k = 14)) (h : 0 < t.size) (hb : bt t 0 = c) : dbus_alignment.f 6 t = some 4 := by
  have ne : ∀ (y : UInt8), (y.toNat : Int) ≠ c → t.toList ≠ [y] := fun y hy e => by
    apply hy
    have h1 := bytesOf_cons t h
    have h2 : bytesOf t = [(y.toNat : Int)] := by
      unfold bytesOf
      rw [← ByteArray.toList_eq, e]; rfl
    rw [h2, hb] at h1
    exact (List.cons.inj h1).1
  have ne0 : ¬ t.toList = [] := fun e => by rw [toList_nil] at e; omega
  have n118 := ne 118 (by rcases hc with ⟨rfl, _⟩ | ⟨rfl, _⟩ <;> decide)
  have n111 := ne 111 (by rcases hc with ⟨rfl, _⟩ | ⟨rfl, _⟩ <;> decide)
  have n103 := ne 103 (by rcases hc with ⟨rfl, _⟩ | ⟨rfl, _⟩ <;> decide)
  have kk : dbus_zzType_Kind.f 5 t = some k := by
    unfold dbus_zzType_Kind.f
    rw [if_neg ne0, if_pos (by omega), hb]
    rcases hc with ⟨rfl, rfl⟩ | ⟨rfl, rfl⟩ <;> rfl
  rw [dbus_alignment.f, if_neg n118, if_neg n111, if_neg n103, kk]
  split
  · rfl
  · rcases hc with ⟨rfl, rfl⟩ | ⟨rfl, rfl⟩ <;> rfl

theorem al_tree {x : Tr} (hx : wf x true) : dbus_alignment.f 6 (strOfNums (tyw x)) = some (alg ((word x).headD 0)) := by
  have hd : ∀ c l, bt (strOfNums (c :: l)) 0 = (UInt8.ofNat c.toNat).toNat := fun c l => by
    have h := bytesOf_cons (strOfNums (c :: l)) (by rw [strOf_size]; simp)
    have h2 : bytesOf (strOfNums (c :: l)) = ((UInt8.ofNat c.toNat).toNat : Int) :: bytesOf (strOfNums l) := by unfold bytesOf strOfNums; simp
    rw [h2] at h
    exact (List.cons.inj h).1.symm
  cases x with
  | nil => cases hx
  | cons x xs => cases hx.1
  | lone c => exact al_lone hx.2
  | arr x => exact al_other 91 16 (.inl ⟨rfl, rfl⟩) (by rw [strOf_size]; simp [tyw]) (hd 91 _)
  | dict key x => exact al_other 123 14 (.inr ⟨rfl, rfl⟩) (by rw [strOf_size]; simp [tyw]) (hd 123 _)
  | str xs => exact al_other 91 16 (.inl ⟨rfl, rfl⟩) (by rw [strOf_size]; simp [tyw]) (hd 91 _)

theorem catch_idle (p q : Addr) (w : World) :
    CallsD Tryd.prog 10 #[.pointer (some p), .pointer (some q)] .returning w fun e u' w' => e = .returned (.tuple #[]) ∧ u' = .returning ∧ w' = w := by
  refine callsD_of_wpS Tryd.func10 rfl fun c₀ cs hu => ?_
  apply wpS_seq
  apply wpS_region
  simp [wpOpsS, go_sem, recoverD, hu, Tryd.ntmps10, Exit.thenS]
  refine wpS_cond (t := false) (by simp [Act.eval, Array.replicate]) ?_
  simp only [Bool.false_eq_true, if_false]
  refine wpS_of_wp (wp_skip ?_)
  cases c₀
  simp_all [bodyPostS, results, Tryd.results10]

theorem keep2 {w w1 : World} {A B : Value} {x y : TypeId} (hb : Below ((w.alloc (.cells #[A] x)).alloc (.cells #[B] y)).heap.size ((w.alloc (.cells #[A] x)).alloc (.cells #[B] y)) w1) :
    w1.cell? ⟨w.heap.size, 0, none⟩ = some A ∧ w1.frozen? ⟨w.heap.size, 0, none⟩ = false ∧ w1.cell? ⟨w.heap.size + 1, 0, none⟩ = some B ∧ w1.frozen? ⟨w.heap.size + 1, 0, none⟩ = false := by
  refine ⟨(hb.cell (p := ⟨w.heap.size, 0, none⟩) (by simp; omega)).trans (by simp), (hb.frozen (p := ⟨w.heap.size, 0, none⟩) (by simp; omega)).trans (by simp), (hb.cell (p := ⟨w.heap.size + 1, 0, none⟩) (by simp)).trans (by simp), (hb.frozen (p := ⟨w.heap.size + 1, 0, none⟩) (by simp)).trans (by simp)⟩

set_option maxRecDepth 100000 in
set_option maxHeartbeats 4000000 in
theorem da_calls (s T : ByteArray) (n : Int) (w : World)
    (ht : ∀ w : World, Calls Tryd.prog 12 #[.string s] w fun e w' => e = .returned (.string T) ∧ Below w.heap.size w w')
    (ha : ∀ w : World, Calls Tryd.prog 11 #[.string T] w fun e w' => e = .returned (.int .i64 n) ∧ Drawn0 w w') :
    Calls Tryd.prog 8 #[.string s] w fun e w' => e = .returned (.tuple #[.int .i64 n, .nilIface]) ∧ Below w.heap.size w w' := by
  have hmf : ∀ (fn : Fn) (first cap : Array Value) (w : World), (Instr.makeFunc fn first cap).run Tryd.prog w = .ok (.func fn first cap) w := fun _ _ _ _ => rfl
  have HT := Aside0.mk ht
  have HA := Aside0.mk ha
  clear ht ha
  go_enter_defers Tryd.func8, Tryd.ntmps8
  go_wp2_with (first | (go_at_call 12; refine (HT.out _).mono ?_; rintro e w1 ⟨rfl, hb1⟩; obtain ⟨k1, k2, k3, k4⟩ := keep2 hb1) | (go_at_call 11; refine (HA.out _).mono ?_; rintro e w2 ⟨rfl, hd2⟩; obtain ⟨nd, rfl⟩ := hd2.out))
  refine leaves_cons (f := 10) (args := #[.pointer (some ⟨w.heap.size, 0, none⟩), .pointer (some ⟨w.heap.size + 1, 0, none⟩)]) (by simp) (by simp [go_sem]) ?_
  refine (catch_idle ⟨w.heap.size, 0, none⟩ ⟨w.heap.size + 1, 0, none⟩ _).mono ?_
  rintro e u' w'' ⟨rfl, rfl, rfl⟩
  have hlt : w.heap.size + 1 < w1.heap.size := World.block_lt_of_cell? w1 _ k3
  have hfin : Below w.heap.size w (((w1.drewN nd).setCell { block := w.heap.size, off := 0 } (Value.int IntKind.i64 n)).setCell { block := w.heap.size + 1, off := 0 } Value.nilIface) := by
    refine Below.setCell (Below.setCell (pw_below_drewN ?_ _) ?_ _) ?_ _
    · exact (((Below.refl _ w).alloc (Nat.le_refl _) _).alloc (by simp) _).trans (hb1.mono (by simp; omega))
    · simp
    · simp
  simp [Leaves, settle, results, Tryd.results8, go_sem, k1, k3, hfin]

set_option maxRecDepth 100000 in
set_option maxHeartbeats 4000000 in
theorem wa_calls (s : ByteArray) (n : Int) (w : World)
    (ht : ∀ w : World, Calls Tryd.prog 8 #[.string s] w fun e w' => e = .returned (.tuple #[.int .i64 n, .nilIface]) ∧ Below w.heap.size w w') :
    Calls Tryd.prog 6 #[.string s] w fun e w' => e = .returned (.tuple #[.int .i64 n, .bool true]) ∧ Below w.heap.size w w' := by
  have HT := Aside0.mk ht
  clear ht
  go_enter Tryd.func6, Tryd.ntmps6
  go_wp2_with (go_at_call 8; refine (HT.out _).mono ?_; rintro e w1 ⟨rfl, hb1⟩)
  go_quiet (fail)
  go_wp2
  go_ret2
  exact ⟨rfl, pw_below_drewN hb1 _⟩

/-- What the statement says of a text that is the word of a type. -/
def IsWord (s : ByteArray) : Prop := s.size ≤ 255 ∧ ∃ x, wf x true ∧ bytesOf s = word x ∧ fits x 0 0 0 = true
/-- .. reckoned. -/
def isWordB (s : ByteArray) : Bool := decide (s.size ≤ 255) && decide (0 < s.size) && decide (cmpL (s.size + 1) (bytesOf s) 32 32 32 = s.size)
theorem isWord_of {s : ByteArray} (h : isWordB s = true) : IsWord s := by
  unfold isWordB at h
  simp only [Bool.and_eq_true, decide_eq_true_eq] at h
  obtain ⟨⟨hs, hp⟩, hc⟩ := h
  obtain ⟨x, hx, rest, e, el⟩ := cmpL_tree (s.size + 1) (bytesOf s) 32 32 32 (by omega)
  have hl := congrArg List.length e
  rw [bytesOf_length, List.length_append] at hl
  have hr : rest = [] := List.eq_nil_of_length_eq_zero (by omega)
  rw [hr, List.append_nil] at e
  have h2 := (cmpL_word x).1 hx (s.size + 1) [] 32 32 32 (by omega)
  rw [List.append_nil, ← e] at h2
  refine ⟨hs, x, hx, e, ?_⟩
  cases hf : fits x 0 0 0 with
  | true => rfl
  | false => rw [show (32 : Int) - 32 = 0 from rfl, hf] at h2; simp only [if_neg (show ¬ (false = true) by decide)] at h2; omega
theorem isWord_to {s : ByteArray} (h : IsWord s) : isWordB s = true := by
  obtain ⟨hs, x, hx, e, hf⟩ := h
  have hl : s.size = (word x).length := by rw [← bytesOf_length, e]
  have h2 := (cmpL_word x).1 hx (s.size + 1) [] 32 32 32 (by omega)
  rw [List.append_nil, ← e, show (32 : Int) - 32 = 0 from rfl, if_pos hf, bytesOf_length] at h2
  unfold isWordB
  simp only [Bool.and_eq_true, decide_eq_true_eq]
  exact ⟨⟨hs, word_ne hx e⟩, by omega⟩

def WrAlign.f (s : ByteArray) : Option (Int × Bool) := if isWordB s = true then some (alg (bt s 0), true) else none

theorem WrAlign.calls (s : ByteArray) (r1 : Int) (r2 : Bool) (w : World) (h : WrAlign.f s = some (r1, r2)) :
    Calls Tryd.prog 6 #[.string s] w fun e w' => e = .returned (.tuple #[.int .i64 r1, .bool r2]) ∧ Below w.heap.size w w' := by
  unfold WrAlign.f at h
  split at h
  · rename_i hw
    obtain ⟨rfl, rfl⟩ := Prod.mk.inj (Option.some.inj h)
    obtain ⟨hs, x, hx, e, hf⟩ := isWord_of hw
    refine wa_calls s _ w fun w => da_calls s (strOfNums (tyw x)) _ w (fun w => typeFor.calls x hx s w e (by omega) hf) fun w => ?_
    refine dbus_alignment.calls 6 _ _ w ?_
    rw [al_tree hx]
    congr 2
    rw [← e, bytesOf_cons s (word_ne hx e)]; rfl
  · cases h
end Go.Proofs.YthkblpbabcibcaaDoor.Given
