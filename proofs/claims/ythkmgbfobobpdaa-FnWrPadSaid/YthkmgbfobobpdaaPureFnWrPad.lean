/- The padding of a place and an offset, both of at most 2^40, is how many bytes are missing up to the next multiple of a power of 2 from 1 to 2^20. For all arguments; greater ones are let by, as the law has it. -/
import Derived.Test.YthkmgbfobobpdaaPFnWrPadx1
import Derived.Test.YthkmgbfobobpdaaPl
import Derived.Laws.BitsLemmas
namespace Go.Proofs.Ythkmgbfobobpdaa.Pure
open Go.RowKit Go.Proofs.Ythkmgbfobobpdaa.PFnWrPad Go.Proofs.YthkmgbfobobpdaaW.PrintWords Go.Proofs.YthkmgbfobobpdaaW.PrintLast
open Go.Proofs.Ythkmgbfobobpdaa.Pl Go.Proofs.Ythkmgbfobobpdaa.Given

theorem ofInt_wrap (b : BitVec 64) : BitVec.ofInt 64 (IntKind.i64.wrap ((b.toNat : Nat) : Int)) = b := by
  apply BitVec.eq_of_toNat_eq
  have := b.isLt
  rw [BitVec.toNat_ofInt, IntKind.wrap_i64]
  simp only [Nat.reducePow] at *
  omega
theorem clear_low (x : Nat) (p : Nat) (hp : p ≤ 62) (hx : x < 4611686018427387904) :
    Go.bits .and .i64 (x : Int) (Go.bits .xor .i64 (-1) (2 ^ p - 1)) = ((x / 2 ^ p * 2 ^ p : Nat) : Int) := by
  have hpos : 0 < 2 ^ p := Nat.two_pow_pos p
  have hc : ((2 : Int) ^ p - 1) = ((2 ^ p - 1 : Nat) : Int) := by
    rw [Int.natCast_sub hpos]; simp
  have e1 : Go.bits .xor .i64 (-1) (2 ^ p - 1) = IntKind.i64.wrap (((BitVec.ofInt 64 (-1) ^^^ BitVec.ofInt 64 (2 ^ p - 1)).toNat : Nat) : Int) := rfl
  have e2 : Go.bits .and .i64 (x : Int) (Go.bits .xor .i64 (-1) (2 ^ p - 1)) = IntKind.i64.wrap (((BitVec.ofInt 64 x &&& (BitVec.ofInt 64 (-1) ^^^ BitVec.ofInt 64 (2 ^ p - 1))).toNat : Nat) : Int) := by
    conv => lhs; rw [e1]
    show IntKind.i64.wrap (((BitVec.ofInt 64 x &&& BitVec.ofInt 64 (IntKind.i64.wrap _)).toNat : Nat) : Int) = _
    rw [ofInt_wrap]
  have e3 : (BitVec.ofInt 64 x &&& (BitVec.ofInt 64 (-1) ^^^ BitVec.ofInt 64 (2 ^ p - 1))).toNat = x / 2 ^ p * 2 ^ p := by
    apply Nat.eq_of_testBit_eq
    intro i
    rw [hc, BitVec.ofInt_natCast, BitVec.ofInt_natCast, show (BitVec.ofInt 64 (-1)) = BitVec.allOnes 64 from by decide]
    rw [BitVec.testBit_toNat, BitVec.getLsbD_and, BitVec.getLsbD_xor, BitVec.getLsbD_allOnes, BitVec.getLsbD_ofNat, BitVec.getLsbD_ofNat, Nat.testBit_two_pow_sub_one, Nat.testBit_mul_two_pow, Nat.testBit_div_two_pow]
    by_cases h1 : i < 64
    · by_cases h2 : i < p
      · simp [h1, h2, show ¬ p ≤ i by omega]
      · simp [h1, h2, show p ≤ i by omega]
    · have : x.testBit i = false := Nat.testBit_lt_two_pow (Nat.lt_of_lt_of_le hx (Nat.le_trans (by decide : 4611686018427387904 ≤ 2 ^ 64) (Nat.pow_le_pow_right (by decide) (by omega))))
      simp [h1, show p ≤ i by omega, this]
  rw [e2, e3, IntKind.wrap_i64]
  have : x / 2 ^ p * 2 ^ p ≤ x := Nat.div_mul_le_self x (2 ^ p)
  omega

/-- The padding, as the specification has it. -/
theorem pad_is (a p : Nat) (ha : a ≤ 2199023255552) (hp : p ≤ 20) : 0 ≤ pad (a : Int) (2 ^ p) ∧ pad (a : Int) (2 ^ p) < 2 ^ p ∧ ((a : Int) + pad (a : Int) (2 ^ p)) % 2 ^ p = 0 := by
  have hpos : 0 < 2 ^ p := Nat.two_pow_pos p
  have hle : 2 ^ p ≤ 1048576 := Nat.pow_le_pow_right (n := 2) (by decide) hp
  have hc : ((2 : Int) ^ p) = ((2 ^ p : Nat) : Int) := by simp
  unfold pad
  by_cases h : (a : Int) % 2 ^ p = 0
  · rw [if_pos h]; refine ⟨by omega, by rw [hc]; omega, by rw [Int.add_zero]; exact h⟩
  · have e : (a : Int) + 2 ^ p - 1 = ((a + 2 ^ p - 1 : Nat) : Int) := by rw [hc]; omega
    rw [if_neg h, e, clear_low (a + 2 ^ p - 1) p (by omega) (by omega)]
    rw [hc] at h ⊢
    generalize hg : 2 ^ p = g at *
    have hq := Nat.div_add_mod (a + g - 1) g
    have hm := Nat.mod_lt (a + g - 1) hpos
    have hq2 := Nat.div_add_mod a g
    have hm2 := Nat.mod_lt a hpos
    have h' : ¬ a % g = 0 := by intro z; exact h (by exact_mod_cast z)
    have e2 : (a + g - 1) / g = a / g + 1 := by
      have : a + g - 1 = (a % g - 1) + g * (a / g + 1) := by rw [Nat.mul_add]; omega
      rw [this, Nat.add_mul_div_left _ _ hpos, Nat.div_eq_of_lt (by omega)]; omega
    have e3 : (a + g - 1) / g * g = g * (a / g) + g := by rw [e2, Nat.add_mul, Nat.mul_comm]; omega
    rw [e3, w64 (by omega) (by omega)]
    refine ⟨by omega, by omega, ?_⟩
    have e4 : (a : Int) + (((g * (a / g) + g : Nat) : Int) - (a : Int)) = ((g * (a / g + 1) : Nat) : Int) := by rw [Nat.mul_add]; omega
    rw [e4]
    have : (g * (a / g + 1)) % g = 0 := Nat.mul_mod_right _ _
    exact_mod_cast this

theorem pad_call (x y g : Int) (h : 0 ≤ x ∧ x ≤ 1099511627776 ∧ 0 ≤ y ∧ y ≤ 1099511627776 ∧ 1 ≤ g ∧ g ≤ 1048576) : impl_WrPad.f x y g = some (pad (x + y) g) := by
  simp only [impl_WrPad.f, DoorPad.f]
  rw [if_pos h]; rfl

theorem pad_five : impl_WrPad.f 1 2 8 = some 5 := by
  have h8 : 0 ≤ pad 3 8 ∧ pad 3 8 < 8 ∧ (3 + pad 3 8) % 8 = 0 := pad_is 3 3 (by omega) (by omega)
  rw [pad_call 1 2 8 ⟨by omega, by omega, by omega, by omega, by omega, by omega⟩, show (1 : Int) + 2 = 3 from rfl, show pad 3 8 = 5 by omega]

theorem law_in (x y q : Nat) (hx : x ≤ 1099511627776) (hy : y ≤ 1099511627776) (hq : q ≤ 20) (g : Int) (hg : 1 ≤ g ∧ g ≤ 1048576) (eg' : Aside0 (shl .i64 1 (q : Int) = g)) (r : Int) (hr' : Aside0 (pad ((x : Int) + y) g = r)) (h1 : 0 ≤ r) (h2 : r < g) (h3 : ((x : Int) + y + r) % g = 0) :
    Ev (fun k => laws_FnWrPad.j0 k (x : Int) (y : Int) (q : Int) false) true := by
  have eq : IntKind.u64.wrap (q : Int) = (q : Int) := wu64 (by omega) (by omega)
  have ea : wrap64 (x : Int) = (x : Int) := w64 (by omega) (by omega)
  have eb : wrap64 (y : Int) = (y : Int) := w64 (by omega) (by omega)
  have hx' : (x : Int) ≤ 1099511627776 := by omega
  have hy' : (y : Int) ≤ 1099511627776 := by omega
  have e1 := pad_call (x : Int) (y : Int) g (And.intro (Int.natCast_nonneg x) (And.intro hx' (And.intro (Int.natCast_nonneg y) (And.intro hy' hg))))
  have es2 : wrap64 ((x : Int) + y) = (x : Int) + y := w64 (by omega) (by omega)
  have es3 : wrap64 ((x : Int) + y + r) = (x : Int) + y + r := w64 (by omega) (by omega)
  have em : Int.tmod ((x : Int) + y + r) g = 0 := by
    have hnn : 0 ≤ (x : Int) + y + r := by omega
    rw [Int.tmod_eq_emod_of_nonneg hnn]; exact h3
  have hz : ¬ g = 0 := by omega
  have hr0 : r ≥ 0 := h1
  have hq0 : (0 : Int) ≤ (q : Int) := Int.natCast_nonneg q
  have eg := eg'.out
  have hr := hr'.out
  rw [hr] at e1
  refine Ev_up ?_
  simp only [laws_FnWrPad.j0, if_neg (show ¬ (false = true) by decide), eq, eg, ea, eb, e1, pad_five, es2, es3, em, Option.bind_some, if_pos hq0, if_pos h2, if_pos hr0, if_neg hz, if_true]
  exact Ev_some rfl

theorem shl_is (q : Nat) (hq : q ≤ 20) : shl .i64 1 (q : Int) = ((2 ^ q : Nat) : Int) := by
  have hle : 2 ^ q ≤ 2 ^ 20 := Nat.pow_le_pow_right (n := 2) (by decide) hq
  have hc : ((2 : Int) ^ q) = ((2 ^ q : Nat) : Int) := by simp
  unfold shl
  rw [show min (q : Int).toNat IntKind.i64.bits = q by rw [Int.toNat_natCast]; exact Nat.min_eq_left (by show q ≤ 64; omega), Int.one_mul, IntKind.wrap_i64, hc]
  generalize 2 ^ q = g at *
  omega

theorem FnWrPad : laws_FnWrPad.Pure := by
  intro a b p ha hb hp
  obtain ⟨a0, a1⟩ := u64_range ha
  obtain ⟨b0, b1⟩ := u64_range hb
  obtain ⟨p0, p1⟩ := u8_range hp
  have out : Ev (fun k => laws_FnWrPad.j0 k a b p true) true := by
    refine Ev_up ?_
    simp only [laws_FnWrPad.j0, if_true]
    exact Ev.now _
  refine Ev.rounds ?_
  by_cases c1 : a > 1099511627776
  · simp only [laws_FnWrPad.f, if_pos c1]; exact out
  by_cases c2 : b > 1099511627776
  · simp only [laws_FnWrPad.f, if_neg c1, if_pos c2]; exact out
  simp only [laws_FnWrPad.f, if_neg c1, if_neg c2]
  by_cases c3 : p > 20
  · rw [decide_eq_true c3]; exact out
  rw [decide_eq_false c3]
  obtain ⟨x, rfl⟩ : ∃ n : Nat, a = (n : Int) := ⟨a.toNat, by omega⟩
  obtain ⟨y, rfl⟩ : ∃ n : Nat, b = (n : Int) := ⟨b.toNat, by omega⟩
  obtain ⟨q, rfl⟩ : ∃ n : Nat, p = (n : Int) := ⟨p.toNat, by omega⟩
  have hpos : 0 < 2 ^ q := Nat.two_pow_pos q
  have hle : 2 ^ q ≤ 2 ^ 20 := Nat.pow_le_pow_right (n := 2) (by decide) (show q ≤ 20 by omega)
  have es := shl_is q (by omega)
  have hpad := pad_is (x + y) q (by omega) (by omega)
  have hc : ((2 : Int) ^ q) = ((2 ^ q : Nat) : Int) := by simp
  rw [hc, show ((x + y : Nat) : Int) = (x : Int) + (y : Int) by omega] at hpad
  generalize 2 ^ q = g at *
  exact law_in x y q (by omega) (by omega) (by omega) (g : Int) ⟨by omega, by omega⟩ (Aside0.mk es) _ (Aside0.mk rfl) hpad.1 hpad.2.1 hpad.2.2

end Go.Proofs.Ythkmgbfobobpdaa.Pure
