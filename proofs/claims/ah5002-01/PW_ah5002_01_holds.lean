import PyProof.Rows.All
import Wide.All
import OpenK.AllK
import Wide.FinOn
import Lean
import PySem.Challenge.RW_ah5002_01
set_option Elab.async false
set_option rowWalk.seconds 0
section
open PySem PySem.W PyProof.Rows
set_option Elab.async false
namespace Mine
set_option maxRecDepth 100000
set_option maxHeartbeats 8000000
open_top hd for PySem.Challenge.rw_ah5002_01
end Mine
end
section
open PySem PySem.W PyProof.Rows
set_option Elab.async false
namespace Mine
/-- r is the whole root of n -/
def Rt (n r : Int) : Prop := 0 ≤ r ∧ r * r ≤ n ∧ n < (r + 1) * (r + 1)
theorem sq_mono {a b : Int} (h0 : 0 ≤ a) (h : a ≤ b) : a * a ≤ b * b := Int.mul_le_mul h h h0 (by omega)
theorem sq_lt {a b : Int} (h0 : 0 ≤ b) (h : a * a < b * b) : a < b := by
  apply Classical.byContradiction
  intro h1
  have := sq_mono h0 (show b ≤ a by omega)
  omega
theorem Rt.unique {n r q : Int} (h : Rt n r) (k : Rt n q) : r = q := by
  obtain ⟨a, b, c⟩ := h
  obtain ⟨d, e, f⟩ := k
  have h1 : r < q + 1 := sq_lt (by omega) (by omega)
  have h2 : q < r + 1 := sq_lt (by omega) (by omega)
  omega
theorem newton_le {n r y : Int} (hr : 0 < r) (hy : y = (r + n / r) / 2) (h : r ≤ y) : r * r ≤ n := by
  have h1 : n / r * r ≤ n := Int.ediv_mul_le n (by omega)
  have h2 : r ≤ n / r := by omega
  have h3 : r * r ≤ n / r * r := Int.mul_le_mul_of_nonneg_right h2 (by omega)
  omega
theorem sq_nonneg' (a : Int) : 0 ≤ a * a := by
  rcases Int.le_total 0 a with h | h
  · exact Int.mul_nonneg h h
  · exact Int.mul_nonneg_of_nonpos_of_nonpos h h
theorem newton_lt {n r y : Int} (hr : 0 < r) (hn : 1 ≤ n) (hy : y = (r + n / r) / 2) : n < (y + 1) * (y + 1) := by
  have h1 : n < (n / r + 1) * r := Int.lt_ediv_add_one_mul_self n hr
  have h0 : 0 ≤ n / r := Int.ediv_nonneg (by omega) (by omega)
  generalize n / r = q at *
  have h2 : (r + q + 1) * (r + q + 1) ≤ (2 * (y + 1)) * (2 * (y + 1)) := sq_mono (by omega) (by omega)
  have h3 := sq_nonneg' (r - (q + 1))
  have h4 : (r + q + 1) * (r + q + 1) = (r - (q + 1)) * (r - (q + 1)) + 4 * ((q + 1) * r) := by grind
  have h5 : (2 * (y + 1)) * (2 * (y + 1)) = 4 * ((y + 1) * (y + 1)) := by grind
  omega
theorem newton_pos {n y : Int} (hn : 1 ≤ n) (h0 : 0 ≤ y) (h : n < (y + 1) * (y + 1)) : 0 < y := by
  rcases Int.lt_or_le 0 y with h1 | h1
  · exact h1
  · have : y = 0 := by omega
    subst this
    simp at h
    omega
theorem fdiv1 (x : Int) : x.fdiv (2 ^ Int.toNat 1) = x / 2 := by
  rw [Int.fdiv_eq_ediv_of_nonneg _ (by decide)]; rfl
theorem newton_y {n r : Int} (hr : 0 < r) : (r + n.fdiv r).fdiv (2 ^ Int.toNat 1) = (r + n / r) / 2 := by
  rw [fdiv1, Int.fdiv_eq_ediv_of_nonneg _ (by omega)]
/-- the number of binary digits -/
theorem bits_le {n : Int} (h : 1 ≤ n) : (2 : Int) ^ (Builtin.Int.intBits n - 1) ≤ n ∧ 1 ≤ Builtin.Int.intBits n := by
  unfold Builtin.Int.intBits
  have h0 : (n == 0) = false := by simp; omega
  rw [h0]
  simp only [Bool.false_eq_true, if_false]
  refine ⟨?_, by omega⟩
  have h1 := Nat.log2_self_le (n := n.natAbs) (by omega)
  have h2 : ((2 ^ n.natAbs.log2 : Nat) : Int) = (2 : Int) ^ n.natAbs.log2 := kbt_cast _
  rw [Nat.add_sub_cancel]
  omega
theorem bits_lt (n : Int) : n < (2 : Int) ^ (Builtin.Int.intBits n) := by
  unfold Builtin.Int.intBits
  split
  · rename_i h
    have : n = 0 := by simpa using h
    subst this; decide
  · have h1 := @Nat.lt_log2_self n.natAbs
    have h2 : ((2 ^ (n.natAbs.log2 + 1) : Nat) : Int) = (2 : Int) ^ (n.natAbs.log2 + 1) := kbt_cast _
    omega
theorem pow_mono {a b : Nat} (h : a ≤ b) : (2 : Int) ^ a ≤ 2 ^ b := by
  rw [← kbt_cast, ← kbt_cast]
  exact Int.ofNat_le.mpr (Nat.pow_le_pow_right (by decide) h)
theorem pow_lt {a b : Nat} (h : a < b) : (2 : Int) ^ a < 2 ^ b := by
  rw [← kbt_cast, ← kbt_cast]
  exact Int.ofNat_lt.mpr (Nat.pow_lt_pow_right (by decide) h)
theorem pow_lt_iff {a b : Nat} (h : (2 : Int) ^ a < 2 ^ b) : a < b := by
  apply Classical.byContradiction
  intro h1
  have := pow_mono (show b ≤ a by omega)
  omega
theorem bits_le_of {n : Int} {k : Nat} (h0 : 0 ≤ n) (h : n < 2 ^ k) : Builtin.Int.intBits n ≤ k := by
  rcases Int.lt_or_le 0 n with h1 | h1
  · have ⟨h2, h3⟩ := bits_le (show 1 ≤ n by omega)
    have := pow_lt_iff (show (2 : Int) ^ (Builtin.Int.intBits n - 1) < 2 ^ k by omega)
    omega
  · have : n = 0 := by omega
    subst this
    have : Builtin.Int.intBits 0 = 0 := by decide
    omega
theorem bits_ge_of {n : Int} {k : Nat} (h : (2 : Int) ^ k ≤ n) : k + 1 ≤ Builtin.Int.intBits n := by
  have h1 := bits_lt n
  have := pow_lt_iff (show (2 : Int) ^ k < 2 ^ Builtin.Int.intBits n by omega)
  omega
theorem bits_eq {n : Int} {k : Nat} (h : (2 : Int) ^ k ≤ n) (h1 : n < 2 ^ (k + 1)) : Builtin.Int.intBits n = k + 1 := by
  have := bits_ge_of h
  have hp := kbt_pos k
  have := bits_le_of (by omega) h1
  omega
/-- a size: opaque to the arithmetic closers -/
structure Sz (k : Nat) (a : Int) : Prop where
  mk ::
  out : a.natAbs < 2 ^ k
theorem Sz.lt {k : Nat} {a : Int} (h : Sz k a) : a < 2 ^ k := by
  have := h.out
  rw [← kbt_cast]
  omega
theorem Sz.of_lt {k : Nat} {a : Int} (h0 : 0 ≤ a) (h : a < 2 ^ k) : Sz k a := by
  refine .mk ?_
  rw [← kbt_cast] at h
  omega
theorem Sz.mono {k j : Nat} {a : Int} (h : Sz k a) (hk : k ≤ j) : Sz j a := .mk (Nat.lt_of_lt_of_le h.out (Nat.pow_le_pow_right (by decide) hk))
theorem Sz.le {k : Nat} {a b : Int} (h : Sz k a) (h0 : 0 ≤ b) (h1 : b ≤ a) : Sz k b := .mk (by have := h.out; omega)
theorem Sz.bits {k : Nat} {a : Int} (h : Sz k a) : Builtin.Int.intBits a ≤ k := by
  have h1 := h.out
  unfold Builtin.Int.intBits
  split
  · omega
  · rename_i h0
    have : a.natAbs ≠ 0 := by intro h2; exact h0 (by simp; omega)
    have := (Nat.log2_lt this).mpr h1
    omega
theorem Sz.pylong {k : Nat} {a b : Int} (h : Sz k b) (hk : k ≤ 9000) : Builtin.divisionGoesByPylong a b = false := by
  refine PyProof.noPylong_of_log2 ?_
  rcases Nat.eq_zero_or_pos b.natAbs with h0 | h0
  · rw [h0]; decide
  · exact (Nat.log2_lt (by omega)).mpr (Nat.lt_of_lt_of_le h.out (Nat.pow_le_pow_right (by decide) hk))
theorem Sz.mulOk {k j : Nat} {a b : Int} (h : Sz k a) (h' : Sz j b) (hk : k ≤ 2 ^ 20) (hj : j ≤ 2 ^ 20) : IntMulOk a b :=
  IntMulOk.of_bits (Nat.le_trans h.bits hk) (Nat.le_trans h'.bits hj)
theorem natAbs_mul_lt {a b : Int} {k j : Nat} (h : a.natAbs < 2 ^ k) (h' : b.natAbs < 2 ^ j) : (a * b).natAbs < 2 ^ (k + j) := by
  rw [Int.natAbs_mul, Nat.pow_add]
  exact Nat.mul_lt_mul'' h h'
theorem Sz.mul {k j : Nat} {a b : Int} (h : Sz k a) (h' : Sz j b) : Sz (k + j) (a * b) := .mk (natAbs_mul_lt h.out h'.out)
theorem Sz.pow (k : Nat) : Sz (k + 1) (2 ^ k) := .of_lt (Int.le_of_lt (kbt_pos k)) (pow_lt (Nat.lt_succ_self k))
theorem Sz.add {k : Nat} {a b : Int} (h : Sz k a) (h' : Sz k b) : Sz (k + 1) (a + b) := by
  refine .mk ?_
  have := h.out
  have := h'.out
  rw [Nat.pow_succ]
  omega
theorem Sz.shift {k : Nat} {a n : Int} (h : Sz k a) (hk : k + n ≤ 2 ^ 27) : (Builtin.Int.intBits a : Int) + n ≤ 2 ^ 27 := by
  have := h.bits
  omega
/-- the first guess -/
theorem guess {n : Int} (h : 1 ≤ n) : 0 < (1 : Int) * 2 ^ (((Builtin.Int.intBits n : Int) + 1).fdiv (2 ^ Int.toNat 1)).toNat ∧
    n < (1 * 2 ^ (((Builtin.Int.intBits n : Int) + 1).fdiv (2 ^ Int.toNat 1)).toNat + 1) * (1 * 2 ^ (((Builtin.Int.intBits n : Int) + 1).fdiv (2 ^ Int.toNat 1)).toNat + 1) := by
  rw [fdiv1, Int.one_mul]
  generalize he : (((Builtin.Int.intBits n : Int) + 1) / 2).toNat = e
  have hp := kbt_pos e
  refine ⟨hp, ?_⟩
  have h1 := bits_lt n
  have h2 : (2 : Int) ^ Builtin.Int.intBits n ≤ 2 ^ (e + e) := pow_mono (by omega)
  rw [Int.pow_add] at h2
  have h3 : ((2 : Int) ^ e + 1) * (2 ^ e + 1) = 2 ^ e * 2 ^ e + 2 * 2 ^ e + 1 := by grind
  omega
theorem guess_sz {n : Int} {k : Nat} (hk : k ≤ 8000) (h : Sz k n) : Sz 8000 ((1 : Int) * 2 ^ (((Builtin.Int.intBits n : Int) + 1).fdiv (2 ^ Int.toNat 1)).toNat) := by
  have := h.bits
  rw [fdiv1, Int.one_mul]
  exact (Sz.pow _).mono (by omega)
theorem guess_e {n : Int} {k : Nat} (hk : k ≤ 8000) (h : Sz k n) : 0 ≤ ((Builtin.Int.intBits n : Int) + 1).fdiv (2 ^ Int.toNat 1) ∧ ((Builtin.Int.intBits n : Int) + 1).fdiv (2 ^ Int.toNat 1) ≤ 1000000 := by
  have := h.bits
  rw [fdiv1]
  omega
end Mine
end
section
open PySem PySem.W PyProof.Rows
set_option Elab.async false
namespace Mine
inductive Rnd : Str → Prop
  | n : Rnd (Str.ofString "n")
  | f : Rnd (Str.ofString "f")
  | c : Rnd (Str.ofString "c")
  | d : Rnd (Str.ofString "d")
  | u : Rnd (Str.ofString "u")
theorem fdivp (x : Int) (k : Nat) : x.fdiv (2 ^ k) = x / 2 ^ k := Int.fdiv_eq_ediv_of_nonneg _ (Int.le_of_lt (kbt_pos k))
/-- odd part, exponent, digits -/
def Odd1 (W e y z u : Int) : Prop := ∃ j : Nat, y % 2 = 1 ∧ y * 2 ^ j = W ∧ z = e + j ∧ u = (Builtin.Int.intBits y : Int)
/-- b is the number of digits of W, or W is 2 ^ b -/
def BW (b W : Int) : Prop := 0 ≤ b ∧ 1 ≤ W ∧ (b = (Builtin.Int.intBits W : Int) ∨ W = 2 ^ b.toNat)
theorem bits_one : Builtin.Int.intBits 1 = 1 := by decide
theorem band1 (x : Int) : Builtin.bitAnd x 1 = x % 2 := by have := kbt_mask x 1; simpa using this
theorem band2 (x : Int) : Builtin.bitAnd x 2 = (x / 2 % 2) * 2 := by have := kbt_bit x 1; simpa using this
theorem pow_odd {j : Nat} (h : ((2 : Int) ^ j) % 2 = 1) : j = 0 := by
  cases j with
  | zero => rfl
  | succ k => rw [Int.pow_succ] at h; omega
theorem ends_one {b W e : Int} (hb : BW b W) (h0 : Builtin.bitAnd W 1 ≠ 0) (h1 : W = 1) : Odd1 W e W e 1 :=
  ⟨0, by rw [h1]; rfl, by simp, by simp, by rw [h1]; rfl⟩
theorem ends_odd {b W e : Int} (hb : BW b W) (h0 : Builtin.bitAnd W 1 ≠ 0) (h1 : W ≠ 1) : Odd1 W e W e b := by
  rw [band1] at h0
  refine ⟨0, by omega, by simp, by simp, ?_⟩
  rcases hb.2.2 with h | h
  · exact h
  · have := pow_odd (j := b.toNat) (by rw [← h]; omega)
    rw [this] at h
    exact absurd h (by simpa using h1)
/-- a number is its odd part times a power of 2 -/
theorem split2 (n : Nat) : ∀ W : Int, 1 ≤ W → W.toNat ≤ n → ∃ (j : Nat) (a : Int), W = 2 ^ j * (2 * a + 1) ∧ 0 ≤ a := by
  induction n with
  | zero => intro W h h'; omega
  | succ n ih =>
    intro W h h'
    rcases Int.emod_two_eq W with h2 | h2
    · obtain ⟨j, a, e, ha⟩ := ih (W / 2) (by omega) (by omega)
      refine ⟨j + 1, a, ?_, ha⟩
      rw [Int.pow_succ, Int.mul_comm (2 ^ j) 2, Int.mul_assoc, ← e]
      omega
    · exact ⟨0, W / 2, by rw [Int.pow_zero]; omega, by omega⟩
theorem bits_pow_mul {a : Int} (h : 1 ≤ a) (j : Nat) : Builtin.Int.intBits (2 ^ j * a) = j + Builtin.Int.intBits a := by
  have ⟨h1, h2⟩ := bits_le h
  have h3 := bits_lt a
  have hp := kbt_pos j
  have e : j + Builtin.Int.intBits a = (j + (Builtin.Int.intBits a - 1)) + 1 := by omega
  rw [e]
  refine bits_eq ?_ ?_
  · rw [Int.pow_add]; exact Int.mul_le_mul_of_nonneg_left h1 (Int.le_of_lt hp)
  · have e2 : (2 : Int) ^ ((j + (Builtin.Int.intBits a - 1)) + 1) = 2 ^ j * 2 ^ Builtin.Int.intBits a := by rw [← Int.pow_add]; congr 1; omega
    rw [e2]; exact Int.mul_lt_mul_of_pos_left h3 hp
theorem bits_pow (j : Nat) : Builtin.Int.intBits ((2 : Int) ^ j) = j + 1 := by
  have := bits_pow_mul (a := 1) (by decide) j
  rw [Int.mul_one, bits_one] at this
  exact this
/-- the count of trailing zeros, as trailing reckons it -/
theorem trail {W : Int} (h : 1 ≤ W) : ∃ (j : Nat) (a : Int), W = 2 ^ j * (2 * a + 1) ∧ 0 ≤ a ∧ (Builtin.Int.intBits (Builtin.bitAnd W (-W)) : Int) - 1 = j := by
  obtain ⟨j, a, e, ha⟩ := split2 W.toNat W h (Nat.le_refl _)
  refine ⟨j, a, e, ha, ?_⟩
  rw [e, kbt_low, bits_pow]
  omega
theorem ends_even1 {b W e t : Int} (hb : BW b W) (ht : t = (Builtin.Int.intBits (Builtin.bitAnd W (-W)) : Int) - 1) (h1 : W.fdiv (2 ^ t.toNat) = 1) : Odd1 W e (W.fdiv (2 ^ t.toNat)) (e + t) 1 := by
  obtain ⟨j, a, ew, ha, ej⟩ := trail hb.2.1
  rw [← ht] at ej
  subst ej
  rw [h1]
  rw [Int.toNat_natCast, fdivp] at h1
  have hp := kbt_pos j
  rw [ew, Int.mul_ediv_cancel_left _ (by omega)] at h1
  refine ⟨j, by decide, ?_, rfl, rfl⟩
  rw [ew, h1]; simp
theorem ends_even {b W e t : Int} (hb : BW b W) (ht : t = (Builtin.Int.intBits (Builtin.bitAnd W (-W)) : Int) - 1) (h1 : W.fdiv (2 ^ t.toNat) ≠ 1) : Odd1 W e (W.fdiv (2 ^ t.toNat)) (e + t) (b - t) := by
  obtain ⟨j, a, ew, ha, ej⟩ := trail hb.2.1
  rw [← ht] at ej
  subst ej
  have hp := kbt_pos j
  rw [Int.toNat_natCast, fdivp] at h1 ⊢
  have e2 : W / 2 ^ j = 2 * a + 1 := by rw [ew]; exact Int.mul_ediv_cancel_left _ (by omega)
  rw [e2] at h1 ⊢
  refine ⟨j, by omega, by rw [ew, Int.mul_comm], rfl, ?_⟩
  rcases hb.2.2 with h | h
  · rw [h, ew, bits_pow_mul (by omega)]; omega
  · exfalso
    have h2 : (2 : Int) ^ j * (2 * a + 1) = 2 ^ b.toNat := by rw [← ew, h]
    have hjb : j ≤ b.toNat := by
      apply Classical.byContradiction
      intro hc
      have := pow_lt (show b.toNat < j by omega)
      have h3 : (2 : Int) ^ j * 1 ≤ 2 ^ j * (2 * a + 1) := Int.mul_le_mul_of_nonneg_left (by omega) (by omega)
      omega
    have e3 : (2 : Int) ^ b.toNat = 2 ^ j * 2 ^ (b.toNat - j) := by rw [← Int.pow_add]; congr 1; omega
    rw [e3] at h2
    have h4 := Int.eq_of_mul_eq_mul_left (show (2 : Int) ^ j ≠ 0 by omega) h2
    have := pow_odd (j := b.toNat - j) (by rw [← h4]; omega)
    rw [this, Int.pow_zero] at h4
    exact h1 h4
/-- how _normalize rounds man / 2 ^ n -/
def rd (rnd : Str) (man n : Int) : Int :=
  if rnd = Str.ofString "n" then
    (if Builtin.bitAnd (man.fdiv (2 ^ (n - 1).toNat)) 1 ≠ 0 ∧ (Builtin.bitAnd (man.fdiv (2 ^ (n - 1).toNat)) 2 ≠ 0 ∨ Builtin.bitAnd man (1 * 2 ^ (n - 1).toNat - 1) ≠ 0)
      then (man.fdiv (2 ^ (n - 1).toNat)).fdiv (2 ^ Int.toNat 1) + 1 else (man.fdiv (2 ^ (n - 1).toNat)).fdiv (2 ^ Int.toNat 1))
  else if rnd = Str.ofString "c" ∨ rnd = Str.ofString "u" then -((-man).fdiv (2 ^ n.toNat))
  else man.fdiv (2 ^ n.toNat)
theorem rd_f {rnd : Str} {man n : Int} (h : rnd = Str.ofString "f" ∨ rnd = Str.ofString "d") : rd rnd man n = man.fdiv (2 ^ n.toNat) := by
  rcases h with rfl | rfl <;> (unfold rd; rw [if_neg (by decide), if_neg (by decide)])
theorem rd_c {rnd : Str} {man n : Int} (h : rnd = Str.ofString "c" ∨ rnd = Str.ofString "u") : rd rnd man n = -((-man).fdiv (2 ^ n.toNat)) := by
  rcases h with rfl | rfl <;> (unfold rd; rw [if_neg (by decide), if_pos (by decide)])
section
variable {man n : Int}
theorem rd_n1 (h1 : Builtin.bitAnd (man.fdiv (2 ^ (n - 1).toNat)) 1 ≠ 0) (h2 : Builtin.bitAnd (man.fdiv (2 ^ (n - 1).toNat)) 2 ≠ 0) : (man.fdiv (2 ^ (n - 1).toNat)).fdiv (2 ^ Int.toNat 1) + 1 = rd (Str.ofString "n") man n := by
  unfold rd; rw [if_pos rfl, if_pos ⟨h1, .inl h2⟩]
theorem rd_n2 (h1 : Builtin.bitAnd (man.fdiv (2 ^ (n - 1).toNat)) 1 ≠ 0) (h2 : Builtin.bitAnd man (1 * 2 ^ (n - 1).toNat - 1) ≠ 0) : (man.fdiv (2 ^ (n - 1).toNat)).fdiv (2 ^ Int.toNat 1) + 1 = rd (Str.ofString "n") man n := by
  unfold rd; rw [if_pos rfl, if_pos ⟨h1, .inr h2⟩]
theorem rd_n3 (h1 : Builtin.bitAnd (man.fdiv (2 ^ (n - 1).toNat)) 1 = 0) : (man.fdiv (2 ^ (n - 1).toNat)).fdiv (2 ^ Int.toNat 1) = rd (Str.ofString "n") man n := by
  unfold rd; rw [if_pos rfl, if_neg (fun h => h.1 h1)]
theorem rd_n4 (h1 : Builtin.bitAnd (man.fdiv (2 ^ (n - 1).toNat)) 2 = 0) (h2 : Builtin.bitAnd man (1 * 2 ^ (n - 1).toNat - 1) = 0) : (man.fdiv (2 ^ (n - 1).toNat)).fdiv (2 ^ Int.toNat 1) = rd (Str.ofString "n") man n := by
  unfold rd; rw [if_pos rfl, if_neg (fun h => h.2.elim (fun q => q h1) (fun q => q h2))]
end
theorem quot_bd {man bc prec : Int} (h1 : 1 ≤ man) (hb : bc = (Builtin.Int.intBits man : Int)) (hp : 1 ≤ prec) (hn : 0 < bc - prec) : (2 : Int) ^ (prec - 1).toNat ≤ man / 2 ^ (bc - prec).toNat ∧ man / 2 ^ (bc - prec).toNat < 2 ^ prec.toNat := by
  have ⟨h2, h3⟩ := bits_le h1
  have h4 := bits_lt man
  have hq := kbt_pos (bc - prec).toNat
  refine ⟨Int.le_ediv_of_mul_le hq ?_, Int.ediv_lt_of_lt_mul hq ?_⟩
  · rw [← Int.pow_add, show (prec - 1).toNat + (bc - prec).toNat = Builtin.Int.intBits man - 1 by omega]; exact h2
  · rw [← Int.pow_add, show prec.toNat + (bc - prec).toNat = Builtin.Int.intBits man by omega]; exact h4
theorem bw_of {q W prec : Int} (hp : 1 ≤ prec) (h1 : (2 : Int) ^ (prec - 1).toNat ≤ q) (h2 : q < 2 ^ prec.toNat) (hW : W = q ∨ W = q + 1) : BW prec W := by
  have hq := kbt_pos (prec - 1).toNat
  refine ⟨by omega, by omega, ?_⟩
  rcases Int.lt_or_le W (2 ^ prec.toNat) with h | h
  · refine .inl ?_
    have := bits_eq (n := W) (k := (prec - 1).toNat) (by omega) (by rw [show (prec - 1).toNat + 1 = prec.toNat by omega]; exact h)
    omega
  · exact .inr (by omega)
theorem ceil_bd {man p : Int} (hp : 0 < p) : -((-man) / p) = man / p ∨ -((-man) / p) = man / p + 1 := by
  have a1 := Int.ediv_mul_le man (show p ≠ 0 by omega)
  have a2 := Int.lt_ediv_add_one_mul_self man hp
  have b1 := Int.ediv_mul_le (-man) (show p ≠ 0 by omega)
  have b2 := Int.lt_ediv_add_one_mul_self (-man) hp
  generalize man / p = q at *
  generalize (-man) / p = r at *
  have c1 : (q + r) * p < 1 * p := by rw [Int.add_mul]; omega
  have c2 : (-2) * p < (q + r) * p := by rw [Int.add_mul]; rw [Int.add_mul] at a2 b2; omega
  have d1 := Int.lt_of_mul_lt_mul_right c1 (by omega)
  have d2 := Int.lt_of_mul_lt_mul_right c2 (by omega)
  omega
theorem half_half {man n : Int} (hn : 0 < n) : (man.fdiv (2 ^ (n - 1).toNat)).fdiv (2 ^ Int.toNat 1) = man / 2 ^ n.toNat := by
  rw [fdiv1, fdivp, Int.ediv_ediv_of_nonneg (Int.le_of_lt (kbt_pos _)), ← Int.pow_succ, show (n - 1).toNat.succ = n.toNat by omega]
section
variable {man bc prec : Int} (h1 : 1 ≤ man) (hb : bc = (Builtin.Int.intBits man : Int)) (hp : 1 ≤ prec) (hn : 0 < bc - prec)
include h1 hb hp hn
theorem bw_dn : BW prec (man.fdiv (2 ^ (bc - prec).toNat)) := by
  have h := quot_bd h1 hb hp hn
  exact bw_of hp h.1 h.2 (.inl (fdivp _ _))
theorem bw_up : BW prec (-((-man).fdiv (2 ^ (bc - prec).toNat))) := by
  have h := quot_bd h1 hb hp hn
  exact bw_of hp h.1 h.2 (by rw [fdivp]; exact ceil_bd (kbt_pos _))
theorem bw_n0 : BW prec ((man.fdiv (2 ^ (bc - prec - 1).toNat)).fdiv (2 ^ Int.toNat 1)) := by
  have h := quot_bd h1 hb hp hn
  exact bw_of hp h.1 h.2 (.inl (half_half hn))
theorem bw_n1 : BW prec ((man.fdiv (2 ^ (bc - prec - 1).toNat)).fdiv (2 ^ Int.toNat 1) + 1) := by
  have h := quot_bd h1 hb hp hn
  exact bw_of hp h.1 h.2 (.inr (by rw [half_half hn]))
omit hp hn
theorem bw_self : BW bc man := ⟨by omega, h1, .inl hb⟩
end
end Mine
end
section
open PySem PySem.W PyProof.Rows
set_option Elab.async false
namespace Mine
/-- the shift of mpf_sqrt, from the digits b and prec -/
abbrev shF (b prec : Int) : Int := (if 2 * prec - b + 4 > 4 then 2 * prec - b + 4 else 4) + Builtin.bitAnd (if 2 * prec - b + 4 > 4 then 2 * prec - b + 4 else 4) 1
theorem shF_ok {b prec : Int} (hb : 0 ≤ b) (h4 : 1 ≤ prec) (h5 : prec ≤ 90) : 0 ≤ shF b prec ∧ shF b prec ≤ 400 ∧ shF b prec % 2 = 0 ∧ 2 * prec + 4 ≤ b + shF b prec := by
  unfold shF
  rw [band1]
  split <;> omega
theorem bits_nn (n : Int) : 0 ≤ (Builtin.Int.intBits n : Int) := Int.natCast_nonneg _
theorem toNat1 : Int.toNat 1 = 1 := rfl
section
variable {mm b prec sh r : Int} (h1 : 1 ≤ mm) (hb : b = (Builtin.Int.intBits mm : Int)) (h4 : 1 ≤ prec) (h5 : prec ≤ 90)
include h1
theorem mM_nn (k : Nat) : 0 ≤ mm * 2 ^ k := Int.mul_nonneg (by omega) (Int.le_of_lt (kbt_pos _))
omit h1
theorem mM_sz (h2 : Sz 201 mm) (hs : sh ≤ 400) : Sz 4000 (mm * 2 ^ sh.toNat) := (h2.mul (Sz.pow sh.toNat)).mono (by omega)
include h1 hb h4
theorem root_big (hs : 2 * prec + 4 ≤ b + sh) (hs0 : 0 ≤ sh) (hr : Rt (mm * 2 ^ sh.toNat) r) : (2 : Int) ^ (prec.toNat + 1) ≤ r := by
  have ⟨g1, g2⟩ := bits_le h1
  have hp := kbt_pos sh.toNat
  have hq := kbt_pos (prec.toNat + 1)
  have e1 : (2 : Int) ^ (Builtin.Int.intBits mm - 1) * 2 ^ sh.toNat ≤ mm * 2 ^ sh.toNat := Int.mul_le_mul_of_nonneg_right g1 (Int.le_of_lt hp)
  rw [← Int.pow_add] at e1
  have e2 : (2 : Int) ^ ((prec.toNat + 1) + (prec.toNat + 1)) ≤ 2 ^ (Builtin.Int.intBits mm - 1 + sh.toNat) := pow_mono (by omega)
  rw [Int.pow_add] at e2
  have e3 : (2 : Int) ^ (prec.toNat + 1) < r + 1 := sq_lt (by have := hr.1; omega) (by have := hr.2.2; omega)
  omega
end
theorem root_ge1 {r : Int} {k : Nat} (h : (2 : Int) ^ k ≤ r) : 1 ≤ r := by have := kbt_pos k; omega
theorem bits_big {prec r : Int} (h4 : 1 ≤ prec) (h : (2 : Int) ^ (prec.toNat + 1) ≤ r) : 0 < (Builtin.Int.intBits r : Int) - prec := by
  have := bits_ge_of h
  omega
theorem bits_two {r : Int} (h : 1 ≤ r) : Builtin.Int.intBits (r * 2 ^ Int.toNat 1 + 1) = Builtin.Int.intBits r + 1 := by
  have ⟨h1, h2⟩ := bits_le h
  have h3 := bits_lt r
  rw [toNat1]
  refine bits_eq ?_ ?_
  · have e : (2 : Int) ^ Builtin.Int.intBits r = 2 ^ (Builtin.Int.intBits r - 1) * 2 := by rw [← Int.pow_succ, Nat.succ_eq_add_one, Nat.sub_add_cancel h2]
    rw [e, Int.pow_one]; omega
  · rw [Int.pow_succ 2 (Builtin.Int.intBits r), Int.pow_one]; omega
theorem sz_two {r : Int} (h0 : 0 ≤ r) (h : Sz 3000 r) : Sz 4000 (r * 2 ^ Int.toNat 1 + 1) := by
  refine Sz.mono (k := 3001) (.of_lt ?_ ?_) (by decide)
  · rw [toNat1, Int.pow_one]; omega
  · have := h.lt
    rw [toNat1, Int.pow_one, Int.pow_succ]
    generalize (2 : Int) ^ 3000 = q at *
    omega
theorem root_szk {n r : Int} {k : Nat} (h : Rt n r) (hn : Sz k n) : Sz k r := by
  refine hn.le h.1 ?_
  rcases Int.lt_or_le 0 r with h0 | h0
  · have := Int.mul_le_mul_of_nonneg_left (show 1 ≤ r by omega) h.1
    have := h.2.1
    omega
  · have := h.1; have := h.2.1
    have : r = 0 := by omega
    subst this; simpa using h.2.1
theorem sh_e {mm sh : Int} (h : Sz 201 mm) (hs : sh ≤ 400) : (Builtin.Int.intBits mm : Int) + sh ≤ 2 ^ 27 := h.shift (by omega)
section
variable {mm b prec sh r : Int} (hr : Rt (mm * 2 ^ sh.toNat) r) (h1 : 1 ≤ mm) (h2 : Sz 201 mm) (hb : b = (Builtin.Int.intBits mm : Int)) (hs : 2 * prec + 4 ≤ b + sh) (h4 : 1 ≤ prec) (hs0 : 0 ≤ sh) (hs1 : sh ≤ 400)
include h2 hs1 hr
theorem r_sz : Sz 3000 r := (root_szk hr (h2.mul (Sz.pow sh.toNat))).mono (by omega)
theorem r_sz4 : Sz 4000 r := (r_sz hr h2 hs1).mono (by decide)
theorem r_e : (Builtin.Int.intBits r : Int) + 1 ≤ 2 ^ 27 := (r_sz hr h2 hs1).shift (by decide)
theorem r2_sz : Sz 4000 (r * 2 ^ Int.toNat 1 + 1) := sz_two hr.1 (r_sz hr h2 hs1)
omit h2 hs1 hr
include h1 hb h4 hs hs0 hr
theorem r_ge : 1 ≤ r := root_ge1 (root_big h1 hb h4 hs hs0 hr)
theorem r_bits : 0 < (Builtin.Int.intBits r : Int) - prec := bits_big h4 (root_big h1 hb h4 hs hs0 hr)
theorem r2_ge : 1 ≤ r * 2 ^ Int.toNat 1 + 1 := by
  have := r_ge hr h1 hb hs h4 hs0
  rw [toNat1, Int.pow_one]; omega
theorem r2_bits : 0 < (Builtin.Int.intBits (r * 2 ^ Int.toNat 1 + 1) : Int) - prec := by
  have := r_bits hr h1 hb hs h4 hs0
  rw [bits_two (r_ge hr h1 hb hs h4 hs0)]; omega
end
/-- the mantissa and the exponent that mpf_sqrt goes on with -/
def Nm (man exp mm e1 : Int) : Prop := (exp % 2 = 0 ∧ mm = man ∧ e1 = exp) ∨ (exp % 2 = 1 ∧ mm = man * 2 ∧ e1 = exp - 1)
inductive SqRaw (man exp prec : Int) (rnd : Str) : Int → Int → Int → Prop
  | one (h : man = 1) (he : exp % 2 = 0) : SqRaw man exp prec rnd 1 (exp.fdiv 2) 1
  | exact {mm e1 sh r y z u : Int} (hm : Nm man exp mm e1) (hs : 0 ≤ sh ∧ sh % 2 = 0 ∧ 2 * prec + 4 ≤ (Builtin.Int.intBits mm : Int) + sh) (hr : Rt (mm * 2 ^ sh.toNat) r)
      (hx : r * r = mm * 2 ^ sh.toNat ∨ rnd = Str.ofString "f" ∨ rnd = Str.ofString "d")
      (ho : Odd1 (rd rnd r ((Builtin.Int.intBits r : Int) - prec)) ((e1 - sh).fdiv 2 + ((Builtin.Int.intBits r : Int) - prec)) y z u) : SqRaw man exp prec rnd y z u
  | sticky {mm e1 sh r y z u : Int} (hm : Nm man exp mm e1) (hs : 0 ≤ sh ∧ sh % 2 = 0 ∧ 2 * prec + 4 ≤ (Builtin.Int.intBits mm : Int) + sh) (hr : Rt (mm * 2 ^ sh.toNat) r)
      (hx : r * r ≠ mm * 2 ^ sh.toNat)
      (ho : Odd1 (rd rnd (r * 2 ^ Int.toNat 1 + 1) ((Builtin.Int.intBits (r * 2 ^ Int.toNat 1 + 1) : Int) - prec)) ((e1 - (sh + 2)).fdiv 2 + ((Builtin.Int.intBits (r * 2 ^ Int.toNat 1 + 1) : Int) - prec)) y z u) : SqRaw man exp prec rnd y z u
theorem nm_even {man exp : Int} (h : Builtin.bitAnd exp 1 = 0) : Nm man exp man exp := .inl ⟨by rw [band1] at h; exact h, rfl, rfl⟩
theorem nm_odd {man exp : Int} (h : Builtin.bitAnd exp 1 ≠ 0) : Nm man exp (man * 2 ^ Int.toNat 1) (exp - 1) := .inr ⟨by rw [band1] at h; omega, by rw [toNat1, Int.pow_one], rfl⟩
theorem bits_dbl {man bc : Int} (h1 : 1 ≤ man) (h3 : bc = (Builtin.Int.intBits man : Int)) : bc + 1 = (Builtin.Int.intBits (man * 2 ^ Int.toNat 1) : Int) := by
  rw [toNat1, Int.mul_comm, bits_pow_mul h1]
  omega
theorem sz_dbl {man : Int} (h1 : 1 ≤ man) (h2 : Sz 200 man) : Sz 201 (man * 2 ^ Int.toNat 1) := by
  refine .of_lt ?_ ?_
  · rw [toNat1, Int.pow_one]; omega
  · have := h2.lt
    rw [toNat1, Int.pow_one, Int.pow_succ]
    generalize (2 : Int) ^ 200 = q at *
    omega
theorem one_bits {man bc : Int} (h : man = 1) (h3 : bc = (Builtin.Int.intBits man : Int)) : bc = 1 := by subst h; rw [h3, bits_one]; rfl
end Mine
end
section
open PySem PySem.W PyProof.Rows
set_option Elab.async false
namespace Mine
/-- the exponent of the last place -/
abbrev dn (man exp prec : Int) : Int := ((Builtin.Int.intBits man : Int) + exp + 1).fdiv 2 - prec
theorem fdiv2 (x : Int) : x.fdiv 2 = x / 2 := Int.fdiv_eq_ediv_of_nonneg _ (by decide)
theorem fmod2 (x : Int) : x.fmod 2 = x % 2 := Int.fmod_eq_emod_of_nonneg _ (by decide)
theorem dn_bd (man exp prec : Int) : 2 * dn man exp prec ≤ (Builtin.Int.intBits man : Int) + exp + 1 - 2 * prec ∧ (Builtin.Int.intBits man : Int) + exp - 2 * prec ≤ 2 * dn man exp prec := by
  unfold dn
  rw [fdiv2]
  omega
section
variable {man exp prec : Int} (h1 : 1 ≤ man) (h2 : Sz 200 man) (h4 : 1 ≤ prec) (h5 : prec ≤ 90)
include h2 h5
theorem due_eA : exp - 2 * dn man exp prec ≤ 400 := by
  have := dn_bd man exp prec
  have := h2.bits
  omega
omit h5
include h4
theorem due_eB : 2 * dn man exp prec - exp ≤ 400 := by
  have := dn_bd man exp prec
  have := h2.bits
  omega
end
theorem le_nn {a b : Int} (h : a ≤ b) : 0 ≤ b - a := by omega
theorem nle_nn {a b : Int} (h : ¬ a ≤ b) : 0 ≤ a - b := by omega
theorem le_mil {e : Int} (h : e ≤ 400) : e ≤ 1000000 := by omega
theorem pw_sz {e : Int} (h : e ≤ 400) : Sz 401 ((2 : Int) ^ e.toNat) := (Sz.pow e.toNat).mono (by omega)
theorem pw_ne {e : Int} : (2 : Int) ^ e.toNat ≠ 0 := by have := kbt_pos e.toNat; omega
theorem pw_pyl {a e : Int} (h : e ≤ 400) : Builtin.divisionGoesByPylong a ((2 : Int) ^ e.toNat) = false := (pw_sz h).pylong (by decide)
theorem mA_ok {man e : Int} (h : Sz 200 man) (he : e ≤ 400) : IntMulOk man ((2 : Int) ^ e.toNat) := h.mulOk (pw_sz he) (by decide) (by decide)
theorem mA_sz {man e : Int} (h : Sz 200 man) (he : e ≤ 400) : Sz 601 (man * (2 : Int) ^ e.toNat) := h.mul (pw_sz he)
theorem fd1 (x : Int) : x.fdiv 1 = x := by rw [Int.fdiv_eq_ediv_of_nonneg _ (by decide), Int.ediv_one]
/-- what is above and below the line -/
inductive AB (man exp d : Int) : Int → Int → Prop
  | up (h : 2 * d ≤ exp) : AB man exp d (man * 2 ^ (exp - 2 * d).toNat) 1
  | dn (h : ¬ 2 * d ≤ exp) : AB man exp d man (2 ^ (2 * d - exp).toNat)
section
variable {man exp prec : Int} (h1 : 1 ≤ man) (h2 : Sz 200 man) (h4 : 1 ≤ prec) (h5 : prec ≤ 90)
include h1
theorem fA_ge : 1 ≤ (man * 2 ^ (exp - 2 * dn man exp prec).toNat).fdiv 1 := by
  rw [fd1]
  have hp := kbt_pos (exp - 2 * dn man exp prec).toNat
  have := Int.mul_le_mul_of_nonneg_right h1 (Int.le_of_lt hp)
  omega
include h4
theorem fB_ge (h : ¬ 2 * dn man exp prec ≤ exp) : 1 ≤ man.fdiv (2 ^ (2 * dn man exp prec - exp).toNat) := by
  have ⟨g1, g2⟩ := bits_le h1
  have := dn_bd man exp prec
  rw [fdivp]
  refine Int.le_ediv_of_mul_le (kbt_pos _) ?_
  have := pow_mono (show (2 * dn man exp prec - exp).toNat ≤ Builtin.Int.intBits man - 1 by omega)
  omega
omit h1 h4
include h2 h5
theorem fA_sz : Sz 601 ((man * 2 ^ (exp - 2 * dn man exp prec).toNat).fdiv 1) := by rw [fd1]; exact mA_sz h2 (due_eA h2 h5)
omit h5
include h1
theorem fB_sz : Sz 601 (man.fdiv (2 ^ (2 * dn man exp prec - exp).toNat)) := by
  rw [fdivp]
  refine (h2.mono (show 200 ≤ 601 by decide)).le (Int.ediv_nonneg (by omega) (Int.le_of_lt (kbt_pos _))) (Int.ediv_le_self _ (by omega))
end
theorem nn_of {n : Int} (h : 1 ≤ n) : 0 ≤ n := by omega
theorem sz4_of {n : Int} (h : Sz 601 n) : Sz 4000 n := h.mono (by decide)
theorem q_pos {n q : Int} (hr : Rt n q) (h : 1 ≤ n) : 1 ≤ q := by
  have h0 := hr.1
  have h2 := hr.2.2
  rcases Int.lt_or_le 0 q with h3 | h3
  · omega
  · have : q = 0 := by omega
    subst this
    simp at h2
    omega
section
variable {n q b : Int} (hr : Rt n q) (hs : Sz 601 n)
include hr hs
theorem q_sz : Sz 601 q := root_szk hr hs
theorem q2_sz : Sz 604 (2 * q + 1) := by
  refine .of_lt (by have := hr.1; omega) ?_
  have h := (q_sz hr hs).lt
  have : (2 : Int) ^ 604 = 8 * 2 ^ 601 := by rw [show (604 : Nat) = 601 + 3 from rfl, Int.pow_add]; generalize (2 : Int) ^ 601 = z; omega
  rw [this]
  have := kbt_pos 601
  generalize (2 : Int) ^ 601 = z at *
  omega
theorem q2_e : (Builtin.Int.intBits (2 * q + 1) : Int) * 2 ≤ 2 ^ 27 := by
  have := (q2_sz hr hs).bits
  omega
theorem sqm (a : Int) : a ^ Int.toNat 2 = a * a := by show a ^ 2 = _; rw [Int.pow_succ, Int.pow_succ, Int.pow_zero, Int.one_mul]
theorem q2_mul (hb : Sz 401 b) : IntMulOk ((2 * q + 1) ^ Int.toNat 2) b := by
  rw [sqm (n := n) (q := q) hr hs]
  exact ((q2_sz hr hs).mul (q2_sz hr hs)).mulOk hb (by decide) (by decide)
theorem qq_mul : IntMulOk q q := (q_sz hr hs).mulOk (q_sz hr hs) (by decide) (by decide)
theorem qqb_mul (hb : Sz 401 b) : IntMulOk (q * q) b := ((q_sz hr hs).mul (q_sz hr hs)).mulOk hb (by decide) (by decide)
end
/-- the loop that strips zeros -/
structure Lp (W D w d : Int) : Prop where
  pos : 1 ≤ w
  ex : ∃ j : Nat, w * 2 ^ j = W ∧ d = D + j
theorem lp_start {W D : Int} (h : 1 ≤ W) : Lp W D W D := ⟨h, 0, by simp, by simp⟩
theorem lp_next {W D w d : Int} (h : Lp W D w d) (hz : w.fmod 2 = 0) : Lp W D (w.fdiv 2) (d + 1) := by
  obtain ⟨h1, j, e1, e2⟩ := h
  rw [fmod2] at hz
  rw [fdiv2]
  refine ⟨by omega, j + 1, ?_, by omega⟩
  rw [Int.pow_succ, Int.mul_comm (2 ^ j), ← Int.mul_assoc, show w / 2 * 2 = w by omega]
  exact e1
theorem lp_less {W D w d : Int} (h : Lp W D w d) : (w.fdiv 2).toNat < w.toNat := by
  have := h.pos
  rw [fdiv2]
  omega
theorem lp_end {W D w d : Int} (h : Lp W D w d) (hz : w.fmod 2 ≠ 0) : Odd1 W D w d (Builtin.Int.intBits w) := by
  obtain ⟨h1, j, e1, e2⟩ := h
  rw [fmod2] at hz
  exact ⟨j, by omega, e1, e2, rfl⟩
/-- when the law's text steps up -/
def Up (rnd : Str) (a b q : Int) : Prop := q * q * b < a ∧ (rnd = Str.ofString "c" ∨ rnd = Str.ofString "u" ∨ (rnd = Str.ofString "n" ∧ ((2 * q + 1) ^ Int.toNat 2 * b - 4 * a < 0 ∨ ((2 * q + 1) ^ Int.toNat 2 * b - 4 * a = 0 ∧ q.fmod 2 = 1))))
section
variable {a b q : Int}
theorem up_c (h : q * q * b < a) : Up (Str.ofString "c") a b q := ⟨h, .inl rfl⟩
theorem up_u (h : q * q * b < a) : Up (Str.ofString "u") a b q := ⟨h, .inr (.inl rfl)⟩
theorem up_n1 (h : q * q * b < a) (g : (2 * q + 1) ^ Int.toNat 2 * b - 4 * a < 0) : Up (Str.ofString "n") a b q := ⟨h, .inr (.inr ⟨rfl, .inl g⟩)⟩
theorem up_n2 (h : q * q * b < a) (g : (2 * q + 1) ^ Int.toNat 2 * b - 4 * a = 0) (o : q.fmod 2 = 1) : Up (Str.ofString "n") a b q := ⟨h, .inr (.inr ⟨rfl, .inr ⟨g, o⟩⟩)⟩
theorem no_f : ¬ Up (Str.ofString "f") a b q := fun h => h.2.elim (fun e => absurd e (by decide)) fun h => h.elim (fun e => absurd e (by decide)) fun h => absurd h.1 (by decide)
theorem no_d : ¬ Up (Str.ofString "d") a b q := fun h => h.2.elim (fun e => absurd e (by decide)) fun h => h.elim (fun e => absurd e (by decide)) fun h => absurd h.1 (by decide)
theorem no_any {rnd : Str} (h : ¬ q * q * b < a) : ¬ Up rnd a b q := fun k => h k.1
theorem no_n (h : ¬ (2 * q + 1) ^ Int.toNat 2 * b - 4 * a < 0) (g : (2 * q + 1) ^ Int.toNat 2 * b - 4 * a = 0 → q.fmod 2 = 1 → False) : ¬ Up (Str.ofString "n") a b q :=
  fun k => k.2.elim (fun e => absurd e (by decide)) fun k => k.elim (fun e => absurd e (by decide)) fun k => k.2.elim h fun z => g z.1 z.2
theorem no_n1 (h : ¬ (2 * q + 1) ^ Int.toNat 2 * b - 4 * a < 0) (g : (2 * q + 1) ^ Int.toNat 2 * b - 4 * a ≠ 0) : ¬ Up (Str.ofString "n") a b q := no_n h fun e _ => g e
theorem no_n2 (h : ¬ (2 * q + 1) ^ Int.toNat 2 * b - 4 * a < 0) (g : q.fmod 2 ≠ 1) : ¬ Up (Str.ofString "n") a b q := no_n h fun _ e => g e
end
inductive DueRaw (man exp prec : Int) (rnd : Str) : Int → Int → Int → Prop
  | up {a b q y z u : Int} (hr : Rt (a.fdiv b) q) (hab : AB man exp (dn man exp prec) a b) (hu : Up rnd a b q) (ho : Odd1 (q + 1) (dn man exp prec) y z u) : DueRaw man exp prec rnd y z u
  | no {a b q y z u : Int} (hr : Rt (a.fdiv b) q) (hab : AB man exp (dn man exp prec) a b) (hu : ¬ Up rnd a b q) (ho : Odd1 q (dn man exp prec) y z u) : DueRaw man exp prec rnd y z u
end Mine
end
section
open PySem PySem.W PyProof.Rows
set_option Elab.async false
namespace Mine
theorem odd1_unique {W e y z u y' z' u' : Int} (h : Odd1 W e y z u) (k : Odd1 W e y' z' u') : y = y' ∧ z = z' ∧ u = u' := by
  have key : ∀ (a b : Int) (i j : Nat), a % 2 = 1 → b % 2 = 1 → a * 2 ^ i = b * 2 ^ j → i < j → False := by
    intro a b i j ha _ e hij
    have e2 : (2 : Int) ^ j = 2 ^ i * 2 ^ (j - i) := by rw [← Int.pow_add]; congr 1; omega
    rw [e2, Int.mul_comm (2 ^ i), ← Int.mul_assoc] at e
    have hp := kbt_pos i
    have e3 := Int.eq_of_mul_eq_mul_right (show (2 : Int) ^ i ≠ 0 by omega) e
    obtain ⟨m, hm⟩ : ∃ m, j - i = m + 1 := ⟨j - i - 1, by omega⟩
    rw [hm, Int.pow_succ, ← Int.mul_assoc] at e3
    omega
  obtain ⟨j, h1, h2, h3, h4⟩ := h
  obtain ⟨j', k1, k2, k3, k4⟩ := k
  have hj : j = j' := by
    rcases Nat.lt_trichotomy j j' with q | q | q
    · exact (key y y' j j' h1 k1 (by rw [h2, k2]) q).elim
    · exact q
    · exact (key y' y j' j k1 h1 (by rw [h2, k2]) q).elim
  subst hj
  have hp := kbt_pos j
  have hy : y = y' := Int.eq_of_mul_eq_mul_right (show (2 : Int) ^ j ≠ 0 by omega) (by rw [h2, k2])
  subst hy
  exact ⟨rfl, by omega, by omega⟩
section
variable {M r p a b q : Int} (hp : 0 < p) (hb : 0 < b) (hr : Rt M r) (hab : a * (p * p) = M * b)
include hp hb hr hab
theorem q_root : Rt (a.fdiv b) (r / p) := by
  rw [Int.fdiv_eq_ediv_of_nonneg _ (Int.le_of_lt hb)]
  have h1 := Int.ediv_mul_le r (show p ≠ 0 by omega)
  have h2 := Int.lt_ediv_add_one_mul_self r hp
  have h0 : 0 ≤ r / p := Int.ediv_nonneg hr.1 (Int.le_of_lt hp)
  generalize r / p = W at *
  have hpp : 0 < p * p := Int.mul_pos hp hp
  refine ⟨h0, Int.le_ediv_of_mul_le hb ?_, Int.ediv_lt_of_lt_mul hb ?_⟩
  · refine Int.le_of_mul_le_mul_right ?_ hpp
    rw [hab]
    have e : W * W * b * (p * p) = (W * p) * (W * p) * b := by grind
    rw [e]
    have := sq_mono (Int.mul_nonneg h0 (Int.le_of_lt hp)) h1
    exact Int.mul_le_mul_of_nonneg_right (Int.le_trans this hr.2.1) (Int.le_of_lt hb)
  · refine Int.lt_of_mul_lt_mul_right (a := p * p) ?_ (Int.le_of_lt hpp)
    rw [hab]
    have e : (W + 1) * (W + 1) * b * (p * p) = ((W + 1) * p) * ((W + 1) * p) * b := by grind
    rw [e]
    have := sq_mono (show 0 ≤ r + 1 by have := hr.1; omega) (show r + 1 ≤ (W + 1) * p by omega)
    exact Int.mul_lt_mul_of_pos_right (Int.lt_of_lt_of_le hr.2.2 this) hb
theorem q_char (hq : Rt (a.fdiv b) q) : q = r / p := hq.unique (q_root hp hb hr hab)
omit hr
theorem lt_char (x k : Int) : x * b < k * a ↔ x * (p * p) < k * M := by
  have hpp : 0 < p * p := Int.mul_pos hp hp
  have e1 : x * b * (p * p) = x * (p * p) * b := by grind
  have e2 : k * a * (p * p) = k * M * b := by rw [Int.mul_assoc, hab, Int.mul_assoc]
  constructor
  · intro h
    have := Int.mul_lt_mul_of_pos_right h hpp
    rw [e1, e2] at this
    exact Int.lt_of_mul_lt_mul_right this (Int.le_of_lt hb)
  · intro h
    have := Int.mul_lt_mul_of_pos_right h hb
    rw [← e1, ← e2] at this
    exact Int.lt_of_mul_lt_mul_right this (Int.le_of_lt hpp)
theorem eq_char (x k : Int) : x * b = k * a ↔ x * (p * p) = k * M := by
  have hpp : 0 < p * p := Int.mul_pos hp hp
  have e1 : x * b * (p * p) = x * (p * p) * b := by grind
  have e2 : k * a * (p * p) = k * M * b := by rw [Int.mul_assoc, hab, Int.mul_assoc]
  constructor
  · intro h
    have : x * b * (p * p) = k * a * (p * p) := by rw [h]
    rw [e1, e2] at this
    exact Int.eq_of_mul_eq_mul_right (by omega) this
  · intro h
    have : x * (p * p) * b = k * M * b := by rw [h]
    rw [← e1, ← e2] at this
    exact Int.eq_of_mul_eq_mul_right (by omega) this
end
theorem pow_half {n : Int} (hn : 1 ≤ n) : (2 : Int) ^ n.toNat = 2 * 2 ^ (n - 1).toNat := by
  rw [show n.toNat = (n - 1).toNat + 1 by omega, Int.pow_succ, Int.mul_comm]
theorem rd_n_char {r n : Int} (hn : 1 ≤ n) : rd (Str.ofString "n") r n =
    if (2 * (r / 2 ^ n.toNat) + 1) * 2 ^ (n - 1).toNat < r ∨ ((2 * (r / 2 ^ n.toNat) + 1) * 2 ^ (n - 1).toNat = r ∧ (r / 2 ^ n.toNat) % 2 = 1) then r / 2 ^ n.toNat + 1 else r / 2 ^ n.toNat := by
  unfold rd
  rw [if_pos rfl, half_half (by omega), Int.one_mul, kbt_mask, band1, band2, fdivp]
  have hq : r / 2 ^ n.toNat = r / 2 ^ (n - 1).toNat / 2 := by
    rw [← half_half (by omega : 0 < n), fdiv1, fdivp]
  rw [hq]
  have hh := kbt_pos (n - 1).toNat
  have h1 := Int.emod_add_mul_ediv r (2 ^ (n - 1).toNat)
  have h2 := Int.emod_nonneg r (show (2 : Int) ^ (n - 1).toNat ≠ 0 by omega)
  have h3 := Int.emod_lt_of_pos r hh
  generalize (2 : Int) ^ (n - 1).toNat = h at *
  generalize r / h = t at *
  generalize r % h = f at *
  obtain ⟨k, s, hk, hs⟩ : ∃ k s : Int, t = 2 * k + s ∧ (s = 0 ∨ s = 1) := ⟨t / 2, t % 2, by omega, by omega⟩
  have e1 : t / 2 = k := by omega
  have e2 : t % 2 = s := by omega
  rw [e1, e2]
  have e3 : h * t = 2 * (k * h) + s * h := by rw [hk]; grind
  have e4 : (2 * k + 1) * h = 2 * (k * h) + h := by grind
  rw [e3] at h1
  rw [e4]
  generalize k * h = X at *
  rcases hs with rfl | rfl
  · rw [Int.zero_mul] at h1
    rw [if_neg (by omega), if_neg (by omega)]
  · rw [Int.one_mul] at h1
    by_cases hc : (1 : Int) ≠ 0 ∧ (k % 2 * 2 ≠ 0 ∨ f ≠ 0)
    · rw [if_pos hc, if_pos (by omega)]
    · rw [if_neg hc, if_neg (by omega)]
theorem rd_c_char {rnd : Str} {r n : Int} (h : rnd = Str.ofString "c" ∨ rnd = Str.ofString "u") : rd rnd r n = if r / 2 ^ n.toNat * 2 ^ n.toNat < r then r / 2 ^ n.toNat + 1 else r / 2 ^ n.toNat := by
  rw [rd_c h, fdivp]
  have hp := kbt_pos n.toNat
  generalize (2 : Int) ^ n.toNat = p at *
  have a1 := Int.ediv_mul_le r (show p ≠ 0 by omega)
  have a2 := Int.lt_ediv_add_one_mul_self r hp
  have b1 := Int.ediv_mul_le (-r) (show p ≠ 0 by omega)
  have b2 := Int.lt_ediv_add_one_mul_self (-r) hp
  generalize r / p = q at *
  generalize (-r) / p = m at *
  have e1 : (q + m) * p = q * p + m * p := Int.add_mul ..
  have e2 : (q + 1) * p = q * p + p := by grind
  have e3 : (m + 1) * p = m * p + p := by grind
  rcases Int.lt_or_le (q * p) r with h1 | h1
  · rw [if_pos h1]
    have c1 : (q + m) * p < 0 * p := by rw [e1]; omega
    have c2 : (-2) * p < (q + m) * p := by rw [e1]; omega
    have d1 := Int.lt_of_mul_lt_mul_right c1 (by omega)
    have d2 := Int.lt_of_mul_lt_mul_right c2 (by omega)
    omega
  · rw [if_neg (by omega)]
    have c1 : (q + m) * p < 1 * p := by rw [e1]; omega
    have c2 : (-1) * p < (q + m) * p := by rw [e1]; omega
    have d1 := Int.lt_of_mul_lt_mul_right c1 (by omega)
    have d2 := Int.lt_of_mul_lt_mul_right c2 (by omega)
    omega
end Mine
end
section
open PySem PySem.W PyProof.Rows
set_option Elab.async false
namespace Mine
theorem sq2' (a : Int) : a ^ Int.toNat 2 = a * a := by show a ^ 2 = _; rw [Int.pow_succ, Int.pow_succ, Int.pow_zero, Int.one_mul]
theorem sq_lt_iff {a b : Int} (ha : 0 ≤ a) (hb : 0 ≤ b) : a * a < b * b ↔ a < b := by
  constructor
  · exact sq_lt hb
  · intro h
    have := sq_mono (show 0 ≤ a + 1 by omega) (show a + 1 ≤ b by omega)
    have e : (a + 1) * (a + 1) = a * a + 2 * a + 1 := by grind
    omega
theorem sq_eq_iff {a b : Int} (ha : 0 ≤ a) (hb : 0 ≤ b) : a * a = b * b ↔ a = b := by
  constructor
  · intro h
    have h1 := (sq_lt_iff ha hb)
    have h2 := (sq_lt_iff hb ha)
    omega
  · intro h; rw [h]
theorem bits_root {M r : Int} (hM : 1 ≤ M) (hr : Rt M r) : (Builtin.Int.intBits r : Int) = ((Builtin.Int.intBits M : Int) + 1) / 2 := by
  have ⟨g1, g2⟩ := bits_le hM
  have g3 := bits_lt M
  obtain ⟨k, hk⟩ : ∃ k : Nat, ((Builtin.Int.intBits M : Int) + 1) / 2 = (k : Int) + 1 := ⟨(Builtin.Int.intBits M + 1) / 2 - 1, by omega⟩
  rw [hk]
  have h1 : (2 : Int) ^ (k + k) ≤ 2 ^ (Builtin.Int.intBits M - 1) := pow_mono (by omega)
  have h2 : (2 : Int) ^ Builtin.Int.intBits M ≤ 2 ^ ((k + 1) + (k + 1)) := pow_mono (by omega)
  rw [Int.pow_add] at h1 h2
  have h3 := hr.2.2
  have h4 := hr.2.1
  have h0 := hr.1
  have p1 := kbt_pos k
  have p2 := kbt_pos (k + 1)
  have e1 : (2 : Int) ^ k < r + 1 := sq_lt (by omega) (by omega)
  have e2 : r < 2 ^ (k + 1) := sq_lt (by omega) (by omega)
  have := bits_eq (n := r) (k := k) (by omega) e2
  omega
section
variable {man exp mm e1 sh r prec n a b D : Int}
theorem dn_eq (h1 : 1 ≤ man) (hm : Nm man exp mm e1) (h0 : 0 ≤ sh) (h2 : sh % 2 = 0) (hr : Rt (mm * 2 ^ sh.toNat) r) : (e1 - sh).fdiv 2 + ((Builtin.Int.intBits r : Int) - prec) = dn man exp prec := by
  have hmm : 1 ≤ mm := by rcases hm with ⟨_, rfl, _⟩ | ⟨_, rfl, _⟩ <;> omega
  have hM : 1 ≤ mm * 2 ^ sh.toNat := by
    have := Int.mul_le_mul_of_nonneg_right hmm (Int.le_of_lt (kbt_pos sh.toNat))
    have := kbt_pos sh.toNat
    omega
  rw [bits_root hM hr, Int.mul_comm mm, bits_pow_mul hmm, fdiv2]
  unfold dn
  rw [fdiv2]
  rcases hm with ⟨he, rfl, rfl⟩ | ⟨he, rfl, rfl⟩
  · omega
  · have := bits_dbl (man := man) h1 rfl
    rw [toNat1, Int.pow_one] at this
    omega
theorem ab_rel (hm : Nm man exp mm e1) (h0 : 0 ≤ sh) (h2 : sh % 2 = 0) (hn : 0 ≤ n) (hD : D = (e1 - sh).fdiv 2 + n) (hab : AB man exp D a b) :
    a * (2 ^ n.toNat * 2 ^ n.toNat) = mm * 2 ^ sh.toNat * b ∧ 0 < b := by
  rw [fdiv2] at hD
  cases hab with
  | up h =>
    refine ⟨?_, by decide⟩
    rcases hm with ⟨he, rfl, rfl⟩ | ⟨he, rfl, rfl⟩
    · have e : (2 : Int) ^ sh.toNat = 2 ^ (e1 - 2 * D).toNat * (2 ^ n.toNat * 2 ^ n.toNat) := by
        rw [← Int.pow_add, ← Int.pow_add]; congr 1; omega
      rw [e]; grind
    · have e : (2 : Int) ^ (sh.toNat + 1) = 2 ^ (exp - 2 * D).toNat * (2 ^ n.toNat * 2 ^ n.toNat) := by
        rw [← Int.pow_add, ← Int.pow_add]; congr 1; omega
      rw [Int.pow_succ] at e
      rw [Int.mul_assoc, ← e]; grind
  | dn h =>
    refine ⟨?_, kbt_pos _⟩
    rcases hm with ⟨he, rfl, rfl⟩ | ⟨he, rfl, rfl⟩
    · have e : (2 : Int) ^ n.toNat * 2 ^ n.toNat = 2 ^ sh.toNat * 2 ^ (2 * D - e1).toNat := by
        rw [← Int.pow_add, ← Int.pow_add]; congr 1; omega
      rw [e]; grind
    · have e : (2 : Int) ^ n.toNat * 2 ^ n.toNat = 2 ^ (sh.toNat + 1) * 2 ^ (2 * D - exp).toNat := by
        rw [← Int.pow_add, ← Int.pow_add]; congr 1; omega
      rw [e, Int.pow_succ]; grind
end
/-- the law's step up, told by the whole root's own number -/
def UpM (rnd : Str) (M q p h : Int) : Prop := (q * p) * (q * p) < M ∧ (rnd = Str.ofString "c" ∨ rnd = Str.ofString "u" ∨ (rnd = Str.ofString "n" ∧ (((2 * q + 1) * h) * ((2 * q + 1) * h) < M ∨ (((2 * q + 1) * h) * ((2 * q + 1) * h) = M ∧ q % 2 = 1))))
theorem up_iff {rnd : Str} {M p h a b q : Int} (hp : 0 < p) (hph : p = 2 * h) (hb : 0 < b) (hab : a * (p * p) = M * b) : Up rnd a b q ↔ UpM rnd M q p h := by
  have c1 := lt_char hp hb hab (q * q) 1
  have c2 := lt_char hp hb hab ((2 * q + 1) * (2 * q + 1)) 4
  have c3 := eq_char hp hb hab ((2 * q + 1) * (2 * q + 1)) 4
  have s : (2 * q + 1) ^ Int.toNat 2 = (2 * q + 1) * (2 * q + 1) := sq2' _
  have e1 : q * q * (p * p) = (q * p) * (q * p) := by grind
  have e2 : (2 * q + 1) * (2 * q + 1) * (p * p) = 4 * (((2 * q + 1) * h) * ((2 * q + 1) * h)) := by rw [hph]; grind
  rw [e1, Int.one_mul, Int.one_mul] at c1
  rw [e2] at c2 c3
  unfold Up UpM
  rw [s, fmod2, c1]
  have d2 : (2 * q + 1) * (2 * q + 1) * b - 4 * a < 0 ↔ ((2 * q + 1) * h) * ((2 * q + 1) * h) < M := by omega
  have d3 : (2 * q + 1) * (2 * q + 1) * b - 4 * a = 0 ↔ ((2 * q + 1) * h) * ((2 * q + 1) * h) = M := by omega
  rw [d2, d3]
end Mine
end
section
open PySem PySem.W PyProof.Rows
set_option Elab.async false
namespace Mine
theorem upM_no_f {M q p h : Int} : ¬ UpM (Str.ofString "f") M q p h := fun k => k.2.elim (fun e => absurd e (by decide)) fun k => k.elim (fun e => absurd e (by decide)) fun k => absurd k.1 (by decide)
theorem upM_no_d {M q p h : Int} : ¬ UpM (Str.ofString "d") M q p h := fun k => k.2.elim (fun e => absurd e (by decide)) fun k => k.elim (fun e => absurd e (by decide)) fun k => absurd k.1 (by decide)
theorem upM_c {rnd : Str} {M q p h : Int} (hr : rnd = Str.ofString "c" ∨ rnd = Str.ofString "u") : UpM rnd M q p h ↔ (q * p) * (q * p) < M :=
  ⟨fun k => k.1, fun k => ⟨k, hr.elim .inl fun e => .inr (.inl e)⟩⟩
theorem upM_n {M q p h : Int} : UpM (Str.ofString "n") M q p h ↔ (q * p) * (q * p) < M ∧ (((2 * q + 1) * h) * ((2 * q + 1) * h) < M ∨ (((2 * q + 1) * h) * ((2 * q + 1) * h) = M ∧ q % 2 = 1)) :=
  ⟨fun k => ⟨k.1, k.2.elim (fun e => absurd e (by decide)) fun k => k.elim (fun e => absurd e (by decide)) fun k => k.2⟩, fun k => ⟨k.1, .inr (.inr ⟨rfl, k.2⟩)⟩⟩
theorem rd_exact {rnd : Str} {M r n : Int} (hr : Rnd rnd) (hn : 1 ≤ n) (h0 : 0 ≤ r) (hx : r * r = M ∨ rnd = Str.ofString "f" ∨ rnd = Str.ofString "d") :
    (UpM rnd M (r / 2 ^ n.toNat) (2 ^ n.toNat) (2 ^ (n - 1).toNat) → rd rnd r n = r / 2 ^ n.toNat + 1) ∧ (¬ UpM rnd M (r / 2 ^ n.toNat) (2 ^ n.toNat) (2 ^ (n - 1).toNat) → rd rnd r n = r / 2 ^ n.toNat) := by
  have hh := kbt_pos (n - 1).toNat
  have hp := kbt_pos n.toNat
  have hph := pow_half hn
  have a1 := Int.ediv_mul_le r (show (2 : Int) ^ n.toNat ≠ 0 by omega)
  have a0 : 0 ≤ r / 2 ^ n.toNat := Int.ediv_nonneg h0 (Int.le_of_lt hp)
  cases hr with
  | f => rw [rd_f (.inl rfl), fdivp]; exact ⟨fun h => (upM_no_f h).elim, fun _ => rfl⟩
  | d => rw [rd_f (.inr rfl), fdivp]; exact ⟨fun h => (upM_no_d h).elim, fun _ => rfl⟩
  | c =>
    rw [rd_c_char (.inl rfl), upM_c (.inl rfl)]
    have hx : r * r = M := by rcases hx with h | h | h; exact h; exact absurd h (by decide); exact absurd h (by decide)
    rw [← hx, sq_lt_iff (Int.mul_nonneg a0 (Int.le_of_lt hp)) h0]
    exact ⟨fun h => if_pos h, fun h => if_neg h⟩
  | u =>
    rw [rd_c_char (.inr rfl), upM_c (.inr rfl)]
    have hx : r * r = M := by rcases hx with h | h | h; exact h; exact absurd h (by decide); exact absurd h (by decide)
    rw [← hx, sq_lt_iff (Int.mul_nonneg a0 (Int.le_of_lt hp)) h0]
    exact ⟨fun h => if_pos h, fun h => if_neg h⟩
  | n =>
    have hx : r * r = M := by rcases hx with h | h | h; exact h; exact absurd h (by decide); exact absurd h (by decide)
    rw [rd_n_char hn, upM_n, ← hx]
    generalize (2 : Int) ^ n.toNat = p at *
    generalize (2 : Int) ^ (n - 1).toNat = h at *
    generalize r / p = q at *
    have z0 : 0 ≤ (2 * q + 1) * h := Int.mul_nonneg (by omega) (by omega)
    rw [sq_lt_iff (Int.mul_nonneg a0 (Int.le_of_lt hp)) h0, sq_lt_iff z0 h0, sq_eq_iff z0 h0]
    have e1 : q * p = 2 * (q * h) := by rw [hph]; grind
    have e2 : (2 * q + 1) * h = 2 * (q * h) + h := by grind
    refine ⟨fun k => if_pos k.2, fun k => if_neg fun k' => k ⟨by omega, k'⟩⟩
theorem half_odd {r p : Int} (hp : 0 < p) : (r * 2 ^ Int.toNat 1 + 1) / (2 * p) = r / p := by
  rw [toNat1, Int.pow_one, ← Int.ediv_ediv_of_nonneg (by decide), show (r * 2 + 1) / 2 = r by omega]
theorem rd_sticky {rnd : Str} {M r n : Int} (hr : Rnd rnd) (hn : 1 ≤ n) (hM : Rt M r) (hx : r * r ≠ M) :
    (UpM rnd M (r / 2 ^ n.toNat) (2 ^ n.toNat) (2 ^ (n - 1).toNat) → rd rnd (r * 2 ^ Int.toNat 1 + 1) (n + 1) = r / 2 ^ n.toNat + 1) ∧ (¬ UpM rnd M (r / 2 ^ n.toNat) (2 ^ n.toNat) (2 ^ (n - 1).toNat) → rd rnd (r * 2 ^ Int.toNat 1 + 1) (n + 1) = r / 2 ^ n.toNat) := by
  have hh := kbt_pos (n - 1).toNat
  have hp := kbt_pos n.toNat
  have hph := pow_half hn
  have h0 := hM.1
  have hlt : r * r < M := by have := hM.2.1; omega
  have a1 := Int.ediv_mul_le r (show (2 : Int) ^ n.toNat ≠ 0 by omega)
  have a0 : 0 ≤ r / 2 ^ n.toNat := Int.ediv_nonneg h0 (Int.le_of_lt hp)
  have hp2 : (2 : Int) ^ (n + 1).toNat = 2 * 2 ^ n.toNat := by rw [pow_half (by omega : 1 ≤ n + 1)]; congr 2; omega
  have hq : (r * 2 ^ Int.toNat 1 + 1) / 2 ^ (n + 1).toNat = r / 2 ^ n.toNat := by rw [hp2, half_odd hp]
  have hqM : (r / 2 ^ n.toNat * 2 ^ n.toNat) * (r / 2 ^ n.toNat * 2 ^ n.toNat) < M := by
    have := sq_mono (Int.mul_nonneg a0 (Int.le_of_lt hp)) a1
    omega
  have ceil : r / 2 ^ n.toNat * 2 ^ (n + 1).toNat < r * 2 ^ Int.toNat 1 + 1 := by
    rw [hp2, toNat1, Int.pow_one]
    have : r / 2 ^ n.toNat * (2 * 2 ^ n.toNat) = 2 * (r / 2 ^ n.toNat * 2 ^ n.toNat) := by grind
    omega
  cases hr with
  | f => rw [rd_f (.inl rfl), fdivp, hq]; exact ⟨fun h => (upM_no_f h).elim, fun _ => rfl⟩
  | d => rw [rd_f (.inr rfl), fdivp, hq]; exact ⟨fun h => (upM_no_d h).elim, fun _ => rfl⟩
  | c =>
    rw [rd_c_char (.inl rfl), upM_c (.inl rfl), hq, if_pos ceil]
    exact ⟨fun _ => rfl, fun h => (h hqM).elim⟩
  | u =>
    rw [rd_c_char (.inr rfl), upM_c (.inr rfl), hq, if_pos ceil]
    exact ⟨fun _ => rfl, fun h => (h hqM).elim⟩
  | n =>
    rw [rd_n_char (by omega), upM_n, hq, show (n + 1 - 1).toNat = n.toNat by congr 1; omega, toNat1, Int.pow_one]
    have hM2 := hM.2.2
    generalize (2 : Int) ^ n.toNat = p at *
    generalize (2 : Int) ^ (n - 1).toNat = h at *
    generalize r / p = q at *
    have z0 : 0 ≤ (2 * q + 1) * h := Int.mul_nonneg (by omega) (by omega)
    have e2 : (2 * q + 1) * p = 2 * ((2 * q + 1) * h) := by rw [hph]; grind
    rw [e2]
    generalize (2 * q + 1) * h = Z at *
    have t1 : Z ≤ r → Z * Z < M := fun k => by have := sq_mono z0 k; omega
    have t2 : Z * Z ≤ M → Z ≤ r := fun k => by
      have : Z < r + 1 := sq_lt (by omega) (by omega)
      omega
    refine ⟨?_, ?_⟩
    · intro k
      refine if_pos (.inl ?_)
      have : Z ≤ r := t2 (by rcases k.2 with g | g <;> omega)
      omega
    · intro k
      refine if_neg fun k' => ?_
      rcases k' with g | g
      · exact k ⟨hqM, .inl (t1 (by omega))⟩
      · omega
theorem sq_due {man exp prec : Int} {rnd : Str} {y z u y' z' u' : Int} (h1 : 1 ≤ man) (h4 : 1 ≤ prec) (hr : Rnd rnd) (hs : SqRaw man exp prec rnd y z u) (hd : DueRaw man exp prec rnd y' z' u') : y = y' ∧ z = z' ∧ u = u' := by
  -- what the law's text gives, told for any mantissa that stands for the same number
  have key : ∀ (mm e1 sh r n : Int) (W : Int), Nm man exp mm e1 → 0 ≤ sh → sh % 2 = 0 → Rt (mm * 2 ^ sh.toNat) r → n = (Builtin.Int.intBits r : Int) - prec → 1 ≤ n →
      (UpM rnd (mm * 2 ^ sh.toNat) (r / 2 ^ n.toNat) (2 ^ n.toNat) (2 ^ (n - 1).toNat) → W = r / 2 ^ n.toNat + 1) → (¬ UpM rnd (mm * 2 ^ sh.toNat) (r / 2 ^ n.toNat) (2 ^ n.toNat) (2 ^ (n - 1).toNat) → W = r / 2 ^ n.toNat) →
      Odd1 W (dn man exp prec) y' z' u' := by
    intro mm e1 sh r n W hm h0 h2 hrt hn hn1 hu hno
    have hD := dn_eq (prec := prec) h1 hm h0 h2 hrt
    rw [← hn] at hD
    cases hd with
    | up hq hab hup ho =>
      have ⟨hrel, hb⟩ := ab_rel hm h0 h2 (show 0 ≤ n by omega) hD.symm hab
      have q1 := q_char (kbt_pos n.toNat) hb hrt hrel hq
      subst q1
      rw [hu ((up_iff (kbt_pos n.toNat) (pow_half hn1) hb hrel).mp hup)]
      exact ho
    | no hq hab hup ho =>
      have ⟨hrel, hb⟩ := ab_rel hm h0 h2 (show 0 ≤ n by omega) hD.symm hab
      have q1 := q_char (kbt_pos n.toNat) hb hrt hrel hq
      subst q1
      rw [hno (fun k => hup ((up_iff (kbt_pos n.toNat) (pow_half hn1) hb hrel).mpr k))]
      exact ho
  have nm1 : ∀ {mm e1 : Int}, Nm man exp mm e1 → 1 ≤ mm := fun hm => by rcases hm with ⟨_, rfl, _⟩ | ⟨_, rfl, _⟩ <;> omega
  cases hs with
  | @exact mm e1 sh r _ _ _ hm hs hrt hx ho =>
    have hb := bits_big h4 (root_big (nm1 hm) rfl h4 hs.2.2 hs.1 hrt)
    have hD := dn_eq (prec := prec) h1 hm hs.1 hs.2.1 hrt
    have hw := rd_exact hr (show 1 ≤ (Builtin.Int.intBits r : Int) - prec by omega) hrt.1 hx
    rw [hD] at ho
    exact odd1_unique ho (key _ _ _ _ _ _ hm hs.1 hs.2.1 hrt rfl (by omega) hw.1 hw.2)
  | @sticky mm e1 sh r _ _ _ hm hs hrt hx ho =>
    have hb := bits_big h4 (root_big (nm1 hm) rfl h4 hs.2.2 hs.1 hrt)
    have h2 := bits_two (root_ge1 (root_big (nm1 hm) rfl h4 hs.2.2 hs.1 hrt))
    have hD := dn_eq (prec := prec) h1 hm hs.1 hs.2.1 hrt
    have hw := rd_sticky hr (show 1 ≤ (Builtin.Int.intBits r : Int) - prec by omega) hrt hx
    rw [h2] at ho
    rw [show ((Builtin.Int.intBits r + 1 : Nat) : Int) - prec = (Builtin.Int.intBits r : Int) - prec + 1 by omega] at ho
    have hD' : ∀ e1 sh n : Int, (e1 - sh).fdiv 2 + n = dn man exp prec → (e1 - (sh + 2)).fdiv 2 + (n + 1) = dn man exp prec := by
      intro e1 sh n h
      rw [← h, fdiv2, fdiv2]
      omega
    rw [hD' _ _ _ hD] at ho
    exact odd1_unique ho (key _ _ _ _ _ _ hm hs.1 hs.2.1 hrt rfl (by omega) hw.1 hw.2)
  | one h he =>
    subst h
    -- a shift of 2 * prec + 4: the root of 2 ^ (2 * prec + 4) is 2 ^ (prec + 2)
    have hrt : Rt (1 * 2 ^ (2 * prec + 4).toNat) (2 ^ (prec + 2).toNat) := by
      have e : (2 : Int) ^ (2 * prec + 4).toNat = 2 ^ (prec + 2).toNat * 2 ^ (prec + 2).toNat := by rw [← Int.pow_add]; congr 1; omega
      have hp := kbt_pos (prec + 2).toNat
      rw [Int.one_mul, e]
      refine ⟨by omega, Int.le_refl _, ?_⟩
      have : ((2 : Int) ^ (prec + 2).toNat + 1) * (2 ^ (prec + 2).toNat + 1) = 2 ^ (prec + 2).toNat * 2 ^ (prec + 2).toNat + 2 * 2 ^ (prec + 2).toNat + 1 := by grind
      omega
    have hbits := bits_pow (prec + 2).toNat
    have hn : (3 : Int) = (Builtin.Int.intBits (2 ^ (prec + 2).toNat) : Int) - prec := by rw [hbits]; omega
    have hm : Nm 1 exp 1 exp := .inl ⟨he, rfl, rfl⟩
    have hsq : (2 : Int) ^ (prec + 2).toNat * 2 ^ (prec + 2).toNat = 1 * 2 ^ (2 * prec + 4).toNat := by rw [← Int.pow_add, Int.one_mul]; congr 1; omega
    have hw := rd_exact (n := 3) hr (by decide) hrt.1 (.inl hsq)
    have hk := key 1 exp (2 * prec + 4) _ 3 _ hm (by omega) (by omega) hrt hn (by decide) hw.1 hw.2
    have hD := dn_eq (prec := prec) h1 hm (show 0 ≤ 2 * prec + 4 by omega) (by omega) hrt
    rw [← hn] at hD
    -- the rounding of a power of 2 is the power of 2
    have hdiv : (2 : Int) ^ (prec + 2).toNat / 2 ^ Int.toNat 3 = 2 ^ (prec - 1).toNat := by
      have e : (2 : Int) ^ (prec + 2).toNat = 2 ^ (prec - 1).toNat * 2 ^ Int.toNat 3 := by rw [← Int.pow_add]; congr 1; have : Int.toNat 3 = 3 := rfl; omega
      rw [e, Int.mul_ediv_cancel _ (by decide)]
    have hno : ¬ UpM rnd (1 * 2 ^ (2 * prec + 4).toNat) ((2 : Int) ^ (prec + 2).toNat / 2 ^ Int.toNat 3) (2 ^ Int.toNat 3) (2 ^ Int.toNat (3 - 1)) := by
      intro k
      have k1 := k.1
      rw [hdiv, ← hsq] at k1
      have e : (2 : Int) ^ (prec - 1).toNat * 2 ^ Int.toNat 3 = 2 ^ (prec + 2).toNat := by rw [← Int.pow_add]; congr 1; have : Int.toNat 3 = 3 := rfl; omega
      rw [e] at k1
      omega
    rw [hw.2 hno, hdiv] at hk
    refine odd1_unique (W := 2 ^ (prec - 1).toNat) (e := dn 1 exp prec) ?_ hk
    refine ⟨(prec - 1).toNat, by decide, by rw [Int.one_mul], ?_, by rw [bits_one]; rfl⟩
    rw [← hD, fdiv2, fdiv2]
    omega
end Mine
end
section
open PySem PySem.W PyProof.Rows
set_option Elab.async false
namespace Mine
theorem fm_bd (x : Int) {b : Int} (h : 0 < b) : 0 ≤ x.fmod b ∧ x.fmod b < b := by
  rw [Int.fmod_eq_emod_of_nonneg _ (Int.le_of_lt h)]
  exact ⟨Int.emod_nonneg _ (by omega), Int.emod_lt_of_pos _ h⟩
theorem rw_e0 (x : Int) {b : Int} (h : 0 < b) : 0 ≤ 1 + x.fmod b := by have := fm_bd x h; omega
theorem rw_e1 (x : Int) {b : Int} (h : 0 < b) (hb : b ≤ 1000) : 1 + x.fmod b ≤ 1000000 := by have := fm_bd x h; omega
theorem rw_g {x : Int} {e : Int} {B : Nat} (he : e ≤ B) : 0 ≤ (x.fmod (2 ^ e.toNat)).fdiv 2 * 2 + 1 ∧ Sz (B + 1) ((x.fmod (2 ^ e.toNat)).fdiv 2 * 2 + 1) := by
  have h := fm_bd x (kbt_pos e.toNat)
  have hp := pow_mono (show e.toNat ≤ B by omega)
  rw [fdiv2]
  have hq := kbt_pos B
  refine ⟨by omega, .of_lt (by omega) ?_⟩
  rw [Int.pow_succ]
  generalize (2 : Int) ^ e.toNat = p at *
  generalize (2 : Int) ^ B = q at *
  omega
theorem rw_2 {e : Int} {B : Nat} (he : e ≤ B) : 0 ≤ (2 : Int) ^ e.toNat - 1 ∧ Sz (B + 1) ((2 : Int) ^ e.toNat - 1) := by
  have hp := pow_mono (show e.toNat ≤ B by omega)
  have hq := kbt_pos e.toNat
  refine ⟨by omega, .of_lt (by omega) ?_⟩
  rw [Int.pow_succ]
  generalize (2 : Int) ^ e.toNat = p at *
  generalize (2 : Int) ^ B = q at *
  omega
theorem rw_3 {e : Int} {B : Nat} (he : e ≤ B) (hB : 2 ≤ B) : 0 ≤ (2 : Int) ^ e.toNat + 1 ∧ Sz (B + 1) ((2 : Int) ^ e.toNat + 1) := by
  have hp := pow_mono (show e.toNat ≤ B by omega)
  have hq := kbt_pos e.toNat
  have hr := pow_mono (show 2 ≤ B from hB)
  have h4 : (2 : Int) ^ 2 = 4 := by decide
  refine ⟨by omega, .of_lt (by omega) ?_⟩
  rw [Int.pow_succ]
  generalize (2 : Int) ^ e.toNat = p at *
  generalize (2 : Int) ^ B = q at *
  omega
theorem rw_k (x : Int) {b : Int} {B : Nat} (h : 0 < b) (hb : b ≤ B) : 1 + x.fmod b ≤ (B : Int) := by have := fm_bd x h; omega
section
variable (m : Int)
theorem w120 : 0 ≤ (m.fmod (2 ^ (1 + m.fmod 120).toNat)).fdiv 2 * 2 + 1 ∧ Sz 121 ((m.fmod (2 ^ (1 + m.fmod 120).toNat)).fdiv 2 * 2 + 1) := rw_g (rw_k m (by decide) (by decide))
theorem w120b : 0 ≤ (2 : Int) ^ (1 + m.fmod 120).toNat - 1 ∧ Sz 121 ((2 : Int) ^ (1 + m.fmod 120).toNat - 1) := rw_2 (rw_k m (by decide) (by decide))
theorem w120c : 0 ≤ (2 : Int) ^ (1 + m.fmod (120 - 1)).toNat + 1 ∧ Sz 121 ((2 : Int) ^ (1 + m.fmod (120 - 1)).toNat + 1) := rw_3 (rw_k m (by decide) (by decide)) (by decide)
theorem w60 : 0 ≤ (m.fmod (2 ^ (1 + m.fmod 60).toNat)).fdiv 2 * 2 + 1 ∧ Sz 61 ((m.fmod (2 ^ (1 + m.fmod 60).toNat)).fdiv 2 * 2 + 1) := rw_g (rw_k m (by decide) (by decide))
theorem w60b : 0 ≤ (2 : Int) ^ (1 + m.fmod 60).toNat - 1 ∧ Sz 61 ((2 : Int) ^ (1 + m.fmod 60).toNat - 1) := rw_2 (rw_k m (by decide) (by decide))
theorem w60c : 0 ≤ (2 : Int) ^ (1 + m.fmod (60 - 1)).toNat + 1 ∧ Sz 61 ((2 : Int) ^ (1 + m.fmod (60 - 1)).toNat + 1) := rw_3 (rw_k m (by decide) (by decide)) (by decide)
end
theorem w_zero {k : Nat} : 0 ≤ (0 : Int) ∧ Sz k 0 := ⟨by decide, .of_lt (by decide) (kbt_pos k)⟩
theorem w_one {k : Nat} : 0 ≤ (1 : Int) ∧ Sz (k + 1) 1 := ⟨by decide, Sz.mono (Sz.mk (k := 1) (by decide)) (by omega)⟩
theorem mix_big {n : Int} (h : 2 ^ Int.toNat 64 ≤ n) : 0 ≤ n := by have := kbt_pos (Int.toNat 64); omega
theorem mix_mod (x : Int) : 0 ≤ x.fmod (2 ^ Int.toNat 190) := (fm_bd x (kbt_pos _)).1
end Mine
end
section
open PySem PySem.W PyProof.Rows
set_option Elab.async false
namespace Mine
theorem sq_due' {man exp prec : Int} {rnd : Str} {y z u y' z' u' : Int} (hd : DueRaw man exp prec rnd y' z' u') (hs : SqRaw man exp prec rnd y z u) (h1 : 1 ≤ man) (h4 : 1 ≤ prec) (hr : Rnd rnd) : y = y' ∧ z = z' ∧ u = u' := sq_due h1 h4 hr hs hd
theorem fm_lo (x : Int) {b : Int} (h : 0 < b) : 0 ≤ x.fmod b := (fm_bd x h).1
theorem fm_hi (x : Int) {b : Int} (h : 0 < b) : x.fmod b < b := (fm_bd x h).2
theorem pr_lo {x : Int} : 1 ≤ 1 + x.fmod 90 := by have := fm_bd x (show (0 : Int) < 90 by decide); omega
theorem pr_hi {x : Int} : 1 + x.fmod 90 ≤ 90 := by have := fm_bd x (show (0 : Int) < 90 by decide); omega
theorem pr_nn {x : Int} : 0 ≤ 1 + x.fmod 90 := by have := fm_bd x (show (0 : Int) < 90 by decide); omega
theorem pr_mil {x : Int} : 1 + x.fmod 90 ≤ 1000000 := by have := fm_bd x (show (0 : Int) < 90 by decide); omega
theorem pr_900 {x : Int} : 1 + x.fmod 90 ≤ 900 := by have := fm_bd x (show (0 : Int) < 90 by decide); omega
/-- a mantissa of the law's making -/
structure Mant (m : Int) : Prop where
  nn : 0 ≤ m
  sz : Sz 124 m
theorem mant_raw {m : Int} (h : 0 ≤ m) (hs : Sz 121 m) : Mant m := ⟨h, hs.mono (by decide)⟩
theorem mant_max {r x : Int} (h : Sz 61 r) (hx : -8 ≤ x ∧ x ≤ 8) : Mant (if r * r + x > 0 then r * r + x else 0) := by
  refine ⟨by split <;> omega, ?_⟩
  have h1 : Sz 122 (r * r) := h.mul h
  have h2 := (h1.mono (show 122 ≤ 123 by decide)).add (Sz.mono (k := 4) (Sz.mk (by omega) : Sz 4 x) (by decide))
  split
  · exact h2
  · exact .of_lt (by decide) (kbt_pos _)
theorem rr_ok {r : Int} (h : Sz 61 r) : IntMulOk r r := h.mulOk h (by decide) (by decide)
section
variable {m : Int} (h : Mant m)
include h
theorem m_sz4 : Sz 4000 m := h.sz.mono (by decide)
theorem m_sz3 : Sz 3000 m := h.sz.mono (by decide)
theorem m_sz2 : Sz 200 m := h.sz.mono (by decide)
theorem m_odd (ho : m.fmod 2 ≠ 0) : 1 ≤ m := by
  have := h.nn
  rcases Int.lt_or_le 0 m with q | q
  · omega
  · have : m = 0 := by omega
    subst this; exact absurd (by decide) ho
theorem m_dbl : 1 ≤ 2 * m + 1 := by have := h.nn; omega
theorem m_dblsz : Sz 200 (2 * m + 1) := by
  refine Sz.mono (k := 126) (.of_lt (by have := h.nn; omega) ?_) (by decide)
  have := h.sz.lt
  have e : (2 : Int) ^ 126 = 4 * 2 ^ 124 := by rw [show (126 : Nat) = 124 + 2 from rfl, Int.pow_add]; generalize (2 : Int) ^ 124 = z; omega
  rw [e]
  have := kbt_pos 124
  generalize (2 : Int) ^ 124 = z at *
  omega
theorem m_p2 {p : Int} (hp : p ≤ 90) : IntMulOk m (2 ^ p.toNat) := h.sz.mulOk (Sz.pow p.toNat) (by decide) (by omega)
theorem m_pnn (p : Int) : 0 ≤ m * 2 ^ p.toNat := Int.mul_nonneg h.nn (Int.le_of_lt (kbt_pos _))
theorem m_psz {p : Int} (hp : p ≤ 90) : Sz 4000 (m * 2 ^ p.toNat) := (h.sz.mul (Sz.pow p.toNat)).mono (by omega)
end
theorem wh_ok {n r : Int} (hr : Rt n r) (h : Mant n) : IntMulOk r r := by
  have hs := root_szk hr h.sz
  exact hs.mulOk hs (by decide) (by decide)
/-- a precision of the law's making -/
structure Prec (p : Int) : Prop where
  lo : 1 ≤ p
  hi : p ≤ 90
theorem Prec.mk' (x : Int) : Prec (1 + x.fmod 90) := ⟨pr_lo, pr_hi⟩
section
variable {p : Int} (h : Prec p)
include h
theorem Prec.nn : 0 ≤ p := by have := h.lo; omega
theorem Prec.mil : p ≤ 1000000 := by have := h.hi; omega
theorem Prec.h900 : p ≤ 900 := by have := h.hi; omega
end
end Mine
end
section
open PySem PySem.W PyProof.Rows PySem.Calls
set_option Elab.async false
set_option maxRecDepth 100000
namespace Mine
section
variable {prog : Program} {w : World} {A : Around} {E : Value → Shared → Prop} {s : Shared}
/-- what slice(1, 3) asks of four places -/
theorem sl_13 {sl : Addr} {u v : Tok} {Q : Int × Int × Nat → Shared → Prop} (hs : s.heap.IsSliceOf sl (.int 1 u) (.int 3 v) .none) (h : Q (1, 1, 2) s) :
    wpAny (model prog w) A (Builtin.Slice.sliceApplied (.ref sl) (pure (4 : Int))) Q E s := by
  obtain ⟨os, hos, _, hds⟩ := hs
  unfold Builtin.Slice.sliceApplied Builtin.Slice.sliceFields
  refine wpAny_bind (wpAny_bind (wpAny_field hos hds (x := .int 1 u) rfl (wpAny_bind (wpAny_field hos hds (x := .int 3 v) rfl (wpAny_bind (wpAny_field hos hds (x := .none) rfl (wpAny_pure ?_)))))))
  refine wpAny_bind (slicePart_none ?_)
  show wpAny _ _ (if ((1 : Int) == 0) = true then _ else _) _ _ s
  rw [if_neg (by decide)]
  refine wpAny_bind (slicePart_int (wpAny_bind (slicePart_int (wpAny_bind (wpAny_pure ?_)))))
  exact wpAny_pure h
theorem gi_13 {t sl : Addr} {a b c d : Value} {u v : Tok} {Q : Value → Shared → Prop} (ht : IsTup s.heap t #[a, b, c, d]) (hs : s.heap.IsSliceOf sl (.int 1 u) (.int 3 v) .none)
    (h : Q (.ref s.heap.objs.size) { s with heap := s.heap.push { cls := .type "tuple", data := .seq #[b, c] } }) : wpAny (model prog w) A (getItem (.ref t) (.ref sl)) Q E s := by
  obtain ⟨os, hos, hcs, hds⟩ := id hs
  have hTs : s.TypeIs (.ref sl) "slice" := ⟨os, hos, hcs⟩
  unfold getItem
  try with_reducible refine wpAny_holding ?_
  first | refine wpAny_bind (wpAny_pure ?_) | skip
  refine wpAny_bind (wpAny_sequenceKey ht.typeIs (by decide) ?_)
  refine wpAny_bind (wpAny_callSpecial?_slot (name := Str.ofString "__getitem__") ht.typeIs slot_tuple_getitem
    (wpAny_call_entry slot_tuple_getitem ht.typeIs entry_tuple_getitem ?_ (args_tuple_getitem _ _)))
  show wpAny _ _ (Builtin.Tuple.tupleItemsOf (.ref t) >>= _) _ _ s
  refine wpAny_bind (tupleItemsOf_ ht ?_)
  refine wpAny_bind (wpAny_typeOf hTs ?_)
  rw [if_pos (by decide)]
  refine wpAny_bind (sl_13 hs ?_)
  show wpAny _ _ (if ((1 : Int) == 0 && (1 : Int) == 1 && (2 : Nat) == 4) = true then _ else _) _ _ s
  rw [if_neg (by decide)]
  have hz : sizeOk (.seq #[b, c]) := by
    show (#[b, c] : Array Value).size ≤ sizeLine
    rw [sizeLine_eq]; simp
  first
    | exact wpAny_bind (m := Builtin.Tuple.tupleExact _) (wpAny_newObj_type (wpAny_pure ⟨_, rfl, wpAny_pure h⟩) hz)
    | exact wpAny_bind (m := Builtin.Tuple.tupleExact _) (wpAny_newObj_type (wpAny_bind (wpAny_pure (wpAny_pure ⟨_, rfl, wpAny_pure h⟩))) hz)
    | exact wpAny_bind (wpAny_bind (m := Builtin.Tuple.tupleExact _) (wpAny_newObj_type (wpAny_pure (wpAny_pure ⟨_, rfl, wpAny_pure h⟩)) hz))
    | exact wpAny_bind (wpAny_bind (m := Builtin.Tuple.tupleExact _) (wpAny_newObj_type (wpAny_pure ⟨_, rfl, wpAny_pure h⟩) hz))
variable {h₀ : Heap} {L : Addr} {m : Str → Option Value} {news : List (Addr × Obj)}
/-- t[1:3] of a made tuple of four -/
theorem tup_13 {value slice : Expr} {t : Addr} {a b c d : Value} {n : Nat} {u v : Tok} {Q : Value → Shared → Prop}
    (F : Fr h₀ L s.heap m) (N : News h₀ L s.heap news) (ht : (t, ({ cls := .type "tuple", data := .seq #[a, b, c, d] n } : Obj)) ∈ news)
    (h : ∀ D h', Fr h₀ L h' m → News h₀ L h' ((D, ({ cls := .type "tuple", data := .seq #[b, c] } : Obj)) :: news) → (∀ p ∈ news, p.1 < D) → Q (.ref D) { s with heap := h' })
    (hs : subscripted slice false (.ref t) (.ref s.heap.objs.size) = operate [.ref s.heap.objs.size, .ref t] (getItem (.ref t) (.ref s.heap.objs.size))) :
    wpAny (model prog w) A (subscriptTail value slice (.ref t) (.ref s.heap.objs.size)) Q E { s with heap := s.heap.push { cls := .type "slice", data := .fields #[.int 1 u, .int 3 v, .none] } } := by
  have hT : IsTup s.heap t #[a, b, c, d] := ⟨_, (N _ ht).1, rfl, _, rfl⟩
  have ht' : IsTup (s.heap.push { cls := .type "slice", data := .fields #[.int 1 u, .int 3 v, .none] }) t #[a, b, c, d] := hT.keeps fun _ _ e => Heap.get?_push_of_some _ e
  refine tail_any (s := { s with heap := s.heap.push { cls := .type "slice", data := .fields #[.int 1 u, .int 3 v, .none] } }) ht'.typeIs slot_tuple_getitem.lookup
    (gi_13 ht' (Heap.IsSliceOf.new ..) ?_) hs
  have N1 := News.push (F.push { cls := .type "slice", data := .fields #[.int 1 u, .int 3 v, .none] }) (N.grown fun _ _ e => Heap.get?_push_of_some _ e) { cls := .type "tuple", data := .seq #[b, c] }
  rw [Heap.size_push] at N1
  show Q (.ref (s.heap.push _).objs.size) _
  rw [Heap.size_push]
  exact h _ _ ((F.push _).push _) N1 fun p hp => Nat.lt_succ_of_lt (Heap.lt_size (N p hp).1)
end
end Mine
end
section
open PySem PySem.W PyProof.Rows PySem.Calls
set_option Elab.async false
set_option maxRecDepth 100000
namespace Mine
section
variable {prog : Program} {w : World} {A : Around} {E : Value → Shared → Prop} {s : Shared}
/-- the menu of roundings at an open place: one of the five -/
theorem menu_rnd {value slice : PySem.Expr} {l : Addr} {k : Int} {u t1 t2 t3 t4 t5 : Tok} {Q : Value → Shared → Prop}
    (hl : s.heap.IsList l (List.toArray [.str (Str.ofString "n") t1, .str (Str.ofString "f") t2, .str (Str.ofString "c") t3, .str (Str.ofString "d") t4, .str (Str.ofString "u") t5])) (h0 : 0 ≤ k) (h1 : k < 5)
    (h : ∀ r t, Rnd r → Q (.str r t) s)
    (hs : subscripted slice false (.ref l) (.int k u) = operate [.ref l, .int k u] (getItem (.ref l) (.int k u))) :
    wpAny (model prog w) A (subscriptTail value slice (.ref l) (.int k u)) Q E s := by
  have key : ∀ v, ([.str (Str.ofString "n") t1, .str (Str.ofString "f") t2, .str (Str.ofString "c") t3, .str (Str.ofString "d") t4, .str (Str.ofString "u") t5] : List Value)[k.toNat]? = some v → Q v s →
      wpAny (model prog w) A (subscriptTail value slice (.ref l) (.int k u)) Q E s := fun v hv hq =>
    tail_any hl.typeIs slot_list_getitem.lookup (wpAny_getItem_list hl h0 (by omega) (by simpa using hv) hq) hs
  have hk : k.toNat = 0 ∨ k.toNat = 1 ∨ k.toNat = 2 ∨ k.toNat = 3 ∨ k.toNat = 4 := by omega
  rcases hk with e | e | e | e | e
  · exact key _ (by rw [e]; rfl) (h _ _ .n)
  · exact key _ (by rw [e]; rfl) (h _ _ .f)
  · exact key _ (by rw [e]; rfl) (h _ _ .c)
  · exact key _ (by rw [e]; rfl) (h _ _ .d)
  · exact key _ (by rw [e]; rfl) (h _ _ .u)
/-- the menu of three ints -/
theorem menu_int {value slice : PySem.Expr} {l : Addr} {k : Int} {u t1 t2 t3 : Tok} {Q : Value → Shared → Prop}
    (hl : s.heap.IsList l (List.toArray [.int 0 t1, .int 8 t2, .int (-8) t3])) (h0 : 0 ≤ k) (h1 : k < 3)
    (h : ∀ x t, -8 ≤ x ∧ x ≤ 8 → Q (.int x t) s)
    (hs : subscripted slice false (.ref l) (.int k u) = operate [.ref l, .int k u] (getItem (.ref l) (.int k u))) :
    wpAny (model prog w) A (subscriptTail value slice (.ref l) (.int k u)) Q E s := by
  have key : ∀ v, ([.int 0 t1, .int 8 t2, .int (-8) t3] : List Value)[k.toNat]? = some v → Q v s →
      wpAny (model prog w) A (subscriptTail value slice (.ref l) (.int k u)) Q E s := fun v hv hq =>
    tail_any hl.typeIs slot_list_getitem.lookup (wpAny_getItem_list hl h0 (by omega) (by simpa using hv) hq) hs
  have hk : k.toNat = 0 ∨ k.toNat = 1 ∨ k.toNat = 2 := by omega
  rcases hk with e | e | e
  · exact key _ (by rw [e]; rfl) (h _ _ (by omega))
  · exact key _ (by rw [e]; rfl) (h _ _ (by omega))
  · exact key _ (by rw [e]; rfl) (h _ _ (by omega))
end
end Mine
end
section
open PySem PySem.W PyProof.Rows PySem.Calls
set_option Elab.async false
set_option maxRecDepth 100000
namespace Mine
section
variable {prog : Program} {w : World} {A : Around} {E : Value → Shared → Prop} {s : Shared} {K : Frag} {h₀ : Heap} {L e t D : Addr} {news : List (Addr × Obj)} {vs : List Value} {T : String} {Q : Value → Shared → Prop}
theorem got_looks {M : Model} (N : News h₀ L s.heap news) (G : Got news e t (.ref D) vs) : Looks M s.heap (typeOf (.ref e)) (.ref D) := by
  obtain ⟨oe, ot, ws, nt, h1, h2, hc, hd, h0, htc, htd⟩ := G
  exact hc ▸ (Looks.ld (N _ h1).1).andThen .now
theorem isi_nested_T {x d : Value} {dep : Int} {tk : Tok} {Q : Fin → Shared → Prop} {M : Model} (ht : Looks M s.heap (typeOf x) d) (hne : (d == .type T) = false) (hty : Looks M s.heap (typeOf (.type T)) (.type "type"))
    (his : Looks M s.heap (isType (.type T)) true) (hsub : Looks M s.heap (isSubtype d (.type T)) true) (h : Q (.done (.ret (.bool true))) s) :
    wpAny M A (Builtin.«isinstance.nested» ⟨[x, .type T, .int dep tk], []⟩) Q E s := by
  obtain ⟨h0, g, dr, tt, os⟩ := s
  have LI : Looks M h0 (isInstance x (.type T)) true := ht.andThen hsub
  unfold Builtin.«isinstance.nested»
  refine wpAny_bind (ht.at ?_)
  rw [if_neg (fun q => by rw [hne] at q; exact Bool.noConfusion q)]
  refine wpAny_bind (hty.at ?_)
  rw [if_pos (by decide)]
  k_delta "plainIsInstance"
  refine wpAny_bind (wpAny_bind (his.at ?_))
  simp only [Bool.not_true, Bool.false_eq_true, if_false]
  refine wpAny_bind (LI.at ?_)
  first
    | exact wpAny_pure (wpAny_pure h)
    | (simp only [if_true]; first | exact wpAny_pure (wpAny_pure h) | exact wpAny_pure h | exact wpAny_bind (wpAny_pure (wpAny_pure h)))
/-- isinstance of a caught object of an own class against a built-in base -/
theorem isi_got (N : News h₀ L s.heap news) (G : Got news e t (.ref D) vs) (X : K.In s.heap) (hs : subIn K (.ref D) (.type T) = some true) (hm : kitMeta T = true) (h : Q (.bool true) s) :
    wpAny (model prog w) A (call (.builtin "isinstance") [.ref e, .type T]) Q E s :=
  call_isinstance (S := fun _ R s => ((∀ M, Looks M s.heap (typeOf (.ref e)) (.ref D)) ∧ K.In s.heap) ∧ R (.ok (.ret (.bool true))) s)
    (fun _ _ _ _ _ q => isinstance_outer (isi_nested_T (q.1.1 _) (by rfl) (Looks.of_pure (kitMeta_of hm)) (Looks.of_pure rfl) (looks_subIn q.1.2 hs) q.2) (by intro z; cases z)) ⟨⟨fun _ => got_looks N G, X⟩, h⟩
end
end Mine
end
section
open PySem PySem.W PyProof.Rows PySem.Calls
set_option Elab.async false
set_option maxRecDepth 100000
set_option maxHeartbeats 8000000
namespace Mine
noncomputable abbrev PV : Program := Mine.hd.view_39
noncomputable abbrev LS : List Str := looseW Mine.hd.view_39 [Str.ofString "round_fast", Str.ofString "fzero", Str.ofString "shifts_down", Str.ofString "from_man_exp", Str.ofString "mpf_sqrt"]
abbrev CT (w : World) (f : Addr) (vs : List Value) (k : Nat) (news : List (Addr × Obj)) (pre : Heap → Prop)
    (ret : Heap → Addr → (Str → Option Value) → Shared → (Value → Shared → Prop) → Prop) : Prop :=
  ∀ (mean : ExcName → Option Value) (mg mb : Str → Option Value) (dp un : Nat) (gd : Option (List Code)) (cn : Str) (cs : Scope) (a : Addr) (ccd : Value) (cl : List (Str × Addr)) (outer : List Env) (A₀ : Around) (base h₀ : Heap) (L : Addr) (m : Str → Option Value) (s : Shared) (Q E : Value → Shared → Prop),
    Below A₀ base outer h₀ → Fr h₀ L s.heap m → (Mine.hd.heap_39 w.params).In h₀ → News h₀ L s.heap news → Top PV LS mean mg mb h₀ → cs.kind = .function → pre base → dp + k < recursionLimit → un + 8 * k < cLine →
    ret h₀ L m s Q →
    wpAny (model PySem.Challenge.rw_ah5002_01.row.prog w) (ktrTop dp un gd cn cs L a ccd cl outer) (call (.ref f) vs) Q E s
/-- an int comes back, of which R holds -/
abbrev RI (R : Int → Prop) (news : List (Addr × Obj)) (h₀ : Heap) (L : Addr) (m : Str → Option Value) (s : Shared) (Q : Value → Shared → Prop) : Prop :=
  ∀ (x : Int) (t : Tok) (h' : Heap) (tk' : Nat), R x → Fr h₀ L h' m → News h₀ L h' news → Q (.int x t) { s with heap := h', toks := tk' }
theorem ri_end {R : Int → Prop} {news news' : List (Addr × Obj)} {h₀ h' : Heap} {L : Addr} {m : Str → Option Value} {s : Shared} {Q : Value → Shared → Prop} {x : Int} {t : Tok} {tk' : Nat}
   (hret : RI R news h₀ L m s Q) (hx : R x) (F : Fr h₀ L h' m) (N : News h₀ L h' news') (hs : ∀ p ∈ news, p ∈ news') : Q (.int x t) { s with heap := h', toks := tk' } :=
  hret x t h' tk' hx F (cb_drop N hs)
theorem ct_use {w : World} {f : Addr} {vs : List Value} {k : Nat} {news : List (Addr × Obj)} {pre : Heap → Prop} {ret : Heap → Addr → (Str → Option Value) → Shared → (Value → Shared → Prop) → Prop}
    (C : CT w f vs k news pre ret) {mean : ExcName → Option Value} {mg mb : Str → Option Value} {dp un : Nat} {gd : Option (List Code)} {cn : Str} {cs : Scope} {a : Addr} {ccd : Value} {cl : List (Str × Addr)} {outer : List Env} {A₀ : Around} {base h₀ : Heap} {L : Addr} {m : Str → Option Value} {s : Shared} {Q E : Value → Shared → Prop}
    (B : Below A₀ base outer h₀) (F : Fr h₀ L s.heap m) (X : (Mine.hd.heap_39 w.params).In h₀) (N : News h₀ L s.heap news) (T : Top PV LS mean mg mb h₀) (hk : cs.kind = .function) (hp : pre base) (hd : dp + k < recursionLimit) (hu : un + 8 * k < cLine)
    (hR : ret h₀ L m s Q) : wpAny (model PySem.Challenge.rw_ah5002_01.row.prog w) (ktrTop dp un gd cn cs L a ccd cl outer) (call (.ref f) vs) Q E s :=
  C _ _ _ _ _ _ _ _ _ _ _ _ _ _ _ _ _ _ _ _ B F X N T hk hp hd hu hR
abbrev tup (vs : List Value) (c : Nat) : Obj := { cls := .type "tuple", data := .seq vs.toArray c }
/-- a new pair of ints comes back -/
abbrev RT2 (R : Int → Int → Prop) (news : List (Addr × Obj)) (h₀ : Heap) (L : Addr) (m : Str → Option Value) (s : Shared) (Q : Value → Shared → Prop) : Prop :=
  ∀ (x y : Int) (tx ty : Tok) (c : Nat) (D : Addr) (h' : Heap) (tk' : Nat), R x y → Fr h₀ L h' m → News h₀ L h' ((D, ({ cls := .type "tuple", data := .seq #[.int x tx, .int y ty] c } : Obj)) :: news) → AllLt D news → Q (.ref D) { s with heap := h', toks := tk' }
/-- a new tuple of four ints comes back -/
abbrev RT4 (R : Int → Int → Int → Int → Prop) (news : List (Addr × Obj)) (h₀ : Heap) (L : Addr) (m : Str → Option Value) (s : Shared) (Q : Value → Shared → Prop) : Prop :=
  ∀ (x y z u : Int) (tx ty tz tu : Tok) (c : Nat) (D : Addr) (h' : Heap) (tk' : Nat), R x y z u → Fr h₀ L h' m → News h₀ L h' ((D, ({ cls := .type "tuple", data := .seq #[.int x tx, .int y ty, .int z tz, .int u tu] c } : Obj)) :: news) → AllLt D news → Q (.ref D) { s with heap := h', toks := tk' }
end Mine
end
section
open PySem PySem.W PyProof.Rows PySem.Calls
set_option Elab.async false
set_option maxRecDepth 100000
set_option maxHeartbeats 8000000
namespace Mine
theorem trail_nn {W : Int} (h : 1 ≤ W) : 0 ≤ (Builtin.Int.intBits (Builtin.bitAnd W (-W)) : Int) - 1 := by
  obtain ⟨j, a, _, _, e⟩ := trail h
  omega
theorem c_trailing (w : World) (news : List (Addr × Obj)) (n : Int) (t : Tok) (h1 : 1 ≤ n) :
    CT w 21 [.int n t] 1 news (fun _ => True) (RI (fun x => 0 ≤ x ∧ x = (Builtin.Int.intBits (Builtin.bitAnd n (-n)) : Int) - 1) news) := by
  unfold CT; k_fill
  intro mean mg mb dp un gd cn cs a ccd cl outer A₀ base h₀ L m s Q E B F X N T hk _ hd hu hret
  refine wpAny_call ?_
  k_dflt cell_enter
  k_steps
  all_goals first | (exfalso; omega) | exact ri_end hret ⟨trail_nn h1, rfl⟩ (by k_asm) (by k_asm) (fun _ h => h)
end Mine
end
section
open PySem PySem.W PyProof.Rows PySem.Calls
set_option Elab.async false
set_option maxRecDepth 100000
set_option maxHeartbeats 8000000
namespace Mine
theorem turn_start {n : Int} (h0 : 0 ≤ n) (h1 : n ≠ 0) (h : Sz 4000 n) : 0 < (1 : Int) * 2 ^ (((Builtin.Int.intBits n : Int) + 1).fdiv (2 ^ Int.toNat 1)).toNat ∧
    n < (1 * 2 ^ (((Builtin.Int.intBits n : Int) + 1).fdiv (2 ^ Int.toNat 1)).toNat + 1) * (1 * 2 ^ (((Builtin.Int.intBits n : Int) + 1).fdiv (2 ^ Int.toNat 1)).toNat + 1) ∧ Sz 8000 ((1 : Int) * 2 ^ (((Builtin.Int.intBits n : Int) + 1).fdiv (2 ^ Int.toNat 1)).toNat) :=
  have h := guess_sz (by decide) h
  have g := guess (n := n) (by omega)
  ⟨g.1, g.2, h⟩
theorem turn_next {n r : Int} (h0 : 0 ≤ n) (h1 : n ≠ 0) (ha : 0 < r) (hb : n < (r + 1) * (r + 1)) (hc : Sz 8000 r) (hy : (r + n.fdiv r).fdiv (2 ^ Int.toNat 1) < r) :
    0 < (r + n.fdiv r).fdiv (2 ^ Int.toNat 1) ∧ n < ((r + n.fdiv r).fdiv (2 ^ Int.toNat 1) + 1) * ((r + n.fdiv r).fdiv (2 ^ Int.toNat 1) + 1) ∧ Sz 8000 ((r + n.fdiv r).fdiv (2 ^ Int.toNat 1)) := by
  have e := newton_y (n := n) ha
  have h2 := newton_lt ha (show 1 ≤ n by omega) e
  have h3 : 0 ≤ n / r := Int.ediv_nonneg (by omega) (by omega)
  have h4 := newton_pos (show 1 ≤ n by omega) (show 0 ≤ (r + n.fdiv r).fdiv (2 ^ Int.toNat 1) by rw [e]; omega) h2
  exact ⟨h4, h2, hc.le (by omega) (by omega)⟩
theorem turn_end {n r : Int} (h : 0 < r) (h' : n < (r + 1) * (r + 1)) (hy : r ≤ (r + n.fdiv r).fdiv (2 ^ Int.toNat 1)) : Rt n r :=
  ⟨by omega, newton_le h (newton_y h) hy, h'⟩
theorem root_zero {n : Int} (h : n = 0) : Rt n n := by subst h; exact ⟨by decide, by decide, by decide⟩
theorem one_sz : Sz 10 1 := Sz.mk (by decide)
theorem is_e0 {n : Int} (h : Sz 4000 n) : 0 ≤ ((Builtin.Int.intBits n : Int) + 1).fdiv (2 ^ Int.toNat 1) := (guess_e (by decide) h).1
theorem is_e1 {n : Int} (h : Sz 4000 n) : (Builtin.Int.intBits 1 : Int) + ((Builtin.Int.intBits n : Int) + 1).fdiv (2 ^ Int.toNat 1) ≤ 2 ^ 27 :=
  one_sz.shift (by have := (guess_e (by decide) h).2; omega)
theorem ne_of_pos {r : Int} (h : 0 < r) : r ≠ 0 := by omega
theorem pyl {a b : Int} (h : Sz 8000 b) : Builtin.divisionGoesByPylong a b = false := h.pylong (by decide)
local macro_rules | `(tactic| walk_at "binaryOp LShift int int") => `(tactic| k_dflt ((refine lshift_int ?a ?b ?_); (case a => exact is_e0 (by assumption)); (case b => exact is_e1 (by assumption))))
local macro_rules | `(tactic| walk_at "binaryOp FloorDiv int int") => `(tactic| k_dflt ((with_reducible refine floordiv_int ?a ?_ (Or.inl (pyl ?b))); (case b => assumption); (case a => exact ne_of_pos (by assumption))))
local macro_rules | `(tactic| walk_at "exec While") => `(tactic| k_while_given ["x"] (fun x script r => 0 < r ∧ x < (r + 1) * (r + 1) ∧ Sz 8000 r) (fun x script r => r.toNat) "r")
local macro_rules | `(tactic| kst_p) => `(tactic| first | exact turn_start (by assumption) (by assumption) (by assumption) | exact turn_next (by assumption) (by assumption) (by assumption) (by assumption) (by assumption) (by omega))
theorem c_isqrt_small (w : World) (news : List (Addr × Obj)) (n : Int) (t : Tok) (h1 : 0 ≤ n) (h2 : Sz 4000 n) :
    CT w 28 [.int n t] 1 news (fun _ => True) (RI (fun x => Rt n x) news) := by
  unfold CT; k_fill
  intro mean mg mb dp un gd cn cs a ccd cl outer A₀ base h₀ L m s Q E B F X N T hk _ hd hu hret
  refine wpAny_call ?_
  k_dflt cell_enter
  k_steps
  all_goals first
    | exact ri_end hret (turn_end (by assumption) (by assumption) (by assumption)) (by k_asm) (by k_asm) (fun _ h => h)
    | exact ri_end hret (root_zero (by assumption)) (by k_asm) (by k_asm) (fun _ h => h)
end Mine
end
section
open PySem PySem.W PyProof.Rows PySem.Calls
set_option Elab.async false
set_option maxRecDepth 100000
set_option maxHeartbeats 8000000
namespace Mine
theorem root_sz {n r : Int} (h : Rt n r) (hn : Sz 4000 n) : Sz 4000 r := by
  refine hn.le h.1 ?_
  rcases Int.lt_or_le 0 r with h0 | h0
  · have := Int.mul_le_mul_of_nonneg_left (show 1 ≤ r by omega) h.1
    have := h.2.1
    omega
  · have := h.1; have := h.2.1
    have : r = 0 := by omega
    subst this; simpa using h.2.1
theorem mul_4 {a b : Int} (h : Sz 4000 a) (h' : Sz 4000 b) : IntMulOk a b := h.mulOk h' (by decide) (by decide)
local macro_rules | `(tactic| walk_at "call ref") => `(tactic| (k_here; (with_reducible show wpAny _ _ (call (Value.ref 28) [Value.int _ _]) _ _ _); k_dflt (
  refine' ct_use (c_isqrt_small _ _ _ _ ?p1 ?p2) ?k1 ?k2 ?k3 ?k4 ?k5 ?kK ?kp ?kd ?ku ?_;
  (case p1 => assumption); (case p2 => assumption); (case k1 => k_asm); (case k2 => k_asm); (case k3 => k_asm); (case k4 => k_asm); (case k5 => k_asm); (case kK => first | exact rfl | assumption); (case kp => trivial); (case kd => ktr_room); (case ku => ktr_units)); intro x9 t9 h9 tk9 hR9 F9 N9; (try dsimp only); (try k_fold)))
local macro_rules | `(tactic| walk_at "binaryOp Mult int int") => `(tactic| k_dflt ((with_reducible refine' mul_int ?_ (mul_4 (root_sz ?a ?b) (root_sz ?a ?b))); (case a => assumption); (case b => assumption)))
theorem sub1 {α : Type} {x : α} {l : List α} : ∀ p ∈ l, p ∈ x :: l := fun _ h => .tail _ h
theorem rt2_end {R : Int → Int → Prop} {news news' : List (Addr × Obj)} {h₀ h' : Heap} {L : Addr} {m : Str → Option Value} {s : Shared} {Q : Value → Shared → Prop} {x y : Int} {tx ty : Tok} {c : Nat} {D : Addr} {tk' : Nat}
   (hret : RT2 R news h₀ L m s Q) (hx : R x y) (F : Fr h₀ L h' m) (N : News h₀ L h' news') (hm : (D, ({ cls := .type "tuple", data := .seq #[.int x tx, .int y ty] c } : Obj)) ∈ news') (hs : ∀ p ∈ news, p ∈ news') (hl : AllLt D news) : Q (.ref D) { s with heap := h', toks := tk' } :=
  hret x y tx ty c D h' tk' hx F (fun p hp => by
    rcases List.mem_cons.mp hp with rfl | hp
    · exact N _ hm
    · exact N p (hs p hp)) hl
theorem rt4_end {R : Int → Int → Int → Int → Prop} {news news' : List (Addr × Obj)} {h₀ h' : Heap} {L : Addr} {m : Str → Option Value} {s : Shared} {Q : Value → Shared → Prop} {x y z u : Int} {tx ty tz tu : Tok} {c : Nat} {D : Addr} {tk' : Nat}
   (hret : RT4 R news h₀ L m s Q) (hx : R x y z u) (F : Fr h₀ L h' m) (N : News h₀ L h' news') (hm : (D, ({ cls := .type "tuple", data := .seq #[.int x tx, .int y ty, .int z tz, .int u tu] c } : Obj)) ∈ news') (hs : ∀ p ∈ news, p ∈ news') (hl : AllLt D news) : Q (.ref D) { s with heap := h', toks := tk' } :=
  hret x y z u tx ty tz tu c D h' tk' hx F (fun p hp => by
    rcases List.mem_cons.mp hp with rfl | hp
    · exact N _ hm
    · exact N p (hs p hp)) hl
theorem c_sqrtrem (w : World) (news : List (Addr × Obj)) (n : Int) (t : Tok) (h1 : 0 ≤ n) (h2 : Sz 4000 n) :
    CT w 35 [.int n t] 2 news (fun _ => True) (RT2 (fun x y => Rt n x ∧ y = n - x * x) news) := by
  unfold CT; k_fill
  intro mean mg mb dp un gd cn cs a ccd cl outer A₀ base h₀ L m s Q E B F X N T hk _ hd hu hret
  refine wpAny_call ?_
  k_dflt cell_enter
  k_steps
  all_goals first
    | exact rt2_end hret ⟨by assumption, rfl⟩ (by k_asm) (by k_asm) (by k_mem) sub1 (by first | assumption | exact allLt_of (by assumption))
local macro_rules | `(tactic| walk_at "call ref") => `(tactic| (k_here; (with_reducible show wpAny _ _ (call (Value.ref 35) [Value.int _ _]) _ _ _); k_dflt (
  refine' ct_use (c_sqrtrem _ _ _ _ ?p1 ?p2) ?k1 ?k2 ?k3 ?k4 ?k5 ?kK ?kp ?kd ?ku ?_;
  (case p1 => first | assumption | skip); (case p2 => first | assumption | skip); (case k1 => k_asm); (case k2 => k_asm); (case k3 => k_asm); (case k4 => k_asm); (case k5 => k_asm); (case kK => first | exact rfl | assumption); (case kp => trivial); (case kd => ktr_room); (case ku => ktr_units)); intro x9 y9 tx9 ty9 c9 D9 h9 tk9 hR9 F9 N9 hl9; (try k_lt hl9); (try dsimp only); (try k_fold)))
theorem c_isqrt (w : World) (news : List (Addr × Obj)) (n : Int) (t : Tok) (h1 : 0 ≤ n) (h2 : Sz 4000 n) :
    CT w 42 [.int n t] 3 news (fun _ => True) (RI (fun x => Rt n x) news) := by
  unfold CT; k_fill
  intro mean mg mb dp un gd cn cs a ccd cl outer A₀ base h₀ L m s Q E B F X N T hk _ hd hu hret
  refine wpAny_call ?_
  k_dflt cell_enter
  k_steps
  all_goals first
    | exact ri_end hret (And.left (by assumption)) (by k_asm) (by k_asm) sub1
theorem sf_nn {n p : Int} (h1 : 0 ≤ n) : 0 ≤ n * 2 ^ p.toNat := Int.mul_nonneg h1 (Int.le_of_lt (kbt_pos _))
theorem sf_sz {n p : Int} {k : Nat} (h2 : Sz k n) (h3 : 0 ≤ p) (hk : k + p + 1 ≤ 4000) : Sz 4000 (n * 2 ^ p.toNat) := (h2.mul (Sz.pow p.toNat)).mono (by omega)
theorem sf_e {n p : Int} (h2 : Sz 3000 n) (h4 : p ≤ 900) : (Builtin.Int.intBits n : Int) + p ≤ 2 ^ 27 := h2.shift (by omega)
local macro_rules | `(tactic| walk_at "call ref") => `(tactic| (k_here; (with_reducible show wpAny _ _ (call (Value.ref 42) [Value.int _ _]) _ _ _); k_dflt (
  refine' ct_use (c_isqrt _ _ _ _ ?p1 ?p2) ?k1 ?k2 ?k3 ?k4 ?k5 ?kK ?kp ?kd ?ku ?_;
  (case p1 => first | assumption | exact sf_nn (by assumption)); (case p2 => first | assumption | exact sf_sz (k := 3000) (by assumption) (by assumption) (by omega)); (case k1 => k_asm); (case k2 => k_asm); (case k3 => k_asm); (case k4 => k_asm); (case k5 => k_asm); (case kK => first | exact rfl | assumption); (case kp => trivial); (case kd => ktr_room); (case ku => ktr_units)); intro x9 t9 h9 tk9 hR9 F9 N9; (try dsimp only); (try k_fold)))
local macro_rules | `(tactic| walk_at "binaryOp LShift int int") => `(tactic| k_dflt ((refine lshift_int ?a ?b ?_); (case a => assumption); (case b => exact sf_e (by assumption) (by assumption))))
theorem c_sqrt_fixed (w : World) (news : List (Addr × Obj)) (n p : Int) (t tp : Tok) (h1 : 0 ≤ n) (h2 : Sz 3000 n) (h3 : 0 ≤ p) (h4 : p ≤ 900) :
    CT w 49 [.int n t, .int p tp] 4 news (fun _ => True) (RI (fun x => Rt (n * 2 ^ p.toNat) x) news) := by
  unfold CT; k_fill
  intro mean mg mb dp un gd cn cs a ccd cl outer A₀ base h₀ L m s Q E B F X N T hk _ hd hu hret
  refine wpAny_call ?_
  k_dflt cell_enter
  k_steps
  all_goals first
    | exact ri_end hret (by assumption) (by k_asm) (by k_asm) (fun _ h => h)
end Mine
end
section
open PySem PySem.W PyProof.Rows PySem.Calls
set_option Elab.async false
set_option maxRecDepth 100000
set_option maxHeartbeats 8000000
namespace Mine
/-- the greatest power's place that _law_root begins at -/
abbrev kTop (n : Int) : Int := ((Builtin.Int.intBits n : Int) + 1).fdiv 2
theorem kTop_eq (n : Int) : kTop n = ((Builtin.Int.intBits n : Int) + 1) / 2 := by show ((Builtin.Int.intBits n : Int) + 1).fdiv 2 = _; rw [Int.fdiv_eq_ediv_of_nonneg _ (by decide)]
structure LR (n : Int) (j : Nat) (f : Int) : Prop where
  nn : 0 ≤ f
  lo : f * f ≤ n
  le : (j : Int) ≤ kTop n + 1
  hi : n < (f + 2 ^ (kTop n + 1 - j).toNat) * (f + 2 ^ (kTop n + 1 - j).toNat)
theorem root_sz' {n r : Int} (h0 : 0 ≤ r) (h1 : r * r ≤ n) (hn : Sz 4000 n) : Sz 4000 r := by
  refine hn.le h0 ?_
  rcases Int.lt_or_le 0 r with h2 | h2
  · have := Int.mul_le_mul_of_nonneg_left (show 1 ≤ r by omega) h0
    omega
  · have : r = 0 := by omega
    subst this; simpa using h1
theorem lr_start {n : Int} (h : 0 ≤ n) : LR n ([] : List Int).length 0 := by
  have e := kTop_eq n
  refine ⟨by omega, by simpa using h, by simp; omega, ?_⟩
  have h1 := bits_lt n
  simp only [List.length_nil, Int.zero_add]
  rw [← Int.pow_add]
  have h2 : (2 : Int) ^ Builtin.Int.intBits n ≤ 2 ^ ((kTop n + 1 - ((0 : Nat) : Int)).toNat + (kTop n + 1 - ((0 : Nat) : Int)).toNat) := pow_mono (by omega)
  omega
theorem sq2 (a : Int) : a ^ 2 = a * a := by rw [Int.pow_succ, Int.pow_succ, Int.pow_zero, Int.one_mul]
theorem lr_step {n k f : Int} {pre : List Int} (h : LR n pre.length f) (hk : k = kTop n - pre.length) (h0 : 0 ≤ k) :
    ((f + 2 ^ k.toNat) ^ Int.toNat 2 ≤ n → LR n (pre ++ [k]).length (f + 2 ^ k.toNat)) ∧ (n < (f + 2 ^ k.toNat) ^ Int.toNat 2 → LR n (pre ++ [k]).length f) := by
  have e1 : (kTop n + 1 - (pre.length : Int)).toNat = k.toNat + 1 := by omega
  have e2 : (kTop n + 1 - ((pre ++ [k]).length : Int)).toNat = k.toNat := by simp; omega
  have hp := kbt_pos k.toNat
  have hq : (f + 2 ^ k.toNat) ^ Int.toNat 2 = (f + 2 ^ k.toNat) * (f + 2 ^ k.toNat) := sq2 _
  have h9 := h.nn
  have h8 := h.hi
  rw [e1] at h8
  refine ⟨fun h1 => ⟨by omega, by omega, by simp; omega, ?_⟩, fun h1 => ⟨h.nn, h.lo, by simp; omega, ?_⟩⟩
  · rw [e2]
    have : f + 2 ^ k.toNat + 2 ^ k.toNat = f + 2 ^ (k.toNat + 1) := by rw [Int.pow_succ]; omega
    rw [this]
    exact h8
  · rw [e2, ← hq]; exact h1
theorem lr_end {n f : Int} {j : Nat} (h : LR n j f) (hj : (j : Int) = kTop n + 1) : Rt n f := by
  have h1 := h.hi
  rw [show kTop n + 1 - (j : Int) = 0 by omega] at h1
  exact ⟨h.nn, h.lo, by simpa using h1⟩
theorem kTop_bd {n : Int} (h : Sz 4000 n) : 0 ≤ kTop n ∧ kTop n ≤ 3000 := by
  have := h.bits
  rw [kTop_eq]
  omega
local macro_rules | `(tactic| walk_at "pyIter ref") => `(tactic| k_state_given ["n"] (fun n pre found => LR n pre.length found) "found")
theorem lr_pow {n k f : Int} {j : Nat} (h : LR n j f) (h2 : Sz 4000 n) (hk : k = kTop n - j) : (Builtin.Int.intBits (f + 2 ^ k.toNat) : Int) * 2 ≤ 2 ^ 27 := by
  have h3 : Sz 4000 f := root_sz' h.nn h.lo h2
  have h5 := (kTop_bd h2).2
  have h4 := (h3.add ((Sz.pow k.toNat).mono (show k.toNat + 1 ≤ 4000 by omega))).bits
  omega
theorem lr_up {n k f : Int} {pre : List Int} (h : LR n pre.length f) (hk : k = kTop n - pre.length) (hl : pre.length < (kTop n - -1).toNat) (hc : (f + 2 ^ k.toNat) ^ Int.toNat 2 ≤ n) : LR n (pre ++ [k]).length (f + 2 ^ k.toNat) :=
  (lr_step h hk (by omega)).1 hc
theorem lr_no {n k f : Int} {pre : List Int} (h : LR n pre.length f) (hk : k = kTop n - pre.length) (hl : pre.length < (kTop n - -1).toNat) (hc : ¬ (f + 2 ^ k.toNat) ^ Int.toNat 2 ≤ n) : LR n (pre ++ [k]).length f :=
  (lr_step h hk (by omega)).2 (Int.not_le.mp hc)
theorem lr_done {n f : Int} (h2 : Sz 4000 n) (h : LR n (downKs (kTop n) (kTop n - -1).toNat).length f) : Rt n f := by
  have := kTop_bd h2
  exact lr_end h (by rw [downKs_length]; omega)
local macro_rules | `(tactic| kst_p) => `(tactic| first | exact lr_start (by assumption) | exact lr_up (by assumption) (by assumption) (by assumption) (by assumption) | exact lr_no (by assumption) (by assumption) (by assumption) (by assumption))
local macro_rules | `(tactic| walk_at "binaryOp Pow int int") => `(tactic| k_dflt ((refine' pow_int ?a ?b ?_); (case a => decide); (case b => exact lr_pow (by assumption) (by assumption) (by assumption))))
theorem c_law_root (w : World) (news : List (Addr × Obj)) (n : Int) (t : Tok) (h1 : 0 ≤ n) (h2 : Sz 4000 n) :
    CT w 119 [.int n t] 1 news (fun _ => True) (RI (fun x => Rt n x) news) := by
  unfold CT; k_fill
  intro mean mg mb dp un gd cn cs a ccd cl outer A₀ base h₀ L m s Q E B F X N T hk _ hd hu hret
  have hb := h2.bits
  have hb' : ((Builtin.Int.intBits n : Int) + 1).fdiv 2 = ((Builtin.Int.intBits n : Int) + 1) / 2 := kTop_eq n
  refine wpAny_call ?_
  k_dflt cell_enter
  k_steps
  all_goals first
    | exact ri_end hret (lr_done (by assumption) (by assumption)) (by k_asm) (by k_asm) (fun _ h => h)
end Mine
end
section
open PySem PySem.W PyProof.Rows PySem.Calls
set_option Elab.async false
set_option maxRecDepth 100000
set_option maxHeartbeats 8000000
namespace Mine
theorem BW.pos {b W : Int} (h : BW b W) : 1 ≤ W := h.2.1
local macro_rules | `(tactic| walk_at "ite") => `(tactic| first
  | with_reducible refine ite_tt ?_ | with_reducible refine ite_ff ?_ | with_reducible refine split_not ?_
  | (k_closed; k_dflt (first | refine ite_pos (by decide) ?_ | refine ite_neg (by decide) ?_))
  | ((first | with_reducible refine split_ine ?_ ?_ | with_reducible refine split_ieq ?_ ?_ | with_reducible refine split_dec ?_ ?_ | with_reducible refine split_bool ?_ ?_) <;> intro _ <;> (try (exfalso; omega; done))))
local macro_rules | `(tactic| walk_at "isTrue BoolOp") => `(tactic| dsimp only)
local macro_rules | `(tactic| walk_at "truthy int") => `(tactic| dsimp only)
local macro_rules | `(tactic| walk_at "call ref") => `(tactic| (k_here; (with_reducible show wpAny _ _ (call (Value.ref 21) [Value.int _ _]) _ _ _); k_dflt (
  refine' ct_use (c_trailing _ _ _ _ ?p1) ?k1 ?k2 ?k3 ?k4 ?k5 ?kK ?kp ?kd ?ku ?_;
  (case p1 => with_reducible exact BW.pos (by assumption)); (case k1 => k_asm); (case k2 => k_asm); (case k3 => k_asm); (case k4 => k_asm); (case k5 => k_asm); (case kK => first | exact rfl | assumption); (case kp => trivial); (case kd => ktr_room); (case ku => ktr_units)); intro x9 t9 h9 tk9 hR9 F9 N9; (have hR8 := hR9.1); (replace hR9 := hR9.2); (try dsimp only); (try k_fold)))
theorem ns_e {man bc prec : Int} (h : Sz 4000 man) (h3 : bc = Builtin.Int.intBits man) (h4 : 1 ≤ prec) : (Builtin.Int.intBits 1 : Int) + (bc - prec - 1) ≤ 2 ^ 27 := by
  have := h.bits
  rw [bits_one]
  omega
local macro_rules | `(tactic| walk_at "binaryOp LShift int int") => `(tactic| k_dflt ((refine' lshift_int ?a ?b ?_); (case a => omega); (case b => exact ns_e (by assumption) (by assumption) (by assumption))))
theorem rd_ff {man n : Int} : man.fdiv (2 ^ n.toNat) = rd (Str.ofString "f") man n := (rd_f (Or.inl rfl)).symm
theorem rd_fd {man n : Int} : man.fdiv (2 ^ n.toNat) = rd (Str.ofString "d") man n := (rd_f (Or.inr rfl)).symm
theorem rd_fc {man n : Int} : -((-man).fdiv (2 ^ n.toNat)) = rd (Str.ofString "c") man n := (rd_c (Or.inl rfl)).symm
theorem rd_fu {man n : Int} : -((-man).fdiv (2 ^ n.toNat)) = rd (Str.ofString "u") man n := (rd_c (Or.inr rfl)).symm
theorem ends_to {W V e y z u : Int} (h : W = V) (k : Odd1 W e y z u) : Odd1 V e y z u := h ▸ k
theorem c_normalize0 (w : World) (news : List (Addr × Obj)) (man exp bc prec : Int) (rnd : Str) (t0 t1 t2 t3 t4 t5 : Tok) (h1 : 1 ≤ man) (h2 : Sz 4000 man) (h3 : bc = Builtin.Int.intBits man) (h4 : 1 ≤ prec) (hn : 0 < bc - prec) (hr : Rnd rnd) :
    CT w 75 [.int 0 t0, .int man t1, .int exp t2, .int bc t3, .int prec t4, .str rnd t5] 2 news (fun _ => True) (RT4 (fun x y z u => x = 0 ∧ Odd1 (rd rnd man (bc - prec)) (exp + (bc - prec)) y z u) news) := by
  unfold CT; k_fill
  intro mean mg mb dp un gd cn cs a ccd cl outer A₀ base h₀ L m s Q E B F X N T hk _ hd hu hret
  have w1 := bw_dn h1 h3 h4 hn
  have w2 := bw_up h1 h3 h4 hn
  have w3 := bw_n0 h1 h3 h4 hn
  have w4 := bw_n1 h1 h3 h4 hn
  cases hr
  all_goals (
    refine wpAny_call ?_
    k_dflt cell_enter
    k_steps)
  all_goals try exact rt4_end hret ⟨rfl, ends_to (by first | with_reducible exact rd_n1 (by assumption) (by assumption) | with_reducible exact rd_n2 (by assumption) (by assumption) | with_reducible exact rd_n3 (by assumption) | with_reducible exact rd_n4 (by assumption) (by assumption) | with_reducible exact rd_ff | with_reducible exact rd_fd | with_reducible exact rd_fc | with_reducible exact rd_fu) (by first | with_reducible exact ends_one (by assumption) (by assumption) (by assumption) | with_reducible exact ends_odd (by assumption) (by assumption) (by assumption) | with_reducible exact ends_even1 (by assumption) (by assumption) (by assumption) | with_reducible exact ends_even (by assumption) (by assumption) (by assumption))⟩ (by k_asm) (by k_asm) (by k_mem) sub1 (by first | assumption | exact allLt_of (by assumption))
end Mine
end
section
open PySem PySem.W PyProof.Rows PySem.Calls
set_option Elab.async false
set_option maxRecDepth 100000
set_option maxHeartbeats 8000000
namespace Mine
local macro_rules | `(tactic| walk_at "ite") => `(tactic| first
  | with_reducible refine ite_tt ?_ | with_reducible refine ite_ff ?_ | with_reducible refine split_not ?_
  | (k_closed; k_dflt (first | refine ite_pos (by decide) ?_ | refine ite_neg (by decide) ?_))
  | ((first | with_reducible refine split_ine ?_ ?_ | with_reducible refine split_ieq ?_ ?_ | with_reducible refine split_dec ?_ ?_ | with_reducible refine split_bool ?_ ?_) <;> intro _ <;> (try (exfalso; omega; done))))
local macro_rules | `(tactic| walk_at "isTrue BoolOp") => `(tactic| dsimp only)
local macro_rules | `(tactic| walk_at "truthy int") => `(tactic| dsimp only)
theorem band_one : Builtin.bitAnd 1 1 = 0 → False := by decide
theorem c_normalize0_one (w : World) (news : List (Addr × Obj)) (exp prec : Int) (rnd : Str) (t0 t1 t2 t3 t4 t5 : Tok) (h4 : 1 ≤ prec) :
    CT w 75 [.int 0 t0, .int 1 t1, .int exp t2, .int 1 t3, .int prec t4, .str rnd t5] 2 news (fun _ => True) (RT4 (fun x y z u => x = 0 ∧ y = 1 ∧ z = exp ∧ u = 1) news) := by
  unfold CT; k_fill
  intro mean mg mb dp un gd cn cs a ccd cl outer A₀ base h₀ L m s Q E B F X N T hk _ hd hu hret
  refine wpAny_call ?_
  k_dflt cell_enter
  k_steps
  all_goals exact rt4_end hret ⟨rfl, rfl, rfl, rfl⟩ (by k_asm) (by k_asm) (by k_mem) sub1 (by first | assumption | exact allLt_of (by assumption))
local macro_rules | `(tactic| walk_at "call ref") => `(tactic| (k_here; (with_reducible show wpAny _ _ (call (Value.ref 75) [Value.int 0 _, Value.int 1 _, Value.int _ _, Value.int 1 _, Value.int _ _, Value.str _ _]) _ _ _); k_dflt (
  refine' ct_use (c_normalize0_one _ _ _ _ _ _ _ _ _ _ _ ?p1) ?k1 ?k2 ?k3 ?k4 ?k5 ?kK ?kp ?kd ?ku ?_;
  (case p1 => assumption); (case k1 => k_asm); (case k2 => k_asm); (case k3 => k_asm); (case k4 => k_asm); (case k5 => k_asm); (case kK => first | exact rfl | assumption); (case kp => trivial); (case kd => ktr_room); (case ku => ktr_units)); intro x9 y9 z9 u9 tx9 ty9 tz9 tu9 c9 D9 h9 tk9 hR9 F9 N9 hl9; (try k_lt hl9); (try dsimp only); (try k_fold)))
theorem c_normalize_one (w : World) (news : List (Addr × Obj)) (exp prec : Int) (rnd : Str) (t0 t1 t2 t3 t4 t5 : Tok) (h4 : 1 ≤ prec) :
    CT w 82 [.int 0 t0, .int 1 t1, .int exp t2, .int 1 t3, .int prec t4, .str rnd t5] 3 news (fun _ => True) (RT4 (fun x y z u => x = 0 ∧ y = 1 ∧ z = exp ∧ u = 1) news) := by
  unfold CT; k_fill
  intro mean mg mb dp un gd cn cs a ccd cl outer A₀ base h₀ L m s Q E B F X N T hk _ hd hu hret
  refine wpAny_call ?_
  k_dflt cell_enter
  k_steps
  all_goals exact rt4_end hret (by assumption) (by k_asm) (by k_asm) (by k_mem) sub1 (by first | assumption | exact allLt_of (by assumption))
local macro_rules | `(tactic| walk_at "call ref") => `(tactic| (k_here; (with_reducible show wpAny _ _ (call (Value.ref 75) [Value.int 0 _, Value.int _ _, Value.int _ _, Value.int _ _, Value.int _ _, Value.str _ _]) _ _ _); k_dflt (
  refine' ct_use (c_normalize0 _ _ _ _ _ _ _ _ _ _ _ _ _ ?p1 ?p2 ?p3 ?p4 ?p5 ?p6) ?k1 ?k2 ?k3 ?k4 ?k5 ?kK ?kp ?kd ?ku ?_;
  (case p1 => assumption); (case p2 => assumption); (case p3 => assumption); (case p4 => assumption); (case p5 => assumption); (case p6 => assumption); (case k1 => k_asm); (case k2 => k_asm); (case k3 => k_asm); (case k4 => k_asm); (case k5 => k_asm); (case kK => first | exact rfl | assumption); (case kp => trivial); (case kd => ktr_room); (case ku => ktr_units)); intro x9 y9 z9 u9 tx9 ty9 tz9 tu9 c9 D9 h9 tk9 hR9 F9 N9 hl9; (try k_lt hl9); (try dsimp only); (try k_fold)))
theorem c_normalize (w : World) (news : List (Addr × Obj)) (man exp bc prec : Int) (rnd : Str) (t0 t1 t2 t3 t4 t5 : Tok) (h1 : 1 ≤ man) (h2 : Sz 4000 man) (h3 : bc = Builtin.Int.intBits man) (h4 : 1 ≤ prec) (hn : 0 < bc - prec) (hr : Rnd rnd) :
    CT w 82 [.int 0 t0, .int man t1, .int exp t2, .int bc t3, .int prec t4, .str rnd t5] 3 news (fun _ => True) (RT4 (fun x y z u => x = 0 ∧ Odd1 (rd rnd man (bc - prec)) (exp + (bc - prec)) y z u) news) := by
  unfold CT; k_fill
  intro mean mg mb dp un gd cn cs a ccd cl outer A₀ base h₀ L m s Q E B F X N T hk _ hd hu hret
  refine wpAny_call ?_
  k_dflt cell_enter
  k_steps
  all_goals exact rt4_end hret (by assumption) (by k_asm) (by k_asm) (by k_mem) sub1 (by first | assumption | exact allLt_of (by assumption))
end Mine
end
section
open PySem PySem.W PyProof.Rows PySem.Calls
set_option Elab.async false
set_option maxRecDepth 100000
set_option maxHeartbeats 8000000
namespace Mine
local macro_rules | `(tactic| walk_at "ite") => `(tactic| first
  | with_reducible refine ite_tt ?_ | with_reducible refine ite_ff ?_ | with_reducible refine split_not ?_
  | (k_closed; k_dflt (first | refine ite_pos (by decide) ?_ | refine ite_neg (by decide) ?_ | refine ite_pos (by decide +kernel) ?_ | refine ite_neg (by decide +kernel) ?_))
  | ((first | with_reducible refine split_ine ?_ ?_ | with_reducible refine split_ieq ?_ ?_ | with_reducible refine split_dec ?_ ?_ | with_reducible refine split_bool ?_ ?_) <;> intro _ <;> (try (exfalso; omega; done))))
local macro_rules | `(tactic| walk_at "isTrue BoolOp") => `(tactic| dsimp only)
local macro_rules | `(tactic| walk_at "truthy int") => `(tactic| dsimp only)
local macro_rules | `(tactic| walk_at "call ref") => `(tactic| (k_here; (with_reducible show wpAny _ _ (call (Value.ref 82) [Value.int 0 _, Value.int _ _, Value.int _ _, Value.int _ _, Value.int _ _, Value.str _ _]) _ _ _); k_dflt (
  refine' ct_use (c_normalize _ _ _ _ _ _ _ _ _ _ _ _ _ ?p1 ?p2 ?p3 ?p4 ?p5 ?p6) ?k1 ?k2 ?k3 ?k4 ?k5 ?kK ?kp ?kd ?ku ?_;
  (case p1 => with_reducible assumption); (case p2 => with_reducible assumption); (case p3 => first | assumption | rfl); (case p4 => with_reducible assumption); (case p5 => with_reducible assumption); (case p6 => with_reducible assumption); (case k1 => k_asm); (case k2 => k_asm); (case k3 => k_asm); (case k4 => k_asm); (case k5 => k_asm); (case kK => first | exact rfl | assumption); (case kp => trivial); (case kd => ktr_room); (case ku => ktr_units)); intro x9 y9 z9 u9 tx9 ty9 tz9 tu9 c9 D9 h9 tk9 hR9 F9 N9 hl9; (try k_lt hl9); (try dsimp only); (try k_fold)))
theorem c_from_man_exp (w : World) (news : List (Addr × Obj)) (man exp prec : Int) (rnd : Str) (t1 t2 t4 t5 : Tok) (h1 : 1 ≤ man) (h2 : Sz 4000 man) (h4 : 1 ≤ prec) (hn : 0 < (Builtin.Int.intBits man : Int) - prec) (hr : Rnd rnd) :
    CT w 90 [.int man t1, .int exp t2, .int prec t4, .str rnd t5] 4 news (fun _ => True) (RT4 (fun x y z u => x = 0 ∧ Odd1 (rd rnd man ((Builtin.Int.intBits man : Int) - prec)) (exp + ((Builtin.Int.intBits man : Int) - prec)) y z u) news) := by
  unfold CT; k_fill
  intro mean mg mb dp un gd cn cs a ccd cl outer A₀ base h₀ L m s Q E B F X N T hk _ hd hu hret
  refine wpAny_call ?_
  k_dflt (refine' code_def ?k1 ?k2 ?k3 ?k4 ?k5 ?kA ?kF ?kK ?k6 ?k7 ?k8 ?k9 ?kB ?_ ?c2 ?c3 ?c4 ?c5; (case kA => exact rfl); (case kF => exact rfl); (case kK => assumption); (case k1 => k_asm); (case k2 => k_asm); (case k3 => k_asm); (case k4 => k_asm); (case k5 => k_asm); (case k6 => k_is); (case k7 => k_is); (case k8 => ktr_room); (case k9 => exact binds_K (by k_in) rfl (by k_is) rfl rfl rfl); (case c5 => decide); (case kB => exact locs rfl); (case c2 => exact rfl); (case c3 => exact rfl); (case c4 => exact rfl); k_whole; intro g' L' h' FG' F' N' B' X' T'; (try dsimp only); (try k_lift B'); (try k_fold))
  k_steps
  all_goals exact rt4_end hret (by assumption) (by k_asm) (by k_asm) (by k_mem) sub1 (by first | assumption | exact allLt_of (by assumption))
theorem c_norm_one_gen (w : World) (news : List (Addr × Obj)) (man exp bc prec : Int) (rnd : Str) (t0 t1 t2 t3 t4 t5 : Tok) (h : man = 1) (hb : bc = (Builtin.Int.intBits man : Int)) (h4 : 1 ≤ prec) :
    CT w 82 [.int 0 t0, .int man t1, .int exp t2, .int bc t3, .int prec t4, .str rnd t5] 3 news (fun _ => True) (RT4 (fun x y z u => x = 0 ∧ y = 1 ∧ z = exp ∧ u = 1) news) := by
  have hc := one_bits h hb
  subst hc
  subst h
  exact c_normalize_one w news exp prec rnd t0 t1 t2 t3 t4 t5 h4
local macro_rules | `(tactic| walk_at "call ref") => `(tactic| (k_here; (with_reducible show wpAny _ _ (call (Value.ref 82) [Value.int 0 _, Value.int _ _, Value.int (Int.fdiv _ 2) _, Value.int _ _, Value.int _ _, Value.str _ _]) _ _ _); k_dflt (
  refine' ct_use (c_norm_one_gen _ _ _ _ _ _ _ _ _ _ _ _ _ ?p1 ?p2 ?p3) ?k1 ?k2 ?k3 ?k4 ?k5 ?kK ?kp ?kd ?ku ?_;
  (case p1 => with_reducible assumption); (case p2 => with_reducible assumption); (case p3 => with_reducible assumption); (case k1 => k_asm); (case k2 => k_asm); (case k3 => k_asm); (case k4 => k_asm); (case k5 => k_asm); (case kK => first | exact rfl | assumption); (case kp => trivial); (case kd => ktr_room); (case ku => ktr_units)); intro x9 y9 z9 u9 tx9 ty9 tz9 tu9 c9 D9 h9 tk9 hR9 F9 N9 hl9; (try k_lt hl9); (try dsimp only); (try k_fold)))
theorem ilsh_e {man : Int} (h : Sz 201 man) : (Builtin.Int.intBits man : Int) + 1 ≤ 2 ^ 27 := h.shift (by decide)
local macro_rules | `(tactic| walk_at "inplaceOp LShift int int") => `(tactic| k_dflt ((with_reducible refine' ilshift_int ?a ?b ?_); (case a => decide); (case b => with_reducible exact ilsh_e (by with_reducible assumption))))
local macro_rules | `(tactic| walk_at "binaryOp LShift int int") => `(tactic| k_dflt (first
  | ((with_reducible refine' lshift_int ?a ?b ?_); (case a => with_reducible assumption); (case b => with_reducible exact sh_e (by with_reducible assumption) (by with_reducible assumption)))
  | ((with_reducible refine' lshift_int ?a ?b ?_); (case a => decide); (case b => with_reducible exact r_e (by with_reducible assumption) (by with_reducible assumption) (by with_reducible assumption)))))
local macro_rules | `(tactic| walk_at "call ref") => `(tactic| (k_here; (with_reducible show wpAny _ _ (call (Value.ref 42) [Value.int _ _]) _ _ _); k_dflt (
  refine' ct_use (c_isqrt _ _ _ _ ?p1 ?p2) ?k1 ?k2 ?k3 ?k4 ?k5 ?kK ?kp ?kd ?ku ?_;
  (case p1 => with_reducible exact mM_nn (by with_reducible assumption) _); (case p2 => with_reducible exact mM_sz (by with_reducible assumption) (by with_reducible assumption)); (case k1 => k_asm); (case k2 => k_asm); (case k3 => k_asm); (case k4 => k_asm); (case k5 => k_asm); (case kK => first | exact rfl | assumption); (case kp => trivial); (case kd => ktr_room); (case ku => ktr_units)); intro x9 t9 h9 tk9 hR9 F9 N9; (try dsimp only); (try k_fold)))
local macro_rules | `(tactic| walk_at "call ref") => `(tactic| (k_here; (with_reducible show wpAny _ _ (call (Value.ref 35) [Value.int _ _]) _ _ _); k_dflt (
  refine' ct_use (c_sqrtrem _ _ _ _ ?p1 ?p2) ?k1 ?k2 ?k3 ?k4 ?k5 ?kK ?kp ?kd ?ku ?_;
  (case p1 => with_reducible exact mM_nn (by with_reducible assumption) _); (case p2 => with_reducible exact mM_sz (by with_reducible assumption) (by with_reducible assumption)); (case k1 => k_asm); (case k2 => k_asm); (case k3 => k_asm); (case k4 => k_asm); (case k5 => k_asm); (case kK => first | exact rfl | assumption); (case kp => trivial); (case kd => ktr_room); (case ku => ktr_units)); intro x9 y9 tx9 ty9 c9 D9 h9 tk9 hR9 F9 N9 hl9; (have hR8 := hR9.1); (replace hR9 := hR9.2); (try k_lt hl9); (try dsimp only); (try k_fold)))
local macro_rules | `(tactic| walk_at "call ref") => `(tactic| (k_here; (with_reducible show wpAny _ _ (call (Value.ref 90) [Value.int _ _, Value.int _ _, Value.int _ _, Value.str _ _]) _ _ _); k_dflt (
  refine' ct_use (c_from_man_exp _ _ _ _ _ _ _ _ _ _ ?p1 ?p2 ?p3 ?p4 ?p5) ?k1 ?k2 ?k3 ?k4 ?k5 ?kK ?kp ?kd ?ku ?_;
  (case p1 => first | with_reducible exact r_ge (by with_reducible assumption) (by with_reducible assumption) (by with_reducible assumption) (by with_reducible assumption) (by with_reducible assumption) (by with_reducible assumption) | with_reducible exact r2_ge (by with_reducible assumption) (by with_reducible assumption) (by with_reducible assumption) (by with_reducible assumption) (by with_reducible assumption) (by with_reducible assumption)); (case p2 => first | with_reducible exact r_sz4 (by with_reducible assumption) (by with_reducible assumption) (by with_reducible assumption) | with_reducible exact r2_sz (by with_reducible assumption) (by with_reducible assumption) (by with_reducible assumption)); (case p3 => with_reducible assumption); (case p4 => first | with_reducible exact r_bits (by with_reducible assumption) (by with_reducible assumption) (by with_reducible assumption) (by with_reducible assumption) (by with_reducible assumption) (by with_reducible assumption) | with_reducible exact r2_bits (by with_reducible assumption) (by with_reducible assumption) (by with_reducible assumption) (by with_reducible assumption) (by with_reducible assumption) (by with_reducible assumption)); (case p5 => first | with_reducible assumption | with_reducible exact Rnd.n | with_reducible exact Rnd.f | with_reducible exact Rnd.c | with_reducible exact Rnd.d | with_reducible exact Rnd.u); (case k1 => k_asm); (case k2 => k_asm); (case k3 => k_asm); (case k4 => k_asm); (case k5 => k_asm); (case kK => first | exact rfl | assumption); (case kp => trivial); (case kd => ktr_room); (case ku => ktr_units)); intro x9 y9 z9 u9 tx9 ty9 tz9 tu9 c9 D9 h9 tk9 hR9 F9 N9 hl9; (try k_lt hl9); (try dsimp only); (try k_fold)))
theorem sub2 {α : Type} {x y : α} {l : List α} : ∀ p ∈ l, p ∈ x :: y :: l := fun _ h => .tail _ (.tail _ h)
theorem raw_one {man exp prec : Int} {rnd : Str} {x y z u : Int} (h : man = 1) (he : Builtin.bitAnd exp 1 = 0) (hR : x = 0 ∧ y = 1 ∧ z = exp.fdiv 2 ∧ u = 1) : x = 0 ∧ SqRaw man exp prec rnd y z u := by
  obtain ⟨a, rfl, rfl, rfl⟩ := hR
  exact ⟨a, .one h (by rw [band1] at he; exact he)⟩
theorem raw_f {man exp mm e1 b sh r prec x y z u : Int} (hr : Rt (mm * 2 ^ sh.toNat) r) (hm : Nm man exp mm e1) (hb : b = (Builtin.Int.intBits mm : Int)) (h0 : 0 ≤ sh) (h2 : sh % 2 = 0) (hs : 2 * prec + 4 ≤ b + sh)
    (ho : x = 0 ∧ Odd1 (rd (Str.ofString "f") r ((Builtin.Int.intBits r : Int) - prec)) ((e1 - sh).fdiv 2 + ((Builtin.Int.intBits r : Int) - prec)) y z u) : x = 0 ∧ SqRaw man exp prec (Str.ofString "f") y z u :=
  ⟨ho.1, .exact hm ⟨h0, h2, by rw [← hb]; exact hs⟩ hr (.inr (.inl rfl)) ho.2⟩
theorem raw_d {man exp mm e1 b sh r prec x y z u : Int} (hr : Rt (mm * 2 ^ sh.toNat) r) (hm : Nm man exp mm e1) (hb : b = (Builtin.Int.intBits mm : Int)) (h0 : 0 ≤ sh) (h2 : sh % 2 = 0) (hs : 2 * prec + 4 ≤ b + sh)
    (ho : x = 0 ∧ Odd1 (rd (Str.ofString "d") r ((Builtin.Int.intBits r : Int) - prec)) ((e1 - sh).fdiv 2 + ((Builtin.Int.intBits r : Int) - prec)) y z u) : x = 0 ∧ SqRaw man exp prec (Str.ofString "d") y z u :=
  ⟨ho.1, .exact hm ⟨h0, h2, by rw [← hb]; exact hs⟩ hr (.inr (.inr rfl)) ho.2⟩
theorem raw_x {man exp mm e1 b sh r q prec x y z u : Int} {rnd : Str} (hr : Rt (mm * 2 ^ sh.toNat) r) (hm : Nm man exp mm e1) (hb : b = (Builtin.Int.intBits mm : Int)) (h0 : 0 ≤ sh) (h2 : sh % 2 = 0) (hs : 2 * prec + 4 ≤ b + sh)
    (hq : q = mm * 2 ^ sh.toNat - r * r) (hq0 : q = 0) (ho : x = 0 ∧ Odd1 (rd rnd r ((Builtin.Int.intBits r : Int) - prec)) ((e1 - sh).fdiv 2 + ((Builtin.Int.intBits r : Int) - prec)) y z u) : x = 0 ∧ SqRaw man exp prec rnd y z u :=
  ⟨ho.1, .exact hm ⟨h0, h2, by rw [← hb]; exact hs⟩ hr (.inl (by omega)) ho.2⟩
theorem raw_s {man exp mm e1 b sh r q prec x y z u : Int} {rnd : Str} (hr : Rt (mm * 2 ^ sh.toNat) r) (hm : Nm man exp mm e1) (hb : b = (Builtin.Int.intBits mm : Int)) (h0 : 0 ≤ sh) (h2 : sh % 2 = 0) (hs : 2 * prec + 4 ≤ b + sh)
    (hq : q = mm * 2 ^ sh.toNat - r * r) (hq0 : q ≠ 0) (ho : x = 0 ∧ Odd1 (rd rnd (r * 2 ^ Int.toNat 1 + 1) ((Builtin.Int.intBits (r * 2 ^ Int.toNat 1 + 1) : Int) - prec)) ((e1 - (sh + 2)).fdiv 2 + ((Builtin.Int.intBits (r * 2 ^ Int.toNat 1 + 1) : Int) - prec)) y z u) : x = 0 ∧ SqRaw man exp prec rnd y z u :=
  ⟨ho.1, .sticky hm ⟨h0, h2, by rw [← hb]; exact hs⟩ hr (by omega) ho.2⟩
theorem c_mpf_sqrt (w : World) (news : List (Addr × Obj)) (S : Addr) (c : Nat) (man exp bc prec : Int) (rnd : Str) (t0 t1 t2 t3 t4 t5 : Tok) (h1 : 1 ≤ man) (h2 : Sz 200 man) (h3 : bc = (Builtin.Int.intBits man : Int)) (h4 : 1 ≤ prec) (h5 : prec ≤ 90) (hr : Rnd rnd)
    (hS : (S, ({ cls := .type "tuple", data := .seq #[.int 0 t0, .int man t1, .int exp t2, .int bc t3] c } : Obj)) ∈ news) :
    CT w 98 [.ref S, .int prec t4, .str rnd t5] 6 news (fun _ => True) (RT4 (fun x y z u => x = 0 ∧ SqRaw man exp prec rnd y z u) news) := by
  unfold CT; k_fill
  intro mean mg mb dp un gd cn cs a ccd cl outer A₀ base h₀ L m s Q E B F X N T hk _ hd hu hret
  have bb := bits_nn man
  have E0 := (shF_ok (b := bc) (by omega) h4 h5).1
  have E1 := (shF_ok (b := bc) (by omega) h4 h5).2.1
  have E2 := (shF_ok (b := bc) (by omega) h4 h5).2.2.1
  have E3 := (shF_ok (b := bc) (by omega) h4 h5).2.2.2
  have O0 := (shF_ok (b := bc + 1) (by omega) h4 h5).1
  have O1 := (shF_ok (b := bc + 1) (by omega) h4 h5).2.1
  have O2 := (shF_ok (b := bc + 1) (by omega) h4 h5).2.2.1
  have O3 := (shF_ok (b := bc + 1) (by omega) h4 h5).2.2.2
  have mE : Sz 201 man := h2.mono (by decide)
  have mO : Sz 201 (man * 2 ^ Int.toNat 1) := sz_dbl h1 h2
  have pO : 1 ≤ man * 2 ^ Int.toNat 1 := by rw [toNat1, Int.pow_one]; omega
  have bO := bits_dbl h1 h3
  cases hr
  all_goals
    refine wpAny_call ?_
    k_dflt (refine' code_def ?k1 ?k2 ?k3 ?k4 ?k5 ?kA ?kF ?kK ?k6 ?k7 ?k8 ?k9 ?kB ?_ ?c2 ?c3 ?c4 ?c5; (case kA => exact rfl); (case kF => exact rfl); (case kK => assumption); (case k1 => k_asm); (case k2 => k_asm); (case k3 => k_asm); (case k4 => k_asm); (case k5 => k_asm); (case k6 => k_is); (case k7 => k_is); (case k8 => ktr_room); (case k9 => exact binds_K (by k_in) rfl (by k_is) rfl rfl rfl); (case c5 => decide); (case kB => exact locs rfl); (case c2 => exact rfl); (case c3 => exact rfl); (case c4 => exact rfl); k_whole; intro g' L' h' FG' F' N' B' X' T'; (try dsimp only); (try k_lift B'); (try k_fold))
    k_steps
  all_goals try exact rt4_end hret (by first
    | with_reducible exact raw_one (by with_reducible assumption) (by with_reducible assumption) (by with_reducible assumption)
    | with_reducible exact raw_f (by with_reducible assumption) (by first | with_reducible exact nm_even (by with_reducible assumption) | with_reducible exact nm_odd (by with_reducible assumption))  (by with_reducible assumption) (by with_reducible assumption) (by with_reducible assumption) (by with_reducible assumption) (by with_reducible assumption)
    | with_reducible exact raw_d (by with_reducible assumption) (by first | with_reducible exact nm_even (by with_reducible assumption) | with_reducible exact nm_odd (by with_reducible assumption))  (by with_reducible assumption) (by with_reducible assumption) (by with_reducible assumption) (by with_reducible assumption) (by with_reducible assumption)
    | with_reducible exact raw_x (by with_reducible assumption) (by first | with_reducible exact nm_even (by with_reducible assumption) | with_reducible exact nm_odd (by with_reducible assumption))  (by with_reducible assumption) (by with_reducible assumption) (by with_reducible assumption) (by with_reducible assumption) (by with_reducible assumption) (by with_reducible assumption) (by with_reducible assumption)
    | with_reducible exact raw_s (by with_reducible assumption) (by first | with_reducible exact nm_even (by with_reducible assumption) | with_reducible exact nm_odd (by with_reducible assumption))  (by with_reducible assumption) (by with_reducible assumption) (by with_reducible assumption) (by with_reducible assumption) (by with_reducible assumption) (by with_reducible assumption) (by with_reducible assumption)) (by k_asm) (by k_asm) (by k_mem) (by first | exact sub2 | exact sub1) (by first | assumption | exact allLt_of (by assumption) | exact And.right (by assumption))
end Mine
end
section
open PySem PySem.W PyProof.Rows PySem.Calls
set_option Elab.async false
set_option maxRecDepth 100000
set_option maxHeartbeats 8000000
namespace Mine
local macro_rules | `(tactic| walk_at "ite") => `(tactic| first
  | with_reducible refine ite_tt ?_ | with_reducible refine ite_ff ?_ | with_reducible refine split_not ?_
  | (k_closed; k_dflt (first | refine ite_pos (by decide) ?_ | refine ite_neg (by decide) ?_ | refine ite_pos (by decide +kernel) ?_ | refine ite_neg (by decide +kernel) ?_))
  | ((first | with_reducible refine split_ine ?_ ?_ | with_reducible refine split_ieq ?_ ?_ | with_reducible refine split_dec ?_ ?_ | with_reducible refine split_bool ?_ ?_) <;> intro _ <;> (try (exfalso; omega; done))))
local macro_rules | `(tactic| walk_at "isTrue BoolOp") => `(tactic| dsimp only)
local macro_rules | `(tactic| walk_at "truthy int") => `(tactic| dsimp only)
theorem lp_start1 {W D : Int} (h : 1 ≤ W) : Lp (W + 1) D (W + 1) D := lp_start (by omega)
theorem sub3 {α : Type} {x y z : α} {l : List α} : ∀ p ∈ l, p ∈ x :: y :: z :: l := fun _ h => .tail _ (.tail _ (.tail _ h))
local macro_rules | `(tactic| walk_at "call ref") => `(tactic| (k_here; (with_reducible show wpAny _ _ (call (Value.ref 119) [Value.int _ _]) _ _ _); k_dflt (
  refine' ct_use (c_law_root _ _ _ _ ?p1 ?p2) ?k1 ?k2 ?k3 ?k4 ?k5 ?kK ?kp ?kd ?ku ?_;
  (case p1 => first | with_reducible exact nn_of (by with_reducible assumption) | with_reducible exact nn_of (fB_ge (by with_reducible assumption) (by with_reducible assumption) (by with_reducible assumption))); (case p2 => with_reducible exact sz4_of (by with_reducible assumption)); (case k1 => k_asm); (case k2 => k_asm); (case k3 => k_asm); (case k4 => k_asm); (case k5 => k_asm); (case kK => first | exact rfl | assumption); (case kp => trivial); (case kd => ktr_room); (case ku => ktr_units)); intro x9 t9 h9 tk9 hR9 F9 N9; (have hR7 := q_pos hR9 (by first | with_reducible assumption | with_reducible exact fB_ge (by with_reducible assumption) (by with_reducible assumption) (by with_reducible assumption))); (try dsimp only); (try k_fold)))
local macro_rules | `(tactic| walk_at "binaryOp Pow int int") => `(tactic| k_dflt (first
  | ((with_reducible refine' pow_int_small ?a ?b ?c ?_); (case a => first | with_reducible exact le_nn (by with_reducible assumption) | with_reducible exact nle_nn (by with_reducible assumption)); (case b => with_reducible exact le_mil (by with_reducible assumption)); (case c => decide))
  | ((with_reducible refine' pow_int ?a ?b ?_); (case a => decide); (case b => with_reducible exact q2_e (by with_reducible assumption) (by with_reducible assumption)))))
local macro_rules | `(tactic| walk_at "binaryOp Mult int int") => `(tactic| k_dflt ((with_reducible refine' mul_int ?_ ?a); (case a => first | with_reducible exact mA_ok (by with_reducible assumption) (by with_reducible assumption) | with_reducible exact q2_mul (by with_reducible assumption) (by with_reducible assumption) (by with_reducible assumption) | with_reducible exact qq_mul (by with_reducible assumption) (by with_reducible assumption) | with_reducible exact qqb_mul (by with_reducible assumption) (by with_reducible assumption) (by with_reducible assumption))))
local macro_rules | `(tactic| walk_at "binaryOp FloorDiv int int") => `(tactic| k_dflt (first
  | ((with_reducible refine' floordiv_int ?a ?_ (Or.inl ?b)); (case a => with_reducible exact pw_ne); (case b => with_reducible exact pw_pyl (by with_reducible assumption)))
  | ((with_reducible refine' floordiv_int ?a ?_ (Or.inl ?b)); (case a => decide); (case b => exact PyProof.noPylong_small (by decide)))))
local macro_rules | `(tactic| walk_at "exec While Compare cons nil") => `(tactic| k_while_given ["whole!", "down!"] (fun W D script w d => Lp W D w d) (fun W D script w d => w.toNat) "whole" "down")
local macro_rules | `(tactic| kst_p) => `(tactic| first | with_reducible exact lp_start (by with_reducible assumption) | with_reducible exact lp_start1 (by with_reducible assumption) | with_reducible exact lp_next (by with_reducible assumption) (by with_reducible assumption))
local macro_rules | `(tactic| walk_at "KswEnd") => `(tactic| ((rename News _ _ _ _ => nE'); (rename Fr _ _ _ _ => fE'); (refine' ksw_end ⟨_, _, _, _⟩ fE' nE' ?a ?b ?c ?d ?e ?f); (case c => kst_all); (case a => first | exact (fun _ h => h) | exact sub1); (case b => exact True.intro); (case d => ksw_same); (case e => kst_p); (case f => ksw_less)))
local macro_rules | `(tactic| ksw_less) => `(tactic| with_reducible exact lp_less (by with_reducible assumption))
theorem c_law_due (w : World) (news : List (Addr × Obj)) (man exp prec : Int) (rnd : Str) (t1 t2 t4 t5 : Tok) (h1 : 1 ≤ man) (h2 : Sz 200 man) (h4 : 1 ≤ prec) (h5 : prec ≤ 90) (hr : Rnd rnd) :
    CT w 126 [.int man t1, .int exp t2, .int prec t4, .str rnd t5] 4 news (fun _ => True) (RT4 (fun x y z u => x = 0 ∧ DueRaw man exp prec rnd y z u) news) := by
  unfold CT; k_fill
  intro mean mg mb dp un gd cn cs a ccd cl outer A₀ base h₀ L m s Q E B F X N T hk _ hd hu hret
  have e1 := due_eA (exp := exp) h2 h5
  have e2 := due_eB (exp := exp) h2 h4
  have f1 := fA_ge (exp := exp) (prec := prec) h1
  have f2 := fA_sz (exp := exp) h2 h5
  have f3 := fB_sz (exp := exp) (prec := prec) h1 h2 
  have b1 : Sz 401 (1 : Int) := Sz.mono (k := 1) (Sz.mk (by decide)) (by decide)
  have b2 := pw_sz e2
  cases hr
  all_goals
    refine wpAny_call ?_
    k_dflt cell_enter
    k_steps
  all_goals try exact rt4_end hret ⟨rfl, (by first
    | with_reducible exact DueRaw.up (by with_reducible assumption) (by first | with_reducible exact AB.up (by with_reducible assumption) | with_reducible exact AB.dn (by with_reducible assumption)) (by first | with_reducible exact up_c (by with_reducible assumption) | with_reducible exact up_u (by with_reducible assumption) | with_reducible exact up_n1 (by with_reducible assumption) (by with_reducible assumption) | with_reducible exact up_n2 (by with_reducible assumption) (by with_reducible assumption) (by with_reducible assumption)) (lp_end (by with_reducible assumption) (by with_reducible assumption))
    | with_reducible exact DueRaw.no (by with_reducible assumption) (by first | with_reducible exact AB.up (by with_reducible assumption) | with_reducible exact AB.dn (by with_reducible assumption)) (by first | with_reducible exact no_f | with_reducible exact no_d | with_reducible exact no_n1 (by with_reducible assumption) (by with_reducible assumption) | with_reducible exact no_n2 (by with_reducible assumption) (by with_reducible assumption) | with_reducible exact no_any (by with_reducible assumption)) (lp_end (by with_reducible assumption) (by with_reducible assumption)))⟩ (by k_asm) (by k_asm) (by k_mem) sub3 (And.right (And.right (by with_reducible assumption)))
end Mine
end
section
open PySem PySem.W PyProof.Rows PySem.Calls
set_option Elab.async false
set_option maxRecDepth 100000
set_option maxHeartbeats 8000000
namespace Mine
local macro_rules | `(tactic| walk_at "ite") => `(tactic| first
  | with_reducible refine ite_tt ?_ | with_reducible refine ite_ff ?_ | with_reducible refine split_not ?_
  | (k_closed; k_dflt (first | refine ite_pos (by decide) ?_ | refine ite_neg (by decide) ?_ | refine ite_pos (by decide +kernel) ?_ | refine ite_neg (by decide +kernel) ?_))
  | ((first | with_reducible refine split_ine ?_ ?_ | with_reducible refine split_ieq ?_ ?_ | with_reducible refine split_dec ?_ ?_ | with_reducible refine split_bool ?_ ?_) <;> intro _ <;> (try (exfalso; omega; done))))
local macro_rules | `(tactic| walk_at "isTrue BoolOp") => `(tactic| dsimp only)
local macro_rules | `(tactic| walk_at "truthy int") => `(tactic| dsimp only)
local macro_rules | `(tactic| walk_at "binaryOp Pow int int") => `(tactic| k_dflt (first
  | ((with_reducible refine' pow_int_small ?a ?b ?c ?_); (case a => decide); (case b => decide); (case c => decide))
  | ((with_reducible refine' pow_int_small ?a ?b ?c ?_); (case a => with_reducible exact rw_e0 _ (by decide)); (case b => with_reducible exact rw_e1 _ (by decide) (by decide)); (case c => decide))))
local macro_rules | `(tactic| walk_at "binaryOp FloorDiv int int") => `(tactic| k_dflt (
  (with_reducible refine' floordiv_int ?a ?_ (Or.inl ?b)); (case a => decide +kernel); (case b => exact PyProof.noPylong_small (by decide +kernel))))
local macro_rules | `(tactic| walk_at "binaryOp Mod int int") => `(tactic| k_dflt (
  (with_reducible refine' mod_int' ?a ?_); (case a => first | with_reducible exact pw_ne | decide)))
theorem sub2a {α : Type} {x y : α} {l : List α} : ∀ p ∈ l, p ∈ x :: y :: l := fun _ h => .tail _ (.tail _ h)
theorem c_law_mixed (w : World) (news : List (Addr × Obj)) (l : Addr) (vs : List Value) (ns : List Int) (k : Int) (t : Tok) (hi : IntsAre vs ns) (hfit : ns.length < 2 ^ 62) (hk0 : 0 ≤ k) (hk1 : k ≤ 1) :
    CT w 105 [.ref l, .int k t] 1 news (fun base => base.IsList l vs.toArray) (RI (fun x => 0 ≤ x) news) := by
  unfold CT; k_fill
  intro mean mg mb dp un gd cn cs a ccd cl outer A₀ base h₀ L m s Q E B F X N T hk hl hd hu hret
  refine wpAny_call ?_
  k_dflt cell_enter
  k_steps
  all_goals exact ri_end hret (by first | with_reducible exact mix_big (by with_reducible assumption) | with_reducible exact mix_mod _) (by k_asm) (by k_asm) (fun _ h => h)
theorem c_law_raw120 (w : World) (news : List (Addr × Obj)) (rich : Int) (t1 t2 t3 : Tok) :
    CT w 112 [.int rich t1, .int 120 t2, .int 900 t3] 1 news (fun _ => True) (RT4 (fun x y z u => 0 ≤ y ∧ Sz 121 y) news) := by
  unfold CT; k_fill
  intro mean mg mb dp un gd cn cs a ccd cl outer A₀ base h₀ L m s Q E B F X N T hk _ hd hu hret
  refine wpAny_call ?_
  k_dflt cell_enter
  k_steps
  all_goals
    refine' rt4_end hret ?e ?F ?N ?m sub2a ?l
    case F => k_asm
    case N => k_asm
    case m => k_mem
    case l => exact (And.right (by with_reducible assumption))
    case e => first | with_reducible exact w_zero | with_reducible exact w_one | with_reducible exact w120 _ | with_reducible exact w120b _ | with_reducible exact w120c _
theorem c_law_raw60 (w : World) (news : List (Addr × Obj)) (rich : Int) (t1 t2 t3 : Tok) :
    CT w 112 [.int rich t1, .int 60 t2, .int 9 t3] 1 news (fun _ => True) (RT4 (fun x y z u => 0 ≤ y ∧ Sz 61 y) news) := by
  unfold CT; k_fill
  intro mean mg mb dp un gd cn cs a ccd cl outer A₀ base h₀ L m s Q E B F X N T hk _ hd hu hret
  refine wpAny_call ?_
  k_dflt cell_enter
  k_steps
  all_goals
    refine' rt4_end hret ?e ?F ?N ?m sub2a ?l
    case F => k_asm
    case N => k_asm
    case m => k_mem
    case l => exact (And.right (by with_reducible assumption))
    case e => first | with_reducible exact w_zero | with_reducible exact w_one | with_reducible exact w60 _ | with_reducible exact w60b _ | with_reducible exact w60c _
end Mine
end
section
open PySem PySem.W PyProof.Rows PySem.Calls
set_option Elab.async false
set_option maxRecDepth 100000
set_option maxHeartbeats 8000000
namespace Mine
local macro_rules | `(tactic| walk_at "ite") => `(tactic| first
  | with_reducible refine ite_tt ?_ | with_reducible refine ite_ff ?_ | with_reducible refine split_not ?_
  | (k_closed; k_dflt (first | refine ite_pos (by decide) ?_ | refine ite_neg (by decide) ?_ | refine ite_pos (by decide +kernel) ?_ | refine ite_neg (by decide +kernel) ?_))
  | ((first | with_reducible refine split_ine ?_ ?_ | with_reducible refine split_ieq ?_ ?_ | with_reducible refine split_dec ?_ ?_ | with_reducible refine split_bool ?_ ?_) <;> intro _ <;> (try (exfalso; omega; done))))
local macro_rules | `(tactic| walk_at "isTrue BoolOp") => `(tactic| dsimp only)
local macro_rules | `(tactic| walk_at "truthy int") => `(tactic| dsimp only)
/-- the very tuple comes back -/
abbrev RV (v : Value) (news : List (Addr × Obj)) (h₀ : Heap) (L : Addr) (m : Str → Option Value) (s : Shared) (Q : Value → Shared → Prop) : Prop :=
  ∀ (h' : Heap) (tk' : Nat), Fr h₀ L h' m → News h₀ L h' news → Q v { s with heap := h', toks := tk' }
theorem c_mpf_sqrt0 (w : World) (news : List (Addr × Obj)) (S : Addr) (c : Nat) (prec : Int) (rnd : Str) (t0 t1 t2 t3 t4 t5 : Tok)
    (hS : (S, ({ cls := .type "tuple", data := .seq #[.int 0 t0, .int 0 t1, .int 0 t2, .int 0 t3] c } : Obj)) ∈ news) :
    CT w 98 [.ref S, .int prec t4, .str rnd t5] 1 news (fun _ => True) (RV (.ref S) news) := by
  unfold CT; k_fill
  intro mean mg mb dp un gd cn cs a ccd cl outer A₀ base h₀ L m s Q E B F X N T hk _ hd hu hret
  refine wpAny_call ?_
  k_dflt (refine' code_def ?k1 ?k2 ?k3 ?k4 ?k5 ?kA ?kF ?kK ?k6 ?k7 ?k8 ?k9 ?kB ?_ ?c2 ?c3 ?c4 ?c5; (case kA => exact rfl); (case kF => exact rfl); (case kK => assumption); (case k1 => k_asm); (case k2 => k_asm); (case k3 => k_asm); (case k4 => k_asm); (case k5 => k_asm); (case k6 => k_is); (case k7 => k_is); (case k8 => ktr_room); (case k9 => exact binds_K (by k_in) rfl (by k_is) rfl rfl rfl); (case c5 => decide); (case kB => exact locs rfl); (case c2 => exact rfl); (case c3 => exact rfl); (case c4 => exact rfl); k_whole; intro g' L' h' FG' F' N' B' X' T'; (try dsimp only); (try k_lift B'); (try k_fold))
  k_steps
  all_goals exact hret _ _ (by k_asm) (by k_asm)
end Mine
end
section
open PySem PySem.W PyProof.Rows PySem.Calls
set_option Elab.async false
set_option maxRecDepth 100000
set_option maxHeartbeats 8000000
namespace Mine
local macro_rules | `(tactic| walk_at "ite") => `(tactic| first
  | with_reducible refine ite_tt ?_ | with_reducible refine ite_ff ?_ | with_reducible refine split_not ?_
  | (k_closed; k_dflt (first | refine ite_pos (by decide) ?_ | refine ite_neg (by decide) ?_ | refine ite_pos (by decide +kernel) ?_ | refine ite_neg (by decide +kernel) ?_))
  | ((first | with_reducible refine split_ine ?_ ?_ | with_reducible refine split_ieq ?_ ?_ | with_reducible refine split_dec ?_ ?_ | with_reducible refine split_bool ?_ ?_) <;> intro _ <;> (try (exfalso; omega; done))))
local macro_rules | `(tactic| walk_at "isTrue BoolOp") => `(tactic| dsimp only)
local macro_rules | `(tactic| walk_at "truthy int") => `(tactic| dsimp only)
local macro_rules | `(tactic| walk_at "call ref") => `(tactic| (k_here; (with_reducible show wpAny _ _ (call (Value.ref 105) [Value.ref _, Value.int _ _]) _ _ _); k_dflt (
  refine' ct_use (c_law_mixed _ _ _ _ _ _ _ ?p1 ?p2 ?p3 ?p4) ?k1 ?k2 ?k3 ?k4 ?k5 ?kK ?kp ?kd ?ku ?_;
  (case p1 => assumption); (case p2 => l_fit); (case p3 => decide); (case p4 => decide); (case k1 => k_asm); (case k2 => k_asm); (case k3 => k_asm); (case k4 => k_asm); (case k5 => k_asm); (case kK => first | exact rfl | assumption); (case kp => k_asm); (case kd => ktr_room); (case ku => ktr_units)); intro x9 t9 h9 tk9 hR9 F9 N9; (try dsimp only); (try k_fold)))
local macro_rules | `(tactic| walk_at "call ref") => `(tactic| (k_here; (with_reducible show wpAny _ _ (call (Value.ref 112) [Value.int _ _, Value.int 120 _, Value.int _ _]) _ _ _); k_dflt (
  refine' ct_use (c_law_raw120 _ _ _ _ _ _ ) ?k1 ?k2 ?k3 ?k4 ?k5 ?kK ?kp ?kd ?ku ?_;
  (case k1 => k_asm); (case k2 => k_asm); (case k3 => k_asm); (case k4 => k_asm); (case k5 => k_asm); (case kK => first | exact rfl | assumption); (case kp => trivial); (case kd => ktr_room); (case ku => ktr_units)); intro x9 y9 z9 u9 tx9 ty9 tz9 tu9 c9 D9 h9 tk9 hR9 F9 N9 hl9; (have hR8 := hR9.1); (have hR7 := hR9.2); (have hM9 := mant_raw hR8 hR7); clear hR9; (try simp only [AllLt, and_true] at hl9);(try dsimp only); (try k_fold)))
local macro_rules | `(tactic| walk_at "call ref") => `(tactic| (k_here; (with_reducible show wpAny _ _ (call (Value.ref 112) [Value.int _ _, Value.int 60 _, Value.int _ _]) _ _ _); k_dflt (
  refine' ct_use (c_law_raw60 _ _ _ _ _ _ ) ?k1 ?k2 ?k3 ?k4 ?k5 ?kK ?kp ?kd ?ku ?_;
  (case k1 => k_asm); (case k2 => k_asm); (case k3 => k_asm); (case k4 => k_asm); (case k5 => k_asm); (case kK => first | exact rfl | assumption); (case kp => trivial); (case kd => ktr_room); (case ku => ktr_units)); intro x9 y9 z9 u9 tx9 ty9 tz9 tu9 c9 D9 h9 tk9 hR9 F9 N9 hl9; (have hR8 := hR9.1); (have hR7 := hR9.2); clear hR9; (try simp only [AllLt, and_true] at hl9);(try dsimp only); (try k_fold)))
local macro_rules | `(tactic| walk_at "eval Call") => `(tactic| k_dflt (refine Call_ ?_))
local macro_rules | `(tactic| walk_at "subscriptTail") => `(tactic| (k_here; (with_reducible show wpAny _ _ (subscriptTail (PySem.Expr.List _ _) _ (Value.ref _) (Value.int _ _)) _ _ _); k_dflt (first
  | (refine' menu_rnd ?l ?a ?b ?_ ?s; (case l => is_list); (case a => exact fm_lo _ (by decide)); (case b => exact fm_hi _ (by decide)); (case s => with_unfolding_all rfl); intro r9 t9 hr9)
  | (refine' menu_int ?l ?a ?b ?_ ?s; (case l => is_list); (case a => exact fm_lo _ (by decide)); (case b => exact fm_hi _ (by decide)); (case s => with_unfolding_all rfl); intro r9 t9 hr9; (have hM9 := mant_max (by with_reducible assumption) hr9))); (try dsimp only)))
local macro_rules | `(tactic| walk_at "subscriptTail Call Name cons nil Slice ref ref") => `(tactic| (k_here; (with_reducible show wpAny _ _ (subscriptTail _ (PySem.Expr.Slice (some _) (some _) none _) (Value.ref _) (Value.ref _)) _ _ _); k_dflt (refine' tup_13 ?F ?N ?l ?_ ?s; (case F => k_asm); (case N => k_asm); (case l => k_mem); (case s => with_unfolding_all rfl)); intro D' h' F' N' l1; (try k_lt l1); (try k_sweep)))
local macro_rules | `(tactic| walk_at "binaryOp Mult int int") => `(tactic| k_dflt ((with_reducible refine' mul_int ?_ ?a); (case a => first | with_reducible exact rr_ok (by with_reducible assumption))))
local macro_rules | `(tactic| walk_at "binaryOp FloorDiv int int") => `(tactic| k_dflt (
  (with_reducible refine' floordiv_int ?a ?_ (Or.inl ?b)); (case a => decide); (case b => exact PyProof.noPylong_small (by decide))))
local macro_rules | `(tactic| walk_at "binaryOp Mod int int") => `(tactic| k_dflt (
  (with_reducible refine' mod_int' ?a ?_); (case a => decide)))
/-- where the law stands at its first test: the tuple s, the mantissa, the exponent, the precision, the rounding -/
def AtTest (h₀ : Heap) (L : Addr) (h : Heap) : Prop := ∃ (m0 : Str → Option Value) (D : Addr) (man W exp prec : Int) (rnd : Str) (t0 t1 t2 t3 t4 t5 t6 : Tok) (c : Nat),
  Mant man ∧ 1 ≤ W ∧ Sz 200 W ∧ Prec prec ∧ Rnd rnd ∧
  Fr h₀ L h (fun y => if y = Str.ofString "s" then some (.ref D) else if y = Str.ofString "man" then some (.int man t4) else if y = Str.ofString "prec" then some (.int prec t5) else if y = Str.ofString "rnd" then some (.str rnd t6) else m0 y) ∧
  News h₀ L h [(D, ({ cls := .type "tuple", data := .seq #[.int 0 t0, .int W t1, .int exp t2, .int (Builtin.Int.intBits W) t3] c } : Obj))]
theorem cut_at {prog : Program} {w : World} {A : Around} {env : Env} {Q : Flow → Shared → Prop} {E : Value → Shared → Prop} {s : Shared} {b : List Stmt} {h₀ : Heap} {L : Addr} {m : Str → Option Value} (n : Nat) (hF : Fr h₀ L s.heap m)
    (tail : ∀ h tk, AtTest h₀ L h → wpAny (model prog w) A (execs (b.drop n) env) Q E { s with heap := h, toks := tk })
    (head : (∀ h tk, AtTest h₀ L h → wpAny (model prog w) A (execs (b.drop n) env) Q E { s with heap := h, toks := tk }) → wpAny (model prog w) A (execs b env) Q E s) : wpAny (model prog w) A (execs b env) Q E s := head tail
theorem at_test {h₀ h : Heap} {L : Addr} {m : Str → Option Value} {D : Addr} {man W exp prec : Int} {rnd : Str} {t0 t1 t2 t3 t4 t5 t6 : Tok} {c : Nat} {news : List (Addr × Obj)}
    (F : Fr h₀ L h m) (N : News h₀ L h ((D, ({ cls := .type "tuple", data := .seq #[.int 0 t0, .int W t1, .int exp t2, .int (Builtin.Int.intBits W) t3] c } : Obj)) :: news))
    (hs : m (Str.ofString "s") = some (.ref D)) (hm : m (Str.ofString "man") = some (.int man t4)) (hp : m (Str.ofString "prec") = some (.int prec t5)) (hr : m (Str.ofString "rnd") = some (.str rnd t6))
    (h1 : Mant man) (h2 : 1 ≤ W) (h3 : Sz 200 W) (h4 : Prec prec) (h5 : Rnd rnd) : AtTest h₀ L h := by
  refine ⟨m, D, man, W, exp, prec, rnd, t0, t1, t2, t3, t4, t5, t6, c, h1, h2, h3, h4, h5, ?_, fun p hp => N p (by rw [List.mem_singleton] at hp; rw [hp]; exact .head _)⟩
  have e : (fun y => if y = Str.ofString "s" then some (.ref D) else if y = Str.ofString "man" then some (.int man t4) else if y = Str.ofString "prec" then some (.int prec t5) else if y = Str.ofString "rnd" then some (.str rnd t6) else m y) = m := by
    funext y
    split
    · rename_i q; rw [q, hs]
    split
    · rename_i q; rw [q, hm]
    split
    · rename_i q; rw [q, hp]
    split
    · rename_i q; rw [q, hr]
    rfl
  rw [e]; exact F
local macro_rules | `(tactic| walk_at "call ref") => `(tactic| (k_here; (with_reducible show wpAny _ _ (call (Value.ref 98) [Value.ref _, Value.int _ _, Value.str _ _]) _ _ _); k_dflt (
  refine' ct_use (c_mpf_sqrt _ _ _ _ _ _ _ _ _ _ _ _ _ _ _ ?q1 ?q2 ?q3 ?q4 ?q5 ?q6 ?qS) ?k1 ?k2 ?k3 ?k4 ?k5 ?kK ?kp ?kd ?ku ?_;
  (case k1 => k_asm); (case k2 => k_asm); (case k3 => k_asm); (case k4 => k_asm); (case k5 => k_asm); (case qS => first | with_reducible exact List.mem_cons_self | with_reducible exact List.mem_cons_of_mem _ List.mem_cons_self); (case q1 => with_reducible assumption); (case q2 => with_reducible assumption); (case q3 => rfl); (case q4 => with_reducible exact Prec.lo (by with_reducible assumption)); (case q5 => with_reducible exact Prec.hi (by with_reducible assumption)); (case q6 => with_reducible assumption); (case kK => first | exact rfl | assumption); (case kp => trivial); (case kd => ktr_room); (case ku => ktr_units)); intro x9 y9 z9 u9 tx9 ty9 tz9 tu9 c9 D9 h9 tk9 hR9 F9 N9 hl9; (obtain ⟨e9, hSq9⟩ := hR9); subst e9; (try simp only [AllLt, and_true] at hl9);(try dsimp only); (try k_fold)))
local macro_rules | `(tactic| walk_at "call ref") => `(tactic| (k_here; (with_reducible show wpAny _ _ (call (Value.ref 98) [Value.ref _, Value.int _ _, Value.str _ _]) _ _ _); k_dflt (
  refine' ct_use (c_mpf_sqrt0 _ _ _ _ _ _ _ _ _ _ _ _ ?p1) ?k1 ?k2 ?k3 ?k4 ?k5 ?kK ?kp ?kd ?ku ?_;
  (case k1 => k_asm); (case k2 => k_asm); (case k3 => k_asm); (case k4 => k_asm); (case k5 => k_asm); (case p1 => with_reducible exact List.mem_cons_self); (case kK => first | exact rfl | assumption); (case kp => trivial); (case kd => ktr_room); (case ku => ktr_units)); intro h9 tk9 F9 N9; (try dsimp only); (try k_fold)))
local macro_rules | `(tactic| walk_at "call ref") => `(tactic| (k_here; (with_reducible show wpAny _ _ (call (Value.ref 126) [Value.int _ _, Value.int _ _, Value.int _ _, Value.str _ _]) _ _ _); k_dflt (
  refine' ct_use (c_law_due _ _ _ _ _ _ _ _ _ _ ?p1 ?p2 ?p3 ?p4 ?p5) ?k1 ?k2 ?k3 ?k4 ?k5 ?kK ?kp ?kd ?ku ?_;
  (case p1 => with_reducible assumption); (case p2 => with_reducible assumption); (case p3 => with_reducible exact Prec.lo (by with_reducible assumption)); (case p4 => with_reducible exact Prec.hi (by with_reducible assumption)); (case p5 => with_reducible assumption); (case k1 => k_asm); (case k2 => k_asm); (case k3 => k_asm); (case k4 => k_asm); (case k5 => k_asm); (case kK => first | exact rfl | assumption); (case kp => trivial); (case kd => ktr_room); (case ku => ktr_units)); intro x9 y9 z9 u9 tx9 ty9 tz9 tu9 c9 D9 h9 tk9 hR9 F9 N9 hl9; (obtain ⟨e9, hDue9⟩ := hR9); subst e9; (obtain ⟨e8, e7, e6⟩ := sq_due' hDue9 (by with_reducible assumption) (by with_reducible assumption) (by with_reducible exact Prec.lo (by with_reducible assumption)) (by with_reducible assumption)); subst e8; subst e7; subst e6; (try simp only [AllLt, and_true] at hl9);(try dsimp only); (try k_fold)))
local macro_rules | `(tactic| walk_at "call ref") => `(tactic| (k_here; (with_reducible show wpAny _ _ (call (Value.ref 119) [Value.int _ _]) _ _ _); k_dflt (
  refine' ct_use (c_law_root _ _ _ _ ?p1 ?p2) ?k1 ?k2 ?k3 ?k4 ?k5 ?kK ?kp ?kd ?ku ?_;
  (case p1 => first | with_reducible exact Mant.nn (by with_reducible assumption) | with_reducible exact m_pnn (by with_reducible assumption) _); (case p2 => first | with_reducible exact m_sz4 (by with_reducible assumption) | with_reducible exact m_psz (by with_reducible assumption) (Prec.hi (by with_reducible assumption))); (case k1 => k_asm); (case k2 => k_asm); (case k3 => k_asm); (case k4 => k_asm); (case k5 => k_asm); (case kK => first | exact rfl | assumption); (case kp => trivial); (case kd => ktr_room); (case ku => ktr_units)); (try (with_reducible rename Rt _ _ => hO9)); intro x9 t9 h9 tk9 hR9 F9 N9; (try (have q9 := Rt.unique hO9 hR9; subst q9)); (try dsimp only); (try k_fold)))
local macro_rules | `(tactic| walk_at "call ref") => `(tactic| (k_here; (with_reducible show wpAny _ _ (call (Value.ref 42) [Value.int _ _]) _ _ _); k_dflt (
  refine' ct_use (c_isqrt _ _ _ _ ?p1 ?p2) ?k1 ?k2 ?k3 ?k4 ?k5 ?kK ?kp ?kd ?ku ?_;
  (case p1 => first | with_reducible exact Mant.nn (by with_reducible assumption) | with_reducible exact m_pnn (by with_reducible assumption) _); (case p2 => first | with_reducible exact m_sz4 (by with_reducible assumption) | with_reducible exact m_psz (by with_reducible assumption) (Prec.hi (by with_reducible assumption))); (case k1 => k_asm); (case k2 => k_asm); (case k3 => k_asm); (case k4 => k_asm); (case k5 => k_asm); (case kK => first | exact rfl | assumption); (case kp => trivial); (case kd => ktr_room); (case ku => ktr_units)); (try (with_reducible rename Rt _ _ => hO9)); intro x9 t9 h9 tk9 hR9 F9 N9; (try (have q9 := Rt.unique hO9 hR9; subst q9)); (try dsimp only); (try k_fold)))
local macro_rules | `(tactic| walk_at "call ref") => `(tactic| (k_here; (with_reducible show wpAny _ _ (call (Value.ref 49) [Value.int _ _, Value.int _ _]) _ _ _); k_dflt (
  refine' ct_use (c_sqrt_fixed _ _ _ _ _ _ ?p1 ?p2 ?p3 ?p4) ?k1 ?k2 ?k3 ?k4 ?k5 ?kK ?kp ?kd ?ku ?_;
  (case p1 => with_reducible exact Mant.nn (by with_reducible assumption)); (case p2 => with_reducible exact m_sz3 (by with_reducible assumption)); (case p3 => with_reducible exact Prec.nn (by with_reducible assumption)); (case p4 => with_reducible exact Prec.h900 (by with_reducible assumption)); (case k1 => k_asm); (case k2 => k_asm); (case k3 => k_asm); (case k4 => k_asm); (case k5 => k_asm); (case kK => first | exact rfl | assumption); (case kp => trivial); (case kd => ktr_room); (case ku => ktr_units)); intro x9 t9 h9 tk9 hR9 F9 N9; (try dsimp only); (try k_fold)))
local macro_rules | `(tactic| walk_at "call ref") => `(tactic| (k_here; (with_reducible show wpAny _ _ (call (Value.ref 35) [Value.int _ _]) _ _ _); k_dflt (
  refine' ct_use (c_sqrtrem _ _ _ _ ?p1 ?p2) ?k1 ?k2 ?k3 ?k4 ?k5 ?kK ?kp ?kd ?ku ?_;
  (case p1 => first | with_reducible exact Mant.nn (by with_reducible assumption) | with_reducible exact m_pnn (by with_reducible assumption) _); (case p2 => first | with_reducible exact m_sz4 (by with_reducible assumption) | with_reducible exact m_psz (by with_reducible assumption) (Prec.hi (by with_reducible assumption))); (case k1 => k_asm); (case k2 => k_asm); (case k3 => k_asm); (case k4 => k_asm); (case k5 => k_asm); (case kK => first | exact rfl | assumption); (case kp => trivial); (case kd => ktr_room); (case ku => ktr_units)); (try (with_reducible rename Rt _ _ => hO9)); intro x9 y9 tx9 ty9 c9 D9 h9 tk9 hQ9 F9 N9 hl9; (obtain ⟨hR9, e9⟩ := hQ9); subst e9; (try (have q9 := Rt.unique hO9 hR9; subst q9)); (try simp only [AllLt, and_true] at hl9);(try dsimp only); (try k_fold)))
local macro_rules | `(tactic| walk_at "binaryOp Pow int int") => `(tactic| k_dflt ((with_reducible refine' pow_int_small ?a ?b ?c ?_); (case a => with_reducible exact Prec.nn (by with_reducible assumption)); (case b => with_reducible exact Prec.mil (by with_reducible assumption)); (case c => decide)))
local macro_rules | `(tactic| walk_at "binaryOp Mult int int") => `(tactic| k_dflt ((with_reducible refine' mul_int ?_ ?a); (case a => first | with_reducible exact m_p2 (by with_reducible assumption) (Prec.hi (by with_reducible assumption)) | with_reducible exact wh_ok (by with_reducible assumption) (by with_reducible assumption))))
local macro_rules | `(tactic| walk_at "call builtin:isinstance") => `(tactic| (k_here; (with_reducible show wpAny _ _ (call _ [Value.ref _, Value.type _]) _ _ _); k_dflt (refine' isi_got ?N ?G ?X ?s ?m ?_; (case G => with_reducible assumption); (case N => k_asm); (case X => k_in); (case s => first | k_is | kernel_rfl); (case m => kernel_rfl); k_whole)))
theorem law_holds : PySem.Challenge.rw_ah5002_01.Holds := Mine.hd (by
  k_go0
  dsimp only
  (rename Fr _ _ _ _ => fC)
  refine cut_at 6 fC ?tail ?head
  case head =>
    intro hT
    repeat' (first
      | ((fail_if_success (with_reducible show wpAny _ _ (execs (PySem.Stmt.If (PySem.Expr.BoolOp _ _ _) _ _ _ :: _) _) _ _ _)); first | (k_unfold; (try dsimp only)) | (k_end; wrow_close) | walk1 | (dsimp only; walk1) | (leave1; try dsimp only)))
    all_goals first
      | exact hT _ _ (at_test (by with_reducible assumption) (by with_reducible assumption) rfl rfl rfl rfl (by with_reducible assumption) (m_dbl (by with_reducible assumption)) (m_dblsz (by with_reducible assumption)) (Prec.mk' _) (by with_reducible assumption))
      | exact hT _ _ (at_test (by with_reducible assumption) (by with_reducible assumption) rfl rfl rfl rfl (by with_reducible assumption) (m_odd (by with_reducible assumption) (by with_reducible assumption)) (m_sz2 (by with_reducible assumption)) (Prec.mk' _) (by with_reducible assumption))
  case tail =>
    intro h2 tk2 hA2
    obtain ⟨m0, D2, man, W, exp, prec, rnd, t0, t1, t2, t3, t4, t5, t6, c2, hMa, hW1, hW2, hPr, hRn, F2, N2⟩ := hA2
    clear fC
    try (with_reducible (rename News _ _ _ [] => nC); clear nC)
    simp only [List.drop_succ_cons, List.drop_zero]
    k_fold
    k_steps)
end Mine
end
theorem PySem.Challenge.cw_ah5002_01_holds : PySem.Challenge.rw_ah5002_01.Holds := by
  exact Mine.law_holds
