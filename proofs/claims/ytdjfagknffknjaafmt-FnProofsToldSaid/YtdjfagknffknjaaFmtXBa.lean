/- Bit lengths, counts of bits, forks of two numbers, the ways from a leaf to the root and the folds over them; conditions: numbers below 2^64. -/
import Derived.Test.YtdjfagknffknjaaFmtXB
import Derived.Test.YtdjfagknffknjaaFmtXVc
import Derived.Test.YtdjfagknffknjaaFmtXN
import Derived.Test.YtdjfagknffknjaaFmtXS

section
namespace Go.Proofs.YtdjfagknffknjaaFmt.H
open Go.RowKit Go.Extern.Stop Go.Stop Go.Extern Go.Proofs.YtdjfagknffknjaaFmtW.PrintWords Go.Proofs.YtdjfagknffknjaaFmtW.PrintLast Go.Proofs.YtdjfagknffknjaaFmtW.PrintMore Go.Proofs.YtdjfagknffknjaaFmt.Q
/-- How many bits a number takes. -/
def blen (n : Nat) : Nat := if n = 0 then 0 else n.log2 + 1
theorem blen_pos {n : Nat} (h : n ≠ 0) : blen n = n.log2 + 1 := if_neg h
theorem blen_div (n : Nat) (h : 256 ≤ n) : blen n = blen (n / 256) + 8 := by
  have h1 : n / 256 ≠ 0 := by omega
  rw [blen_pos (by omega), blen_pos h1]
  have a := Nat.log2_self_le h1
  have b := Nat.lt_log2_self (n := n / 256)
  have : n.log2 = (n / 256).log2 + 8 := by
    rw [Nat.log2_eq_iff (by omega)]
    rw [Nat.pow_add, show (n / 256).log2 + 8 + 1 = (n / 256).log2 + 1 + 8 by omega, Nat.pow_add]
    omega
  omega
theorem blen_div' (n a c : Nat) (hc : 256 ^ a = c) (h : c ≤ n) : blen n = blen (n / c) + 8 * a := by
  subst hc
  induction a with
  | zero => simp
  | succ a ih =>
    have h2 : 256 ^ a * 256 ≤ n := by rw [← Nat.pow_succ]; exact h
    have h3 : 256 ≤ n / 256 ^ a := by rw [Nat.le_div_iff_mul_le (Nat.pow_pos (by omega)), Nat.mul_comm]; exact h2
    have e : n / 256 ^ a / 256 = n / 256 ^ (a + 1) := by rw [Nat.div_div_eq_div_mul, Nat.pow_succ]
    rw [ih (Nat.le_trans (Nat.le_mul_of_pos_right _ (by omega)) h2), blen_div _ h3, e]
    omega
theorem tab_blen : ∀ n : Fin 256, bt (⟨#[0, 1, 2, 2, 3, 3, 3, 3, 4, 4, 4, 4, 4, 4, 4, 4, 5, 5, 5, 5, 5, 5, 5, 5, 5, 5, 5, 5, 5, 5, 5, 5, 6, 6, 6, 6, 6, 6, 6, 6, 6, 6, 6, 6, 6, 6, 6, 6, 6, 6, 6, 6, 6, 6, 6, 6, 6, 6, 6, 6, 6, 6, 6, 6, 7, 7, 7, 7, 7, 7, 7, 7, 7, 7, 7, 7, 7, 7, 7, 7, 7, 7, 7, 7, 7, 7, 7, 7, 7, 7, 7, 7, 7, 7, 7, 7, 7, 7, 7, 7, 7, 7, 7, 7, 7, 7, 7, 7, 7, 7, 7, 7, 7, 7, 7, 7, 7, 7, 7, 7, 7, 7, 7, 7, 7, 7, 7, 7, 8, 8, 8, 8, 8, 8, 8, 8, 8, 8, 8, 8, 8, 8, 8, 8, 8, 8, 8, 8, 8, 8, 8, 8, 8, 8, 8, 8, 8, 8, 8, 8, 8, 8, 8, 8, 8, 8, 8, 8, 8, 8, 8, 8, 8, 8, 8, 8, 8, 8, 8, 8, 8, 8, 8, 8, 8, 8, 8, 8, 8, 8, 8, 8, 8, 8, 8, 8, 8, 8, 8, 8, 8, 8, 8, 8, 8, 8, 8, 8, 8, 8, 8, 8, 8, 8, 8, 8, 8, 8, 8, 8, 8, 8, 8, 8, 8, 8, 8, 8, 8, 8, 8, 8, 8, 8, 8, 8, 8, 8, 8, 8, 8, 8, 8, 8, 8, 8, 8, 8, 8, 8, 8, 8, 8, 8, 8, 8]⟩ : ByteArray) (n.val : Int) = (Nat.repeat (fun x => x) 0 (if n.val = 0 then 0 else if n.val < 2 then 1 else if n.val < 4 then 2 else if n.val < 8 then 3 else if n.val < 16 then 4 else if n.val < 32 then 5 else if n.val < 64 then 6 else if n.val < 128 then 7 else 8) : Nat) := by decide +kernel
theorem blen_small (n : Nat) (h : n < 256) : blen n = (if n = 0 then 0 else if n < 2 then 1 else if n < 4 then 2 else if n < 8 then 3 else if n < 16 then 4 else if n < 32 then 5 else if n < 64 then 6 else if n < 128 then 7 else 8) := by
  have key : ∀ j, n ≠ 0 → 2 ^ j ≤ n → n < 2 ^ (j + 1) → blen n = j + 1 := fun j h0 h1 h2 => by rw [blen_pos h0, (Nat.log2_eq_iff h0).2 ⟨h1, h2⟩]
  by_cases h0 : n = 0
  · subst h0; rfl
  rw [if_neg h0]
  repeat' split
  · exact key 0 h0 (by omega) (by omega)
  · exact key 1 h0 (by omega) (by omega)
  · exact key 2 h0 (by omega) (by omega)
  · exact key 3 h0 (by omega) (by omega)
  · exact key 4 h0 (by omega) (by omega)
  · exact key 5 h0 (by omega) (by omega)
  · exact key 6 h0 (by omega) (by omega)
  · exact key 7 h0 (by omega) (by omega)
theorem tab_at (b : Nat) (hb : b < 256) : bt (⟨#[0, 1, 2, 2, 3, 3, 3, 3, 4, 4, 4, 4, 4, 4, 4, 4, 5, 5, 5, 5, 5, 5, 5, 5, 5, 5, 5, 5, 5, 5, 5, 5, 6, 6, 6, 6, 6, 6, 6, 6, 6, 6, 6, 6, 6, 6, 6, 6, 6, 6, 6, 6, 6, 6, 6, 6, 6, 6, 6, 6, 6, 6, 6, 6, 7, 7, 7, 7, 7, 7, 7, 7, 7, 7, 7, 7, 7, 7, 7, 7, 7, 7, 7, 7, 7, 7, 7, 7, 7, 7, 7, 7, 7, 7, 7, 7, 7, 7, 7, 7, 7, 7, 7, 7, 7, 7, 7, 7, 7, 7, 7, 7, 7, 7, 7, 7, 7, 7, 7, 7, 7, 7, 7, 7, 7, 7, 7, 7, 8, 8, 8, 8, 8, 8, 8, 8, 8, 8, 8, 8, 8, 8, 8, 8, 8, 8, 8, 8, 8, 8, 8, 8, 8, 8, 8, 8, 8, 8, 8, 8, 8, 8, 8, 8, 8, 8, 8, 8, 8, 8, 8, 8, 8, 8, 8, 8, 8, 8, 8, 8, 8, 8, 8, 8, 8, 8, 8, 8, 8, 8, 8, 8, 8, 8, 8, 8, 8, 8, 8, 8, 8, 8, 8, 8, 8, 8, 8, 8, 8, 8, 8, 8, 8, 8, 8, 8, 8, 8, 8, 8, 8, 8, 8, 8, 8, 8, 8, 8, 8, 8, 8, 8, 8, 8, 8, 8, 8, 8, 8, 8, 8, 8, 8, 8, 8, 8, 8, 8, 8, 8, 8, 8, 8, 8, 8, 8]⟩ : ByteArray) (b : Int) = (blen b : Int) := by
  have := tab_blen ⟨b, hb⟩
  rw [blen_small b hb]
  exact this
theorem blen_le8 (b : Nat) (hb : b < 256) : blen b ≤ 8 := by
  rw [blen_small b hb]
  repeat' split
  all_goals omega
set_option maxRecDepth 100000 in
theorem len64_j (k n : Nat) (o : Nat) (hn : n < 4294967296) (ho : o ≤ 32) : bits_Len64.j0 (k + 1) (n : Int) (o : Int) = some ((blen n + o : Nat) : Int) := by
  have w : ∀ b o2 : Nat, b < 256 → o2 ≤ 100 → wrap64 ((o2 : Int) + wrap64 (bt (⟨#[0, 1, 2, 2, 3, 3, 3, 3, 4, 4, 4, 4, 4, 4, 4, 4, 5, 5, 5, 5, 5, 5, 5, 5, 5, 5, 5, 5, 5, 5, 5, 5, 6, 6, 6, 6, 6, 6, 6, 6, 6, 6, 6, 6, 6, 6, 6, 6, 6, 6, 6, 6, 6, 6, 6, 6, 6, 6, 6, 6, 6, 6, 6, 6, 7, 7, 7, 7, 7, 7, 7, 7, 7, 7, 7, 7, 7, 7, 7, 7, 7, 7, 7, 7, 7, 7, 7, 7, 7, 7, 7, 7, 7, 7, 7, 7, 7, 7, 7, 7, 7, 7, 7, 7, 7, 7, 7, 7, 7, 7, 7, 7, 7, 7, 7, 7, 7, 7, 7, 7, 7, 7, 7, 7, 7, 7, 7, 7, 8, 8, 8, 8, 8, 8, 8, 8, 8, 8, 8, 8, 8, 8, 8, 8, 8, 8, 8, 8, 8, 8, 8, 8, 8, 8, 8, 8, 8, 8, 8, 8, 8, 8, 8, 8, 8, 8, 8, 8, 8, 8, 8, 8, 8, 8, 8, 8, 8, 8, 8, 8, 8, 8, 8, 8, 8, 8, 8, 8, 8, 8, 8, 8, 8, 8, 8, 8, 8, 8, 8, 8, 8, 8, 8, 8, 8, 8, 8, 8, 8, 8, 8, 8, 8, 8, 8, 8, 8, 8, 8, 8, 8, 8, 8, 8, 8, 8, 8, 8, 8, 8, 8, 8, 8, 8, 8, 8, 8, 8, 8, 8, 8, 8, 8, 8, 8, 8, 8, 8, 8, 8, 8, 8, 8, 8, 8, 8]⟩ : ByteArray) (b : Int))) = ((blen b + o2 : Nat) : Int) := by
    intro b o2 hb h2
    rw [tab_at b hb]
    have := blen_le8 b hb
    unfold wrap64
    omega
  rw [bits_Len64.j0]
  have e1 : (n : Int) / 65536 = ((n / 65536 : Nat) : Int) := by omega
  have e2 : ((n / 65536 : Nat) : Int) / 256 = ((n / 65536 / 256 : Nat) : Int) := by omega
  have e3 : (n : Int) / 256 = ((n / 256 : Nat) : Int) := by omega
  have m1 : ((n / 65536 / 256 : Nat) : Int) % 256 = ((n / 65536 / 256 : Nat) : Int) := by omega
  rw [e1, e2, e3, m1]
  by_cases h1 : n ≥ 65536
  · rw [if_pos (by omega)]
    by_cases h2 : n / 65536 ≥ 256
    · rw [if_pos (by omega), if_pos (by omega), if_pos (by omega)]
      have : wrap64 (wrap64 ((o : Int) + 16) + 8) = ((o + 24 : Nat) : Int) := by unfold wrap64; omega
      rw [this, w _ _ (by omega) (by omega), blen_div' n 3 16777216 (by decide) (by omega), show n / 65536 / 256 = n / 16777216 by omega]
      simp only [Option.some.injEq]; omega
    · have m2 : ((n / 65536 : Nat) : Int) % 256 = ((n / 65536 : Nat) : Int) := by omega
      rw [if_neg (by omega), m2, if_pos (by omega), if_pos (by omega)]
      have : wrap64 ((o : Int) + 16) = ((o + 16 : Nat) : Int) := by unfold wrap64; omega
      rw [this, w _ _ (by omega) (by omega), blen_div' n 2 65536 (by decide) (by omega)]
      simp only [Option.some.injEq]; omega
  · rw [if_neg (by omega)]
    by_cases h2 : n ≥ 256
    · have m2 : ((n / 256 : Nat) : Int) % 256 = ((n / 256 : Nat) : Int) := by omega
      rw [if_pos (by omega), m2, if_pos (by omega), if_pos (by omega)]
      have : wrap64 ((o : Int) + 8) = ((o + 8 : Nat) : Int) := by unfold wrap64; omega
      rw [this, w _ _ (by omega) (by omega), blen_div' n 1 256 (by decide) (by omega)]
      simp only [Option.some.injEq]; omega
    · have m2 : (n : Int) % 256 = (n : Int) := by omega
      rw [if_neg (by omega), m2, if_pos (by omega), if_pos (by omega), w _ _ (by omega) (by omega)]
/-- math/bits.Len64. -/
theorem len64_some (k n : Nat) (hn : n < 18446744073709551616) : bits_Len64.f (k + 1) (n : Int) = some (blen n : Int) := by
  unfold bits_Len64.f
  by_cases h : n ≥ 4294967296
  · rw [if_pos (by omega), show (n : Int) / 4294967296 = ((n / 4294967296 : Nat) : Int) by omega]
    rw [show (32 : Int) = ((32 : Nat) : Int) from rfl, len64_j k _ 32 (by omega) (by omega), blen_div' n 4 4294967296 (by decide) (by omega)]
  · rw [if_neg (by omega), show (0 : Int) = ((0 : Nat) : Int) from rfl, len64_j k _ 0 (by omega) (by omega)]
    rfl
/-- How many bits are set. -/
def pc (n : Nat) : Nat := if _h : n = 0 then 0 else n % 2 + pc (n / 2)
termination_by n
decreasing_by omega
theorem pc_zero : pc 0 = 0 := by rw [pc]; rfl
theorem pc_step (n : Nat) : pc n = n % 2 + pc (n / 2) := by
  by_cases h : n = 0
  · subst h; simp [pc_zero]
  · rw [pc, dif_neg h]
theorem pc_split (k : Nat) : ∀ (h b : Nat), b < 2 ^ k → pc (2 ^ k * h + b) = pc h + pc b := by
  induction k with
  | zero =>
    intro h b hb
    have : b = 0 := by simpa using hb
    subst this
    simp [pc_zero]
  | succ k ih =>
    intro h b hb
    rw [Nat.pow_succ] at hb ⊢
    rw [pc_step (2 ^ k * 2 * h + b), pc_step b]
    have e1 : (2 ^ k * 2 * h + b) % 2 = b % 2 := by rw [Nat.mul_right_comm]; omega
    have e2 : (2 ^ k * 2 * h + b) / 2 = 2 ^ k * h + b / 2 := by rw [Nat.mul_right_comm]; omega
    rw [e1, e2, ih h (b / 2) (by omega)]
    omega
theorem pc_le (k : Nat) : ∀ n, n < 2 ^ k → pc n ≤ k := by
  induction k with
  | zero => intro n h; have : n = 0 := by simpa using h
            subst this; simp [pc_zero]
  | succ k ih => intro n h; rw [Nat.pow_succ] at h; rw [pc_step]; have := ih (n / 2) (by omega); omega
def pcA : Nat → Nat → Nat
  | 0, _ => 0
  | k + 1, n => n % 2 + pcA k (n / 2)
theorem pcA_eq (k : Nat) : ∀ n, n < 2 ^ k → pc n = pcA k n := by
  induction k with
  | zero => intro n h; have : n = 0 := by simpa using h
            subst this; exact pc_zero
  | succ k ih => intro n h; rw [Nat.pow_succ] at h; rw [pc_step, ih _ (by omega)]; rfl
theorem and_byte (h b H B : Nat) (hb : b < 256) (hB : B < 256) : (256 * h + b) &&& (256 * H + B) = 256 * (h &&& H) + (b &&& B) := by
  have hbB : b &&& B < 2 ^ 8 := Nat.and_lt_two_pow _ (by omega)
  apply Nat.eq_of_testBit_eq
  intro i
  rw [Nat.testBit_and, show (256 : Nat) = 2 ^ 8 from rfl, Nat.testBit_two_pow_mul_add _ (by omega), Nat.testBit_two_pow_mul_add _ (by omega), Nat.testBit_two_pow_mul_add _ hbB]
  split
  · rw [Nat.testBit_and]
  · rw [Nat.testBit_and]
/-- The masks of n bytes. -/
def mk (c : Nat) : Nat → Nat
  | 0 => 0
  | n + 1 => 256 * mk c n + c
/-- The counts of the bytes. -/
def cs : Nat → Nat → Nat
  | 0, _ => 0
  | n + 1, x => 256 * cs n (x / 256) + pcA 8 (x % 256)
def q1 (b : Nat) : Nat := ((b / 2) &&& 85) + (b &&& 85)
def q2 (b : Nat) : Nat := ((b / 4) &&& 51) + (b &&& 51)
def q3 (b : Nat) : Nat := (b / 16 + b) &&& 15
theorem byte_ok : ∀ b : Fin 256, q3 (q2 (q1 b.val)) = pcA 8 b.val ∧ q1 b.val < 256 ∧ q2 (q1 b.val) < 69 ∧ q2 (q1 b.val) % 16 ≤ 4 := by decide +kernel
theorem byte1 : ∀ (c : Fin 2) (b : Fin 256), ((128 * c.val + b.val / 2) &&& 85) = ((b.val / 2) &&& 85) := by decide +kernel
theorem byte2 : ∀ (c : Fin 4) (b : Fin 256), ((64 * c.val + b.val / 4) &&& 51) = ((b.val / 4) &&& 51) := by decide +kernel
theorem byte3 : ∀ (c : Fin 5) (b : Fin 69), ((16 * c.val + b.val / 16 + b.val) &&& 15) = ((b.val / 16 + b.val) &&& 15) := by decide +kernel
theorem swar (n : Nat) : ∀ x, x < 256 ^ n →
    ∃ y z, ((x / 2) &&& mk 85 n) + (x &&& mk 85 n) = y ∧ y < 256 ^ n ∧ ((y / 4) &&& mk 51 n) + (y &&& mk 51 n) = z ∧ z / 16 + z < 256 ^ n ∧ (z / 16 + z) &&& mk 15 n = cs n x ∧ z % 16 ≤ 4 := by
  induction n with
  | zero =>
    intro x hx
    have : x = 0 := by simpa using hx
    subst this
    exact ⟨0, 0, by simp, by simp, by simp, by simp, by simp [mk, cs], by simp⟩
  | succ n ih =>
    intro x hx
    rw [Nat.pow_succ] at hx
    obtain ⟨y, z, h1, h2, h3, h4, h5, h6⟩ := ih (x / 256) (by omega)
    have hb : x % 256 < 256 := Nat.mod_lt _ (by omega)
    obtain ⟨b1, b2, b3, b4⟩ := byte_ok ⟨x % 256, hb⟩
    simp only at b1 b2 b3 b4
    have ex : x = 256 * (x / 256) + x % 256 := by omega
    have ex2 : x / 2 = 256 * (x / 256 / 2) + (128 * (x / 256 % 2) + x % 256 / 2) := by omega
    have c1 := byte1 ⟨x / 256 % 2, Nat.mod_lt _ (by omega)⟩ ⟨x % 256, hb⟩
    simp only at c1
    have e1 : ((x / 2) &&& mk 85 (n + 1)) + (x &&& mk 85 (n + 1)) = 256 * y + q1 (x % 256) := by
      have a1 : (x / 2) &&& mk 85 (n + 1) = 256 * ((x / 256 / 2) &&& mk 85 n) + ((x % 256 / 2) &&& 85) := by
        rw [ex2, mk, and_byte _ _ _ _ (by omega) (by omega), c1]
      have a2 : x &&& mk 85 (n + 1) = 256 * ((x / 256) &&& mk 85 n) + ((x % 256) &&& 85) := by
        conv => lhs; rw [ex]
        rw [mk, and_byte _ _ _ _ (by omega) (by omega)]
      rw [a1, a2, ← h1, q1]; omega
    obtain ⟨p, hp⟩ : ∃ p, p = q1 (x % 256) := ⟨_, rfl⟩
    rw [← hp] at e1 b1 b2 b3 b4
    have c2 := byte2 ⟨y % 4, Nat.mod_lt _ (by omega)⟩ ⟨p, b2⟩
    simp only at c2
    have e2 : ((256 * y + p) / 4 &&& mk 51 (n + 1)) + ((256 * y + p) &&& mk 51 (n + 1)) = 256 * z + q2 p := by
      have a1 : (256 * y + p) / 4 &&& mk 51 (n + 1) = 256 * ((y / 4) &&& mk 51 n) + ((p / 4) &&& 51) := by
        rw [show (256 * y + p) / 4 = 256 * (y / 4) + (64 * (y % 4) + p / 4) by omega, mk, and_byte _ _ _ _ (by omega) (by omega), c2]
      have a2 : (256 * y + p) &&& mk 51 (n + 1) = 256 * (y &&& mk 51 n) + (p &&& 51) := by rw [mk, and_byte _ _ _ _ (by omega) (by omega)]
      rw [a1, a2, ← h3, q2]; omega
    obtain ⟨r, hr⟩ : ∃ r, r = q2 p := ⟨_, rfl⟩
    rw [← hr] at e2 b1 b3 b4
    have a1 : (256 * z + r) / 16 + (256 * z + r) = 256 * (z / 16 + z) + (16 * (z % 16) + r / 16 + r) := by omega
    refine ⟨256 * y + p, 256 * z + r, e1, by rw [Nat.pow_succ]; omega, e2, by rw [Nat.pow_succ, a1]; omega, ?_, by omega⟩
    have c3 := byte3 ⟨z % 16, by omega⟩ ⟨r, b3⟩
    simp only at c3
    rw [a1, mk, and_byte _ _ _ _ (by omega) (by omega), h5, c3, cs, ← b1, q3]
end Go.Proofs.YtdjfagknffknjaaFmt.H
end

section
namespace Go.Proofs.YtdjfagknffknjaaFmt.H
open Go.RowKit Go.Extern.Stop Go.Stop Go.Extern Go.Proofs.YtdjfagknffknjaaFmtW.PrintWords Go.Proofs.YtdjfagknffknjaaFmtW.PrintLast Go.Proofs.YtdjfagknffknjaaFmtW.PrintMore Go.Proofs.YtdjfagknffknjaaFmt.Q
theorem pcA8 : ∀ b : Fin 256, pcA 8 b.val ≤ 8 := by decide +kernel
/-- Bytes put together. -/
def by8 (c0 c1 c2 c3 c4 c5 c6 c7 : Nat) : Nat := c0 + 256 * (c1 + 256 * (c2 + 256 * (c3 + 256 * (c4 + 256 * (c5 + 256 * (c6 + 256 * c7))))))
theorem div_256 (a t : Nat) (h : a < 256) : (a + 256 * t) / 256 = t := by omega
theorem cs_parts (x : Nat) (hx : x < 18446744073709551616) : ∃ c0 c1 c2 c3 c4 c5 c6 c7 : Nat, cs 8 x = by8 c0 c1 c2 c3 c4 c5 c6 c7 ∧ pc x = c0 + c1 + c2 + c3 + c4 + c5 + c6 + c7 ∧
    c0 ≤ 8 ∧ c1 ≤ 8 ∧ c2 ≤ 8 ∧ c3 ≤ 8 ∧ c4 ≤ 8 ∧ c5 ≤ 8 ∧ c6 ≤ 8 ∧ c7 ≤ 8 := by
  have hp : ∀ b, pcA 8 (b % 256) ≤ 8 := fun b => pcA8 ⟨b % 256, Nat.mod_lt _ (by omega)⟩
  have hs : ∀ y, pc y = pc (y / 256) + pcA 8 (y % 256) := by
    intro y
    rw [← pcA_eq 8 (y % 256) (Nat.mod_lt _ (by decide)), ← pc_split 8 (y / 256) (y % 256) (Nat.mod_lt _ (by decide))]
    congr 1
    omega
  refine ⟨_, _, _, _, _, _, _, _, ?_, ?_, hp x, hp (x / 256), hp (x / 256 / 256), hp (x / 256 / 256 / 256), hp (x / 256 / 256 / 256 / 256), hp (x / 256 / 256 / 256 / 256 / 256), hp (x / 256 / 256 / 256 / 256 / 256 / 256), hp (x / 256 / 256 / 256 / 256 / 256 / 256 / 256)⟩
  · simp only [cs, by8]; omega
  · have h0 : x / 256 / 256 / 256 / 256 / 256 / 256 / 256 / 256 = 0 := by omega
    rw [hs x, hs (x / 256), hs (x / 256 / 256), hs (x / 256 / 256 / 256), hs (x / 256 / 256 / 256 / 256), hs (x / 256 / 256 / 256 / 256 / 256), hs (x / 256 / 256 / 256 / 256 / 256 / 256), hs (x / 256 / 256 / 256 / 256 / 256 / 256 / 256), h0, pc_zero]
    generalize pcA 8 (x % 256) = a0
    generalize pcA 8 (x / 256 % 256) = a1
    generalize pcA 8 (x / 256 / 256 % 256) = a2
    generalize pcA 8 (x / 256 / 256 / 256 % 256) = a3
    generalize pcA 8 (x / 256 / 256 / 256 / 256 % 256) = a4
    generalize pcA 8 (x / 256 / 256 / 256 / 256 / 256 % 256) = a5
    generalize pcA 8 (x / 256 / 256 / 256 / 256 / 256 / 256 % 256) = a6
    generalize pcA 8 (x / 256 / 256 / 256 / 256 / 256 / 256 / 256 % 256) = a7
    clear hs hp hx h0
    omega
theorem by8_div (c0 c1 c2 c3 c4 c5 c6 c7 : Nat) (h : c0 < 256) : by8 c0 c1 c2 c3 c4 c5 c6 c7 / 256 = by8 c1 c2 c3 c4 c5 c6 c7 0 := by
  unfold by8
  rw [Nat.mul_zero, Nat.add_zero]
  exact div_256 _ _ h
theorem by8_add (a0 a1 a2 a3 a4 a5 a6 a7 c0 c1 c2 c3 c4 c5 c6 c7 : Nat) : by8 a0 a1 a2 a3 a4 a5 a6 a7 + by8 c0 c1 c2 c3 c4 c5 c6 c7 = by8 (a0 + c0) (a1 + c1) (a2 + c2) (a3 + c3) (a4 + c4) (a5 + c5) (a6 + c6) (a7 + c7) := by
  unfold by8
  simp only [Nat.mul_add]
  ac_rfl
theorem by8_lt (c0 c1 c2 c3 c4 c5 c6 c7 : Nat) (h0 : c0 < 256) (h1 : c1 < 256) (h2 : c2 < 256) (h3 : c3 < 256) (h4 : c4 < 256) (h5 : c5 < 256) (h6 : c6 < 256) (h7 : c7 < 256) : by8 c0 c1 c2 c3 c4 c5 c6 c7 < 18446744073709551616 := by
  unfold by8
  have a7 : c6 + 256 * c7 < 65536 := by omega
  have a6 : c5 + 256 * (c6 + 256 * c7) < 16777216 := by omega
  generalize c6 + 256 * c7 = d at a6 a7 ⊢
  have a5 : c4 + 256 * (c5 + 256 * d) < 4294967296 := by omega
  generalize c5 + 256 * d = e at a5 a6 ⊢
  have a4 : c3 + 256 * (c4 + 256 * e) < 1099511627776 := by omega
  generalize c4 + 256 * e = f at a4 a5 ⊢
  omega
theorem by8_mod (c0 c1 c2 c3 c4 c5 c6 c7 : Nat) (h : c0 < 128) : by8 c0 c1 c2 c3 c4 c5 c6 c7 % 128 = c0 := by
  unfold by8
  generalize c1 + 256 * (c2 + 256 * (c3 + 256 * (c4 + 256 * (c5 + 256 * (c6 + 256 * c7))))) = t
  omega
theorem i64_and127 (g : Nat) (hg : g < 18446744073709551616) : Go.bits .and .i64 (wrap64 (g : Int)) 127 = ((g % 128 : Nat) : Int) := by
  have h1 : (BitVec.ofInt 64 (wrap64 (g : Int))).toNat = g := by
    rw [BitVec.toNat_ofInt]
    unfold wrap64
    omega
  have h2 : (BitVec.ofInt 64 (127 : Int)).toNat = 127 := by decide
  have h3 : g &&& 127 = g % 128 := Nat.and_two_pow_sub_one_eq_mod g 7
  show IntKind.i64.wrap ((BitVec.ofInt 64 (wrap64 (g : Int)) &&& BitVec.ofInt 64 (127 : Int)).toNat : Int) = _
  rw [BitVec.toNat_and, h1, h2, h3, IntKind.wrap_i64]
  omega
/-- math/bits.OnesCount64. -/
theorem ones_some (x : Nat) (hx : x < 18446744073709551616) : bits_OnesCount64.f (x : Int) = some (pc x : Int) := by
  obtain ⟨y, z, h1, h2, h3, h4, h5, h6⟩ := swar 8 x (by rw [show (256 : Nat) ^ 8 = 18446744073709551616 by decide]; exact hx)
  rw [show (256 : Nat) ^ 8 = 18446744073709551616 by decide] at h2 h4
  rw [show mk 85 8 = 6148914691236517205 by decide] at h1
  rw [show mk 51 8 = 3689348814741910323 by decide] at h3
  rw [show mk 15 8 = 1085102592571150095 by decide] at h5
  obtain ⟨c0, c1, c2, c3, c4, c5, c6, c7, hc, hp, k0, k1, k2, k3, k4, k5, k6, k7⟩ := cs_parts x hx
  have s1 : IntKind.u64.wrap (Go.bits .and .u64 ((x : Int) / 2) 6148914691236517205 + Go.bits .and .u64 (x : Int) 6148914691236517205) = (y : Int) := by
    rw [show (x : Int) / 2 = ((x / 2 : Nat) : Int) by omega, show (6148914691236517205 : Int) = ((6148914691236517205 : Nat) : Int) from rfl, bits_and_u64_nat _ _ (by omega) (by omega), bits_and_u64_nat _ _ (by omega) (by omega), IntKind.wrap_u64]
    clear hc hp h3 h4 h5 h6
    omega
  have s2 : IntKind.u64.wrap (Go.bits .and .u64 ((y : Int) / 4) 3689348814741910323 + Go.bits .and .u64 (y : Int) 3689348814741910323) = (z : Int) := by
    rw [show (y : Int) / 4 = ((y / 4 : Nat) : Int) by omega, show (3689348814741910323 : Int) = ((3689348814741910323 : Nat) : Int) from rfl, bits_and_u64_nat _ _ (by omega) (by omega), bits_and_u64_nat _ _ (by omega) (by omega), IntKind.wrap_u64]
    clear hc hp h1 h5
    omega
  obtain ⟨c, hcc⟩ : ∃ c, c = cs 8 x := ⟨_, rfl⟩
  rw [← hcc] at hc h5
  have s3 : Go.bits .and .u64 (IntKind.u64.wrap ((z : Int) / 16 + (z : Int))) 1085102592571150095 = (c : Int) := by
    rw [show (z : Int) / 16 + (z : Int) = ((z / 16 + z : Nat) : Int) by omega, show IntKind.u64.wrap ((z / 16 + z : Nat) : Int) = ((z / 16 + z : Nat) : Int) by rw [IntKind.wrap_u64]; omega,
      show (1085102592571150095 : Int) = ((1085102592571150095 : Nat) : Int) from rfl, bits_and_u64_nat _ _ (by omega) (by omega), h5]
  have wr : ∀ a m b d : Nat, a / m = b → a + b = d → d < 18446744073709551616 → IntKind.u64.wrap ((a : Int) + (a : Int) / (m : Int)) = (d : Int) := by
    intro a m b d e1 e2 e3
    rw [show (a : Int) / (m : Int) = ((a / m : Nat) : Int) by simp, e1, IntKind.wrap_u64]
    omega
  have q4 := by8_div c0 c1 c2 c3 c4 c5 c6 c7 (by omega)
  rw [← hc] at q4
  have s4 := wr c 256 _ _ q4 (by rw [hc]; exact by8_add ..) (by8_lt _ _ _ _ _ _ _ _ (by omega) (by omega) (by omega) (by omega) (by omega) (by omega) (by omega) (by omega))
  obtain ⟨d, hd⟩ : ∃ d, d = by8 (c0 + c1) (c1 + c2) (c2 + c3) (c3 + c4) (c4 + c5) (c5 + c6) (c6 + c7) (c7 + 0) := ⟨_, rfl⟩
  rw [← hd] at s4
  have q5 : d / 65536 = by8 (c2 + c3) (c3 + c4) (c4 + c5) (c5 + c6) (c6 + c7) (c7 + 0) 0 0 := by
    rw [show (65536 : Nat) = 256 * 256 from rfl, ← Nat.div_div_eq_div_mul, hd, by8_div _ _ _ _ _ _ _ _ (by omega), by8_div _ _ _ _ _ _ _ _ (by omega)]
  have s5 := wr d 65536 _ _ q5 (by rw [hd]; exact by8_add ..) (by8_lt _ _ _ _ _ _ _ _ (by omega) (by omega) (by omega) (by omega) (by omega) (by omega) (by omega) (by omega))
  obtain ⟨f, hf⟩ : ∃ f, f = by8 (c0 + c1 + (c2 + c3)) (c1 + c2 + (c3 + c4)) (c2 + c3 + (c4 + c5)) (c3 + c4 + (c5 + c6)) (c4 + c5 + (c6 + c7)) (c5 + c6 + (c7 + 0)) (c6 + c7 + 0) (c7 + 0 + 0) := ⟨_, rfl⟩
  rw [← hf] at s5
  have q6 : f / 4294967296 = by8 (c4 + c5 + (c6 + c7)) (c5 + c6 + (c7 + 0)) (c6 + c7 + 0) (c7 + 0 + 0) 0 0 0 0 := by
    rw [show (4294967296 : Nat) = 256 * 256 * 256 * 256 from rfl, ← Nat.div_div_eq_div_mul, ← Nat.div_div_eq_div_mul, ← Nat.div_div_eq_div_mul, hf, by8_div _ _ _ _ _ _ _ _ (by omega), by8_div _ _ _ _ _ _ _ _ (by omega), by8_div _ _ _ _ _ _ _ _ (by omega), by8_div _ _ _ _ _ _ _ _ (by omega)]
  have hlt := by8_lt (c0 + c1 + (c2 + c3) + (c4 + c5 + (c6 + c7))) (c1 + c2 + (c3 + c4) + (c5 + c6 + (c7 + 0))) (c2 + c3 + (c4 + c5) + (c6 + c7 + 0)) (c3 + c4 + (c5 + c6) + (c7 + 0 + 0)) (c4 + c5 + (c6 + c7) + 0) (c5 + c6 + (c7 + 0) + 0) (c6 + c7 + 0 + 0) (c7 + 0 + 0 + 0) (by omega) (by omega) (by omega) (by omega) (by omega) (by omega) (by omega) (by omega)
  have s6 := wr f 4294967296 _ _ q6 (by rw [hf]; exact by8_add ..) hlt
  have hm := by8_mod (c0 + c1 + (c2 + c3) + (c4 + c5 + (c6 + c7))) (c1 + c2 + (c3 + c4) + (c5 + c6 + (c7 + 0))) (c2 + c3 + (c4 + c5) + (c6 + c7 + 0)) (c3 + c4 + (c5 + c6) + (c7 + 0 + 0)) (c4 + c5 + (c6 + c7) + 0) (c5 + c6 + (c7 + 0) + 0) (c6 + c7 + 0 + 0) (c7 + 0 + 0 + 0) (by omega)
  obtain ⟨g, hg⟩ : ∃ g, g = by8 (c0 + c1 + (c2 + c3) + (c4 + c5 + (c6 + c7))) (c1 + c2 + (c3 + c4) + (c5 + c6 + (c7 + 0))) (c2 + c3 + (c4 + c5) + (c6 + c7 + 0)) (c3 + c4 + (c5 + c6) + (c7 + 0 + 0)) (c4 + c5 + (c6 + c7) + 0) (c5 + c6 + (c7 + 0) + 0) (c6 + c7 + 0 + 0) (c7 + 0 + 0 + 0) := ⟨_, rfl⟩
  rw [← hg] at s6 hm hlt
  have s7 : Go.bits .and .i64 (wrap64 (g : Int)) 127 = (pc x : Int) := by
    rw [i64_and127 g hlt, hm, hp]
    clear hc hcc hd hf hg q4 q5 q6 s1 s2 s3 s4 s5 s6 h1 h2 h3 h4 h5 h6 hm hlt wr
    omega
  have s4' : IntKind.u64.wrap ((c : Int) + (c : Int) / 256) = (d : Int) := s4
  have s5' : IntKind.u64.wrap ((d : Int) + (d : Int) / 65536) = (f : Int) := s5
  have s6' : IntKind.u64.wrap ((f : Int) + (f : Int) / 4294967296) = (g : Int) := s6
  unfold bits_OnesCount64.f
  rw [s1, s2, s3, s4', s5', s6', s7]
end Go.Proofs.YtdjfagknffknjaaFmt.H
end

section
namespace Go.Proofs.YtdjfagknffknjaaFmt.H
open Go.RowKit Go.Extern.Stop Go.Stop Go.Extern Go.Proofs.YtdjfagknffknjaaFmtW.PrintWords Go.Proofs.YtdjfagknffknjaaFmtW.PrintLast Go.Proofs.YtdjfagknffknjaaFmtW.PrintMore Go.Proofs.YtdjfagknffknjaaFmt.Q
theorem xor_split (k h b H B : Nat) (hb : b < 2 ^ k) (hB : B < 2 ^ k) : (2 ^ k * h + b) ^^^ (2 ^ k * H + B) = 2 ^ k * (h ^^^ H) + (b ^^^ B) := by
  have hbB : b ^^^ B < 2 ^ k := Nat.xor_lt_two_pow hb hB
  apply Nat.eq_of_testBit_eq
  intro i
  rw [Nat.testBit_xor, Nat.testBit_two_pow_mul_add _ hb, Nat.testBit_two_pow_mul_add _ hB, Nat.testBit_two_pow_mul_add _ hbB]
  split
  · rw [Nat.testBit_xor]
  · rw [Nat.testBit_xor]
theorem xor_one' (a : Nat) : a ^^^ 1 = if a % 2 = 0 then a + 1 else a - 1 := by
  have h : a = 2 ^ 1 * (a / 2) + a % 2 := by omega
  have hm : a % 2 < 2 ^ 1 := Nat.mod_lt _ (by decide)
  have := xor_split 1 (a / 2) (a % 2) 0 1 hm (by decide)
  rw [← h] at this
  rw [show (1 : Nat) = 2 ^ 1 * 0 + 1 from rfl, this, Nat.xor_zero]
  rcases (by omega : a % 2 = 0 ∨ a % 2 = 1) with e | e
  · rw [e, if_pos rfl]; show 2 ^ 1 * (a / 2) + 1 = _; omega
  · rw [e, if_neg (by decide)]; show 2 ^ 1 * (a / 2) + 0 = _; omega
theorem xor_eq_one {a b : Nat} (h : a ^^^ b = 1) (hab : a ≤ b) : b = a + 1 ∧ a % 2 = 0 := by
  have e : b = a ^^^ 1 := by rw [← h, ← Nat.xor_assoc, Nat.xor_self, Nat.zero_xor]
  rw [xor_one'] at e
  split at e
  · exact ⟨e, by assumption⟩
  · omega
theorem xor_ne_zero {a b : Nat} (h : a ≠ b) : a ^^^ b ≠ 0 := fun e => h (by
  have : a ^^^ b ^^^ b = b := by rw [e, Nat.zero_xor]
  rw [Nat.xor_assoc, Nat.xor_self, Nat.xor_zero] at this
  exact this)
theorem div_one_of_log2 {x : Nat} (h : x ≠ 0) : x / 2 ^ x.log2 = 1 := by
  have h1 := Nat.log2_self_le h
  have h2 := Nat.lt_log2_self (n := x)
  rw [Nat.pow_succ] at h2
  rw [Nat.div_eq_iff (by have := Nat.two_pow_pos x.log2; omega)]
  omega
theorem log2_of_div_one {x j : Nat} (h : x / 2 ^ j = 1) : x.log2 = j := by
  have hp := Nat.two_pow_pos j
  rw [Nat.div_eq_iff (by omega)] at h
  exact (Nat.log2_eq_iff (by omega)).2 ⟨by omega, by rw [Nat.pow_succ]; omega⟩
/-- The highest place where a smaller number differs. -/
theorem xor_top {a b : Nat} (h : a < b) : b / 2 ^ (a ^^^ b).log2 = a / 2 ^ (a ^^^ b).log2 + 1 ∧ a / 2 ^ (a ^^^ b).log2 % 2 = 0 := by
  have h1 := div_one_of_log2 (xor_ne_zero (Nat.ne_of_lt h))
  rw [Nat.xor_div_two_pow] at h1
  exact xor_eq_one h1 (Nat.div_le_div_right (Nat.le_of_lt h))
theorem xor_log2 {a b j : Nat} (h1 : b / 2 ^ j = a / 2 ^ j + 1) (h2 : a / 2 ^ j % 2 = 0) : (a ^^^ b).log2 = j := by
  apply log2_of_div_one
  rw [Nat.xor_div_two_pow, h1]
  have : a / 2 ^ j ^^^ 1 = a / 2 ^ j + 1 := by rw [xor_one', if_pos h2]
  rw [← this, ← Nat.xor_assoc, Nat.xor_self, Nat.zero_xor]
/-- The nodes of the set bits of a number, from the highest on, from a leaf on. -/
def rn (x s : Nat) : List S69 := if _h : x = 0 then [] else ⟨(x.log2 : Int), ((s / 2 ^ x.log2 : Nat) : Int)⟩ :: rn (x - 2 ^ x.log2) (s + 2 ^ x.log2)
termination_by x
decreasing_by have := Nat.two_pow_pos x.log2; omega
theorem rn_zero (s : Nat) : rn 0 s = [] := by rw [rn]; rfl
theorem rn_pos (x s : Nat) (h : x ≠ 0) : rn x s = ⟨(x.log2 : Int), ((s / 2 ^ x.log2 : Nat) : Int)⟩ :: rn (x - 2 ^ x.log2) (s + 2 ^ x.log2) := by rw [rn, dif_neg h]
theorem log2_add {j r : Nat} (h : r < 2 ^ j) : (2 ^ j + r).log2 = j := (Nat.log2_eq_iff (by have := Nat.two_pow_pos j; omega)).2 ⟨by omega, by rw [Nat.pow_succ]; omega⟩
theorem rn_add {j r : Nat} (h : r < 2 ^ j) (s : Nat) : rn (2 ^ j + r) s = ⟨(j : Int), ((s / 2 ^ j : Nat) : Int)⟩ :: rn r (s + 2 ^ j) := by
  rw [rn_pos _ _ (by have := Nat.two_pow_pos j; omega), log2_add h, Nat.add_sub_cancel_left]
theorem bits_cut {x : Nat} (h : x ≠ 0) : x = 2 ^ x.log2 + (x - 2 ^ x.log2) ∧ x - 2 ^ x.log2 < 2 ^ x.log2 := by
  have h1 := Nat.log2_self_le h
  have h2 := Nat.lt_log2_self (n := x)
  rw [Nat.pow_succ] at h2
  omega
theorem pc_one : pc 1 = 1 := by rw [pc_step, pc_zero]
theorem pc_add {j r : Nat} (h : r < 2 ^ j) : pc (2 ^ j + r) = 1 + pc r := by
  have := pc_split j 1 r h
  rwa [Nat.mul_one, pc_one] at this
theorem rn_length (x : Nat) : ∀ s, (rn x s).length = pc x := by
  induction x using Nat.strongRecOn with
  | _ x ih =>
    intro s
    by_cases h : x = 0
    · subst h; rw [rn_zero, pc_zero]; rfl
    · obtain ⟨h1, h2⟩ := bits_cut h
      have hp := Nat.two_pow_pos x.log2
      rw [rn_pos x s h, List.length_cons, ih _ (by omega)]
      conv => rhs; rw [h1]
      rw [pc_add h2]; omega
theorem shr_nat (x s : Nat) (hs : s ≤ 64) : shr .u64 (x : Int) (s : Int) = ((x / 2 ^ s : Nat) : Int) := by
  have : min s 64 = s := Nat.min_eq_left hs
  simp [shr, IntKind.bits, this]
theorem shl_nat (x s : Nat) (hs : s ≤ 64) (h : x * 2 ^ s < 18446744073709551616) : shl .u64 (x : Int) (s : Int) = ((x * 2 ^ s : Nat) : Int) := by
  have e : min s 64 = s := Nat.min_eq_left hs
  have : shl .u64 (x : Int) (s : Int) = IntKind.u64.wrap ((x * 2 ^ s : Nat) : Int) := by simp [shl, IntKind.bits, e]
  rw [this, IntKind.wrap_u64]; omega
theorem blen_le (k n : Nat) (h : n < 2 ^ k) : blen n ≤ k := by
  unfold blen
  split
  · omega
  · rename_i h0
    have := (Nat.log2_lt h0).2 h
    omega
/-- proof.decompInclProof. -/
theorem decomp_some (k idx size : Nat) (h1 : 1 ≤ size) (hs : size ≤ 9223372036854775808) (hi : idx < 9223372036854775808) :
    proof_decompInclProof.f (k + 1) (idx : Int) (size : Int) = some ((blen (idx ^^^ (size - 1)) : Int), (pc (idx / 2 ^ blen (idx ^^^ (size - 1))) : Int)) := by
  have hx : idx ^^^ (size - 1) < 2 ^ 63 := Nat.xor_lt_two_pow (by omega) (by omega)
  have hb := blen_le 63 _ hx
  have e1 : IntKind.u64.wrap ((size : Int) - 1) = ((size - 1 : Nat) : Int) := by rw [IntKind.wrap_u64]; omega
  have e2 : IntKind.u64.wrap ((blen (idx ^^^ (size - 1)) : Nat) : Int) = ((blen (idx ^^^ (size - 1)) : Nat) : Int) := by rw [IntKind.wrap_u64]; omega
  have hd : idx / 2 ^ blen (idx ^^^ (size - 1)) ≤ idx := Nat.div_le_self _ _
  simp only [proof_decompInclProof.f, proof_innerProofSize.f]
  rw [e1, bits_xor_u64_nat _ _ (by omega) (by omega), len64_some k _ (by omega)]
  simp only [Option.bind_some]
  rw [e2, if_pos (by omega), shr_nat _ _ (by omega), ones_some _ (by omega)]
  rfl
theorem rangeNodes_l1 (d : Nat) : ∀ (k x s : Nat) (l : List S69), pc x ≤ d → d + 2 ≤ k → x + s ≤ 9223372036854775808 → l.length + pc x ≤ 2000 → compact_RangeNodes.l1 k l (x : Int) (s : Int) = some (l ++ rn x s) := by
  induction d with
  | zero =>
    intro k x s l h1 hk hx hl
    obtain ⟨k, rfl⟩ : ∃ m, k = m + 1 := ⟨k - 1, by omega⟩
    have : x = 0 := by
      rcases Nat.eq_zero_or_pos x with h | h
      · exact h
      · obtain ⟨a, b⟩ := bits_cut (Nat.ne_of_gt h)
        have := pc_add b
        rw [← a] at this
        omega
    subst this
    rw [compact_RangeNodes.l1, if_pos (show ((0 : Nat) : Int) = 0 from rfl), rn_zero, List.append_nil]
  | succ d ih =>
    intro k x s l h1 hk hx hl
    obtain ⟨k, rfl⟩ : ∃ m, k = m + 1 := ⟨k - 1, by omega⟩
    by_cases h0 : x = 0
    · subst h0
      rw [compact_RangeNodes.l1, if_pos (show ((0 : Nat) : Int) = 0 from rfl), rn_zero, List.append_nil]
    · obtain ⟨a, b⟩ := bits_cut h0
      obtain ⟨j, hj⟩ : ∃ j, j = x.log2 := ⟨_, rfl⟩
      have hrn := rn_pos x s h0
      have hbl := blen_pos h0
      rw [← hj] at a b hrn hbl
      obtain ⟨r, hr⟩ : ∃ r, r = x - 2 ^ j := ⟨_, rfl⟩
      rw [← hr] at a b hrn
      have hpc : pc x = 1 + pc r := by rw [a, pc_add b]
      have hj63 : j ≤ 63 := by
        rw [hj]
        have := (Nat.log2_lt h0 (k := 64)).2 (by omega)
        omega
      obtain ⟨k', rfl⟩ : ∃ m, k = m + 1 := ⟨k - 1, by omega⟩
      rw [compact_RangeNodes.l1, if_neg (by omega), len64_some k' x (by omega), hbl]
      have e1 : IntKind.u64.wrap (IntKind.u64.wrap ((j + 1 : Nat) : Int) - 1) = (j : Int) := by simp only [IntKind.wrap_u64]; omega
      have e2 : shl .u64 1 (j : Int) = ((2 ^ j : Nat) : Int) := by
        have := shl_nat 1 j (by omega) (by omega)
        rwa [Nat.one_mul] at this
      have e3 : Go.bits .xor .u64 (x : Int) ((2 ^ j : Nat) : Int) = (r : Int) := by
        rw [bits_xor_u64_nat _ _ (by omega) (by omega)]
        have := xor_split j 1 r 1 0 b (Nat.two_pow_pos j)
        rw [Nat.mul_one, Nat.add_zero, ← a, Nat.xor_self, Nat.mul_zero, Nat.zero_add, Nat.xor_zero] at this
        rw [this]
      have e4 : IntKind.u64.wrap ((s : Int) + ((2 ^ j : Nat) : Int)) = ((s + 2 ^ j : Nat) : Int) := by rw [IntKind.wrap_u64]; omega
      simp only [Option.bind_some]
      rw [e1, if_pos (by omega), shr_nat s j (by omega), e2, e3, e4]
      simp only [compact_NewNodeID.f, Option.bind_some]
      rw [if_pos (by omega), ih (k' + 1) r (s + 2 ^ j) _ (by omega) (by omega) (by omega) (by rw [List.length_append, List.length_singleton]; omega), hrn, List.append_assoc]
      rfl
theorem ones_mod (J : Nat) (h : J ≤ 64) : 18446744073709551615 % 2 ^ J = 2 ^ J - 1 := by
  have h1 : 2 ^ (64 - J) * 2 ^ J = 18446744073709551616 := by rw [← Nat.pow_add, show 64 - J + J = 64 by omega]
  have hp := Nat.two_pow_pos J
  have hq := Nat.two_pow_pos (64 - J)
  generalize 2 ^ (64 - J) = q at h1 hq
  generalize 2 ^ J = m at h1 hp ⊢
  obtain ⟨q, rfl⟩ : ∃ r, q = r + 1 := ⟨q - 1, by omega⟩
  rw [Nat.add_mul, Nat.one_mul] at h1
  have : 18446744073709551615 = m - 1 + q * m := by omega
  rw [this, Nat.add_mul_mod_self_right, Nat.mod_eq_of_lt (by omega)]
theorem rsz (k : Nat) (a : Int) (c d : Nat) (h : compact_Decompose.f (k + 1) a (d : Int) = some (0, (c : Int))) (hc : c < 18446744073709551616) (hp : pc c ≤ 63) : compact_RangeSize.f (k + 1) a (d : Int) = some (pc c : Int) := by
  have z0 : (0 : Int) = ((0 : Nat) : Int) := Int.natCast_zero.symm
  have ones0 : bits_OnesCount64.f ((0 : Nat) : Int) = some ((0 : Nat) : Int) := by rw [ones_some 0 (by omega), pc_zero]
  have hw : wrap64 (((0 : Nat) : Int) + (pc c : Int)) = (pc c : Int) := by unfold wrap64; omega
  unfold compact_RangeSize.f
  rw [h, Option.bind_some, z0]
  dsimp only
  rw [ones0, Option.bind_some, ones_some c hc, Option.bind_some, hw]
/-- What lies below a fork, and above it. -/
structure AtFork (lv ix sz inn fi J e b : Nat) : Prop where
  hJ : J = lv + inn
  J63 : J ≤ 63
  top : sz / 2 ^ J = fi + 1
  even : fi % 2 = 0
  fidx : ix / 2 ^ inn = fi
  he : e = (fi + 1) * 2 ^ J
  hb : b = fi * 2 ^ J
  e_le : e ≤ sz
  split : sz = e + sz % 2 ^ J
  lt : ix < sz / 2 ^ lv
  len : (ix ^^^ sz / 2 ^ lv).log2 = inn
theorem atFork (lv ix sz inn fi J e b : Nat) (hsz : sz ≤ 9223372036854775808) (h : ix < sz / 2 ^ lv) (hinn : inn = (ix ^^^ sz / 2 ^ lv).log2) (hfi : fi = ix / 2 ^ inn) (hJ : J = lv + inn) (he : e = (fi + 1) * 2 ^ J) (hb : b = fi * 2 ^ J) : AtFork lv ix sz inn fi J e b := by
  obtain ⟨h1, h2⟩ := xor_top h
  rw [← hinn] at h1 h2
  have hd : sz / 2 ^ J = fi + 1 := by rw [hJ, Nat.pow_add, ← Nat.div_div_eq_div_mul, h1, hfi]
  have hm := Nat.div_add_mod sz (2 ^ J)
  rw [hd, Nat.mul_comm] at hm
  have hpJ := Nat.two_pow_pos J
  have h63 : J ≤ 63 := by
    rcases Nat.lt_or_ge 63 J with hlt | hge
    · have h3 : 2 ^ 64 ≤ 2 ^ J := Nat.pow_le_pow_right (by omega) hlt
      have h4 : 2 ^ J ≤ (fi + 1) * 2 ^ J := Nat.le_mul_of_pos_left _ (by omega)
      omega
    · exact hge
  exact ⟨hJ, h63, hd, by rw [hfi]; exact h2, hfi.symm, he, hb, by omega, by omega, h, hinn.symm⟩
theorem decompose_fork (k lv ix sz inn fi J e b : Nat) (hk : 70 ≤ k) (hsz : sz ≤ 9223372036854775808) (hA : AtFork lv ix sz inn fi J e b) : compact_Decompose.f k (e : Int) (sz : Int) = some (0, ((sz % 2 ^ J : Nat) : Int)) := by
  have hJ63 := hA.J63
  have hpJ := Nat.two_pow_pos J
  have hs := hA.split
  have hle := hA.e_le
  have he := hA.he
  have hb := hA.hb
  have hmod : sz % 2 ^ J < 2 ^ J := Nat.mod_lt _ hpJ
  have hbe : e = b + 2 ^ J := by rw [he, hb, Nat.add_mul, Nat.one_mul]
  have hfb : fi ≤ b := by rw [hb]; exact Nat.le_mul_of_pos_right _ hpJ
  obtain ⟨k, rfl⟩ : ∃ m, k = m + 1 := ⟨k - 1, by omega⟩
  have e1 : IntKind.u64.wrap ((e : Int) - 1) = ((e - 1 : Nat) : Int) := by rw [IntKind.wrap_u64]; omega
  have hd1 : (e - 1) / 2 ^ J = fi := by
    rw [show e - 1 = 2 ^ J - 1 + fi * 2 ^ J by omega, Nat.add_mul_div_right _ _ hpJ, Nat.div_eq_of_lt (by omega), Nat.zero_add]
  have hm1 : (e - 1) % 2 ^ J = 2 ^ J - 1 := by
    rw [show e - 1 = 2 ^ J - 1 + fi * 2 ^ J by omega, Nat.add_mul_mod_self_right, Nat.mod_eq_of_lt (by omega)]
  have hl : ((e - 1) ^^^ sz).log2 = J := xor_log2 (by rw [hA.top, hd1]) (by rw [hd1]; exact hA.even)
  have hne : (e - 1) ^^^ sz ≠ 0 := xor_ne_zero (by omega)
  have hx2 : (e - 1) ^^^ sz < 2 ^ 64 := Nat.xor_lt_two_pow (by omega) (by omega)
  have e2 : IntKind.u64.wrap (wrap64 (((J + 1 : Nat) : Int) - 1)) = (J : Int) := by rw [IntKind.wrap_u64]; unfold wrap64; omega
  have e3 : shl .u64 1 (J : Int) = ((2 ^ J : Nat) : Int) := by
    have := shl_nat 1 J (by omega) (by omega)
    rwa [Nat.one_mul] at this
  have e4 : IntKind.u64.wrap (((2 ^ J : Nat) : Int) - 1) = ((2 ^ J - 1 : Nat) : Int) := by rw [IntKind.wrap_u64]; omega
  have hx3 : 18446744073709551615 ^^^ (e - 1) < 2 ^ 64 := Nat.xor_lt_two_pow (by omega) (by omega)
  have e5 : (18446744073709551615 ^^^ (e - 1)) &&& (2 ^ J - 1) = 0 := by
    have hones := ones_mod J (by omega)
    rw [Nat.and_two_pow_sub_one_eq_mod, Nat.xor_mod_two_pow, hones, hm1, Nat.xor_self]
  rw [compact_Decompose.f, if_neg (by omega), e1, bits_xor_u64_nat _ _ (by omega) (by omega), len64_some k _ (by omega), blen_pos hne, hl]
  simp only [Option.bind_some]
  have b1 : Go.bits .xor .u64 18446744073709551615 ((e - 1 : Nat) : Int) = ((18446744073709551615 ^^^ (e - 1) : Nat) : Int) := bits_xor_u64_nat 18446744073709551615 _ (by omega) (by omega)
  rw [e2, if_pos (by omega), e3, e4, b1, bits_and_u64_nat _ _ (by omega) (by omega), bits_and_u64_nat _ _ (by omega) (by omega), e5, Nat.and_two_pow_sub_one_eq_mod, Int.natCast_zero]
theorem fork_of (k lv ix sz inn fi J e b : Nat) (hk : 70 ≤ k) (hsz : sz ≤ 9223372036854775808) (hA : AtFork lv ix sz inn fi J e b) : Fork k lv ix sz inn fi b e (rn (sz % 2 ^ J) e) (rn b 0) := by
  have hJ := hA.hJ
  have hJ63 := hA.J63
  have hpJ := Nat.two_pow_pos J
  have hs := hA.split
  have hle := hA.e_le
  have he := hA.he
  have hb := hA.hb
  have hmod : sz % 2 ^ J < 2 ^ J := Nat.mod_lt _ hpJ
  have hbe : e = b + 2 ^ J := by rw [he, hb, Nat.add_mul, Nat.one_mul]
  have hszlv : sz / 2 ^ lv ≤ sz := Nat.div_le_self _ _
  have hlt := hA.lt
  have hx : ix ^^^ sz / 2 ^ lv < 2 ^ 64 := Nat.xor_lt_two_pow (by omega) (by omega)
  have hfb : fi ≤ b := by rw [hb]; exact Nat.le_mul_of_pos_right _ hpJ
  obtain ⟨k, rfl⟩ : ∃ m, k = m + 1 := ⟨k - 1, by omega⟩
  have hpcb : pc b ≤ 63 := pc_le 63 b (by omega)
  have hpcm : pc (sz % 2 ^ J) ≤ 63 := pc_le 63 _ (Nat.lt_of_lt_of_le hmod (Nat.pow_le_pow_right (by omega) hJ63))
  have hdec0 : compact_Decompose.f (k + 1) 0 (b : Int) = some (0, (b : Int)) := by rw [compact_Decompose.f, if_pos rfl]
  have hdec := decompose_fork (k + 1) lv ix sz inn fi J e b hk hsz hA
  have z0 : (0 : Int) = ((0 : Nat) : Int) := Int.natCast_zero.symm
  have hrs := rsz k
  have hrn : ∀ (a : Int) (c d s : Nat) (l : List S69), compact_Decompose.f (k + 1) a (d : Int) = some (0, (c : Int)) → a = (s : Int) → pc c ≤ 63 → c + s ≤ 9223372036854775808 → l.length ≤ 1000 → compact_RangeNodes.f (k + 1) a (d : Int) l = some (l ++ rn c s) := by
    intro a c d s l h hs hp hc hl
    simp only [compact_RangeNodes.f, h, Option.bind_some]
    rw [hs, compact_RangeNodes.l0, if_pos rfl, rangeNodes_l1 63 k c s l hp (by omega) hc (by omega)]
  refine ⟨by omega, by omega, by omega, by omega, by omega, ⟨_, rfl, ?_⟩, hA.fidx, ?_, ?_, ?_, ?_, ?_, ?_, ?_⟩
  · have e1 : (sz : Int) / 2 ^ lv = ((sz / 2 ^ lv : Nat) : Int) := by simp
    rw [e1, bits_xor_u64_nat _ _ (by omega) (by omega), len64_some k _ (by omega), blen_pos (xor_ne_zero (Nat.ne_of_lt hlt)), hA.len]
    rfl
  · have e0 : (lv : Int) + (inn : Int) = (J : Int) := by omega
    have e2 : IntKind.u64.wrap ((fi : Int) + 1) = ((fi + 1 : Nat) : Int) := by rw [IntKind.wrap_u64]; omega
    rw [compact_NodeID_Coverage.f, e0, if_pos (by omega), e2, shl_nat fi J (by omega) (by omega), shl_nat (fi + 1) J (by omega) (by omega), he, hb]
  · rw [hrs 0 b b hdec0 (by omega) hpcb, rn_length]
  · rw [hrs e _ sz hdec (by omega) hpcm, rn_length]
  · exact fun l hl => hrn e _ sz e l hdec rfl hpcm (by omega) hl
  · exact fun l hl => hrn 0 b b 0 l hdec0 z0 hpcb (by omega) hl
  · rw [rn_length]; omega
  · rw [rn_length]; omega
end Go.Proofs.YtdjfagknffknjaaFmt.H
end

section
namespace Go.Proofs.YtdjfagknffknjaaFmt.H
open Go.RowKit Go.Extern.Stop Go.Stop Go.Extern Go.Proofs.YtdjfagknffknjaaFmtW.PrintWords Go.Proofs.YtdjfagknffknjaaFmtW.PrintLast Go.Proofs.YtdjfagknffknjaaFmtW.PrintMore Go.Proofs.YtdjfagknffknjaaFmt.Q
/-- A bit. -/
def bitB (i t : Nat) : Bool := decide (i / 2 ^ t % 2 = 1)
/-- From the node of level lv over leaf i up to the root of n leaves: whether it is a right child, from below. -/
def dirs (lv i n : Nat) : List Bool :=
  if _h : n ≤ 2 ^ lv then [] else if i < splitN n then dirs lv i (splitN n) ++ [false] else dirs lv (i - splitN n) (n - splitN n) ++ [true]
termination_by n
decreasing_by
  all_goals have h2 := Nat.two_pow_pos lv
  · exact splitN_lt (by omega)
  · have := splitN_pos n; omega
theorem dirs_nil {lv i n : Nat} (h : n ≤ 2 ^ lv) : dirs lv i n = [] := by rw [dirs, dif_pos h]
theorem dirs_left {lv i n : Nat} (h : 2 ^ lv < n) (hi : i < splitN n) : dirs lv i n = dirs lv i (splitN n) ++ [false] := by rw [dirs, dif_neg (by omega), if_pos hi]
theorem dirs_right {lv i n : Nat} (h : 2 ^ lv < n) (hi : ¬ i < splitN n) : dirs lv i n = dirs lv (i - splitN n) (n - splitN n) ++ [true] := by rw [dirs, dif_neg (by omega), if_neg hi]
theorem splitN_pow (j : Nat) : splitN (2 ^ (j + 1)) = 2 ^ j := splitN_unique (by rw [Nat.pow_succ]; have := Nat.two_pow_pos j; omega) (Nat.le_refl _)
theorem bit_sub {i j t : Nat} (ht : t < j) (h : 2 ^ j ≤ i) : (i - 2 ^ j) / 2 ^ t % 2 = i / 2 ^ t % 2 := by
  obtain ⟨d, rfl⟩ : ∃ d, j = t + (d + 1) := ⟨j - t - 1, by omega⟩
  obtain ⟨r, rfl⟩ : ∃ r, i = r + 2 ^ (t + (d + 1)) := ⟨i - 2 ^ (t + (d + 1)), by omega⟩
  rw [Nat.add_sub_cancel, Nat.pow_add, Nat.add_mul_div_left _ _ (Nat.two_pow_pos t), Nat.pow_succ]
  omega
theorem bit_top {i j : Nat} (h1 : 2 ^ j ≤ i) (h2 : i < 2 ^ (j + 1)) : i / 2 ^ j = 1 := by
  rw [Nat.pow_succ] at h2
  rw [Nat.div_eq_iff (by have := Nat.two_pow_pos j; omega)]
  omega
theorem map_snoc {β : Type} (f : Nat → β) (n : Nat) : (List.range (n + 1)).map f = (List.range n).map f ++ [f n] := by rw [List.range_succ, List.map_append]; rfl
theorem map_same {β : Type} {f g : Nat → β} {n : Nat} (h : ∀ t, t < n → f t = g t) : (List.range n).map f = (List.range n).map g := by
  apply List.map_congr_left
  intro t ht
  exact h t (List.mem_range.1 ht)
theorem dirs_perfect (lv : Nat) (d : Nat) : ∀ i, i < 2 ^ (lv + d) → dirs lv i (2 ^ (lv + d)) = (List.range d).map fun t => bitB i (lv + t) := by
  induction d with
  | zero => intro i _; exact dirs_nil (n := 2 ^ lv) (Nat.le_refl _)
  | succ d ih =>
    intro i hi
    have hlt : 2 ^ lv < 2 ^ (lv + (d + 1)) := Nat.pow_lt_pow_right (by decide) (by omega)
    have hsp : splitN (2 ^ (lv + (d + 1))) = 2 ^ (lv + d) := splitN_pow (lv + d)
    have hpow : 2 ^ (lv + (d + 1)) = 2 ^ (lv + d) * 2 := Nat.pow_succ ..
    by_cases h : i < 2 ^ (lv + d)
    · rw [dirs_left hlt (by rw [hsp]; exact h), hsp, ih i h, map_snoc]
      congr 2
      have : i / 2 ^ (lv + d) = 0 := Nat.div_eq_of_lt h
      simp [bitB, this]
    · rw [dirs_right hlt (by rw [hsp]; exact h), hsp, map_snoc, show 2 ^ (lv + (d + 1)) - 2 ^ (lv + d) = 2 ^ (lv + d) by omega, ih (i - 2 ^ (lv + d)) (by omega)]
      congr 1
      · apply map_same
        intro t ht
        unfold bitB
        rw [bit_sub (by omega) (by omega)]
      · have := bit_top (i := i) (j := lv + d) (by omega) hi
        simp [bitB, this]
/-- The two numbers' highest difference, when the smaller one lacks the other one's highest bit. -/
theorem dirs_bits (lv : Nat) : ∀ n i, i < n → (lv = 0 ∨ (2 ^ lv ∣ i + 1 ∧ i + 1 < n)) →
    dirs lv i n = ((List.range (blen (i ^^^ (n - 1)) - lv)).map fun t => bitB i (lv + t)) ++ List.replicate (pc (i / 2 ^ blen (i ^^^ (n - 1)))) true := by
  intro n
  induction n using Nat.strongRecOn with
  | _ n ih =>
  intro i hi hc
  have hplv := Nat.two_pow_pos lv
  by_cases hn : n ≤ 2 ^ lv
  · rcases hc with rfl | ⟨h1, h2⟩
    · obtain rfl : n = 1 := by omega
      obtain rfl : i = 0 := by omega
      rw [dirs_nil hn]
      simp [blen, pc_zero]
    · have := Nat.le_of_dvd (by omega) h1
      omega
  · have h2n : 2 ≤ n := by omega
    obtain ⟨j, hj⟩ : ∃ j, j = (n - 1).log2 := ⟨_, rfl⟩
    have hsp : splitN n = 2 ^ j := by rw [hj]; rfl
    have hpj := Nat.two_pow_pos j
    have hl1 : 2 ^ j ≤ n - 1 := by rw [hj]; exact Nat.log2_self_le (by omega)
    have hl2 : n - 1 < 2 ^ (j + 1) := by rw [hj]; exact Nat.lt_log2_self
    have hlvj : lv ≤ j := by
      have := (Nat.le_log2 (n := n - 1) (k := lv) (by omega)).2 (by omega)
      omega
    by_cases hlt : i < 2 ^ j
    · have htop : (i ^^^ (n - 1)).log2 = j := xor_log2 (by rw [bit_top hl1 hl2, Nat.div_eq_of_lt hlt]) (by rw [Nat.div_eq_of_lt hlt])
      have hb : blen (i ^^^ (n - 1)) = j + 1 := by rw [blen_pos (xor_ne_zero (by omega)), htop]
      obtain ⟨d, rfl⟩ : ∃ d, j = lv + d := ⟨j - lv, by omega⟩
      have hz : i / 2 ^ (lv + d + 1) = 0 := Nat.div_eq_of_lt (by omega)
      rw [dirs_left (by omega) (by rw [hsp]; exact hlt), hsp, dirs_perfect lv d i hlt, hb, hz, pc_zero, show lv + d + 1 - lv = d + 1 by omega, map_snoc]
      have : i / 2 ^ (lv + d) = 0 := Nat.div_eq_of_lt hlt
      simp [bitB, this]
    · obtain ⟨i', hi'⟩ : ∃ i', i = 2 ^ j + i' := ⟨i - 2 ^ j, by omega⟩
      obtain ⟨m', hm'⟩ : ∃ m', n - 1 = 2 ^ j + m' := ⟨n - 1 - 2 ^ j, by omega⟩
      rw [Nat.pow_succ] at hl2
      have hi2 : i' < 2 ^ j := by omega
      have hm2 : m' < 2 ^ j := by omega
      have hx : i ^^^ (n - 1) = i' ^^^ m' := by
        have := xor_split j 1 i' 1 m' hi2 hm2
        rw [Nat.mul_one, Nat.xor_self, Nat.mul_zero, Nat.zero_add] at this
        rw [hi', hm', this]
      have hbj : blen (i' ^^^ m') ≤ j := blen_le j _ (Nat.xor_lt_two_pow hi2 hm2)
      have e1 : n - 2 ^ j - 1 = m' := by omega
      have e2 : i - 2 ^ j = i' := by omega
      have hc' : lv = 0 ∨ (2 ^ lv ∣ i' + 1 ∧ i' + 1 < n - 2 ^ j) := by
        rcases hc with h | ⟨h3, h4⟩
        · exact .inl h
        · refine .inr ⟨?_, by omega⟩
          have hd : 2 ^ lv ∣ 2 ^ j := Nat.pow_dvd_pow 2 hlvj
          have h5 : i + 1 = 2 ^ j + (i' + 1) := by omega
          rw [h5] at h3
          exact (Nat.dvd_add_right hd).1 h3
      have := ih (n - 2 ^ j) (by omega) i' (by omega) hc'
      rw [e1] at this
      rw [dirs_right (by omega) (by rw [hsp]; exact hlt), hsp, e2, this, hx]
      obtain ⟨v, hv⟩ : ∃ v, v = blen (i' ^^^ m') := ⟨_, rfl⟩
      rw [← hv] at hbj ⊢
      have hpc : pc (i / 2 ^ v) = pc (i' / 2 ^ v) + 1 := by
        obtain ⟨d, rfl⟩ : ∃ d, j = v + d := ⟨j - v, by omega⟩
        have hdv : i / 2 ^ v = 2 ^ d + i' / 2 ^ v := by
          rw [hi', Nat.pow_add, Nat.add_comm, Nat.add_mul_div_left _ _ (Nat.two_pow_pos v), Nat.add_comm]
        have hlt2 : i' / 2 ^ v < 2 ^ d := by
          rw [Nat.div_lt_iff_lt_mul (Nat.two_pow_pos v), Nat.mul_comm, ← Nat.pow_add]
          exact hi2
        rw [hdv, pc_add hlt2, Nat.add_comm]
      rw [hpc, List.append_assoc]
      congr 1
      · apply map_same
        intro t ht
        unfold bitB
        rw [← e2, bit_sub (by omega) (by omega)]
      · rw [← List.replicate_succ', Nat.add_comm]
end Go.Proofs.YtdjfagknffknjaaFmt.H
end

section
namespace Go.Proofs.YtdjfagknffknjaaFmt.H
open Go.RowKit Go.Extern.Stop Go.Stop Go.Extern Go.Proofs.YtdjfagknffknjaaFmtW.PrintWords Go.Proofs.YtdjfagknffknjaaFmtW.PrintLast Go.Proofs.YtdjfagknffknjaaFmtW.PrintMore Go.Proofs.YtdjfagknffknjaaFmt.Q
/-- One step up: from the right by the hash, from the left by g. -/
def stepG (A B C : Int) (g : List Int → List Int → List Int) (s : List Int) (x : List Int × Bool) : List Int := if x.2 = true then hc A B C x.1 s else g s x.1
/-- All steps. -/
def foldG (A B C : Int) (g : List Int → List Int → List Int) (s : List Int) (ps : List (List Int)) (ds : List Bool) : List Int := (ps.zip ds).foldl (stepG A B C g) s
theorem foldG_snoc (A B C : Int) (g : List Int → List Int → List Int) (s : List Int) (ps : List (List Int)) (ds : List Bool) (x : List Int) (d : Bool) (h : ps.length = ds.length) :
    foldG A B C g s (ps ++ [x]) (ds ++ [d]) = stepG A B C g (foldG A B C g s ps ds) (x, d) := by
  unfold foldG
  rw [List.zip_append h, List.foldl_append]
  rfl
theorem snoc_of {α : Type} {ps : List α} {n : Nat} (h : ps.length = n + 1) : ∃ qs x, ps = qs ++ [x] ∧ qs.length = n := by
  have hne : ps ≠ [] := fun e => by subst e; simp at h
  exact ⟨ps.dropLast, ps.getLast hne, (List.dropLast_concat_getLast hne).symm, by simp [h]⟩
theorem last_snoc {qs : List (List Int)} {x : List Int} : (qs ++ [x]).getD ((qs ++ [x]).length - 1) [] = x := by simp [List.getD_eq_getElem?_getD]
theorem rootOf_fold (A B C : Int) (leaf : List Int) : ∀ n i ps, 1 ≤ n → i < n → ps.length = (dirs 0 i n).length → rootOf A B C i n leaf ps = foldG A B C (fun s p => hc A B C s p) leaf ps (dirs 0 i n) := by
  intro n
  induction n using Nat.strongRecOn with
  | _ n ih =>
  intro i ps h1 hi hl
  by_cases hn : n = 1
  · subst hn
    rw [dirs_nil (by decide)] at hl ⊢
    obtain rfl := List.eq_nil_of_length_eq_zero hl
    rw [rootOf_one]; rfl
  · have h2 : 2 ≤ n := by omega
    have hlt : 2 ^ 0 < n := by omega
    have hs := splitN_lt h2
    have hp := splitN_pos n
    by_cases h : i < splitN n
    · rw [dirs_left hlt h] at hl ⊢
      rw [List.length_append, List.length_singleton] at hl
      obtain ⟨qs, x, rfl, hq⟩ := snoc_of hl
      rw [rootOf_left A B C i n leaf _ h2 (by simp) h, foldG_snoc _ _ _ _ _ _ _ _ _ hq, last_snoc, List.dropLast_concat, ih _ hs i qs (by omega) h hq]
      rfl
    · rw [dirs_right hlt h] at hl ⊢
      rw [List.length_append, List.length_singleton] at hl
      obtain ⟨qs, x, rfl, hq⟩ := snoc_of hl
      rw [rootOf_right A B C i n leaf _ h2 (by simp) h, foldG_snoc _ _ _ _ _ _ _ _ _ hq, last_snoc, List.dropLast_concat, ih _ (by omega) (i - splitN n) qs (by omega) (by omega) hq]
      rfl
theorem rootsOf_pow (A B C : Int) (r1 : List Int) (lv : Nat) : ∀ n ps, 2 ^ lv ≤ n → ps.length = (dirs lv (2 ^ lv - 1) n).length →
    rootsOf A B C (2 ^ lv) n ps r1 true = (r1, foldG A B C (fun s p => hc A B C s p) r1 ps (dirs lv (2 ^ lv - 1) n)) := by
  intro n
  have hpl := Nat.two_pow_pos lv
  induction n using Nat.strongRecOn with
  | _ n ih =>
  intro ps h1 hl
  by_cases hn : n = 2 ^ lv
  · subst hn
    rw [dirs_nil (Nat.le_refl _)] at hl ⊢
    obtain rfl := List.eq_nil_of_length_eq_zero hl
    rw [rootsOf_whole]; rfl
  · have hlt : 2 ^ lv < n := by omega
    have h2 : 2 ≤ n := by omega
    have hs := splitN_lt h2
    have hk : 2 ^ lv ≤ splitN n := by
      have := (Nat.le_log2 (n := n - 1) (k := lv) (by omega)).2 (by omega)
      exact Nat.pow_le_pow_right (by decide) this
    rw [dirs_left hlt (by omega)] at hl ⊢
    rw [List.length_append, List.length_singleton] at hl
    obtain ⟨qs, x, rfl, hq⟩ := snoc_of hl
    rw [rootsOf_left A B C _ n _ r1 true (by omega) hlt (by simp) hk, foldG_snoc _ _ _ _ _ _ _ _ _ hq, last_snoc, List.dropLast_concat, ih _ hs qs hk hq]
    rfl
theorem odd_pow {lv j : Nat} (h : 2 ^ j / 2 ^ lv % 2 = 1) : j = lv := by
  rcases Nat.lt_trichotomy j lv with h1 | h1 | h1
  · rw [Nat.div_eq_of_lt (Nat.pow_lt_pow_right (by decide) h1)] at h
    omega
  · exact h1
  · obtain ⟨d, rfl⟩ : ∃ d, j = lv + (d + 1) := ⟨j - lv - 1, by omega⟩
    rw [Nat.pow_add, Nat.mul_div_cancel_left _ (Nat.two_pow_pos lv), Nat.pow_succ] at h
    omega
theorem rootsOf_part' (A B C : Int) (lv : Nat) : ∀ n m whole seed qs r1, 2 ^ lv ∣ m → m / 2 ^ lv % 2 = 1 → (whole = false ∨ m ≠ 2 ^ lv) → (m < n ∨ (m = n ∧ m = 2 ^ lv)) → qs.length = (dirs lv (m - 1) n).length →
    rootsOf A B C m n (seed :: qs) r1 whole = (foldG A B C (fun s _ => s) seed qs (dirs lv (m - 1) n), foldG A B C (fun s p => hc A B C s p) seed qs (dirs lv (m - 1) n)) := by
  intro n
  have hpl := Nat.two_pow_pos lv
  induction n using Nat.strongRecOn with
  | _ n ih =>
  intro m whole seed qs r1 hd hodd hw hmn hl
  have hm1 : 2 ^ lv ≤ m := by
    rcases Nat.lt_or_ge m (2 ^ lv) with h | h
    · rw [Nat.div_eq_of_lt h] at hodd; omega
    · exact h
  rcases hmn with hlt | ⟨rfl, hm⟩
  · have h2 : 2 ≤ n := by omega
    have hs := splitN_lt h2
    have hlv : 2 ^ lv < n := by omega
    by_cases hk : m ≤ splitN n
    · rw [dirs_left hlv (by omega)] at hl ⊢
      rw [List.length_append, List.length_singleton] at hl
      obtain ⟨qs', x, rfl, hq⟩ := snoc_of hl
      have hmk : m < splitN n ∨ (m = splitN n ∧ m = 2 ^ lv) := by
        rcases Nat.lt_or_ge m (splitN n) with h | h
        · exact .inl h
        · have he : m = splitN n := by omega
          refine .inr ⟨he, ?_⟩
          have he2 : m = 2 ^ (n - 1).log2 := he
          rw [he2] at hodd ⊢
          rw [odd_pow hodd]
      rw [← List.cons_append, rootsOf_left A B C m n _ r1 whole (by omega) hlt (by simp) hk, foldG_snoc _ _ _ _ _ _ _ _ _ hq, foldG_snoc _ _ _ _ _ _ _ _ _ hq, last_snoc, List.dropLast_concat, ih _ hs m whole seed qs' r1 hd hodd hw hmk hq]
      rfl
    · rw [dirs_right hlv (by omega)] at hl ⊢
      rw [List.length_append, List.length_singleton] at hl
      obtain ⟨qs', x, rfl, hq⟩ := snoc_of hl
      have hp := splitN_pos n
      have hge := splitN_ge h2
      obtain ⟨j, hj⟩ : ∃ j, splitN n = 2 ^ j := ⟨_, rfl⟩
      have hmk : m - splitN n < 2 ^ j := by omega
      have hlvj : lv ≤ j := by
        rcases Nat.lt_or_ge j lv with h | h
        · have h3 : 2 ^ (j + 1) ≤ 2 ^ lv := Nat.pow_le_pow_right (by decide) h
          rw [Nat.pow_succ] at h3
          omega
        · exact h
      have hdk : 2 ^ lv ∣ splitN n := by rw [hj]; exact Nat.pow_dvd_pow 2 hlvj
      have hd' : 2 ^ lv ∣ m - splitN n := Nat.dvd_sub hd hdk
      have hlvj2 : lv < j := by
        have h4 := Nat.le_of_dvd (by omega) hd'
        rcases Nat.lt_or_ge lv j with h | h
        · exact h
        · have : 2 ^ j ≤ 2 ^ lv := Nat.pow_le_pow_right (by decide) h
          omega
      have hodd' : (m - splitN n) / 2 ^ lv % 2 = 1 := by rw [hj, bit_sub hlvj2 (by omega)]; exact hodd
      have hi : m - 1 - splitN n = m - splitN n - 1 := by omega
      rw [hi] at hq ⊢
      rw [← List.cons_append, rootsOf_right A B C m n _ r1 whole (by omega) hlt (by simp) hk, foldG_snoc _ _ _ _ _ _ _ _ _ hq, foldG_snoc _ _ _ _ _ _ _ _ _ hq, last_snoc, List.dropLast_concat, ih _ (by omega) (m - splitN n) false seed qs' r1 hd' hodd' (.inl rfl) (.inl (by omega)) hq]
      rfl
  · rw [dirs_nil (Nat.le_of_eq hm)] at hl ⊢
    obtain rfl := List.eq_nil_of_length_eq_zero hl
    rcases hw with rfl | hw
    · rw [rootsOf_part]; rfl
    · exact absurd hm hw
/-- The chain by the bits of a number. -/
def chain (A B C : Int) (g : List Int → List Int → List Int) (idx : Nat) (ps : List (List Int)) (seed : List Int) : Nat → List Int
  | 0 => seed
  | k + 1 => if idx / 2 ^ k % 2 = 1 then hc A B C (ps.getD k []) (chain A B C g idx ps seed k) else g (chain A B C g idx ps seed k) (ps.getD k [])
theorem inner_chain (A B C : Int) (idx : Nat) (ps : List (List Int)) (seed : List Int) (k : Nat) : innerN A B C idx ps seed k = chain A B C (fun s p => hc A B C s p) idx ps seed k := by
  induction k with
  | zero => rfl
  | succ k ih =>
    rw [innerN, chain, ih]
    by_cases h : idx / 2 ^ k % 2 = 0
    · rw [if_pos h, if_neg (by omega)]
    · rw [if_neg h, if_pos (by omega)]
theorem right_chain (A B C : Int) (idx : Nat) (ps : List (List Int)) (seed : List Int) (k : Nat) : rightN A B C idx ps seed k = chain A B C (fun s _ => s) idx ps seed k := by
  induction k with
  | zero => rfl
  | succ k ih => rw [rightN, chain, ih]
theorem fold_bits (A B C : Int) (g : List Int → List Int → List Int) (idx lv : Nat) (ps : List (List Int)) (seed : List Int) (k : Nat) (hk : k ≤ ps.length) :
    foldG A B C g seed (ps.take k) ((List.range k).map fun t => bitB idx (lv + t)) = chain A B C g (idx / 2 ^ lv) ps seed k := by
  induction k with
  | zero => rfl
  | succ k ih =>
    have hlt : k < ps.length := hk
    rw [List.take_succ_eq_append_getElem hlt, map_snoc, foldG_snoc _ _ _ _ _ _ _ _ _ (by simp; omega), ih (by omega), chain]
    have e : bitB idx (lv + k) = decide (idx / 2 ^ lv / 2 ^ k % 2 = 1) := by unfold bitB; rw [Nat.pow_add, Nat.div_div_eq_div_mul]
    have e2 : ps.getD k [] = ps[k] := by simp [List.getD_eq_getElem?_getD, hlt]
    rw [e, e2]
    by_cases h : idx / 2 ^ lv / 2 ^ k % 2 = 1
    · simp [stepG, h]
    · simp [stepG, h]
theorem fold_true (A B C : Int) (g : List Int → List Int → List Int) (qs : List (List Int)) : ∀ s, foldG A B C g s qs (List.replicate qs.length true) = qs.foldl (fun s p => hc A B C p s) s := by
  induction qs with
  | nil => intro s; rfl
  | cons x t ih => intro s; exact ih _
theorem chain_take (A B C : Int) (g : List Int → List Int → List Int) (idx : Nat) (ps : List (List Int)) (seed : List Int) (n k : Nat) (h : k ≤ n) : chain A B C g idx (ps.take n) seed k = chain A B C g idx ps seed k := by
  induction k with
  | zero => rfl
  | succ k ih =>
    have e : (ps.take n).getD k [] = ps.getD k [] := by simp [List.getD_eq_getElem?_getD, show k < n by omega]
    rw [chain, chain, ih (by omega), e]
theorem fold_ways (A B C : Int) (g : List Int → List Int → List Int) (idx lv n b : Nat) (qs : List (List Int)) (seed : List Int) (h : qs.length = n + b) :
    foldG A B C g seed qs (((List.range n).map fun t => bitB idx (lv + t)) ++ List.replicate b true) = (qs.drop n).foldl (fun s p => hc A B C p s) (chain A B C g (idx / 2 ^ lv) (qs.take n) seed n) := by
  have e : qs.zip (((List.range n).map fun t => bitB idx (lv + t)) ++ List.replicate b true) = (qs.take n).zip ((List.range n).map fun t => bitB idx (lv + t)) ++ (qs.drop n).zip (List.replicate b true) := by
    conv => lhs; rw [← List.take_append_drop n qs]
    rw [List.zip_append (by simp; omega)]
  have hb : (qs.drop n).length = b := by simp; omega
  have h1 := fold_bits A B C g idx lv qs seed n (by omega)
  have h2 := fold_true A B C g (qs.drop n) (chain A B C g (idx / 2 ^ lv) qs seed n)
  rw [hb] at h2
  unfold foldG at h1 h2 ⊢
  rw [e, List.foldl_append, h1, h2, chain_take _ _ _ _ _ _ _ _ _ (Nat.le_refl n)]
end Go.Proofs.YtdjfagknffknjaaFmt.H
end
