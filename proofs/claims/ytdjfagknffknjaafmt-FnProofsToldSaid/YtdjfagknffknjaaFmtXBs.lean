/- The rows of leaves of a proof and what the reference computes of nodes and rows; conditions: they end by 2^63. -/
import Derived.Test.YtdjfagknffknjaaFmtXP
import Derived.Test.YtdjfagknffknjaaFmtXBa

section
namespace Go.Proofs.YtdjfagknffknjaaFmt.H
open Go.RowKit Go.Extern.Stop Go.Stop Go.Extern Go.Proofs.YtdjfagknffknjaaFmtW.PrintWords Go.Proofs.YtdjfagknffknjaaFmtW.PrintLast Go.Proofs.YtdjfagknffknjaaFmtW.PrintMore Go.Proofs.YtdjfagknffknjaaFmt.Q
/-- A row of leaves. -/
def spn (a b : Nat) : S60 := ⟨(a : Int), (b : Int)⟩
/-- The rows beside the way from the node of level lv over leaf i, from below, among n leaves from fr on. -/
def gS (lv fr i n : Nat) : List S60 :=
  if _h : n ≤ 2 ^ lv then [] else if i < splitN n then gS lv fr i (splitN n) ++ [spn (fr + splitN n) (fr + n)] else gS lv (fr + splitN n) (i - splitN n) (n - splitN n) ++ [spn fr (fr + splitN n)]
termination_by n
decreasing_by
  all_goals have h2 := Nat.two_pow_pos lv
  · exact splitN_lt (by omega)
  · have := splitN_pos n; omega
theorem gS_nil {lv fr i n : Nat} (h : n ≤ 2 ^ lv) : gS lv fr i n = [] := by rw [gS, dif_pos h]
theorem gS_left {lv fr i n : Nat} (h : 2 ^ lv < n) (hi : i < splitN n) : gS lv fr i n = gS lv fr i (splitN n) ++ [spn (fr + splitN n) (fr + n)] := by rw [gS, dif_neg (by omega), if_pos hi]
theorem gS_right {lv fr i n : Nat} (h : 2 ^ lv < n) (hi : ¬ i < splitN n) : gS lv fr i n = gS lv (fr + splitN n) (i - splitN n) (n - splitN n) ++ [spn fr (fr + splitN n)] := by rw [gS, dif_neg (by omega), if_neg hi]
theorem split_k (k n : Nat) (hk : 64 ≤ k) (hn : 2 ≤ n) (hn2 : n ≤ 9223372036854775808) : spec_Split.f k (n : Int) = some ((splitN n : Nat) : Int) :=
  split_from n hn hn2 63 k 0 rfl (by omega) (by omega)
theorem split_half {n d : Nat} (h2 : 2 ≤ n) (h : n ≤ 2 ^ (d + 1)) : splitN n ≤ 2 ^ d ∧ n - splitN n ≤ 2 ^ d := by
  have h1 : (n - 1).log2 < d + 1 := (Nat.log2_lt (by omega)).2 (by omega)
  have h3 : splitN n ≤ 2 ^ d := Nat.pow_le_pow_right (by decide) (by omega)
  have := splitN_ge h2
  exact ⟨h3, by omega⟩
theorem gS_length (lv d : Nat) : ∀ fr i n, n ≤ 2 ^ d → (gS lv fr i n).length ≤ d := by
  induction d with
  | zero => intro fr i n h; rw [gS_nil (Nat.le_trans h (Nat.pow_le_pow_right (by decide) (Nat.zero_le _)))]; simp
  | succ d ih =>
    intro fr i n h
    by_cases hn : n ≤ 2 ^ lv
    · rw [gS_nil hn]; simp
    · have hp := Nat.two_pow_pos lv
      obtain ⟨h1, h2⟩ := split_half (by omega) h
      by_cases hi : i < splitN n
      · rw [gS_left (by omega) hi, List.length_append, List.length_singleton]
        have := ih fr i _ h1
        omega
      · rw [gS_right (by omega) hi, List.length_append, List.length_singleton]
        have := ih (fr + splitN n) (i - splitN n) _ h2
        omega
theorem wrap_add {a b : Nat} (h : a + b ≤ 9223372036854775808) : IntKind.u64.wrap ((a : Int) + (b : Int)) = ((a + b : Nat) : Int) := by rw [IntKind.wrap_u64]; omega
theorem wrap_sub {a b : Nat} (h : b ≤ a) (ha : a ≤ 9223372036854775808) : IntKind.u64.wrap ((a : Int) - (b : Int)) = ((a - b : Nat) : Int) := by rw [IntKind.wrap_u64]; omega
theorem pathSpans_some (d : Nat) : ∀ k fr i n : Nat, 1 ≤ n → i < n → n ≤ 2 ^ d → d + 66 ≤ k → d ≤ 64 → fr + n ≤ 9223372036854775808 → spec_PathSpans.f k (i : Int) (fr : Int) (n : Int) = some (gS 0 fr i n) := by
  induction d with
  | zero =>
    intro k fr i n h1 hi hn hk _ _
    obtain ⟨k, rfl⟩ : ∃ m, k = m + 1 := ⟨k - 1, by omega⟩
    obtain rfl : n = 1 := by omega
    rw [gS_nil (Nat.le_refl _), spec_PathSpans.f, if_pos (by rfl)]
  | succ d ih =>
    intro k fr i n h1 hi hn hk hd hs
    obtain ⟨k, rfl⟩ : ∃ m, k = m + 1 := ⟨k - 1, by omega⟩
    by_cases h : n = 1
    · subst h
      rw [gS_nil (Nat.le_refl _), spec_PathSpans.f, if_pos (by rfl)]
    · have h2 : 2 ≤ n := by omega
      obtain ⟨q1, q2⟩ := split_half h2 hn
      have hl := splitN_lt h2
      have hp := splitN_pos n
      rw [spec_PathSpans.f, if_neg (by omega), split_k k n (by omega) h2 (by omega)]
      simp only [Option.bind_some]
      by_cases hlt : i < splitN n
      · have hlen := gS_length 0 d fr i _ q1
        rw [if_pos (by omega), ih k fr i (splitN n) hp hlt q1 (by omega) (by omega) (by omega), gS_left (by omega) hlt, wrap_add (by omega), wrap_add (by omega)]
        simp only [Option.bind_some]
        rw [if_pos (by omega)]
        rfl
      · have hlen := gS_length 0 d (fr + splitN n) (i - splitN n) _ q2
        rw [if_neg (by omega), wrap_sub (by omega) (by omega), wrap_add (by omega), wrap_sub (by omega) (by omega), ih k (fr + splitN n) (i - splitN n) (n - splitN n) (by omega) (by omega) q2 (by omega) (by omega) (by omega), gS_right (by omega) hlt]
        simp only [Option.bind_some]
        rw [if_pos (by omega)]
        rfl
/-- The row that comes first where the first root is not given. -/
def headS (lv fr m : Nat) (whole : Bool) : List S60 := if whole = true ∧ m = 2 ^ lv then [] else [spn (fr + m - 2 ^ lv) (fr + m)]
theorem headS_le (lv fr m : Nat) (whole : Bool) : (headS lv fr m whole).length ≤ 1 := by unfold headS; split <;> simp
theorem proofSpans_some (lv d : Nat) : ∀ (k fr m n : Nat) (whole : Bool), 2 ^ lv ∣ m → m / 2 ^ lv % 2 = 1 → (m < n ∨ (m = n ∧ m = 2 ^ lv)) → n ≤ 2 ^ d → d + 66 ≤ k → d ≤ 64 → fr + n ≤ 9223372036854775808 →
    spec_ProofSpans.f k (m : Int) (fr : Int) (n : Int) whole = some (headS lv fr m whole ++ gS lv fr (m - 1) n) := by
  have hpl := Nat.two_pow_pos lv
  have base : ∀ (k fr m : Nat) (whole : Bool), m = 2 ^ lv → fr + m ≤ 9223372036854775808 → spec_ProofSpans.f (k + 1) (m : Int) (fr : Int) (m : Int) whole = some (headS lv fr m whole ++ gS lv fr (m - 1) m) := by
    intro k fr m whole hm hs
    rw [gS_nil (Nat.le_of_eq hm), List.append_nil, spec_ProofSpans.f, if_pos rfl]
    unfold headS
    cases whole with
    | true => rw [if_pos rfl, if_pos ⟨rfl, hm⟩]
    | false =>
      rw [if_neg (by decide), if_neg (by simp), wrap_add hs]
      have : fr + m - 2 ^ lv = fr := by omega
      rw [this]; rfl
  induction d with
  | zero =>
    intro k fr m n whole hd ho hmn hn hk _ hs
    obtain ⟨k, rfl⟩ : ∃ m, k = m + 1 := ⟨k - 1, by omega⟩
    rcases hmn with h | ⟨rfl, h⟩
    · have : m = 0 := by omega
      subst this
      simp at ho
    · exact base k fr m whole h hs
  | succ d ih =>
    intro k fr m n whole hd ho hmn hn hk hd64 hs
    obtain ⟨k, rfl⟩ : ∃ m, k = m + 1 := ⟨k - 1, by omega⟩
    have hm1 : 2 ^ lv ≤ m := by
      rcases Nat.lt_or_ge m (2 ^ lv) with h | h
      · rw [Nat.div_eq_of_lt h] at ho; omega
      · exact h
    rcases hmn with hlt | ⟨rfl, h⟩
    · have h2 : 2 ≤ n := by omega
      have hlv : 2 ^ lv < n := by omega
      obtain ⟨q1, q2⟩ := split_half h2 hn
      have hl := splitN_lt h2
      have hp := splitN_pos n
      have hge := splitN_ge h2
      rw [spec_ProofSpans.f, if_neg (by omega), split_k k n (by omega) h2 (by omega)]
      simp only [Option.bind_some]
      by_cases hk2 : m ≤ splitN n
      · have hmk : m < splitN n ∨ (m = splitN n ∧ m = 2 ^ lv) := by
          rcases Nat.lt_or_ge m (splitN n) with h | h
          · exact .inl h
          · have he : m = splitN n := by omega
            refine .inr ⟨he, ?_⟩
            have he2 : m = 2 ^ (n - 1).log2 := he
            rw [he2] at ho ⊢
            rw [odd_pow ho]
        have hlen := gS_length lv d fr (m - 1) _ q1
        have hh := headS_le lv fr m whole
        rw [if_pos (by omega), ih k fr m (splitN n) whole hd ho hmk q1 (by omega) (by omega) (by omega), gS_left hlv (by omega), wrap_add (by omega), wrap_add (by omega)]
        simp only [Option.bind_some]
        rw [if_pos (by rw [List.length_append]; omega), List.append_assoc]
        rfl
      · obtain ⟨j, hj⟩ : ∃ j, splitN n = 2 ^ j := ⟨_, rfl⟩
        have hmk : m - splitN n < 2 ^ j := by omega
        have hlvj : lv ≤ j := by
          rcases Nat.lt_or_ge j lv with h | h
          · have h3 : 2 ^ (j + 1) ≤ 2 ^ lv := Nat.pow_le_pow_right (by decide) h
            rw [Nat.pow_succ] at h3
            omega
          · exact h
        have hdk : 2 ^ lv ∣ splitN n := by rw [hj]; exact Nat.pow_dvd_pow 2 hlvj
        have hd' : 2 ^ lv ∣ m - splitN n := Nat.dvd_sub hd hdk
        have hlvj2 : lv < j := by
          have h4 := Nat.le_of_dvd (by omega) hd'
          rcases Nat.lt_or_ge lv j with h | h
          · exact h
          · have : 2 ^ j ≤ 2 ^ lv := Nat.pow_le_pow_right (by decide) h
            omega
        have ho' : (m - splitN n) / 2 ^ lv % 2 = 1 := by rw [hj, bit_sub hlvj2 (by omega)]; exact ho
        have hi : m - splitN n - 1 = m - 1 - splitN n := by omega
        have hne : m ≠ 2 ^ lv := by
          intro he
          have : 2 ^ lv < 2 ^ j := Nat.pow_lt_pow_right (by decide) hlvj2
          omega
        have hlen := gS_length lv d (fr + splitN n) (m - 1 - splitN n) _ q2
        have hhead : headS lv (fr + splitN n) (m - splitN n) false = headS lv fr m whole := by
          unfold headS
          rw [if_neg (by simp), if_neg (fun h => hne h.2)]
          have e1 : fr + splitN n + (m - splitN n) = fr + m := by omega
          rw [e1]
        have hh := headS_le lv fr m whole
        rw [if_neg (by omega), wrap_sub (by omega) (by omega), wrap_add (by omega), wrap_sub (by omega) (by omega), ih k (fr + splitN n) (m - splitN n) (n - splitN n) false hd' ho' (.inl (by omega)) q2 (by omega) (by omega) (by omega), hhead, hi, gS_right hlv (by omega)]
        simp only [Option.bind_some]
        rw [if_pos (by rw [List.length_append]; omega), List.append_assoc]
        rfl
    · exact base k fr m whole h hs
end Go.Proofs.YtdjfagknffknjaaFmt.H
end

section
namespace Go.Proofs.YtdjfagknffknjaaFmt.H
open Go.RowKit Go.Extern.Stop Go.Stop Go.Extern Go.Proofs.YtdjfagknffknjaaFmtW.PrintWords Go.Proofs.YtdjfagknffknjaaFmtW.PrintLast Go.Proofs.YtdjfagknffknjaaFmtW.PrintMore Go.Proofs.YtdjfagknffknjaaFmt.Q
/-- The row of the sibling of the node of a level over a leaf. -/
def sspan (P L : Nat) : S60 := spn ((P / 2 ^ L ^^^ 1) * 2 ^ L) ((P / 2 ^ L ^^^ 1) * 2 ^ L + 2 ^ L)
theorem sspan_left {fr i L : Nat} (hd : 2 ^ (L + 1) ∣ fr) (hi : i < 2 ^ L) : sspan (fr + i) L = spn (fr + 2 ^ L) (fr + 2 ^ (L + 1)) := by
  obtain ⟨c, rfl⟩ := hd
  have hp := Nat.two_pow_pos L
  have e1 : (2 ^ (L + 1) * c + i) / 2 ^ L = 2 * c := by
    rw [Nat.pow_succ, Nat.mul_assoc, Nat.mul_add_div hp, Nat.div_eq_of_lt hi, Nat.add_zero]
  unfold sspan
  rw [e1, xor_one', if_pos (by omega)]
  have e2 : (2 * c + 1) * 2 ^ L = 2 ^ (L + 1) * c + 2 ^ L := by rw [Nat.pow_succ, Nat.add_mul, Nat.one_mul, Nat.mul_comm 2 c, Nat.mul_assoc, Nat.mul_comm, Nat.mul_comm 2]
  rw [e2, Nat.pow_succ]
  congr 1
  omega
theorem sspan_right {fr i L : Nat} (hd : 2 ^ (L + 1) ∣ fr) (h1 : 2 ^ L ≤ i) (h2 : i < 2 ^ (L + 1)) : sspan (fr + i) L = spn fr (fr + 2 ^ L) := by
  obtain ⟨c, rfl⟩ := hd
  have hp := Nat.two_pow_pos L
  have e1 : (2 ^ (L + 1) * c + i) / 2 ^ L = 2 * c + 1 := by
    rw [Nat.pow_succ, Nat.mul_assoc, Nat.mul_add_div hp, bit_top h1 h2]
  unfold sspan
  rw [e1, xor_one', if_neg (by omega)]
  have e2 : (2 * c + 1 - 1) * 2 ^ L = 2 ^ (L + 1) * c := by rw [Nat.add_sub_cancel, Nat.pow_succ, Nat.mul_comm 2 c, Nat.mul_assoc, Nat.mul_comm, Nat.mul_comm 2]
  rw [e2]
theorem gS_perfect (lv d : Nat) : ∀ fr i, 2 ^ (lv + d) ∣ fr → i < 2 ^ (lv + d) → gS lv fr i (2 ^ (lv + d)) = (List.range d).map fun t => sspan (fr + i) (lv + t) := by
  induction d with
  | zero => intro fr i _ _; exact gS_nil (n := 2 ^ lv) (Nat.le_refl _)
  | succ d ih =>
    intro fr i hd hi
    have hlt : 2 ^ lv < 2 ^ (lv + (d + 1)) := Nat.pow_lt_pow_right (by decide) (by omega)
    have hsp : splitN (2 ^ (lv + (d + 1))) = 2 ^ (lv + d) := splitN_pow (lv + d)
    have hpow : 2 ^ (lv + (d + 1)) = 2 ^ (lv + d) * 2 := Nat.pow_succ ..
    have hd2 : 2 ^ (lv + d) ∣ fr := Nat.dvd_trans ⟨2, hpow⟩ hd
    by_cases h : i < 2 ^ (lv + d)
    · rw [gS_left hlt (by rw [hsp]; exact h), hsp, ih fr i hd2 h, map_snoc, sspan_left (L := lv + d) hd h]
      rfl
    · have e : fr + 2 ^ (lv + d) + (i - 2 ^ (lv + d)) = fr + i := by omega
      rw [gS_right hlt (by rw [hsp]; exact h), hsp, show 2 ^ (lv + (d + 1)) - 2 ^ (lv + d) = 2 ^ (lv + d) by omega, ih (fr + 2 ^ (lv + d)) (i - 2 ^ (lv + d)) (Nat.dvd_add hd2 (Nat.dvd_refl _)) (by omega), e, map_snoc, sspan_right (L := lv + d) hd (by omega) hi]
/-- The rows of the set bits of a number, from the highest on. -/
def rnS (x s : Nat) : List S60 := if _h : x = 0 then [] else spn s (s + 2 ^ x.log2) :: rnS (x - 2 ^ x.log2) (s + 2 ^ x.log2)
termination_by x
decreasing_by have := Nat.two_pow_pos x.log2; omega
theorem rnS_zero (s : Nat) : rnS 0 s = [] := by rw [rnS]; rfl
theorem rnS_add {j r : Nat} (h : r < 2 ^ j) (s : Nat) : rnS (2 ^ j + r) s = spn s (s + 2 ^ j) :: rnS r (s + 2 ^ j) := by
  rw [rnS, dif_neg (by have := Nat.two_pow_pos j; omega), log2_add h, Nat.add_sub_cancel_left]
/-- The row behind the fork, where there is one. -/
def restS (fr n J : Nat) : List S60 := if n % 2 ^ J = 0 then [] else [spn (fr + n / 2 ^ J * 2 ^ J) (fr + n)]
theorem block_div {lv j i : Nat} (h : lv ≤ j) : (2 ^ j + i) / 2 ^ lv = 2 ^ (j - lv) + i / 2 ^ lv := by
  obtain ⟨d, rfl⟩ : ∃ d, j = lv + d := ⟨j - lv, by omega⟩
  rw [Nat.pow_add, Nat.mul_add_div (Nat.two_pow_pos lv), Nat.add_sub_cancel_left]
theorem gS_top (lv : Nat) : ∀ n fr i J c, i < n → n < 2 ^ c → 2 ^ c ∣ fr → i / 2 ^ lv < n / 2 ^ lv → J = (i ^^^ n).log2 →
    lv ≤ J ∧ gS lv fr i n = ((List.range (J - lv)).map fun t => sspan (fr + i) (lv + t)) ++ restS fr n J ++ (rnS (i / 2 ^ J * 2 ^ J) fr).reverse := by
  intro n
  induction n using Nat.strongRecOn with
  | _ n ih =>
  intro fr i J c hi hc hd hblk hJ
  have hpl := Nat.two_pow_pos lv
  have hn0 : n ≠ 0 := by omega
  obtain ⟨j, hj⟩ : ∃ j, j = n.log2 := ⟨_, rfl⟩
  have hpj := Nat.two_pow_pos j
  have hl1 : 2 ^ j ≤ n := by rw [hj]; exact Nat.log2_self_le hn0
  have hl2 : n < 2 ^ (j + 1) := by rw [hj]; exact Nat.lt_log2_self
  have hjc : j < c := by rw [hj]; exact (Nat.log2_lt hn0).2 hc
  have hdj : 2 ^ j ∣ fr := Nat.dvd_trans (Nat.pow_dvd_pow 2 (Nat.le_of_lt hjc)) hd
  have hlvn : 2 ^ lv ≤ n := by
    rcases Nat.lt_or_ge n (2 ^ lv) with h | h
    · rw [Nat.div_eq_of_lt h] at hblk; exact absurd hblk (Nat.not_lt_zero _)
    · exact h
  have hlvj : lv ≤ j := by rw [hj]; exact (Nat.le_log2 hn0).2 hlvn
  by_cases hlt : i < 2 ^ j
  · have htop : J = j := by rw [hJ]; exact xor_log2 (by rw [bit_top hl1 hl2, Nat.div_eq_of_lt hlt]) (by rw [Nat.div_eq_of_lt hlt])
    subst htop
    refine ⟨hlvj, ?_⟩
    rw [Nat.div_eq_of_lt hlt, Nat.zero_mul, rnS_zero, List.reverse_nil, List.append_nil]
    obtain ⟨d, rfl⟩ : ∃ d, J = lv + d := ⟨J - lv, by omega⟩
    rw [Nat.add_sub_cancel_left]
    by_cases he : n = 2 ^ (lv + d)
    · have hr : restS fr n (lv + d) = [] := by unfold restS; rw [he, Nat.mod_self, if_pos rfl]
      rw [hr, List.append_nil, he, gS_perfect lv d fr i hdj hlt]
    · have hm : n % 2 ^ (lv + d) ≠ 0 := by
        have := Nat.div_add_mod n (2 ^ (lv + d))
        rw [bit_top hl1 hl2] at this
        omega
      have hr : restS fr n (lv + d) = [spn (fr + 2 ^ (lv + d)) (fr + n)] := by unfold restS; rw [if_neg hm, bit_top hl1 hl2, Nat.one_mul]
      have hsp : splitN n = 2 ^ (lv + d) := splitN_unique (by omega) (by omega)
      have hle : 2 ^ lv ≤ 2 ^ (lv + d) := Nat.pow_le_pow_right (by decide) (by omega)
      rw [gS_left (by omega) (by rw [hsp]; exact hlt), hsp, gS_perfect lv d fr i hdj hlt, hr]
  · obtain ⟨i', rfl⟩ : ∃ i', i = 2 ^ j + i' := ⟨i - 2 ^ j, by omega⟩
    obtain ⟨n', rfl⟩ : ∃ n', n = 2 ^ j + n' := ⟨n - 2 ^ j, by omega⟩
    have hi2 : i' < n' := by omega
    have hn2 : n' < 2 ^ j := by rw [Nat.pow_succ] at hl2; omega
    have hx : (2 ^ j + i') ^^^ (2 ^ j + n') = i' ^^^ n' := by
      have := xor_split j 1 i' 1 n' (by omega) hn2
      rwa [Nat.mul_one, Nat.xor_self, Nat.mul_zero, Nat.zero_add] at this
    rw [hx] at hJ
    have hJj : J < j := by
      rw [hJ]
      exact (Nat.log2_lt (xor_ne_zero (Nat.ne_of_lt hi2))).2 (Nat.xor_lt_two_pow (by omega) hn2)
    rw [block_div hlvj, block_div hlvj] at hblk
    obtain ⟨h1, h2⟩ := ih n' (by omega) (fr + 2 ^ j) i' J j hi2 hn2 (Nat.dvd_add hdj (Nat.dvd_refl _)) (by omega) hJ
    refine ⟨h1, ?_⟩
    have hsp : splitN (2 ^ j + n') = 2 ^ j := splitN_unique (by omega) (by omega)
    have hle : 2 ^ lv ≤ 2 ^ j := Nat.pow_le_pow_right (by decide) hlvj
    have hJle : 2 ^ J ∣ 2 ^ j := Nat.pow_dvd_pow 2 (Nat.le_of_lt hJj)
    obtain ⟨q, hq⟩ := hJle
    have hpJ := Nat.two_pow_pos J
    have hdiv : ∀ y, (2 ^ j + y) / 2 ^ J * 2 ^ J = 2 ^ j + y / 2 ^ J * 2 ^ J := by
      intro y
      rw [hq, Nat.mul_add_div hpJ, Nat.add_mul, Nat.mul_comm q]
    have hmod : (2 ^ j + n') % 2 ^ J = n' % 2 ^ J := by rw [hq, Nat.mul_add_mod]
    have hrest : restS (fr + 2 ^ j) n' J = restS fr (2 ^ j + n') J := by
      unfold restS
      rw [hmod, hdiv, ← Nat.add_assoc, ← Nat.add_assoc]
    have hlow : i' / 2 ^ J * 2 ^ J < 2 ^ j := by have := Nat.div_mul_le_self i' (2 ^ J); omega
    rw [gS_right (by omega) (by rw [hsp]; omega), hsp, Nat.add_sub_cancel_left, Nat.add_sub_cancel_left, h2, hrest, hdiv, rnS_add hlow, List.reverse_cons, Nat.add_assoc fr, List.append_assoc]
end Go.Proofs.YtdjfagknffknjaaFmt.H
end

section
namespace Go.Proofs.YtdjfagknffknjaaFmt.H
open Go.RowKit Go.Extern.Stop Go.Stop Go.Extern Go.Proofs.YtdjfagknffknjaaFmtW.PrintWords Go.Proofs.YtdjfagknffknjaaFmtW.PrintLast Go.Proofs.YtdjfagknffknjaaFmtW.PrintMore Go.Proofs.YtdjfagknffknjaaFmt.Q
/-- A node's leaves. -/
def Spo (x : S34) (a b : Nat) : Prop := spec_SpanOf.f x.f0 x.f1 = some ((a : Int), (b : Int), true)
theorem wrap_nat {a : Nat} (h : a < 18446744073709551616) : IntKind.u64.wrap (a : Int) = (a : Int) := by rw [IntKind.wrap_u64]; omega
theorem spo_node (lv q : Nat) (h : (q + 1) * 2 ^ lv ≤ 9223372036854775808) : Spo ⟨(lv : Int), (q : Int)⟩ (q * 2 ^ lv) ((q + 1) * 2 ^ lv) := by
  have hp := Nat.two_pow_pos lv
  have h63 : lv ≤ 63 := by
    rcases Nat.lt_or_ge 63 lv with hlt | hge
    · have h3 : 2 ^ 64 ≤ 2 ^ lv := Nat.pow_le_pow_right (by omega) hlt
      have h4 : 2 ^ lv ≤ (q + 1) * 2 ^ lv := Nat.le_mul_of_pos_left _ (by omega)
      omega
    · exact hge
  have hq : q + 1 ≤ 9223372036854775808 / 2 ^ lv := (Nat.le_div_iff_mul_le hp).2 h
  have hle : 2 ^ lv ≤ (q + 1) * 2 ^ lv := Nat.le_mul_of_pos_left _ (by omega)
  have hq2 : q + 1 ≤ (q + 1) * 2 ^ lv := Nat.le_mul_of_pos_right _ hp
  have hmul : (q + 1) * 2 ^ lv = q * 2 ^ lv + 2 ^ lv := by rw [Nat.add_mul, Nat.one_mul]
  have e1 : shl .u64 1 (lv : Int) = ((2 ^ lv : Nat) : Int) := by
    have := shl_nat 1 lv (by omega) (by omega)
    rwa [Nat.one_mul] at this
  have hd : 9223372036854775808 / 2 ^ lv ≤ 9223372036854775808 := Nat.div_le_self _ _
  have e2 : Int.tdiv (9223372036854775808 : Int) ((2 ^ lv : Nat) : Int) = ((9223372036854775808 / 2 ^ lv : Nat) : Int) := rfl
  have e3 : IntKind.u64.wrap ((q : Int) + 1) = ((q + 1 : Nat) : Int) := by rw [IntKind.wrap_u64]; omega
  show spec_SpanOf.f (lv : Int) (q : Int) = _
  rw [spec_SpanOf.f, if_neg (by omega), if_pos (by omega), e1, if_neg (by omega), e2, wrap_nat (by omega), if_neg (by omega), e3, ← Int.natCast_mul, ← Int.natCast_mul, wrap_nat (by omega), wrap_nat (by omega)]
/-- Nodes that stand in a row, from a leaf to a leaf. -/
def Chn : Nat → List S34 → Nat → Prop
  | a, [], b => a = b
  | a, x :: t, b => ∃ c, a < c ∧ Spo x a c ∧ Chn c t b
theorem chn_le {l : List S34} : ∀ {a b : Nat}, Chn a l b → a ≤ b := by
  induction l with
  | nil => intro a b h; exact Nat.le_of_eq h
  | cons x t ih => rintro a b ⟨c, h1, _, h2⟩; have := ih h2; omega
theorem chn_mem {l : List S34} : ∀ {a b : Nat}, Chn a l b → ∀ x ∈ l, ∃ f t, Spo x f t ∧ a ≤ f ∧ f < b := by
  induction l with
  | nil => intro a b _ x hx; simp at hx
  | cons y t ih =>
    rintro a b ⟨c, h1, h2, h3⟩ x hx
    have hc := chn_le h3
    rcases List.mem_cons.1 hx with rfl | hx
    · exact ⟨a, c, h2, Nat.le_refl _, by omega⟩
    · obtain ⟨f, u, h4, h5, h6⟩ := ih h3 x hx
      exact ⟨f, u, h4, by omega, h6⟩
theorem rd_at (l : List S34) (j : Nat) (h : j < l.length) : rd_T34 l (j : Int) = l[j] := by simp [rd_T34, List.getD_eq_getElem?_getD, h]
/-- The end of the row that begins at a place, as the inner loop finds it. -/
def seek (at_ : Nat) (r : Nat) : List (Nat × Nat) → Nat
  | [] => r
  | (f, t) :: l => seek at_ (if f = at_ then t else r) l
theorem l2_some (ms : List S34) (sp : List (Nat × Nat)) (hsp : sp.length = ms.length) (hs : ∀ (j : Nat) (x : S34) (p : Nat × Nat), ms[j]? = some x → sp[j]? = some p → Spo x p.1 p.2) (hm : ms.length ≤ 1000) (at_ : Nat) (x40 x41 x2 : Int) (d : Nat) :
    ∀ (k j r : Nat), j + d = ms.length → spec_Joined.l2 (k + d + 1) ms (at_ : Int) x40 x41 ms (ms.length : Int) (j : Int) x2 (r : Int) =
      if seek at_ r (sp.drop j) = at_ then some (0, 0, false) else spec_Joined.l1 k ms x40 (wrap64 (x41 + 1)) x2 ((seek at_ r (sp.drop j) : Nat) : Int) := by
  induction d with
  | zero =>
    intro k j r hj
    have e : sp.drop j = [] := List.drop_of_length_le (by omega)
    rw [spec_Joined.l2, if_neg (by omega), e, seek]
    by_cases h : r = at_
    · rw [if_pos h, if_pos (by omega)]
    · rw [if_neg h, if_neg (by omega)]
  | succ d ih =>
    intro k j r hj
    have hj1 : j < ms.length := by omega
    have hj2 : j < sp.length := by omega
    have hx := hs j _ _ (List.getElem?_eq_getElem hj1) (List.getElem?_eq_getElem hj2)
    have hw : wrap64 ((j : Int) + 1) = ((j + 1 : Nat) : Int) := by unfold wrap64; omega
    unfold Spo at hx
    rw [show k + (d + 1) + 1 = (k + d + 1) + 1 by omega, spec_Joined.l2, if_pos (by omega), if_pos (by omega), if_pos (by omega), rd_at ms j hj1, hx, List.drop_eq_getElem_cons hj2]
    simp only [Option.bind_some]
    rw [hw]
    obtain ⟨f, t⟩ := sp[j]
    obtain ⟨S, hS⟩ : ∃ S, S = seek at_ r ((f, t) :: sp.drop (j + 1)) := ⟨_, rfl⟩
    rw [← hS]
    by_cases h : f = at_
    · have e : S = seek at_ t (sp.drop (j + 1)) := by rw [hS, seek, if_pos h]
      rw [if_pos (by omega), ih k (j + 1) t (by omega), e]
    · have e : S = seek at_ r (sp.drop (j + 1)) := by rw [hS, seek, if_neg h]
      rw [if_neg (by omega), ih k (j + 1) r (by omega), e]
theorem seek_append (at_ : Nat) (l m : List (Nat × Nat)) : ∀ r, seek at_ r (l ++ m) = seek at_ (seek at_ r l) m := by
  induction l with
  | nil => intro r; rfl
  | cons x t ih => intro r; exact ih _
theorem seek_none (at_ : Nat) (l : List (Nat × Nat)) (h : ∀ p ∈ l, p.1 ≠ at_) : ∀ r, seek at_ r l = r := by
  induction l with
  | nil => intro r; rfl
  | cons x t ih =>
    intro r
    rw [seek, if_neg (h x List.mem_cons_self)]
    exact ih (fun p hp => h p (List.mem_cons_of_mem _ hp)) r
/-- The rows of a chain. -/
def Chs : Nat → List (Nat × Nat) → Nat → Prop
  | a, [], b => a = b
  | a, p :: t, b => p.1 = a ∧ a < p.2 ∧ Chs p.2 t b
theorem chn_chs {l : List S34} : ∀ {a b : Nat}, Chn a l b → ∃ sp : List (Nat × Nat), sp.length = l.length ∧ Chs a sp b ∧ ∀ (j : Nat) (x : S34) (p : Nat × Nat), l[j]? = some x → sp[j]? = some p → Spo x p.1 p.2 := by
  induction l with
  | nil => intro a b h; exact ⟨[], rfl, h, fun j x p hx => by simp at hx⟩
  | cons y t ih =>
    rintro a b ⟨c, h1, h2, h3⟩
    obtain ⟨sp, s1, s2, s3⟩ := ih h3
    refine ⟨(a, c) :: sp, by simp [s1], ⟨rfl, h1, s2⟩, fun j x p hx hp => ?_⟩
    cases j with
    | zero =>
      simp only [List.getElem?_cons_zero, Option.some.injEq] at hx hp
      subst hx; subst hp
      exact h2
    | succ j => exact s3 j x p (by simpa using hx) (by simpa using hp)
theorem chs_le {l : List (Nat × Nat)} : ∀ {a b : Nat}, Chs a l b → a ≤ b := by
  induction l with
  | nil => intro a b h; exact Nat.le_of_eq h
  | cons p t ih => rintro a b ⟨_, h1, h2⟩; have := ih h2; omega
theorem chs_from {l : List (Nat × Nat)} : ∀ {a b : Nat}, Chs a l b → ∀ p ∈ l, a ≤ p.1 ∧ p.1 < b := by
  induction l with
  | nil => intro a b _ p hp; simp at hp
  | cons q t ih =>
    rintro a b ⟨h1, h2, h3⟩ p hp
    have := chs_le h3
    rcases List.mem_cons.1 hp with rfl | hp
    · omega
    · have := ih h3 p hp; omega
theorem chs_append {l m : List (Nat × Nat)} : ∀ {a b : Nat}, Chs a (l ++ m) b → ∃ c, Chs a l c ∧ Chs c m b := by
  induction l with
  | nil => intro a b h; exact ⟨a, rfl, h⟩
  | cons q t ih =>
    rintro a b ⟨h1, h2, h3⟩
    obtain ⟨c, h4, h5⟩ := ih h3
    exact ⟨c, ⟨h1, h2, h4⟩, h5⟩
/-- In whatever order: here from the last row on. -/
theorem seek_chain {l m : List (Nat × Nat)} {p : Nat × Nat} {a b : Nat} (h : Chs a (l ++ p :: m) b) (r : Nat) : seek p.1 r (l ++ p :: m).reverse = p.2 := by
  obtain ⟨c, h1, h2, h3, h4⟩ := chs_append h
  subst h2
  rw [List.reverse_append, List.reverse_cons, seek_append, seek_append, seek_none p.1 l.reverse, seek, if_pos rfl, seek]
  intro q hq
  have := (chs_from h1 q (List.mem_reverse.1 hq)).2
  omega
end Go.Proofs.YtdjfagknffknjaaFmt.H
end

section
namespace Go.Proofs.YtdjfagknffknjaaFmt.H
open Go.RowKit Go.Extern.Stop Go.Stop Go.Extern Go.Proofs.YtdjfagknffknjaaFmtW.PrintWords Go.Proofs.YtdjfagknffknjaaFmtW.PrintLast Go.Proofs.YtdjfagknffknjaaFmtW.PrintMore Go.Proofs.YtdjfagknffknjaaFmt.Q
def mnF : Nat → List (Nat × Nat) → Nat
  | c, [] => c
  | c, p :: l => mnF (if p.1 < c then p.1 else c) l
theorem mnF_append (l m : List (Nat × Nat)) : ∀ c, mnF c (l ++ m) = mnF (mnF c l) m := by
  induction l with
  | nil => intro c; rfl
  | cons x t ih => intro c; exact ih _
theorem mnF_ge (l : List (Nat × Nat)) (e : Nat) (h : ∀ p ∈ l, e ≤ p.1) : ∀ c, e ≤ c → e ≤ mnF c l := by
  induction l with
  | nil => intro c hc; exact hc
  | cons x t ih =>
    intro c hc
    have := h x List.mem_cons_self
    exact ih (fun p hp => h p (List.mem_cons_of_mem _ hp)) _ (by split <;> omega)
theorem mnF_chain {p : Nat × Nat} {m : List (Nat × Nat)} {a b : Nat} (h : Chs a (p :: m) b) (c : Nat) (hc : a ≤ c) : mnF c (p :: m).reverse = a := by
  have h2 := chs_from h
  obtain ⟨h1, _, _⟩ := h
  rw [List.reverse_cons, mnF_append]
  have := mnF_ge m.reverse a (fun q hq => (h2 q (List.mem_cons_of_mem _ (List.mem_reverse.1 hq))).1) c hc
  simp only [mnF, h1]
  split <;> omega
theorem l0_some (ms : List S34) (sp : List (Nat × Nat)) (hsp : sp.length = ms.length) (hs : ∀ (j : Nat) (x : S34) (p : Nat × Nat), ms[j]? = some x → sp[j]? = some p → Spo x p.1 p.2) (hm : ms.length ≤ 1000) (x2 : Int) (d : Nat) :
    ∀ (k j c : Nat), j + d = ms.length → spec_Joined.l0 (k + d + 1) ms ms (ms.length : Int) (j : Int) (c : Int) x2 = spec_Joined.l1 k ms (ms.length : Int) 0 ((mnF c (sp.drop j) : Nat) : Int) ((mnF c (sp.drop j) : Nat) : Int) := by
  induction d with
  | zero =>
    intro k j c hj
    have e : sp.drop j = [] := List.drop_of_length_le (by omega)
    rw [spec_Joined.l0, if_neg (by omega), e, mnF]
  | succ d ih =>
    intro k j c hj
    have hj1 : j < ms.length := by omega
    have hj2 : j < sp.length := by omega
    have hx := hs j _ _ (List.getElem?_eq_getElem hj1) (List.getElem?_eq_getElem hj2)
    have hw : wrap64 ((j : Int) + 1) = ((j + 1 : Nat) : Int) := by unfold wrap64; omega
    unfold Spo at hx
    rw [show k + (d + 1) + 1 = (k + d + 1) + 1 by omega, spec_Joined.l0, if_pos (by omega), if_pos (by omega), if_pos (by omega), rd_at ms j hj1, hx, List.drop_eq_getElem_cons hj2, mnF, Option.bind_some, if_pos rfl, hw]
    have hmn : mn (c : Int) (sp[j].1 : Int) = ((if sp[j].1 < c then sp[j].1 else c : Nat) : Int) := by
      unfold mn
      by_cases h : sp[j].1 < c
      · rw [if_pos h, if_pos (by omega)]
      · rw [if_neg h, if_neg (by omega)]
    rw [hmn, ih k (j + 1) _ (by omega)]
theorem rounds (ms : List S34) (sp : List (Nat × Nat)) (hsp : sp.length = ms.length) (hs : ∀ (j : Nat) (x : S34) (p : Nat × Nat), ms[j]? = some x → sp.reverse[j]? = some p → Spo x p.1 p.2) (hm : ms.length ≤ 1000) (e t : Nat) (m : List (Nat × Nat)) :
    ∀ (k a : Nat) (l : List (Nat × Nat)), sp = l ++ m → Chs e sp t → Chs a m t → spec_Joined.l1 (k + m.length * (ms.length + 2) + 1) ms (ms.length : Int) (l.length : Int) (e : Int) (a : Int) = some ((e : Int), (t : Int), true) := by
  induction m with
  | nil =>
    intro k a l h1 _ h3
    have : a = t := h3
    subst this
    have hl : l.length = ms.length := by rw [← hsp, h1]; simp
    rw [spec_Joined.l1, if_neg (by omega)]
  | cons p m ih =>
    intro k a l h1 h2 h3
    obtain ⟨h4, h5, h6⟩ := h3
    have hl : l.length + (m.length + 1) = ms.length := by rw [← hsp, h1]; simp
    have hk : k + (p :: m).length * (ms.length + 2) + 1 = (k + m.length * (ms.length + 2) + 1 + ms.length + 1) + 1 := by
      rw [List.length_cons, Nat.add_mul]; omega
    have hw : wrap64 ((l.length : Int) + 1) = ((l ++ [p]).length : Int) := by
      rw [List.length_append, List.length_singleton]; unfold wrap64; omega
    have hsk : seek a a (sp.reverse.drop 0) = p.2 := by
      rw [List.drop_zero, h1, ← h4]
      exact seek_chain (by rw [← h1]; exact h2) p.1
    have := l2_some ms sp.reverse (by simp [hsp]) hs hm a (ms.length : Int) (l.length : Int) (e : Int) ms.length (k + m.length * (ms.length + 2) + 1) 0 a (by omega)
    rw [hsk, if_neg (by omega), hw, ih k p.2 (l ++ [p]) (by rw [h1, List.append_assoc]; rfl) h2 h6] at this
    rw [hk, spec_Joined.l1, if_pos (by omega)]
    exact this
/-- spec.Joined of a row of nodes, told from the last one on. -/
theorem joined_some (l : List S34) (e t : Nat) (hl : 0 < l.length) (hl2 : l.length ≤ 100) (h : Chn e l t) (ht : t ≤ 9223372036854775808) (k : Nat) (hk : 20000 ≤ k) : spec_Joined.f k l.reverse = some ((e : Int), (t : Int), true) := by
  obtain ⟨sp, s1, s2, s3⟩ := chn_chs h
  have hs : ∀ (j : Nat) (x : S34) (p : Nat × Nat), l.reverse[j]? = some x → sp.reverse[j]? = some p → Spo x p.1 p.2 := by
    intro j x p hx hp
    have hj : j < l.length := by have := (List.getElem?_eq_some_iff.1 hx).1; rwa [List.length_reverse] at this
    rw [List.getElem?_reverse hj] at hx
    rw [List.getElem?_reverse (by omega), s1] at hp
    exact s3 _ x p hx hp
  have hml : l.reverse.length = l.length := List.length_reverse
  have hmul : l.length * (l.length + 2) ≤ 100 * 102 := Nat.mul_le_mul hl2 (by omega)
  obtain ⟨k', hk'⟩ : ∃ k', k = (k' + l.length * (l.length + 2) + 1) + l.length + 1 := ⟨k - (l.length * (l.length + 2) + l.length + 2), by omega⟩
  obtain ⟨p, m, rfl⟩ : ∃ p m, sp = p :: m := by
    cases sp with
    | nil => simp at s1; omega
    | cons p m => exact ⟨p, m, rfl⟩
  have hmn := mnF_chain s2 9223372036854775808 (by have := chs_le s2; omega)
  have h0 := l0_some l.reverse (p :: m).reverse (by rw [List.length_reverse, s1, hml]) hs (by omega) ((9223372036854775808 : Nat) : Int) l.length (k' + l.length * (l.length + 2) + 1) 0 9223372036854775808 (by omega)
  have h1 := rounds l.reverse (p :: m) (by rw [s1, hml]) hs (by omega) e t (p :: m) k' e [] rfl s2 s2
  rw [List.drop_zero, hmn] at h0
  rw [hml, s1] at h1
  rw [hml] at h0
  have hc : (9223372036854775808 : Int) = ((9223372036854775808 : Nat) : Int) := rfl
  have hz : (0 : Int) = ((0 : Nat) : Int) := rfl
  have hz2 : (([] : List (Nat × Nat)).length : Int) = 0 := rfl
  rw [hz2] at h1
  rw [← hz] at h0
  rw [spec_Joined.f, hml, hk', hc, h0, h1]
end Go.Proofs.YtdjfagknffknjaaFmt.H
end

section
namespace Go.Proofs.YtdjfagknffknjaaFmt.H
open Go.RowKit Go.Extern.Stop Go.Stop Go.Extern Go.Proofs.YtdjfagknffknjaaFmtW.PrintWords Go.Proofs.YtdjfagknffknjaaFmtW.PrintLast Go.Proofs.YtdjfagknffknjaaFmtW.PrintMore Go.Proofs.YtdjfagknffknjaaFmt.Q
theorem planned_step (k j : Nat) (L : List S34) (acc : List S60) (e0 e1 : Int) (bg en a b : Nat) (hj : j < L.length) (hL : L.length ≤ 1000) (ha : acc.length ≤ 1000) (hs : Spo L[j] a b) (hn : j ≠ bg ∨ en ≤ bg) :
    spec_Planned.l0 (k + 2) acc (j : Int) L e0 e1 (bg : Int) (en : Int) = spec_Planned.l0 k (acc ++ [spn a b]) ((j + 1 : Nat) : Int) L e0 e1 (bg : Int) (en : Int) := by
  have hw : wrap64 ((j : Int) + 1) = ((j + 1 : Nat) : Int) := by unfold wrap64; omega
  have j2 : spec_Planned.j2 (k + 1) acc (j : Int) true false L e0 e1 (bg : Int) (en : Int) (a : Int) (b : Int) = spec_Planned.l0 k (acc ++ [spn a b]) ((j + 1 : Nat) : Int) L e0 e1 (bg : Int) (en : Int) := by
    rw [spec_Planned.j2, if_neg (by decide), if_pos rfl, if_pos (by omega), hw]
    rfl
  unfold Spo at hs
  rw [spec_Planned.l0, if_pos (by omega), if_pos (by omega), rd_at L j hj, hs, Option.bind_some]
  by_cases h : (j : Int) = (bg : Int)
  · have hd : decide ((bg : Int) < (en : Int)) = false := decide_eq_false (by omega)
    rw [if_pos h, hd]
    exact j2
  · rw [if_neg h]
    exact j2
theorem planned_run (L : List S34) (e0 e1 : Int) (bg en : Nat) (hL : L.length ≤ 1000) (sp : List (Nat × Nat)) : ∀ (k j : Nat) (acc : List S60), j + sp.length ≤ L.length → acc.length + sp.length ≤ 1000 →
    (∀ (t : Nat) (p : Nat × Nat), sp[t]? = some p → ∃ h : j + t < L.length, Spo L[j + t] p.1 p.2 ∧ (j + t ≠ bg ∨ en ≤ bg)) →
    spec_Planned.l0 (k + 2 * sp.length) acc (j : Int) L e0 e1 (bg : Int) (en : Int) = spec_Planned.l0 k (acc ++ sp.map fun p => spn p.1 p.2) ((j + sp.length : Nat) : Int) L e0 e1 (bg : Int) (en : Int) := by
  induction sp with
  | nil => intro k j acc _ _ _; simp
  | cons p t ih =>
    intro k j acc hj ha hs
    simp only [List.length_cons] at hj ha
    obtain ⟨h0, h1, h2⟩ := hs 0 p rfl
    have e : k + 2 * (p :: t).length = (k + 2 * t.length) + 2 := by simp only [List.length_cons]; omega
    rw [e, planned_step (k + 2 * t.length) j L acc e0 e1 bg en p.1 p.2 (by omega) hL (by omega) h1 h2,
      ih k (j + 1) (acc ++ [spn p.1 p.2]) (by omega) (by rw [List.length_append, List.length_singleton]; omega) (fun u q hq => by
        obtain ⟨a, b, c⟩ := hs (u + 1) q (by simpa using hq)
        have e2 : j + (u + 1) = j + 1 + u := by omega
        refine ⟨by omega, ?_, by omega⟩
        simp only [e2] at b
        exact b)]
    rw [List.map_cons, List.append_assoc, List.length_cons, show j + 1 + t.length = j + (t.length + 1) by omega]
    rfl
theorem planned_joined (k : Nat) (L : List S34) (acc : List S60) (e0 e1 : Int) (bg en a b f t u : Nat) (h1 : bg < en) (h2 : en ≤ L.length) (hL : L.length ≤ 1000) (ha : acc.length ≤ 1000) (hs : ∀ h : bg < L.length, Spo L[bg] a b)
    (hj : spec_Joined.f k ((L.take en).drop bg) = some ((f : Int), (t : Int), true)) (he : spec_SpanOf.f e0 e1 = some ((f : Int), (u : Int), true)) (hu : t ≤ u) :
    spec_Planned.l0 (k + 2) acc (bg : Int) L e0 e1 (bg : Int) (en : Int) = spec_Planned.l0 k (acc ++ [spn f t]) (en : Int) L e0 e1 (bg : Int) (en : Int) := by
  have hbl : bg < L.length := by omega
  have hx := hs hbl
  unfold Spo at hx
  have hw : wrap64 (wrap64 ((en : Int) - 1) + 1) = (en : Int) := by unfold wrap64; omega
  have hd : decide ((bg : Int) < (en : Int)) = true := decide_eq_true (by omega)
  have j2 : spec_Planned.j2 (k + 1) acc (bg : Int) true true L e0 e1 (bg : Int) (en : Int) (a : Int) (b : Int) = spec_Planned.l0 k (acc ++ [spn f t]) (en : Int) L e0 e1 (bg : Int) (en : Int) := by
    rw [spec_Planned.j2, if_pos rfl, if_pos (by omega), if_pos (by omega), if_pos (by omega), Int.toNat_natCast, Int.toNat_natCast, hj, Option.bind_some, he, Option.bind_some]
    dsimp only
    rw [if_pos rfl, if_pos rfl, if_pos rfl, if_pos (by omega), if_pos (by omega), hw]
    rfl
  rw [spec_Planned.l0, if_pos (by omega), if_pos (by omega), rd_at L bg hbl, hx, Option.bind_some, if_pos rfl, hd]
  exact j2
theorem planned_end (k : Nat) (L : List S34) (acc : List S60) (e0 e1 bg en : Int) : spec_Planned.l0 (k + 1) acc (L.length : Int) L e0 e1 bg en = some (acc, true) := by
  rw [spec_Planned.l0, if_neg (by omega)]
theorem planned_enter (k : Nat) (L : List S34) (e0 e1 : Int) (bg en : Nat) (h : bg ≤ en) (h2 : en ≤ L.length) : spec_Planned.f (k + 1) L e0 e1 (bg : Int) (en : Int) = spec_Planned.l0 k [] ((0 : Nat) : Int) L e0 e1 (bg : Int) (en : Int) := by
  have hd : decide ((en : Int) > (L.length : Int)) = false := decide_eq_false (by omega)
  rw [spec_Planned.f, if_neg (by omega), if_neg (by omega), hd, spec_Planned.j0, if_neg (by decide), Int.natCast_zero]
/-- A plan all of whose nodes stand for themselves. -/
theorem planned_plain (L : List S34) (e0 e1 : Int) (sp : List (Nat × Nat)) (hl : sp.length = L.length) (hL : L.length ≤ 1000) (hs : ∀ (j : Nat) (x : S34) (p : Nat × Nat), L[j]? = some x → sp[j]? = some p → Spo x p.1 p.2) (k : Nat) (hk : 3000 ≤ k) :
    spec_Planned.f k L e0 e1 ((0 : Nat) : Int) ((0 : Nat) : Int) = some (sp.map fun p => spn p.1 p.2, true) := by
  obtain ⟨k', rfl⟩ : ∃ k', k = (k' + 1 + 2 * sp.length) + 1 := ⟨k - 2 - 2 * sp.length, by omega⟩
  rw [planned_enter _ L e0 e1 0 0 (Nat.le_refl _) (Nat.zero_le _), planned_run L e0 e1 0 0 hL sp (k' + 1) 0 [] (by omega) (by rw [List.length_nil]; omega) (fun t p hp => by
    have ht := (List.getElem?_eq_some_iff.1 hp).1
    have h0 : 0 + t < L.length := by omega
    refine ⟨h0, ?_, .inr (Nat.le_refl _)⟩
    have e : 0 + t = t := Nat.zero_add t
    simp only [e]
    exact hs t _ p (List.getElem?_eq_getElem (by omega)) hp), Nat.zero_add, hl, planned_end, List.nil_append]
/-- The rows of nodes. -/
def Spos (l : List S34) (sp : List (Nat × Nat)) : Prop := sp.length = l.length ∧ ∀ (j : Nat) (x : S34) (p : Nat × Nat), l[j]? = some x → sp[j]? = some p → Spo x p.1 p.2
/-- A plan of which some nodes are joined. -/
theorem planned_mid (pre post : List S34) (m0 : S34) (mt : List S34) (e0 e1 : Int) (sp1 sp2 : List (Nat × Nat)) (h1 : Spos pre sp1) (h2 : Spos post sp2) (f t u a b : Nat) (hL : (pre ++ (m0 :: mt) ++ post).length ≤ 900) (hm : Spo m0 a b)
    (k : Nat) (hk : 30000 ≤ k) (hj : ∀ k, 20000 ≤ k → spec_Joined.f k (m0 :: mt) = some ((f : Int), (t : Int), true)) (he : spec_SpanOf.f e0 e1 = some ((f : Int), (u : Int), true)) (hu : t ≤ u) :
    spec_Planned.f k (pre ++ (m0 :: mt) ++ post) e0 e1 (pre.length : Int) ((pre.length + (m0 :: mt).length : Nat) : Int) = some ((sp1.map fun p => spn p.1 p.2) ++ [spn f t] ++ (sp2.map fun p => spn p.1 p.2), true) := by
  obtain ⟨L, hLe⟩ : ∃ L, L = pre ++ (m0 :: mt) ++ post := ⟨_, rfl⟩
  have hlen : L.length = pre.length + (mt.length + 1) + post.length := by rw [hLe]; simp only [List.length_append, List.length_cons]
  have hmid : (L.take (pre.length + (m0 :: mt).length)).drop pre.length = m0 :: mt := by
    rw [hLe, show pre.length + (m0 :: mt).length = (pre ++ (m0 :: mt)).length by simp, List.take_left, List.drop_left]
  have hg1 : ∀ j, j < pre.length → L[j]? = pre[j]? := fun j h => by rw [hLe, List.append_assoc, List.getElem?_append_left h]
  have hg2 : ∀ j, L[pre.length + (m0 :: mt).length + j]? = post[j]? := fun j => by
    rw [hLe, List.getElem?_append_right (by simp only [List.length_append]; omega)]
    congr 1
    simp only [List.length_append]; omega
  have hg0 : L[pre.length]? = some m0 := by rw [hLe, List.append_assoc, List.getElem?_append_right (Nat.le_refl _), Nat.sub_self]; rfl
  rw [← hLe] at hL ⊢
  obtain ⟨s1, r1⟩ := h1
  obtain ⟨s2, r2⟩ := h2
  simp only [List.length_cons] at hmid hg2 ⊢
  obtain ⟨en, hen⟩ : ∃ en, en = pre.length + (mt.length + 1) := ⟨_, rfl⟩
  rw [← hen] at hmid hg2 ⊢
  obtain ⟨k', rfl⟩ : ∃ k', k = (((k' + 1 + 2 * sp2.length) + 2) + 2 * sp1.length) + 1 := ⟨k - (2 * sp2.length + 2 * sp1.length + 4), by omega⟩
  rw [planned_enter _ L e0 e1 pre.length en (by omega) (by omega), planned_run L e0 e1 pre.length en (by omega) sp1 _ 0 [] (by omega) (by rw [List.length_nil]; omega) (fun j p hp => by
    have ht := (List.getElem?_eq_some_iff.1 hp).1
    have h0 : 0 + j < L.length := by omega
    refine ⟨h0, ?_, .inl (by omega)⟩
    have e : 0 + j = j := Nat.zero_add j
    simp only [e]
    have hx := hg1 j (by omega)
    rw [List.getElem?_eq_getElem (by omega)] at hx
    exact r1 j _ p hx.symm hp), Nat.zero_add, s1,
    planned_joined (k' + 1 + 2 * sp2.length) L _ e0 e1 pre.length en a b f t u (by omega) (by omega) (by omega) (by simp; omega) (fun h => by
      have hx := hg0
      rw [List.getElem?_eq_getElem h] at hx
      injection hx with hx
      rw [hx]; exact hm) (by rw [hmid]; exact hj _ (by omega)) he hu,
    planned_run L e0 e1 pre.length en (by omega) sp2 (k' + 1) en _ (by omega) (by simp; omega) (fun j p hp => by
    have ht := (List.getElem?_eq_some_iff.1 hp).1
    have h0 : en + j < L.length := by omega
    refine ⟨h0, ?_, .inl (by omega)⟩
    have hx := hg2 j
    rw [List.getElem?_eq_getElem h0] at hx
    exact r2 j _ p hx.symm hp)]
  have hfin : en + sp2.length = L.length := by omega
  rw [hfin, planned_end, List.nil_append]
end Go.Proofs.YtdjfagknffknjaaFmt.H
end

section
namespace Go.Proofs.YtdjfagknffknjaaFmt.H
open Go.RowKit Go.Extern.Stop Go.Stop Go.Extern Go.Proofs.YtdjfagknffknjaaFmtW.PrintWords Go.Proofs.YtdjfagknffknjaaFmtW.PrintLast Go.Proofs.YtdjfagknffknjaaFmtW.PrintMore Go.Proofs.YtdjfagknffknjaaFmt.Q
theorem Spos.nil : Spos [] [] := ⟨rfl, fun j x p hx => by simp at hx⟩
theorem Spos.cons {x : S34} {l : List S34} {a b : Nat} {sp : List (Nat × Nat)} (h : Spo x a b) (h2 : Spos l sp) : Spos (x :: l) ((a, b) :: sp) := by
  refine ⟨by simp [h2.1], fun j y p hy hp => ?_⟩
  cases j with
  | zero =>
    simp only [List.getElem?_cons_zero, Option.some.injEq] at hy hp
    subst hy; subst hp
    exact h
  | succ j => exact h2.2 j y p (by simpa using hy) (by simpa using hp)
theorem Spos.append {l m : List S34} {sp sq : List (Nat × Nat)} (h : Spos l sp) (k : Spos m sq) : Spos (l ++ m) (sp ++ sq) := by
  refine ⟨by simp [h.1, k.1], fun j y p hy hp => ?_⟩
  rcases Nat.lt_or_ge j l.length with hj | hj
  · rw [List.getElem?_append_left hj] at hy
    rw [List.getElem?_append_left (by rw [h.1]; exact hj)] at hp
    exact h.2 j y p hy hp
  · rw [List.getElem?_append_right hj] at hy
    rw [List.getElem?_append_right (by rw [h.1]; exact hj), h.1] at hp
    exact k.2 _ y p hy hp
theorem Spos.reverse {l : List S34} {sp : List (Nat × Nat)} (h : Spos l sp) : Spos l.reverse sp.reverse := by
  refine ⟨by simp [h.1], fun j x p hx hp => ?_⟩
  have hj : j < l.length := by have := (List.getElem?_eq_some_iff.1 hx).1; rwa [List.length_reverse] at this
  rw [List.getElem?_reverse hj] at hx
  rw [List.getElem?_reverse (by rw [h.1]; exact hj), h.1] at hp
  exact h.2 _ x p hx hp
def sps (sp : List (Nat × Nat)) : List S60 := sp.map fun p => spn p.1 p.2
theorem rn_spos (x : Nat) : ∀ s c, x < 2 ^ c → 2 ^ c ∣ s → s + x ≤ 9223372036854775808 → ∃ sp, Spos ((rn x s).map conv) sp ∧ sps sp = rnS x s ∧ Chn s ((rn x s).map conv) (s + x) := by
  induction x using Nat.strongRecOn with
  | _ x ih =>
  intro s c hc hd hs
  by_cases h0 : x = 0
  · subst h0
    rw [rn_zero, rnS_zero]
    exact ⟨[], Spos.nil, rfl, rfl⟩
  · obtain ⟨h1, h2⟩ := bits_cut h0
    obtain ⟨j, hj⟩ : ∃ j, j = x.log2 := ⟨_, rfl⟩
    rw [← hj] at h1 h2
    obtain ⟨r, hr⟩ : ∃ r, r = x - 2 ^ j := ⟨_, rfl⟩
    rw [← hr] at h1 h2
    have hjc : j < c := by rw [hj]; exact (Nat.log2_lt h0).2 hc
    have hpj := Nat.two_pow_pos j
    have hdj : 2 ^ j ∣ s := Nat.dvd_trans (Nat.pow_dvd_pow 2 (Nat.le_of_lt hjc)) hd
    obtain ⟨sp, a1, a2, a3⟩ := ih r (by omega) (s + 2 ^ j) j h2 (Nat.dvd_add hdj (Nat.dvd_refl _)) (by omega)
    have hq : s / 2 ^ j * 2 ^ j = s := Nat.div_mul_cancel hdj
    have hsp := spo_node j (s / 2 ^ j) (by rw [Nat.add_mul, hq]; omega)
    rw [Nat.add_mul, hq, Nat.one_mul] at hsp
    rw [h1, rn_add h2, rnS_add h2, List.map_cons]
    refine ⟨(s, s + 2 ^ j) :: sp, Spos.cons hsp a1, by rw [← a2]; rfl, s + 2 ^ j, by omega, hsp, ?_⟩
    rw [Nat.add_assoc] at a3
    exact a3
theorem sib_spos (lv ix d P : Nat) (hP : P / 2 ^ lv = ix) (hs : ∀ t, t < d → (P / 2 ^ (lv + t) ^^^ 1) * 2 ^ (lv + t) + 2 ^ (lv + t) ≤ 9223372036854775808) :
    ∃ sp, Spos ((sibs lv ix d).map conv) sp ∧ sps sp = (List.range d).map fun t => sspan P (lv + t) := by
  induction d with
  | zero => exact ⟨[], Spos.nil, rfl⟩
  | succ d ih =>
    obtain ⟨sp, a1, a2⟩ := ih (fun t ht => hs t (by omega))
    have hx := hs d (by omega)
    have hix : ix / 2 ^ d = P / 2 ^ (lv + d) := by rw [← hP, Nat.div_div_eq_div_mul, ← Nat.pow_add]
    have hlt : P / 2 ^ (lv + d) ^^^ 1 ≤ (P / 2 ^ (lv + d) ^^^ 1) * 2 ^ (lv + d) := Nat.le_mul_of_pos_right _ (Nat.two_pow_pos _)
    have hq : P / 2 ^ (lv + d) < 18446744073709551616 := by
      have := Nat.two_pow_pos (lv + d)
      have hh := xor_one' (P / 2 ^ (lv + d))
      split at hh <;> omega
    have e : conv (sibN lv ix d) = ⟨((lv + d : Nat) : Int), ((P / 2 ^ (lv + d) ^^^ 1 : Nat) : Int)⟩ := by
      have := bits_xor_u64_nat (P / 2 ^ (lv + d)) 1 hq (by omega)
      unfold conv sibN
      simp only [hix]
      rw [← this]
      rfl
    have hsp := spo_node (lv + d) (P / 2 ^ (lv + d) ^^^ 1) (by rw [Nat.add_mul, Nat.one_mul]; exact hx)
    rw [Nat.add_mul, Nat.one_mul, ← e] at hsp
    rw [sibs_succ, List.map_append, map_snoc]
    refine ⟨sp ++ [(_, _)], a1.append (Spos.cons hsp Spos.nil), ?_⟩
    unfold sps at a2 ⊢
    rw [List.map_append, a2]
    rfl
end Go.Proofs.YtdjfagknffknjaaFmt.H
end

section
namespace Go.Proofs.YtdjfagknffknjaaFmt.H
open Go.RowKit Go.Extern.Stop Go.Stop Go.Extern Go.Proofs.YtdjfagknffknjaaFmtW.PrintWords Go.Proofs.YtdjfagknffknjaaFmtW.PrintLast Go.Proofs.YtdjfagknffknjaaFmtW.PrintMore Go.Proofs.YtdjfagknffknjaaFmt.Q
/-- A node's hash. -/
def nh (A2 B2 C2 lv q : Int) : List Int := (spec_NodeHash.f A2 B2 C2 lv q).getD []
theorem nh_some (A2 B2 C2 lv q : Int) : spec_NodeHash.f A2 B2 C2 lv q = some (nh A2 B2 C2 lv q) := by unfold nh spec_NodeHash.f; rfl
theorem nh_two (A2 B2 C2 lv q : Int) : Two (nh A2 B2 C2 lv q) := by
  have h := nh_some A2 B2 C2 lv q
  unfold spec_NodeHash.f at h
  have h3 := Option.some.inj h
  refine ⟨_, _, h3.symm, ?_, ?_, ?_, ?_⟩ <;> omega
theorem hc_more (A B C : Int) (l r : List Int) (k : Nat) (hk : 4 ≤ k) : impl_Hash_HashChildren.f k A B C l r = some (hc A B C l r) := by
  obtain ⟨d, rfl⟩ : ∃ d, k = 4 + d := ⟨k - 4, by omega⟩
  clear hk
  induction d with
  | zero => exact hc_some A B C l r
  | succ d ih => exact impl_Hash_HashChildren.mono A B C l r (4 + d) _ ih
theorem pow_shl {j : Nat} (h : j < 64) : shl .u64 1 (j : Int) = ((2 ^ j : Nat) : Int) := by
  have h2 : 2 ^ j < 2 ^ 64 := Nat.pow_lt_pow_right (by decide) h
  have := shl_nat 1 j (by omega) (by rw [Nat.one_mul]; exact h2)
  rwa [Nat.one_mul] at this
theorem span_step (A B C A2 B2 C2 : Int) (f t : Int) (k x j : Nat) (hj : j < 64) (hx : x ≠ 2 ^ j) : spec_SpanHash.l0 (k + 1) (x : Int) (j : Int) A B C A2 B2 C2 f t = spec_SpanHash.l0 k (x : Int) ((j + 1 : Nat) : Int) A B C A2 B2 C2 f t := by
  have e2 : IntKind.u64.wrap ((j : Int) + 1) = ((j + 1 : Nat) : Int) := by rw [IntKind.wrap_u64]; omega
  rw [spec_SpanHash.l0, if_pos (by omega), if_pos (by omega), pow_shl hj, if_neg (by omega), e2]
theorem span_skip (A B C A2 B2 C2 : Int) (f t : Int) (x : Nat) (d : Nat) : ∀ k j : Nat, j + d ≤ 64 → (∀ u, j ≤ u → u < j + d → x ≠ 2 ^ u) → spec_SpanHash.l0 (k + d) (x : Int) (j : Int) A B C A2 B2 C2 f t = spec_SpanHash.l0 k (x : Int) ((j + d : Nat) : Int) A B C A2 B2 C2 f t := by
  induction d with
  | zero => intro k j _ _; rfl
  | succ d ih =>
    intro k j hj hx
    rw [show k + (d + 1) = k + d + 1 by omega, span_step A B C A2 B2 C2 f t (k + d) x j (by omega) (hx j (Nat.le_refl _) (by omega)), ih k (j + 1) (by omega) (fun u h1 h2 => hx u (by omega) (by omega)), show j + 1 + d = j + (d + 1) by omega]
theorem pow_ne {u lv : Nat} (h : u < lv) : 2 ^ lv ≠ 2 ^ u := Nat.ne_of_gt (Nat.pow_lt_pow_right (by decide) h)
theorem span_pow (A B C A2 B2 C2 : Int) (t : Int) (lv f k : Nat) (hlv : lv < 64) : spec_SpanHash.l0 (k + 1 + lv) ((2 ^ lv : Nat) : Int) ((0 : Nat) : Int) A B C A2 B2 C2 (f : Int) t = some (nh A2 B2 C2 (lv : Int) ((f / 2 ^ lv : Nat) : Int)) := by
  rw [span_skip A B C A2 B2 C2 (f : Int) t (2 ^ lv) lv (k + 1) 0 (by omega) (fun u _ h => pow_ne (by omega)), Nat.zero_add, spec_SpanHash.l0, if_pos (by omega), if_pos (by omega), pow_shl hlv, if_pos rfl, shr_nat f lv (by omega), nh_some, Option.bind_some]
theorem spanHash_enter (A B C A2 B2 C2 : Int) (f t k : Nat) (h : f ≤ t) (ht : t ≤ 9223372036854775808) : spec_SpanHash.f (k + 1) A B C A2 B2 C2 (f : Int) (t : Int) = spec_SpanHash.l0 k ((t - f : Nat) : Int) ((0 : Nat) : Int) A B C A2 B2 C2 (f : Int) (t : Int) := by
  rw [spec_SpanHash.f, wrap_sub h ht, Int.natCast_zero]
/-- A row of 2^lv leaves. -/
theorem spanHash_pow (A B C A2 B2 C2 : Int) (lv f k : Nat) (h : f + 2 ^ lv ≤ 9223372036854775808) (hk : 66 ≤ k) : spec_SpanHash.f k A B C A2 B2 C2 (f : Int) ((f + 2 ^ lv : Nat) : Int) = some (nh A2 B2 C2 (lv : Int) ((f / 2 ^ lv : Nat) : Int)) := by
  have hlv : lv < 64 := by
    rcases Nat.lt_or_ge lv 64 with h1 | h1
    · exact h1
    · have h3 : 2 ^ 64 ≤ 2 ^ lv := Nat.pow_le_pow_right (by decide) h1
      omega
  obtain ⟨k', rfl⟩ : ∃ k', k = (k' + 1 + lv) + 1 := ⟨k - 2 - lv, by omega⟩
  rw [spanHash_enter A B C A2 B2 C2 f (f + 2 ^ lv) _ (Nat.le_add_right _ _) h, Nat.add_sub_cancel_left, span_pow A B C A2 B2 C2 _ lv f k' hlv]
/-- A row of other length. -/
theorem spanHash_split (A B C A2 B2 C2 : Int) (f s k : Nat) (l r : List Int) (h2 : 2 ≤ s) (hs : ∀ u, s ≠ 2 ^ u) (h : f + s ≤ 9223372036854775808) (hk : 64 ≤ k)
    (hl : spec_SpanHash.f k A B C A2 B2 C2 (f : Int) ((f + splitN s : Nat) : Int) = some l) (hr : spec_SpanHash.f k A B C A2 B2 C2 ((f + splitN s : Nat) : Int) ((f + s : Nat) : Int) = some r) :
    spec_SpanHash.f (k + 66) A B C A2 B2 C2 (f : Int) ((f + s : Nat) : Int) = some (hc A B C l r) := by
  have hsp := splitN_lt h2
  rw [show k + 66 = (k + 1 + 64) + 1 by omega, spanHash_enter A B C A2 B2 C2 f (f + s) _ (Nat.le_add_right _ _) h, Nat.add_sub_cancel_left, span_skip A B C A2 B2 C2 (f : Int) _ s 64 (k + 1) 0 (by omega) (fun u _ _ => hs u), Nat.zero_add, spec_SpanHash.l0, if_neg (by omega), split_k k s hk h2 (by omega), Option.bind_some, wrap_add (by omega), hl, Option.bind_some, hr, Option.bind_some, hc_more A B C l r k (by omega), Option.bind_some]
/-- The hash of each row of leaves. -/
theorem spanHash_ex (A B C A2 B2 C2 : Int) (d : Nat) : ∀ f s k : Nat, 1 ≤ s → s ≤ 2 ^ d → f + s ≤ 9223372036854775808 → 66 * (d + 2) ≤ k → ∃ h, spec_SpanHash.f k A B C A2 B2 C2 (f : Int) ((f + s : Nat) : Int) = some h ∧ Two h := by
  induction d with
  | zero =>
    intro f s k h1 h2 h3 hk
    obtain rfl : s = 2 ^ 0 := by omega
    exact ⟨_, spanHash_pow A B C A2 B2 C2 0 f k h3 (by omega), nh_two _ _ _ _ _⟩
  | succ d ih =>
    intro f s k h1 h2 h3 hk
    by_cases hp : ∃ u, s = 2 ^ u
    · obtain ⟨u, rfl⟩ := hp
      exact ⟨_, spanHash_pow A B C A2 B2 C2 u f k h3 (by omega), nh_two _ _ _ _ _⟩
    · have hs : ∀ u, s ≠ 2 ^ u := fun u e => hp ⟨u, e⟩
      have hne := hs 0
      have h2s : 2 ≤ s := by omega
      obtain ⟨q1, q2⟩ := split_half h2s h2
      have hlt := splitN_lt h2s
      have hpos := splitN_pos s
      obtain ⟨k', rfl⟩ : ∃ k', k = k' + 66 := ⟨k - 66, by omega⟩
      obtain ⟨l, hl, _⟩ := ih f (splitN s) k' hpos q1 (by omega) (by omega)
      obtain ⟨r, hr, _⟩ := ih (f + splitN s) (s - splitN s) k' (by omega) q2 (by omega) (by omega)
      rw [show f + splitN s + (s - splitN s) = f + s by omega] at hr
      exact ⟨_, spanHash_split A B C A2 B2 C2 f s k' l r h2s hs h3 (by omega) hl hr, hc_two _ _ _ _ _⟩
/-- The fold of hashes from the last one on. -/
def cfold (A B C : Int) : List (List Int) → List Int
  | [] => []
  | [y] => y
  | y :: z :: t => hc A B C y (cfold A B C (z :: t))
theorem cfold_cons (A B C : Int) (y : List Int) (l : List (List Int)) (h : l ≠ []) : cfold A B C (y :: l) = hc A B C y (cfold A B C l) := by
  cases l with
  | nil => exact absurd rfl h
  | cons z t => rfl
def nhN (A2 B2 C2 : Int) (x : S69) : List Int := nh A2 B2 C2 x.f0 x.f1
theorem rn_ne {x : Nat} (h : x ≠ 0) (s : Nat) : rn x s ≠ [] := by rw [rn_pos x s h]; simp
/-- The row behind the fork: the fold of the hashes of its nodes. -/
theorem spanHash_rest (A B C A2 B2 C2 : Int) (x : Nat) : ∀ s c k : Nat, x ≠ 0 → x < 2 ^ c → 2 ^ c ∣ s → s + x ≤ 9223372036854775808 → 66 * (c + 2) ≤ k →
    spec_SpanHash.f k A B C A2 B2 C2 (s : Int) ((s + x : Nat) : Int) = some (cfold A B C ((rn x s).map (nhN A2 B2 C2))) := by
  induction x using Nat.strongRecOn with
  | _ x ih =>
  intro s c k h0 hc hd hs hk
  obtain ⟨h1, h2⟩ := bits_cut h0
  obtain ⟨j, hj⟩ : ∃ j, j = x.log2 := ⟨_, rfl⟩
  rw [← hj] at h1 h2
  obtain ⟨r, hr⟩ : ∃ r, r = x - 2 ^ j := ⟨_, rfl⟩
  rw [← hr] at h1 h2
  have hjc : j < c := by rw [hj]; exact (Nat.log2_lt h0).2 hc
  have hpj := Nat.two_pow_pos j
  have hdj : 2 ^ j ∣ s := Nat.dvd_trans (Nat.pow_dvd_pow 2 (Nat.le_of_lt hjc)) hd
  subst h1
  clear hr
  rw [rn_add h2, List.map_cons]
  by_cases hr0 : r = 0
  · subst hr0
    rw [rn_zero, List.map_nil]
    exact spanHash_pow A B C A2 B2 C2 j s k hs (by omega)
  · obtain ⟨k', rfl⟩ : ∃ k', k = k' + 66 := ⟨k - 66, by omega⟩
    have hsp : splitN (2 ^ j + r) = 2 ^ j := splitN_unique (by omega) (by rw [Nat.pow_succ]; omega)
    have hnp : ∀ u, 2 ^ j + r ≠ 2 ^ u := by
      intro u hu
      have := log2_add h2
      rw [hu, Nat.log2_two_pow] at this
      subst this
      omega
    have ih' := ih r (by omega) (s + 2 ^ j) j k' hr0 h2 (Nat.dvd_add hdj (Nat.dvd_refl _)) (by omega) (by omega)
    rw [Nat.add_assoc] at ih'
    have hl := spanHash_pow A B C A2 B2 C2 j s k' (by omega) (by omega)
    rw [cfold_cons _ _ _ _ _ (by simp [rn_ne hr0])]
    exact spanHash_split A B C A2 B2 C2 s (2 ^ j + r) k' _ _ (by omega) hnp hs (by omega) (by rw [hsp]; exact hl) (by rw [hsp]; exact ih')
end Go.Proofs.YtdjfagknffknjaaFmt.H
end
