/- The plain law: all that laws.included and laws.consists ask; conditions: sizes at most 2^63. -/
import Derived.Test.YtdjfagknffknjaaFmtXP
import Derived.Test.YtdjfagknffknjaaFmtXF
import Derived.Test.YtdjfagknffknjaaFmtXBa
import Derived.Test.YtdjfagknffknjaaFmtXBs
import Derived.Lib.Bytes

section
namespace Go.Proofs.YtdjfagknffknjaaFmt.H
open Go.RowKit Go.Extern.Stop Go.Stop Go.Extern Go.Proofs.YtdjfagknffknjaaFmtW.PrintWords Go.Proofs.YtdjfagknffknjaaFmtW.PrintLast Go.Proofs.YtdjfagknffknjaaFmtW.PrintMore Go.Proofs.YtdjfagknffknjaaFmt.Q
/-- The hash of a row is h. -/
def SpanIs (A B C A2 B2 C2 : Int) (s : S60) (h : List Int) : Prop := ∀ k, 5000 ≤ k → spec_SpanHash.f k A B C A2 B2 C2 s.f0 s.f1 = some h
/-- The hashes of rows. -/
def RowsH (A B C A2 B2 C2 : Int) : List S60 → List (List Int) → Prop
  | [], [] => True
  | s :: ss, h :: hs => SpanIs A B C A2 B2 C2 s h ∧ RowsH A B C A2 B2 C2 ss hs
  | [], _ :: _ => False
  | _ :: _, [] => False
theorem RowsH.length {A B C A2 B2 C2 : Int} : ∀ {l : List S60} {hs : List (List Int)}, RowsH A B C A2 B2 C2 l hs → l.length = hs.length
  | [], [], _ => rfl
  | _ :: _, _ :: _, h => by rw [List.length_cons, List.length_cons, RowsH.length h.2]
  | [], _ :: _, h => h.elim
  | _ :: _, [], h => h.elim
theorem RowsH.append {A B C A2 B2 C2 : Int} {m : List S60} {ms : List (List Int)} (k : RowsH A B C A2 B2 C2 m ms) : ∀ {l : List S60} {hs : List (List Int)}, RowsH A B C A2 B2 C2 l hs → RowsH A B C A2 B2 C2 (l ++ m) (hs ++ ms)
  | [], [], _ => k
  | _ :: _, _ :: _, h => ⟨h.1, RowsH.append k h.2⟩
  | [], _ :: _, h => h.elim
  | _ :: _, [], h => h.elim
theorem RowsH.reverse {A B C A2 B2 C2 : Int} : ∀ {l : List S60} {hs : List (List Int)}, RowsH A B C A2 B2 C2 l hs → RowsH A B C A2 B2 C2 l.reverse hs.reverse
  | [], [], _ => trivial
  | s :: ss, h :: hs, k => by
    rw [List.reverse_cons, List.reverse_cons]
    exact RowsH.append (l := ss.reverse) (hs := hs.reverse) (m := [s]) (ms := [h]) ⟨k.1, trivial⟩ (RowsH.reverse k.2)
  | [], _ :: _, h => h.elim
  | _ :: _, [], h => h.elim
theorem rd60_at (pre : List S60) (s : S60) (ss : List S60) : rd_T60 (pre ++ s :: ss) (pre.length : Int) = s := by simp [rd_T60, List.getD_eq_getElem?_getD]
theorem rd34_at (pre : List S34) (s : S34) (ss : List S34) : rd_T34 (pre ++ s :: ss) (pre.length : Int) = s := by simp [rd_T34, List.getD_eq_getElem?_getD]
theorem wrap_next {α : Type} (pre : List α) (s : α) (h : pre.length ≤ 1000000) : wrap64 ((pre.length : Int) + 1) = ((pre ++ [s]).length : Int) := by
  rw [List.length_append, List.length_singleton]; unfold wrap64; omega
/-- spec.SpanHashes. -/
theorem spanHashes_from (A B C A2 B2 C2 : Int) (ss : List S60) : ∀ (hs : List (List Int)) (pre : List S60) (acc : List (List Int)) (k : Nat), RowsH A B C A2 B2 C2 ss hs → (pre ++ ss).length ≤ 1000 → acc.length = pre.length → 5000 + ss.length < k →
    spec_SpanHashes.l0 k acc (pre ++ ss) ((pre ++ ss).length : Int) (pre.length : Int) A B C A2 B2 C2 = some (acc ++ hs) := by
  induction ss with
  | nil =>
    intro hs pre acc k h hl ha hk
    obtain ⟨k, rfl⟩ : ∃ m, k = m + 1 := ⟨k - 1, by omega⟩
    cases hs with
    | nil => rw [spec_SpanHashes.l0, if_neg (by rw [List.append_nil]; omega), List.append_nil]
    | cons y t => exact h.elim
  | cons s ss ih =>
    intro hs pre acc k h hl ha hk
    obtain ⟨k, rfl⟩ : ∃ m, k = m + 1 := ⟨k - 1, by omega⟩
    cases hs with
    | nil => exact h.elim
    | cons y t =>
      have hlen : (pre ++ s :: ss).length = pre.length + (ss.length + 1) := by simp
      rw [List.length_cons] at hk
      have e : pre ++ s :: ss = (pre ++ [s]) ++ ss := by rw [List.append_assoc]; rfl
      have h2 := ih t (pre ++ [s]) (acc ++ [y]) k h.2 (by rw [← e]; exact hl) (by simp [ha]) (by omega)
      rw [← e] at h2
      rw [spec_SpanHashes.l0, if_pos (by omega), if_pos (by omega), if_pos (by omega), rd60_at, h.1 k (by omega), Option.bind_some, if_pos (by omega), wrap_next pre s (by omega), h2, List.append_assoc]
      rfl
theorem spanHashes_some (A B C A2 B2 C2 : Int) (l : List S60) (hs : List (List Int)) (k : Nat) (h : RowsH A B C A2 B2 C2 l hs) (hl : l.length ≤ 1000) (hk : 7000 ≤ k) : spec_SpanHashes.f k A B C A2 B2 C2 l = some hs := by
  have := spanHashes_from A B C A2 B2 C2 l hs [] [] k h (by simpa using hl) rfl (by omega)
  rwa [List.nil_append, List.nil_append, List.length_nil, Int.natCast_zero] at this
def nhS (A2 B2 C2 : Int) (x : S34) : List Int := nh A2 B2 C2 x.f0 x.f1
/-- spec.NodeHashes. -/
theorem nodeHashes_from (A2 B2 C2 : Int) (ss : List S34) : ∀ (pre : List S34) (acc : List (List Int)) (k : Nat), (pre ++ ss).length ≤ 1000 → acc.length = pre.length → ss.length < k →
    spec_NodeHashes.l0 k acc (pre ++ ss) ((pre ++ ss).length : Int) (pre.length : Int) A2 B2 C2 = some (acc ++ ss.map (nhS A2 B2 C2)) := by
  induction ss with
  | nil =>
    intro pre acc k hl ha hk
    obtain ⟨k, rfl⟩ : ∃ m, k = m + 1 := ⟨k - 1, by omega⟩
    rw [spec_NodeHashes.l0, if_neg (by rw [List.append_nil]; omega), List.map_nil, List.append_nil]
  | cons s ss ih =>
    intro pre acc k hl ha hk
    obtain ⟨k, rfl⟩ : ∃ m, k = m + 1 := ⟨k - 1, by omega⟩
    have hlen : (pre ++ s :: ss).length = pre.length + (ss.length + 1) := by simp
    rw [List.length_cons] at hk
    have e : pre ++ s :: ss = (pre ++ [s]) ++ ss := by rw [List.append_assoc]; rfl
    have h2 := ih (pre ++ [s]) (acc ++ [nhS A2 B2 C2 s]) k (by rw [← e]; exact hl) (by simp [ha]) (by omega)
    rw [← e] at h2
    rw [spec_NodeHashes.l0, if_pos (by omega), if_pos (by omega), if_pos (by omega), rd34_at, nh_some, Option.bind_some, if_pos (by omega), wrap_next pre s (by omega), List.map_cons]
    rw [List.append_assoc] at h2
    exact h2
theorem nodeHashes_some (A2 B2 C2 : Int) (ids : List S69) (k : Nat) (hl : ids.length ≤ 1000) (hk : 1001 ≤ k) : spec_NodeHashes.f k A2 B2 C2 (ids.map conv) = some (ids.map (nhN A2 B2 C2)) := by
  have := nodeHashes_from A2 B2 C2 (ids.map conv) [] [] k (by simpa using hl) rfl (by rw [List.length_map]; omega)
  rw [List.nil_append, List.nil_append, List.length_nil, Int.natCast_zero, List.map_map] at this
  exact this
theorem sameSpans_from (l : List S60) (ss : List S60) : ∀ (pre : List S60) (k : Nat), pre ++ ss = l → l.length ≤ 1000 → ss.length < k → laws_sameSpans.l0 k l l (l.length : Int) (pre.length : Int) = some true := by
  induction ss with
  | nil =>
    intro pre k he hl hk
    obtain ⟨k, rfl⟩ : ∃ m, k = m + 1 := ⟨k - 1, by omega⟩
    rw [laws_sameSpans.l0, if_neg (by rw [← he, List.append_nil]; omega)]
  | cons s ss ih =>
    intro pre k he hl hk
    obtain ⟨k, rfl⟩ : ∃ m, k = m + 1 := ⟨k - 1, by omega⟩
    have hlen : l.length = pre.length + (ss.length + 1) := by rw [← he]; simp
    rw [List.length_cons] at hk
    have e : (pre ++ [s]) ++ ss = l := by rw [List.append_assoc]; exact he
    rw [laws_sameSpans.l0, if_pos (by omega), if_pos (by omega), if_pos (by omega), if_pos (by omega), if_neg (by simp), wrap_next pre s (by omega)]
    exact ih (pre ++ [s]) k e hl (by omega)
theorem sameSpans_some (l : List S60) (k : Nat) (hl : l.length ≤ 1000) (hk : 1001 ≤ k) : laws_sameSpans.f k l l = some true := by
  have := sameSpans_from l l [] k rfl hl (by omega)
  rw [List.length_nil, Int.natCast_zero] at this
  rw [laws_sameSpans.f, if_pos rfl, this]
theorem sameHashes_from (l : List (List Int)) (ss : List (List Int)) : ∀ (pre : List (List Int)) (k : Nat), pre ++ ss = l → l.length ≤ 1000 → ss.length < k → laws_sameHashes.l0 k l l (l.length : Int) (pre.length : Int) = some true := by
  induction ss with
  | nil =>
    intro pre k he hl hk
    obtain ⟨k, rfl⟩ : ∃ m, k = m + 1 := ⟨k - 1, by omega⟩
    rw [laws_sameHashes.l0, if_neg (by rw [← he, List.append_nil]; omega)]
  | cons s ss ih =>
    intro pre k he hl hk
    obtain ⟨k, rfl⟩ : ∃ m, k = m + 1 := ⟨k - 1, by omega⟩
    have hlen : l.length = pre.length + (ss.length + 1) := by rw [← he]; simp
    rw [List.length_cons] at hk
    have e : (pre ++ [s]) ++ ss = l := by rw [List.append_assoc]; exact he
    rw [laws_sameHashes.l0, if_pos (by omega), if_pos (by omega), if_pos (by omega), if_pos (by omega), if_pos rfl, wrap_next pre s (by omega)]
    exact ih (pre ++ [s]) k e hl (by omega)
theorem sameHashes_some (l : List (List Int)) (k : Nat) (hl : l.length ≤ 1000) (hk : 1001 ≤ k) : laws_sameHashes.f k l l = some true := by
  have := sameHashes_from l l [] k rfl hl (by omega)
  rw [List.length_nil, Int.natCast_zero] at this
  rw [laws_sameHashes.f, if_pos rfl, this]
/-- What is rehashed. -/
theorem foldN_rev (A B C : Int) (pre : List (List Int)) (l : List (List Int)) : ∀ post : List (List Int), l ≠ [] → foldN A B C (pre ++ l.reverse ++ post) pre.length (l.length - 1) = cfold A B C l := by
  induction l with
  | nil => intro post h; exact absurd rfl h
  | cons y t ih =>
    intro post _
    cases t with
    | nil => simp [foldN, cfold, List.getD_eq_getElem?_getD]
    | cons z t =>
      have h2 := ih ([y] ++ post) (by simp)
      have e : pre ++ (y :: z :: t).reverse ++ post = pre ++ (z :: t).reverse ++ ([y] ++ post) := by rw [List.reverse_cons (a := y)]; simp only [List.append_assoc]
      have hlen : (pre ++ (z :: t).reverse).length = pre.length + 1 + t.length := by simp; omega
      have hg : (pre ++ (z :: t).reverse ++ ([y] ++ post)).getD (pre.length + 1 + t.length) [] = y := by
        rw [List.getD_eq_getElem?_getD, ← hlen, List.getElem?_append_right (Nat.le_refl _), Nat.sub_self]
        rfl
      rw [e, List.length_cons, List.length_cons, Nat.add_sub_cancel, foldN, hg]
      rw [List.length_cons, Nat.add_sub_cancel] at h2
      rw [h2]
      rfl
theorem resAt_none (F : List Int) (ps : List (List Int)) : resAt F ps 0 0 ps.length = ps := by
  unfold resAt; rw [if_neg (by omega), List.take_length]
theorem resAt_mid (F : List Int) (pre mid post : List (List Int)) (h : 0 < mid.length) : resAt F (pre ++ mid ++ post) pre.length (pre.length + mid.length) (pre ++ mid ++ post).length = pre ++ [F] ++ post := by
  have hl : (pre ++ mid).length = pre.length + mid.length := List.length_append
  have h1 : (pre ++ mid ++ post).take pre.length = pre := by rw [List.append_assoc, List.take_left]
  have h2 : (pre ++ mid ++ post).drop (pre.length + mid.length) = post := by rw [← hl, List.drop_left]
  unfold resAt
  rw [if_pos ⟨by omega, by simp⟩, h1, h2, List.take_of_length_le (by simp only [List.length_append]; omega)]
end Go.Proofs.YtdjfagknffknjaaFmt.H
end

section
namespace Go.Proofs.YtdjfagknffknjaaFmt.H
open Go.RowKit Go.Extern.Stop Go.Stop Go.Extern Go.Proofs.YtdjfagknffknjaaFmtW.PrintWords Go.Proofs.YtdjfagknffknjaaFmtW.PrintLast Go.Proofs.YtdjfagknffknjaaFmtW.PrintMore Go.Proofs.YtdjfagknffknjaaFmt.Q
theorem rn_rows (A B C A2 B2 C2 : Int) (x : Nat) : ∀ s c, x < 2 ^ c → 2 ^ c ∣ s → s + x ≤ 9223372036854775808 → RowsH A B C A2 B2 C2 (rnS x s) ((rn x s).map (nhN A2 B2 C2)) := by
  induction x using Nat.strongRecOn with
  | _ x ih =>
  intro s c hc hd hs
  by_cases h0 : x = 0
  · subst h0
    rw [rn_zero, rnS_zero]
    trivial
  · obtain ⟨h1, h2⟩ := bits_cut h0
    obtain ⟨j, hj⟩ : ∃ j, j = x.log2 := ⟨_, rfl⟩
    rw [← hj] at h1 h2
    obtain ⟨r, hr⟩ : ∃ r, r = x - 2 ^ j := ⟨_, rfl⟩
    rw [← hr] at h1 h2
    have hjc : j < c := by rw [hj]; exact (Nat.log2_lt h0).2 hc
    have hpj := Nat.two_pow_pos j
    have hdj : 2 ^ j ∣ s := Nat.dvd_trans (Nat.pow_dvd_pow 2 (Nat.le_of_lt hjc)) hd
    have a := ih r (by omega) (s + 2 ^ j) j h2 (Nat.dvd_add hdj (Nat.dvd_refl _)) (by omega)
    rw [h1, rn_add h2, rnS_add h2, List.map_cons]
    exact ⟨fun k hk => spanHash_pow A B C A2 B2 C2 j s k (by omega) (by omega), a⟩
theorem sib_eq (lv ix t P : Nat) (hP : P / 2 ^ lv = ix) (hs : (P / 2 ^ (lv + t) ^^^ 1) * 2 ^ (lv + t) + 2 ^ (lv + t) ≤ 9223372036854775808) : sibN lv ix t = ⟨((lv + t : Nat) : Int), ((P / 2 ^ (lv + t) ^^^ 1 : Nat) : Int)⟩ := by
  have hix : ix / 2 ^ t = P / 2 ^ (lv + t) := by rw [← hP, Nat.div_div_eq_div_mul, ← Nat.pow_add]
  have hlt : P / 2 ^ (lv + t) ^^^ 1 ≤ (P / 2 ^ (lv + t) ^^^ 1) * 2 ^ (lv + t) := Nat.le_mul_of_pos_right _ (Nat.two_pow_pos _)
  have hq : P / 2 ^ (lv + t) < 18446744073709551616 := by
    have := Nat.two_pow_pos (lv + t)
    have hh := xor_one' (P / 2 ^ (lv + t))
    split at hh <;> omega
  have := bits_xor_u64_nat (P / 2 ^ (lv + t)) 1 hq (by omega)
  unfold sibN
  rw [hix, ← this]
  rfl
theorem sib_rows (A B C A2 B2 C2 : Int) (lv ix d P : Nat) (hP : P / 2 ^ lv = ix) (hs : ∀ t, t < d → (P / 2 ^ (lv + t) ^^^ 1) * 2 ^ (lv + t) + 2 ^ (lv + t) ≤ 9223372036854775808) :
    RowsH A B C A2 B2 C2 ((List.range d).map fun t => sspan P (lv + t)) ((sibs lv ix d).map (nhN A2 B2 C2)) := by
  induction d with
  | zero => trivial
  | succ d ih =>
    have hx := hs d (by omega)
    rw [sibs_succ, List.map_append, map_snoc]
    refine RowsH.append (m := [sspan P (lv + d)]) (ms := [nhN A2 B2 C2 (sibN lv ix d)]) ⟨fun k hk => ?_, trivial⟩ (ih (fun t ht => hs t (by omega)))
    have := spanHash_pow A B C A2 B2 C2 (lv + d) ((P / 2 ^ (lv + d) ^^^ 1) * 2 ^ (lv + d)) k hx (by omega)
    rw [Nat.mul_div_cancel _ (Nat.two_pow_pos _)] at this
    rw [sib_eq lv ix d P hP hx]
    exact this
theorem block_le {P M J : Nat} (h : M ≤ J) : (P / 2 ^ M + 1) * 2 ^ M ≤ (P / 2 ^ J + 1) * 2 ^ J := by
  obtain ⟨d, rfl⟩ : ∃ d, J = M + d := ⟨J - M, by omega⟩
  have h1 : P / 2 ^ M < (P / 2 ^ (M + d) + 1) * 2 ^ d := by
    rw [← Nat.div_lt_iff_lt_mul (Nat.two_pow_pos d), Nat.div_div_eq_div_mul, ← Nat.pow_add]
    exact Nat.lt_succ_self _
  calc (P / 2 ^ M + 1) * 2 ^ M ≤ ((P / 2 ^ (M + d) + 1) * 2 ^ d) * 2 ^ M := Nat.mul_le_mul_right _ h1
    _ = (P / 2 ^ (M + d) + 1) * 2 ^ (M + d) := by rw [Nat.mul_assoc, ← Nat.pow_add, Nat.add_comm d]
theorem sib_le {P L J : Nat} (h : L < J) : (P / 2 ^ L ^^^ 1) * 2 ^ L + 2 ^ L ≤ (P / 2 ^ J + 1) * 2 ^ J := by
  refine Nat.le_trans ?_ (block_le (P := P) h)
  have e : P / 2 ^ (L + 1) = P / 2 ^ L / 2 := by rw [Nat.div_div_eq_div_mul, ← Nat.pow_succ]
  have h2 : (P / 2 ^ L ^^^ 1) + 1 ≤ 2 * (P / 2 ^ L / 2) + 2 := by
    have hh := xor_one' (P / 2 ^ L)
    split at hh <;> omega
  have h3 : ((P / 2 ^ L ^^^ 1) + 1) * 2 ^ L ≤ (2 * (P / 2 ^ L / 2) + 2) * 2 ^ L := Nat.mul_le_mul_right _ h2
  rw [Nat.add_mul, Nat.one_mul] at h3
  rw [e, Nat.pow_succ]
  have h4 : (P / 2 ^ L / 2 + 1) * (2 ^ L * 2) = (2 * (P / 2 ^ L / 2) + 2) * 2 ^ L := by
    rw [Nat.mul_comm (2 ^ L) 2, ← Nat.mul_assoc, Nat.add_mul, Nat.one_mul, Nat.mul_comm _ 2]
  rw [h4]
  exact h3
theorem fork_rest {lv ix sz inn fi J e b : Nat} (hA : AtFork lv ix sz inn fi J e b) (h0 : sz % 2 ^ J ≠ 0) : restS 0 sz J = [spn e sz] := by
  unfold restS
  rw [if_neg h0, hA.top, ← hA.he, Nat.zero_add, Nat.zero_add]
theorem fork_none {sz J : Nat} (h0 : sz % 2 ^ J = 0) : restS 0 sz J = [] := by unfold restS; rw [if_pos h0]
theorem sps_append (l m : List (Nat × Nat)) : sps (l ++ m) = sps l ++ sps m := List.map_append
theorem sps_reverse (l : List (Nat × Nat)) : sps l.reverse = (sps l).reverse := List.map_reverse
theorem fork_b {lv ix sz inn fi J e b : Nat} (hsz : sz ≤ 9223372036854775808) (hA : AtFork lv ix sz inn fi J e b) : b < 9223372036854775808 := by
  have hb := hA.hb
  have he := hA.he
  have := hA.e_le
  have hp := Nat.two_pow_pos J
  rw [Nat.add_mul, Nat.one_mul] at he
  omega
/-- The rows that spec.Planned makes of the plan. -/
theorem plan_rows (lv ix sz inn fi J e b : Nat) (hsz : sz ≤ 9223372036854775808) (hA : AtFork lv ix sz inn fi J e b) (pre : List S69) (spre : List (Nat × Nat)) (hp : Spos (pre.map conv) spre) (hpl : pre.length ≤ 100) (k : Nat) (hk : 30000 ≤ k) :
    spec_Planned.f k ((pre ++ (rn (sz % 2 ^ J) e).reverse ++ (rn b 0).reverse).map conv) ((lv : Int) + (inn : Int)) (Go.bits .xor .u64 (fi : Int) 1) ((if sz % 2 ^ J = 0 then 0 else pre.length : Nat) : Int) ((if sz % 2 ^ J = 0 then 0 else pre.length + (rn (sz % 2 ^ J) e).length : Nat) : Int) =
      some (sps spre ++ restS 0 sz J ++ (rnS b 0).reverse, true) := by
  have hbl := fork_b hsz hA
  have hb64 : b < 2 ^ 64 := by omega
  obtain ⟨spL, l1, l2, l3⟩ := rn_spos b 0 64 hb64 (Nat.dvd_zero _) (by omega)
  have hL : (rn b 0).length ≤ 64 := by rw [rn_length]; exact pc_le 64 b hb64
  have hJ63 := hA.J63
  have hpJ := Nat.two_pow_pos J
  have hmod : sz % 2 ^ J < 2 ^ J := Nat.mod_lt _ hpJ
  have hsplit := hA.split
  have hlr := Spos.reverse l1
  rw [← List.map_reverse] at hlr
  by_cases h0 : sz % 2 ^ J = 0
  · rw [fork_none h0, List.append_nil, if_pos h0, if_pos h0, h0, rn_zero, List.reverse_nil, List.append_nil, List.map_append]
    have hq := Spos.append hp hlr
    have := planned_plain (pre.map conv ++ (rn b 0).reverse.map conv) ((lv : Int) + (inn : Int)) (Go.bits .xor .u64 (fi : Int) 1) (spre ++ spL.reverse) hq.1 (by simp; omega) hq.2 k (by omega)
    rw [this, ← l2, ← sps_reverse, ← sps_append]
    rfl
  · rw [fork_rest hA h0, if_neg h0, if_neg h0]
    have hde : 2 ^ J ∣ e := by rw [hA.he]; exact Nat.dvd_mul_left _ _
    obtain ⟨spR, r1, r2, r3⟩ := rn_spos (sz % 2 ^ J) e J hmod hde (by omega)
    rw [← hsplit] at r3
    have hR : (rn (sz % 2 ^ J) e).length ≤ 63 := by rw [rn_length]; exact pc_le 63 _ (Nat.lt_of_lt_of_le hmod (Nat.pow_le_pow_right (by decide) hJ63))
    have hne := rn_ne h0 e
    obtain ⟨R, hRe⟩ : ∃ R, R = rn (sz % 2 ^ J) e := ⟨_, rfl⟩
    rw [← hRe] at r1 r3 hR hne ⊢
    obtain ⟨m0, mt, hm⟩ : ∃ m0 mt, R.reverse.map conv = m0 :: mt := by
      cases h : R.reverse.map conv with
      | nil => simp at h; exact absurd h hne
      | cons y t => exact ⟨y, t, rfl⟩
    have hml : (m0 :: mt).length = R.length := by rw [← hm]; simp
    have hmem : m0 ∈ R.map conv := by
      have : m0 ∈ R.reverse.map conv := by rw [hm]; exact List.mem_cons_self
      rw [List.map_reverse] at this
      exact List.mem_reverse.1 this
    obtain ⟨fa, fb, hspo, _, _⟩ := chn_mem r3 m0 hmem
    have hposR : 0 < R.length := by rw [← hml, List.length_cons]; omega
    have he1 : Go.bits .xor .u64 (fi : Int) 1 = ((fi + 1 : Nat) : Int) := by
      have hfi : fi ≤ b := by rw [hA.hb]; exact Nat.le_mul_of_pos_right _ hpJ
      have := bits_xor_u64_nat fi 1 (by omega) (by omega)
      rw [xor_one', if_pos hA.even] at this
      exact this
    have he0 : (lv : Int) + (inn : Int) = (J : Int) := by have := hA.hJ; omega
    have hu : (fi + 1 + 1) * 2 ^ J ≤ 9223372036854775808 := by
      have h3 : 2 ^ (63 - J) * 2 ^ J = 9223372036854775808 := by rw [← Nat.pow_add, show 63 - J + J = 63 by omega]
      have h4 : (fi + 1) * 2 ^ J < 2 ^ (63 - J) * 2 ^ J := by rw [h3, ← hA.he]; omega
      have h5 : fi + 1 < 2 ^ (63 - J) := Nat.lt_of_mul_lt_mul_right h4
      rw [← h3]
      exact Nat.mul_le_mul_right _ h5
    have hspE := spo_node J (fi + 1) hu
    unfold Spo at hspE
    rw [← he0, ← he1, ← hA.he] at hspE
    rw [List.map_append, List.map_append, hm]
    have := planned_mid (pre.map conv) ((rn b 0).reverse.map conv) m0 mt ((lv : Int) + (inn : Int)) (Go.bits .xor .u64 (fi : Int) 1) spre spL.reverse hp hlr e sz ((fi + 1 + 1) * 2 ^ J) fa fb (by simp only [List.length_append, List.length_map, List.length_reverse, hml]; omega) hspo k hk
      (fun k' hk' => by
        rw [← hm, List.map_reverse]
        exact joined_some (R.map conv) e sz (by simpa using hposR) (by simp; omega) r3 hsz k' hk') hspE (by rw [Nat.add_mul (fi + 1) 1, ← hA.he, Nat.one_mul]; omega)
    rw [hml, List.length_map] at this
    rw [this, ← l2, ← sps_reverse]
    rfl
/-- The hashes of the plan's rows. -/
def planPs (A B C A2 B2 C2 : Int) (sz J e b : Nat) (pre : List S69) : List (List Int) :=
  pre.map (nhN A2 B2 C2) ++ (if sz % 2 ^ J = 0 then [] else [cfold A B C ((rn (sz % 2 ^ J) e).map (nhN A2 B2 C2))]) ++ ((rn b 0).map (nhN A2 B2 C2)).reverse
theorem plan_res (A B C A2 B2 C2 : Int) (sz J e b : Nat) (pre : List S69) (ps0 : List (List Int)) (h : ps0 = (pre ++ (rn (sz % 2 ^ J) e).reverse ++ (rn b 0).reverse).map (nhN A2 B2 C2)) (bg en : Nat) (hbg : bg = if sz % 2 ^ J = 0 then 0 else pre.length) (hen : en = if sz % 2 ^ J = 0 then 0 else pre.length + (rn (sz % 2 ^ J) e).length) :
    resAt (foldN A B C ps0 bg (en - bg - 1)) ps0 bg en ps0.length = planPs A B C A2 B2 C2 sz J e b pre := by
  unfold planPs
  by_cases h0 : sz % 2 ^ J = 0
  · rw [if_pos h0] at hbg hen ⊢
    subst hbg; subst hen
    rw [resAt_none, h, h0, rn_zero, List.reverse_nil, List.append_nil, List.append_nil, List.map_append, List.map_reverse]
  · rw [if_neg h0] at hbg hen ⊢
    have hne := rn_ne h0 e
    obtain ⟨R, hRe⟩ : ∃ R, R = rn (sz % 2 ^ J) e := ⟨_, rfl⟩
    rw [← hRe] at h hen hne ⊢
    have hR0 : 0 < R.length := by
      cases R with
      | nil => exact absurd rfl hne
      | cons _ _ => simp
    rw [List.map_append, List.map_append, List.map_reverse, List.map_reverse] at h
    have hf := foldN_rev A B C (pre.map (nhN A2 B2 C2)) (R.map (nhN A2 B2 C2)) ((rn b 0).map (nhN A2 B2 C2)).reverse (by simpa using hne)
    have hr := resAt_mid (cfold A B C (R.map (nhN A2 B2 C2))) (pre.map (nhN A2 B2 C2)) (R.map (nhN A2 B2 C2)).reverse ((rn b 0).map (nhN A2 B2 C2)).reverse (by simpa using hR0)
    rw [← h, List.length_map, List.length_map] at hf
    rw [← h, List.length_map, List.length_reverse, List.length_map, ← hen, ← hbg] at hr
    rw [show en - bg - 1 = R.length - 1 by omega, hbg, hf, ← hbg, hr]
theorem plan_hashes (A B C A2 B2 C2 : Int) (lv ix sz inn fi J e b : Nat) (hsz : sz ≤ 9223372036854775808) (hA : AtFork lv ix sz inn fi J e b) (pre : List S69) (rows : List S60) (hp : RowsH A B C A2 B2 C2 rows (pre.map (nhN A2 B2 C2))) :
    RowsH A B C A2 B2 C2 (rows ++ restS 0 sz J ++ (rnS b 0).reverse) (planPs A B C A2 B2 C2 sz J e b pre) := by
  have hbl := fork_b hsz hA
  have hb64 : b < 2 ^ 64 := by omega
  have hJ63 := hA.J63
  have hmod : sz % 2 ^ J < 2 ^ J := Nat.mod_lt _ (Nat.two_pow_pos J)
  have hsplit := hA.split
  unfold planPs
  refine RowsH.append (RowsH.reverse (rn_rows A B C A2 B2 C2 b 0 64 hb64 (Nat.dvd_zero _) (by omega))) (RowsH.append ?_ hp)
  by_cases h0 : sz % 2 ^ J = 0
  · rw [fork_none h0, if_pos h0]
    trivial
  · rw [fork_rest hA h0, if_neg h0]
    have hde : 2 ^ J ∣ e := by rw [hA.he]; exact Nat.dvd_mul_left _ _
    refine ⟨fun k hk => ?_, trivial⟩
    have := spanHash_rest A B C A2 B2 C2 (sz % 2 ^ J) e J k h0 hmod hde (by omega) (by omega)
    rw [← hsplit] at this
    exact this
theorem cfold_two (A B C : Int) (l : List (List Int)) (h : ∀ x ∈ l, Two x) (hne : l ≠ []) : Two (cfold A B C l) := by
  cases l with
  | nil => exact absurd rfl hne
  | cons y t =>
    cases t with
    | nil => exact h y List.mem_cons_self
    | cons z t => exact hc_two _ _ _ _ _
theorem nhN_two (A2 B2 C2 : Int) (l : List S69) : ∀ x ∈ l.map (nhN A2 B2 C2), Two x := by
  intro x hx
  obtain ⟨y, _, rfl⟩ := List.mem_map.1 hx
  exact nh_two _ _ _ _ _
theorem planPs_two (A B C A2 B2 C2 : Int) (sz J e b : Nat) (pre : List S69) : ∀ x ∈ planPs A B C A2 B2 C2 sz J e b pre, Two x := by
  intro x hx
  unfold planPs at hx
  rcases List.mem_append.1 hx with h | h
  · rcases List.mem_append.1 h with h | h
    · exact nhN_two _ _ _ _ x h
    · by_cases h0 : sz % 2 ^ J = 0
      · rw [if_pos h0] at h; simp at h
      · rw [if_neg h0] at h
        rw [List.mem_singleton.1 h]
        exact cfold_two _ _ _ _ (nhN_two _ _ _ _) (by simpa using rn_ne h0 e)
  · exact nhN_two _ _ _ _ x (List.mem_reverse.1 h)
end Go.Proofs.YtdjfagknffknjaaFmt.H
end

section
namespace Go.Proofs.YtdjfagknffknjaaFmt.H
open Go.RowKit Go.Extern.Stop Go.Stop Go.Extern Go.Proofs.YtdjfagknffknjaaFmtW.PrintWords Go.Proofs.YtdjfagknffknjaaFmtW.PrintLast Go.Proofs.YtdjfagknffknjaaFmtW.PrintMore Go.Proofs.YtdjfagknffknjaaFmt.Q
theorem eqB_refl (a : List Int) : eqB a a = true := by simp [eqB]
theorem eqB_comm (a b : List Int) : eqB a b = eqB b a := by unfold eqB; exact BEq.comm
theorem faultN_zero (b : Bool) : faultN b = 0 ↔ b = true := by cases b <;> simp [faultN]
/-- An inclusion proof's verdict. -/
theorem incl_verdict (A B C : Int) (idx n i b : Nat) (leaf : List Int) (ps : List (List Int)) (root : List Int) (hlt : idx < n) (hi : i = blen (idx ^^^ (n - 1))) (hb : b = pc (idx / 2 ^ i)) (h : ps.length = i + b) :
    inclFault A B C idx i b leaf ps root = faultN (eqB (rootOf A B C idx n leaf ps) root) := by
  have hd := dirs_bits 0 n idx hlt (.inl rfl)
  rw [← hi, ← hb, Nat.sub_zero] at hd
  have hl : ps.length = (dirs 0 idx n).length := by rw [hd]; simp [h]
  rw [rootOf_fold A B C leaf n idx ps (by omega) hlt hl, hd, fold_ways _ _ _ _ _ _ _ _ _ _ h, inclFault, if_pos h, rootOfProof, inner_chain, Nat.pow_zero, Nat.div_one]
theorem incl_long (A B C : Int) (idx i b : Nat) (leaf : List Int) (ps : List (List Int)) (root : List Int) (h : ps.length ≠ i + b) : inclFault A B C idx i b leaf ps root ≠ 0 := by
  rw [inclFault, if_neg h]; decide
theorem judged_of (A B C : Int) (idx n i b : Nat) (leaf : List Int) (ps : List (List Int)) (root : List Int) (at_ : Nat) (x : List Int) (hlt : idx < n) (hi : i = blen (idx ^^^ (n - 1))) (hb : b = pc (idx / 2 ^ i)) (h : ps.length = i + b) (hr : root = rootOf A B C idx n leaf ps) :
    Judged A B C idx n i b leaf ps root at_ x := by
  refine ⟨?_, incl_long _ _ _ _ _ _ _ _ _ (by simp; omega), fun _ => ?_, fun h0 => incl_long _ _ _ _ _ _ _ _ _ (by simp; omega)⟩
  · rw [incl_verdict A B C idx n i b leaf ps x hlt hi hb h, faultN_zero, ← hr, eqB_comm]
  · rw [incl_verdict A B C idx n i b leaf _ root hlt hi hb (by simp [h]), faultN_zero]
theorem dirs_pow_false (lv : Nat) : ∀ n, 2 ^ lv ≤ n → ∀ d ∈ dirs lv (2 ^ lv - 1) n, d = false := by
  intro n
  have hpl := Nat.two_pow_pos lv
  induction n using Nat.strongRecOn with
  | _ n ih =>
  intro h1 d hd
  by_cases hn : n = 2 ^ lv
  · rw [hn, dirs_nil (Nat.le_refl _)] at hd
    simp at hd
  · have hlt : 2 ^ lv < n := by omega
    have h2 : 2 ≤ n := by omega
    have hs := splitN_lt h2
    have hk : 2 ^ lv ≤ splitN n := by
      have := (Nat.le_log2 (n := n - 1) (k := lv) (by omega)).2 (by omega)
      exact Nat.pow_le_pow_right (by decide) this
    rw [dirs_left hlt (by omega)] at hd
    rcases List.mem_append.1 hd with h | h
    · exact ih _ hs hk d h
    · exact List.mem_singleton.1 h
theorem fold_false (A B C : Int) : ∀ (ps : List (List Int)) (ds : List Bool), (∀ d ∈ ds, d = false) → ∀ s, foldG A B C (fun s _ => s) s ps ds = s := by
  intro ps
  induction ps with
  | nil => intro ds _ s; simp [foldG]
  | cons x t ih =>
    intro ds h s
    cases ds with
    | nil => rfl
    | cons d u =>
      obtain rfl := h d List.mem_cons_self
      exact ih u (fun e he => h e (List.mem_cons_of_mem _ he)) s
theorem ctz_spec (m : Nat) (h1 : 1 ≤ m) (h2 : m < 18446744073709551616) : 2 ^ Lib.ctz 64 m ∣ m ∧ m / 2 ^ Lib.ctz 64 m % 2 = 1 := by
  obtain ⟨q, hq, _⟩ := Lib.ctzFrom_spec 64 m h1 h2
  have e : Lib.ctz 64 m = Lib.ctzFrom 64 m := by simp [Lib.ctz]; omega
  rw [e]
  have hp := Nat.two_pow_pos (Lib.ctzFrom 64 m)
  refine ⟨⟨_, hq⟩, ?_⟩
  have h3 : m / 2 ^ Lib.ctzFrom 64 m = 2 * q + 1 := by
    conv => lhs; arg 1; rw [hq]
    rw [Nat.mul_div_cancel_left _ hp]
  omega
/-- A consistency proof's verdict. -/
theorem cons_verdict (A B C : Int) (s1 s2 i b : Nat) (ps : List (List Int)) (a r : List Int) (h1 : 1 ≤ s1) (hlt : s1 < s2) (h64 : s2 ≤ 9223372036854775808) (hi : i = blen ((s1 - 1) ^^^ (s2 - 1))) (hb : b = pc ((s1 - 1) / 2 ^ i))
    (h : ps.length = (if s1 = 2 ^ Lib.ctz 64 s1 then 0 else 1) + (i - Lib.ctz 64 s1) + b) (hpos : 0 < ps.length) :
    consFault A B C i b s1 s2 ps a r = if eqB (rootsOf A B C s1 s2 ps a true).1 a = true then faultN (eqB (rootsOf A B C s1 s2 ps a true).2 r) else 1 := by
  obtain ⟨hd, hodd⟩ := ctz_spec s1 h1 (by omega)
  obtain ⟨lv, hlv⟩ : ∃ lv, lv = Lib.ctz 64 s1 := ⟨_, rfl⟩
  rw [consFault, if_neg (by omega), if_neg (by omega)]
  rw [← hlv] at h hd hodd ⊢
  have hdirs := dirs_bits lv s2 (s1 - 1) (by omega) (.inr ⟨by rw [Nat.sub_add_cancel h1]; exact hd, by omega⟩)
  rw [← hi, ← hb] at hdirs
  by_cases hp : s1 = 2 ^ lv
  · rw [if_pos hp, Nat.zero_add] at h
    have hlen : ps.length = (dirs lv (2 ^ lv - 1) s2).length := by rw [← hp, hdirs]; simp [h]
    have hroots := rootsOf_pow A B C a lv s2 ps (by omega) hlen
    rw [← hp, hdirs, fold_ways _ _ _ _ _ _ _ _ _ _ h] at hroots
    have hfr : foldG A B C (fun s _ => s) a ps (dirs lv (s1 - 1) s2) = a := by
      rw [hp]
      exact fold_false A B C ps _ (dirs_pow_false lv s2 (by omega)) a
    rw [if_pos hp, if_pos (by omega), List.drop_zero, hroots, if_pos (eqB_refl a)]
    rw [hdirs, fold_ways _ _ _ _ _ _ _ _ _ _ h] at hfr
    rw [consRest, right_chain, inner_chain, hfr, if_pos (eqB_refl a)]
  · rw [if_neg hp] at h
    rw [if_neg hp, if_pos h]
    obtain ⟨seed, qs, rfl⟩ : ∃ y t, ps = y :: t := by
      cases ps with
      | nil => simp at hpos
      | cons y t => exact ⟨y, t, rfl⟩
    have hq : qs.length = (i - lv) + b := by simp at h; omega
    have hlen : qs.length = (dirs lv (s1 - 1) s2).length := by rw [hdirs]; simp [hq]
    have hroots := rootsOf_part' A B C lv s2 s1 true seed qs a hd hodd (.inr hp) (.inl hlt) hlen
    rw [hdirs, fold_ways _ _ _ _ _ _ _ _ _ _ hq, fold_ways _ _ _ _ _ _ _ _ _ _ hq] at hroots
    rw [hroots, consRest, right_chain, inner_chain]
    rfl
/-- How long a consistency proof is. -/
def consLen (s1 i b : Nat) : Nat := (if s1 = 2 ^ Lib.ctz 64 s1 then 0 else 1) + (i - Lib.ctz 64 s1) + b
theorem cons_long (A B C : Int) (s1 s2 i b : Nat) (ps : List (List Int)) (a r : List Int) (hlt : s1 < s2) (h : ps.length ≠ consLen s1 i b) : consFault A B C i b s1 s2 ps a r ≠ 0 := by
  rw [consFault, if_neg (by omega)]
  unfold consLen at h
  by_cases h0 : ps.length = 0
  · rw [if_pos h0]; decide
  · rw [if_neg h0]
    by_cases hp : s1 = 2 ^ Lib.ctz 64 s1
    · rw [if_pos hp] at h ⊢
      rw [if_neg h]; decide
    · rw [if_neg hp] at h ⊢
      rw [if_neg h]; decide
theorem roots_again (A B C : Int) (s1 s2 i b : Nat) (ps : List (List Int)) (seed a r : List Int) (h1 : 1 ≤ s1) (hlt : s1 < s2) (h64 : s2 ≤ 9223372036854775808) (hi : i = blen ((s1 - 1) ^^^ (s2 - 1))) (hb : b = pc ((s1 - 1) / 2 ^ i))
    (h : ps.length = consLen s1 i b) (hr : (a, r) = rootsOf A B C s1 s2 ps seed true) : rootsOf A B C s1 s2 ps a true = (a, r) := by
  obtain ⟨hd, hodd⟩ := ctz_spec s1 h1 (by omega)
  unfold consLen at h
  obtain ⟨lv, hlv⟩ : ∃ lv, lv = Lib.ctz 64 s1 := ⟨_, rfl⟩
  rw [← hlv] at h hd hodd
  have hdirs := dirs_bits lv s2 (s1 - 1) (by omega) (.inr ⟨by rw [Nat.sub_add_cancel h1]; exact hd, by omega⟩)
  rw [← hi, ← hb] at hdirs
  by_cases hp : s1 = 2 ^ lv
  · rw [if_pos hp, Nat.zero_add] at h
    have hlen : ps.length = (dirs lv (2 ^ lv - 1) s2).length := by rw [← hp, hdirs]; simp [h]
    have e := rootsOf_pow A B C seed lv s2 ps (by omega) hlen
    rw [← hp] at e
    have ha : a = seed := by have := congrArg Prod.fst (hr.trans e); exact this
    rw [ha]
    rw [ha] at hr
    exact hr.symm
  · rw [if_neg hp] at h
    obtain ⟨x, qs, rfl⟩ : ∃ y t, ps = y :: t := by
      cases ps with
      | nil => simp at h; omega
      | cons y t => exact ⟨y, t, rfl⟩
    have hq : qs.length = (i - lv) + b := by simp at h; omega
    have hlen : qs.length = (dirs lv (s1 - 1) s2).length := by rw [hdirs]; simp [hq]
    rw [hr, rootsOf_part' A B C lv s2 s1 true x qs a hd hodd (.inr hp) (.inl hlt) hlen, rootsOf_part' A B C lv s2 s1 true x qs seed hd hodd (.inr hp) (.inl hlt) hlen]
theorem consLen_pos (s1 s2 i b : Nat) (h1 : 1 ≤ s1) (hlt : s1 < s2) (h64 : s2 ≤ 9223372036854775808) (hi : i = blen ((s1 - 1) ^^^ (s2 - 1))) (hb : b = pc ((s1 - 1) / 2 ^ i)) : 0 < consLen s1 i b := by
  obtain ⟨hd, hodd⟩ := ctz_spec s1 h1 (by omega)
  unfold consLen
  obtain ⟨lv, hlv⟩ : ∃ lv, lv = Lib.ctz 64 s1 := ⟨_, rfl⟩
  rw [← hlv] at hd hodd ⊢
  have hle := Nat.le_of_dvd (by omega) hd
  have hdirs := dirs_bits lv s2 (s1 - 1) (by omega) (.inr ⟨by rw [Nat.sub_add_cancel h1]; exact hd, by omega⟩)
  rw [← hi, ← hb] at hdirs
  have h3 : 0 < (dirs lv (s1 - 1) s2).length := by
    by_cases h : s1 - 1 < splitN s2
    · rw [dirs_left (by omega) h]; simp
    · rw [dirs_right (by omega) h]; simp
  rw [hdirs] at h3
  simp at h3
  omega
theorem cons_zero_iff (A B C : Int) (s1 s2 i b : Nat) (ps : List (List Int)) (a r : List Int) (h1 : 1 ≤ s1) (hlt : s1 < s2) (h64 : s2 ≤ 9223372036854775808) (hi : i = blen ((s1 - 1) ^^^ (s2 - 1))) (hb : b = pc ((s1 - 1) / 2 ^ i))
    (h : ps.length = consLen s1 i b) : consFault A B C i b s1 s2 ps a r = 0 ↔ (eqB (rootsOf A B C s1 s2 ps a true).1 a && eqB (rootsOf A B C s1 s2 ps a true).2 r) = true := by
  have hpos := consLen_pos s1 s2 i b h1 hlt h64 hi hb
  rw [cons_verdict A B C s1 s2 i b ps a r h1 hlt h64 hi hb h (by omega)]
  cases eqB (rootsOf A B C s1 s2 ps a true).1 a
  · simp
  · simp [faultN_zero]
theorem both_of (A B C : Int) (s1 s2 i b : Nat) (ps : List (List Int)) (seed a r : List Int) (at_ : Nat) (x : List Int) (h1 : 1 ≤ s1) (hlt : s1 < s2) (h64 : s2 ≤ 9223372036854775808) (hi : i = blen ((s1 - 1) ^^^ (s2 - 1))) (hb : b = pc ((s1 - 1) / 2 ^ i))
    (h : ps.length = consLen s1 i b) (hr : (a, r) = rootsOf A B C s1 s2 ps seed true) : Both A B C i b s1 s2 ps a r at_ x := by
  have hpos := consLen_pos s1 s2 i b h1 hlt h64 hi hb
  have hag := roots_again A B C s1 s2 i b ps seed a r h1 hlt h64 hi hb h hr
  refine ⟨cons_zero_iff A B C s1 s2 i b ps x r h1 hlt h64 hi hb h, ?_, cons_long _ _ _ _ _ _ _ _ _ _ hlt (by simp; omega), fun _ => cons_zero_iff A B C s1 s2 i b _ a r h1 hlt h64 hi hb (by simp [h]), fun h0 => cons_long _ _ _ _ _ _ _ _ _ _ hlt (by simp; omega)⟩
  rw [cons_zero_iff A B C s1 s2 i b ps a x h1 hlt h64 hi hb h, hag]
  simp [eqB_refl, eqB_comm]
theorem both_same (A B C : Int) (s i b : Nat) (a : List Int) (at_ : Nat) (x : List Int) : Both A B C i b s s [] a a at_ x := by
  refine ⟨?_, ?_, ?_, fun h => by simp at h, fun h => by simp at h⟩
  · rw [consFault, if_pos rfl, if_pos List.length_nil, rootsOf_whole, faultN_zero]
    simp [eqB_refl]
  · rw [consFault, if_pos rfl, if_pos List.length_nil, faultN_zero, eqB_comm]
  · rw [consFault, if_pos rfl, if_neg (by simp)]; decide
theorem other_byte : ∀ x : Fin 256, UInt8.ofNat x.val ≠ UInt8.ofNat (Go.bits .xor .u8 (x.val : Int) 1).toNat := by decide +kernel
theorem other_ne (l : List Int) (h : Two l) : ∃ oth, spec_Other.f l = some oth ∧ eqB l oth = false := by
  obtain ⟨x, y, rfl, x0, x1, y0, y1⟩ := h
  refine ⟨_, by rw [spec_Other.f, if_pos (by simp), if_pos (by simp)], ?_⟩
  have e := other_byte ⟨x.toNat, by omega⟩
  simp only [Int.toNat_of_nonneg x0] at e
  have e0 : rd [x, y] 0 = x := rfl
  unfold eqB
  rw [Lib.strOfNums_toList, Lib.strOfNums_toList, e0]
  refine beq_eq_false_iff_ne.2 fun hh => e ?_
  have := congrArg List.head? hh
  simpa [Lib.bytesOf] using this
end Go.Proofs.YtdjfagknffknjaaFmt.H
end

section
namespace Go.Proofs.YtdjfagknffknjaaFmt.H
open Go.RowKit Go.Extern.Stop Go.Stop Go.Extern Go.Proofs.YtdjfagknffknjaaFmtW.PrintWords Go.Proofs.YtdjfagknffknjaaFmtW.PrintLast Go.Proofs.YtdjfagknffknjaaFmtW.PrintMore Go.Proofs.YtdjfagknffknjaaFmt.Q
theorem gS_dirs (lv : Nat) : ∀ n fr i, (gS lv fr i n).length = (dirs lv i n).length := by
  intro n
  induction n using Nat.strongRecOn with
  | _ n ih =>
  intro fr i
  by_cases h : n ≤ 2 ^ lv
  · rw [gS_nil h, dirs_nil h]; rfl
  · have h2 := Nat.two_pow_pos lv
    have hs := splitN_lt (n := n) (by omega)
    have hp := splitN_pos n
    by_cases hi : i < splitN n
    · rw [gS_left (by omega) hi, dirs_left (by omega) hi, List.length_append, List.length_append, ih _ hs]; rfl
    · rw [gS_right (by omega) hi, dirs_right (by omega) hi, List.length_append, List.length_append, ih _ (by omega)]; rfl
theorem fold_two (A B C : Int) : ∀ (ps : List (List Int)) (ds : List Bool) (s : List Int), Two s → Two (foldG A B C (fun s p => hc A B C s p) s ps ds) := by
  intro ps
  induction ps with
  | nil => intro ds s h; simpa [foldG] using h
  | cons x t ih =>
    intro ds s h
    cases ds with
    | nil => exact h
    | cons d u =>
      have := ih u (stepG A B C (fun s p => hc A B C s p) s (x, d)) (by unfold stepG; split <;> exact hc_two _ _ _ _ _)
      exact this
theorem two_len {x : List Int} (h : Two x) : x.length = 2 := by
  obtain ⟨a, b, rfl, _⟩ := h
  rfl
theorem small_of {ps : List (List Int)} (h : ps.length ≤ 1000) (h2 : ∀ x ∈ ps, Two x) : Small ps := ⟨h, fun x hx => by rw [two_len (h2 x hx)]; omega⟩
/-- The fork of a leaf's number and a size. -/
theorem fork_here (lv P sz : Nat) (hsz : sz ≤ 9223372036854775808) (h : P / 2 ^ lv < sz / 2 ^ lv) :
    ∃ ix inn fi J e b, ix = P / 2 ^ lv ∧ AtFork lv ix sz inn fi J e b ∧ J - lv = inn ∧ J = (P ^^^ sz).log2 ∧ P / 2 ^ J * 2 ^ J = b ∧ e = (P / 2 ^ J + 1) * 2 ^ J := by
  obtain ⟨ix, hix⟩ : ∃ ix, ix = P / 2 ^ lv := ⟨_, rfl⟩
  obtain ⟨inn, hinn⟩ : ∃ inn, inn = (ix ^^^ sz / 2 ^ lv).log2 := ⟨_, rfl⟩
  rw [← hix] at h
  have hA := atFork lv ix sz inn (ix / 2 ^ inn) (lv + inn) ((ix / 2 ^ inn + 1) * 2 ^ (lv + inn)) (ix / 2 ^ inn * 2 ^ (lv + inn)) hsz h hinn rfl rfl rfl rfl
  have hfi : P / 2 ^ (lv + inn) = ix / 2 ^ inn := by rw [hix, Nat.div_div_eq_div_mul, ← Nat.pow_add]
  refine ⟨ix, inn, ix / 2 ^ inn, lv + inn, _, _, hix, hA, Nat.add_sub_cancel_left _ _, ?_, by rw [hfi], by rw [hfi]⟩
  symm
  apply log2_of_div_one
  rw [Nat.pow_add, ← Nat.div_div_eq_div_mul, Nat.xor_div_two_pow, ← hix, hinn]
  exact div_one_of_log2 (xor_ne_zero (Nat.ne_of_lt h))
theorem fork_sibs {lv P sz J e : Nat} (hsz : sz ≤ 9223372036854775808) (he : e = (P / 2 ^ J + 1) * 2 ^ J) (hes : e ≤ sz) (inn : Nat) (hJ : J = lv + inn) : ∀ t, t < inn → (P / 2 ^ (lv + t) ^^^ 1) * 2 ^ (lv + t) + 2 ^ (lv + t) ≤ 9223372036854775808 := by
  intro t ht
  have := sib_le (P := P) (L := lv + t) (J := J) (by omega)
  rw [← he] at this
  omega
theorem inclOk_all (A B C A2 B2 C2 : Int) (idx size at_ : Nat) (x : List Int) (hlt : idx < size) (hsz : size ≤ 9223372036854775808) : InclOk A B C A2 B2 C2 idx size at_ x := by
  obtain ⟨ix, inn, fi, J, e, b, hix, hA, hJl, hJx, hPb, hPe⟩ := fork_here 0 idx size hsz (by rw [Nat.pow_zero, Nat.div_one, Nat.div_one]; exact hlt)
  rw [Nat.pow_zero, Nat.div_one] at hix
  subst hix
  have hF := fork_of 40000 0 ix size inn fi J e b (by omega) hsz hA
  have hJ63 := hA.J63
  have hJ := hA.hJ
  have hb64 : b < 2 ^ 64 := by have := fork_b hsz hA; omega
  have hR64 := hF.R64
  have hL64 := hF.L64
  have hsb := fork_sibs (lv := 0) hsz hPe hA.e_le inn hJ
  have hix0 : ix / 2 ^ 0 = ix := by rw [Nat.pow_zero, Nat.div_one]
  obtain ⟨sp, s1, s2⟩ := sib_spos 0 ix inn ix hix0 hsb
  have hrows := sib_rows A B C A2 B2 C2 0 ix inn ix hix0 hsb
  have hsl : (sibs 0 ix inn).length = inn := by simp [sibs]
  have hplan := plan_rows 0 ix size inn fi J e b hsz hA (sibs 0 ix inn) sp s1 (by omega)
  obtain ⟨hlvJ, hgs⟩ := gS_top 0 size 0 ix J 64 hlt (by omega) (Nat.dvd_zero _) (by rw [hix0, Nat.pow_zero, Nat.div_one]; exact hlt) hJx
  have hhash := plan_hashes A B C A2 B2 C2 0 ix size inn fi J e b hsz hA (sibs 0 ix inn) _ hrows
  rw [hPb, hJl] at hgs
  simp only [Nat.zero_add] at hgs hrows hhash s2
  rw [s2, ← hgs] at hplan
  rw [← hgs] at hhash
  obtain ⟨ps1, hps1⟩ : ∃ p, p = planPs A B C A2 B2 C2 size J e b (sibs 0 ix inn) := ⟨_, rfl⟩
  obtain ⟨ids, hids⟩ : ∃ p, p = sibs 0 ix inn ++ (rn (size % 2 ^ J) e).reverse ++ (rn b 0).reverse := ⟨_, rfl⟩
  have hidl : ids.length ≤ 200 := by rw [hids]; simp only [List.length_append, List.length_reverse, hsl]; omega
  have hres := plan_res A B C A2 B2 C2 size J e b (sibs 0 ix inn) (ids.map (nhN A2 B2 C2)) (by rw [hids]) _ _ rfl rfl
  obtain ⟨bg, hbg⟩ : ∃ v, v = (if size % 2 ^ J = 0 then 0 else (sibs 0 ix inn).length) := ⟨_, rfl⟩
  obtain ⟨en, hene⟩ : ∃ v, v = (if size % 2 ^ J = 0 then 0 else (sibs 0 ix inn).length + (rn (size % 2 ^ J) e).length) := ⟨_, rfl⟩
  rw [← hps1] at hres hhash
  rw [← hids] at hplan
  rw [← hbg, ← hene] at hplan hres
  have htwo := planPs_two A B C A2 B2 C2 size J e b (sibs 0 ix inn)
  rw [← hps1] at htwo
  have hlen := RowsH.length hhash
  obtain ⟨i, hi⟩ : ∃ i, i = blen (ix ^^^ (size - 1)) := ⟨_, rfl⟩
  obtain ⟨bb, hbb⟩ : ∃ b, b = pc (ix / 2 ^ i) := ⟨_, rfl⟩
  have hdirs := dirs_bits 0 size ix hlt (.inl rfl)
  rw [← hi, ← hbb] at hdirs
  have hdl : ps1.length = i + bb := by rw [← hlen, gS_dirs, hdirs]; simp
  have hi63 : i ≤ 63 := by rw [hi]; exact blen_le 63 _ (Nat.xor_lt_two_pow (by omega) (by omega))
  have hbb64 : bb ≤ 63 := by
    rw [hbb]
    exact pc_le 63 _ (Nat.lt_of_le_of_lt (Nat.div_le_self _ _) (by omega))
  have hleaf2 := nh_two A2 B2 C2 0 (ix : Int)
  have hdl2 : ps1.length = (dirs 0 ix size).length := by rw [← hlen, gS_dirs]
  have hroot2 : Two (rootOf A B C ix size (nh A2 B2 C2 0 (ix : Int)) ps1) := by
    rw [rootOf_fold A B C _ size ix ps1 (by omega) hlt hdl2]
    exact fold_two A B C ps1 _ _ hleaf2
  obtain ⟨oth, ho1, ho2⟩ := other_ne _ hroot2
  have hen : en ≤ ids.length := by
    rw [hids, hene]; simp only [List.length_append, List.length_reverse]; split <;> omega
  refine ⟨40000, i, bb, ids, bg, en, ((0 : Nat) : Int) + (inn : Int), Go.bits .xor .u64 (fi : Int) 1, gS 0 0 ix size, gS 0 0 ix size, ids.map (nhN A2 B2 C2), ps1, ps1, nh A2 B2 C2 0 (ix : Int), rootOf A B C ix size (nh A2 B2 C2 0 (ix : Int)) ps1, oth, ?_⟩
  refine
    { nodes := fun W => ?_, small0 := small_of (by rw [List.length_map]; omega) (nhN_two _ _ _ _), len0 := by rw [List.length_map], en_le := by rw [List.length_map]; exact hen, bg_le := by rw [hbg, hene]; split <;> omega,
      planned := hplan 40000 (by omega), wanted := ?_, same := sameSpans_some _ _ (by omega) (by omega), hashes := nodeHashes_some _ _ _ _ _ (by omega) (by omega), ps1_eq := hres.symm,
      spanh := spanHashes_some _ _ _ _ _ _ _ _ _ hhash (by omega) (by omega), sameh := sameHashes_some _ _ (by omega) (by omega), leaf_eq := nh_some _ _ _ _ _, leaf2 := two_len hleaf2, root_eq := rfl,
      zero := ?_, other := ho1, one := ?_, judged := judged_of A B C ix size i bb _ ps1 _ at_ x hlt hi hbb hdl rfl, dec := ?_, hi := by omega, hb := by omega, idx_lt := hlt, size_le := hsz, small1 := small_of (by omega) htwo, len1 := by omega }
  · have hn := inclusion_any 40000 ix size inn fi b e _ _ hlt hF W
    unfold skipOfFork at hn
    rw [← hids] at hn
    have e1 : (bg : Int) = (if (rn (size % 2 ^ J) e).length = 0 then 0 else (inn : Int)) := by
      rw [hbg]
      by_cases h0 : size % 2 ^ J = 0
      · rw [if_pos h0, h0, rn_zero]; rfl
      · rw [if_neg h0, if_neg (by simpa using rn_ne h0 e), hsl]
    have e2 : (en : Int) = (if (rn (size % 2 ^ J) e).length = 0 then 0 else ((inn + (rn (size % 2 ^ J) e).length : Nat) : Int)) := by
      rw [hene]
      by_cases h0 : size % 2 ^ J = 0
      · rw [if_pos h0, h0, rn_zero]; rfl
      · rw [if_neg h0, if_neg (by simpa using rn_ne h0 e), hsl]
    rw [← e1, ← e2] at hn
    exact hn
  · have := pathSpans_some 63 40000 0 ix size (by omega) hlt (by omega) (by omega) (by omega) (by omega)
    rw [Int.natCast_zero] at this
    exact this
  · rw [incl_verdict A B C ix size i bb _ ps1 _ hlt hi hbb hdl, faultN_zero]
    exact eqB_refl _
  · rw [incl_verdict A B C ix size i bb _ ps1 _ hlt hi hbb hdl, ho2]
    rfl
  · have := decomp_some 39999 ix size (by omega) hsz (by omega)
    rw [← hi, ← hbb] at this
    exact this
end Go.Proofs.YtdjfagknffknjaaFmt.H
end

section
namespace Go.Proofs.YtdjfagknffknjaaFmt.H
open Go.RowKit Go.Extern.Stop Go.Stop Go.Extern Go.Proofs.YtdjfagknffknjaaFmtW.PrintWords Go.Proofs.YtdjfagknffknjaaFmtW.PrintLast Go.Proofs.YtdjfagknffknjaaFmtW.PrintMore Go.Proofs.YtdjfagknffknjaaFmt.Q
theorem roots_two (A B C : Int) (s1 s2 i b : Nat) (ps : List (List Int)) (seed : List Int) (h1 : 1 ≤ s1) (hlt : s1 < s2) (h64 : s2 ≤ 9223372036854775808) (hi : i = blen ((s1 - 1) ^^^ (s2 - 1))) (hb : b = pc ((s1 - 1) / 2 ^ i))
    (h : ps.length = consLen s1 i b) (h2 : ∀ x ∈ ps, Two x) (hs : Two seed) : Two (rootsOf A B C s1 s2 ps seed true).2 := by
  obtain ⟨hd, hodd⟩ := ctz_spec s1 h1 (by omega)
  unfold consLen at h
  obtain ⟨lv, hlv⟩ : ∃ lv, lv = Lib.ctz 64 s1 := ⟨_, rfl⟩
  rw [← hlv] at h hd hodd
  have hdirs := dirs_bits lv s2 (s1 - 1) (by omega) (.inr ⟨by rw [Nat.sub_add_cancel h1]; exact hd, by omega⟩)
  rw [← hi, ← hb] at hdirs
  by_cases hp : s1 = 2 ^ lv
  · rw [if_pos hp, Nat.zero_add] at h
    have hlen : ps.length = (dirs lv (2 ^ lv - 1) s2).length := by rw [← hp, hdirs]; simp [h]
    have e := rootsOf_pow A B C seed lv s2 ps (by omega) hlen
    rw [← hp] at e
    rw [e]
    exact fold_two A B C _ _ _ hs
  · rw [if_neg hp] at h
    obtain ⟨x, qs, rfl⟩ : ∃ y t, ps = y :: t := by
      cases ps with
      | nil => simp at h; omega
      | cons y t => exact ⟨y, t, rfl⟩
    have hq : qs.length = (i - lv) + b := by simp at h; omega
    have hlen : qs.length = (dirs lv (s1 - 1) s2).length := by rw [hdirs]; simp [hq]
    rw [rootsOf_part' A B C lv s2 s1 true x qs seed hd hodd (.inr hp) (.inl hlt) hlen]
    exact fold_two A B C _ _ _ (h2 x List.mem_cons_self)
theorem consOk_core (F : Interp) (A B C A2 B2 C2 : Int) (s1 s2 at_ : Nat) (x : List Int) (h1 : 1 ≤ s1) (hlt : s1 < s2) (hsz : s2 ≤ 9223372036854775808) (lv : Nat) (hlv : lv = Lib.ctz 64 s1) (ix inn fi J e b : Nat) (hA : AtFork lv ix s2 inn fi J e b)
    (pre : List S69) (spre : List (Nat × Nat)) (hp : Spos (pre.map conv) spre) (hpl : pre.length ≤ 100) (hpH : RowsH A B C A2 B2 C2 (sps spre) (pre.map (nhN A2 B2 C2)))
    (hgs : sps spre ++ restS 0 s2 J ++ (rnS b 0).reverse = headS lv 0 s1 true ++ gS lv 0 (s1 - 1) s2)
    (hn : ∀ W, Glob F W → Calls Tryf.prog 37 #[.int .u64 s1, .int .u64 s2] W (NodesOut ⟨pre ++ (rn (s2 % 2 ^ J) e).reverse ++ (rn b 0).reverse, ((if s2 % 2 ^ J = 0 then 0 else pre.length : Nat) : Int), ((if s2 % 2 ^ J = 0 then 0 else pre.length + (rn (s2 % 2 ^ J) e).length : Nat) : Int), (lv : Int) + (inn : Int), Go.bits .xor .u64 (fi : Int) 1⟩ W)) :
    ConsOk F A B C A2 B2 C2 s1 s2 at_ x := by
  have hJ63 := hA.J63
  have hb64 : b < 2 ^ 64 := by have := fork_b hsz hA; omega
  have hmod : s2 % 2 ^ J < 2 ^ J := Nat.mod_lt _ (Nat.two_pow_pos J)
  have hR : (rn (s2 % 2 ^ J) e).length ≤ 63 := by rw [rn_length]; exact pc_le 63 _ (Nat.lt_of_lt_of_le hmod (Nat.pow_le_pow_right (by decide) hJ63))
  have hL : (rn b 0).length ≤ 64 := by rw [rn_length]; exact pc_le 64 b hb64
  have hplan := plan_rows lv ix s2 inn fi J e b hsz hA pre spre hp hpl
  have hhash := plan_hashes A B C A2 B2 C2 lv ix s2 inn fi J e b hsz hA pre _ hpH
  rw [hgs] at hplan hhash
  obtain ⟨hd, hodd⟩ := ctz_spec s1 h1 (by omega)
  rw [← hlv] at hd hodd
  have hpl2 := Nat.two_pow_pos lv
  obtain ⟨ps1, hps1⟩ : ∃ p, p = planPs A B C A2 B2 C2 s2 J e b pre := ⟨_, rfl⟩
  obtain ⟨ids, hids⟩ : ∃ p, p = pre ++ (rn (s2 % 2 ^ J) e).reverse ++ (rn b 0).reverse := ⟨_, rfl⟩
  have hidl : ids.length ≤ 300 := by rw [hids]; simp only [List.length_append, List.length_reverse]; omega
  have hres := plan_res A B C A2 B2 C2 s2 J e b pre (ids.map (nhN A2 B2 C2)) (by rw [hids]) _ _ rfl rfl
  obtain ⟨bg, hbg⟩ : ∃ v, v = (if s2 % 2 ^ J = 0 then 0 else pre.length) := ⟨_, rfl⟩
  obtain ⟨en, hene⟩ : ∃ v, v = (if s2 % 2 ^ J = 0 then 0 else pre.length + (rn (s2 % 2 ^ J) e).length) := ⟨_, rfl⟩
  rw [← hps1] at hres hhash
  rw [← hids] at hplan hn
  rw [← hbg, ← hene] at hplan hres hn
  have htwo := planPs_two A B C A2 B2 C2 s2 J e b pre
  rw [← hps1] at htwo
  have hlen := RowsH.length hhash
  obtain ⟨i, hi⟩ : ∃ i, i = blen ((s1 - 1) ^^^ (s2 - 1)) := ⟨_, rfl⟩
  obtain ⟨bb, hbb⟩ : ∃ b, b = pc ((s1 - 1) / 2 ^ i) := ⟨_, rfl⟩
  have hdirs := dirs_bits lv s2 (s1 - 1) (by omega) (.inr ⟨by rw [Nat.sub_add_cancel h1]; exact hd, by omega⟩)
  rw [← hi, ← hbb] at hdirs
  have hgl : (gS lv 0 (s1 - 1) s2).length = (i - lv) + bb := by rw [gS_dirs, hdirs]; simp
  have hhl : (headS lv 0 s1 true).length = if s1 = 2 ^ lv then 0 else 1 := by
    unfold headS
    by_cases hpw : s1 = 2 ^ lv
    · rw [if_pos ⟨rfl, hpw⟩, if_pos hpw]; rfl
    · rw [if_neg (fun h => hpw h.2), if_neg hpw]; rfl
  have hdl : ps1.length = consLen s1 i bb := by
    unfold consLen
    rw [← hlv, ← hlen, List.length_append, hhl, hgl, Nat.add_assoc]
  have hi63 : i ≤ 63 := by rw [hi]; exact blen_le 63 _ (Nat.xor_lt_two_pow (by omega) (by omega))
  have hbb64 : bb ≤ 63 := by
    rw [hbb]
    exact pc_le 63 _ (Nat.lt_of_le_of_lt (Nat.div_le_self _ _) (by omega))
  have hps1l : ps1.length ≤ 300 := by
    rw [hdl]; unfold consLen; split <;> omega
  have hlvi : lv ≤ i := by
    obtain ⟨q, hq⟩ := hd
    have hq0 : q ≠ 0 := by intro h; subst h; omega
    obtain ⟨q, rfl⟩ : ∃ r, q = r + 1 := ⟨q - 1, by omega⟩
    have e1 : (s1 - 1) / 2 ^ lv < q + 1 := by
      rw [Nat.div_lt_iff_lt_mul hpl2, Nat.mul_comm, ← hq]; omega
    have e2 : q + 1 ≤ (s2 - 1) / 2 ^ lv := by
      rw [Nat.le_div_iff_mul_le hpl2, Nat.mul_comm, ← hq]; omega
    have hne : ((s1 - 1) ^^^ (s2 - 1)) / 2 ^ lv ≠ 0 := by
      rw [Nat.xor_div_two_pow]
      exact xor_ne_zero (by omega)
    have hge : 2 ^ lv ≤ (s1 - 1) ^^^ (s2 - 1) := by
      rcases Nat.lt_or_ge ((s1 - 1) ^^^ (s2 - 1)) (2 ^ lv) with h | h
      · exact absurd (Nat.div_eq_of_lt h) hne
      · exact h
    have hx0 : (s1 - 1) ^^^ (s2 - 1) ≠ 0 := by omega
    have := (Nat.le_log2 hx0).2 hge
    rw [hi, blen_pos hx0]
    omega
  obtain ⟨seed, hseed, hseed2⟩ := spanHash_ex A B C A2 B2 C2 63 0 s1 40000 h1 (by omega) (by omega) (by omega)
  obtain ⟨a, ha⟩ : ∃ a, a = (rootsOf A B C s1 s2 ps1 seed true).1 := ⟨_, rfl⟩
  obtain ⟨r, hr⟩ : ∃ r, r = (rootsOf A B C s1 s2 ps1 seed true).2 := ⟨_, rfl⟩
  have har : (a, r) = rootsOf A B C s1 s2 ps1 seed true := by rw [ha, hr]
  have hr2 : Two r := by rw [hr]; exact roots_two A B C s1 s2 i bb ps1 seed h1 hlt hsz hi hbb hdl htwo hseed2
  have hag := roots_again A B C s1 s2 i bb ps1 seed a r h1 hlt hsz hi hbb hdl har
  obtain ⟨oth, ho1, ho2⟩ := other_ne _ hr2
  have hpos := consLen_pos s1 s2 i bb h1 hlt hsz hi hbb
  have hen : en ≤ ids.length := by
    rw [hids, hene]; simp only [List.length_append, List.length_reverse]; split <;> omega
  have hver := fun oth => cons_verdict A B C s1 s2 i bb ps1 a oth h1 hlt hsz hi hbb hdl (by omega)
  rw [hag] at hver
  refine ⟨40000, i, bb, ids, bg, en, (lv : Int) + (inn : Int), Go.bits .xor .u64 (fi : Int) 1, headS lv 0 s1 true ++ gS lv 0 (s1 - 1) s2, headS lv 0 s1 true ++ gS lv 0 (s1 - 1) s2, ids.map (nhN A2 B2 C2), ps1, ps1, seed, a, r, oth, ?_⟩
  refine
    { nodes := hn, small0 := small_of (by rw [List.length_map]; omega) (nhN_two _ _ _ _), len0 := by rw [List.length_map], en_le := by rw [List.length_map]; exact hen, bg_le := by rw [hbg, hene]; split <;> omega,
      planned := hplan 40000 (by omega), wanted := ?_, same := sameSpans_some _ _ (by omega) (by omega), hashes := nodeHashes_some _ _ _ _ _ (by omega) (by omega), ps1_eq := hres.symm,
      spanh := spanHashes_some _ _ _ _ _ _ _ _ _ hhash (by omega) (by omega), sameh := sameHashes_some _ _ (by omega) (by omega), seed_eq := ?_, roots_eq := har,
      zero := ?_, other := ho1, one := ?_, both := both_of A B C s1 s2 i bb ps1 seed a r at_ x h1 hlt hsz hi hbb hdl har,
      parts := ⟨h1, by omega, by omega, by omega, by omega, fun _ => ⟨?_, by rw [← hlv]; exact hlvi⟩⟩, size_le := hsz, small1 := small_of (by omega) htwo, len1 := by omega }
  · have := proofSpans_some lv 63 40000 0 s1 s2 true hd hodd (.inl hlt) (by omega) (by omega) (by omega) (by omega)
    rw [Int.natCast_zero] at this
    exact this
  · rw [Nat.zero_add, Int.natCast_zero] at hseed
    exact hseed
  · rw [hver r, if_pos (eqB_refl a), faultN_zero]
    exact eqB_refl r
  · rw [hver oth, if_pos (eqB_refl a), ho2]
    rfl
  · have := decomp_some 39999 (s1 - 1) s2 (by omega) hsz (by omega)
    rw [← hi, ← hbb] at this
    exact this
theorem consOk_same (F : Interp) (A B C A2 B2 C2 : Int) (s at_ : Nat) (x : List Int) (h1 : 1 ≤ s) (hsz : s ≤ 9223372036854775808) : ConsOk F A B C A2 B2 C2 s s at_ x := by
  obtain ⟨seed, hseed, hseed2⟩ := spanHash_ex A B C A2 B2 C2 63 0 s 40000 h1 (by omega) (by omega) (by omega)
  obtain ⟨oth, ho1, ho2⟩ := other_ne _ hseed2
  have hnil : ∀ x ∈ ([] : List (List Int)), Two x := fun x h => by simp at h
  refine ⟨40000, 0, 0, [], 0, 0, 0, 0, [], [], [], [], [], seed, seed, seed, oth, ?_⟩
  refine
    { nodes := fun W _ => ?_, small0 := small_of (by simp) hnil, len0 := rfl, en_le := Nat.le_refl _, bg_le := Nat.le_refl _,
      planned := ?_, wanted := ?_, same := sameSpans_some _ _ (by simp) (by omega), hashes := nodeHashes_some A2 B2 C2 [] _ (by simp) (by omega), ps1_eq := rfl,
      spanh := spanHashes_some A B C A2 B2 C2 [] [] _ trivial (by simp) (by omega), sameh := sameHashes_some _ _ (by simp) (by omega), seed_eq := ?_, roots_eq := (rootsOf_whole _ _ _ _ _ _).symm,
      zero := ?_, other := ho1, one := ?_, both := both_same _ _ _ _ _ _ _ _ _,
      parts := ⟨h1, Nat.le_refl _, by omega, by omega, by omega, fun h => absurd h (Nat.lt_irrefl s)⟩, size_le := hsz, small1 := small_of (by simp) hnil, len1 := by simp }
  · have := consistency_same s W
    rw [Int.natCast_zero]
    exact this
  · exact planned_plain [] 0 0 [] rfl (by simp) (fun j x p h => by simp at h) 40000 (by omega)
  · rw [spec_ProofSpans.f, if_pos rfl, if_pos rfl]
  · rw [Nat.zero_add, Int.natCast_zero] at hseed
    exact hseed
  · rw [consFault, if_pos rfl, if_pos List.length_nil, eqB_refl]
    rfl
  · rw [consFault, if_pos rfl, if_pos List.length_nil, ho2]
    rfl
theorem consOk_all (F : Interp) (A B C A2 B2 C2 : Int) (s1 s2 at_ : Nat) (x : List Int) (h1 : 1 ≤ s1) (hle : s1 ≤ s2) (hsz : s2 ≤ 9223372036854775808) : ConsOk F A B C A2 B2 C2 s1 s2 at_ x := by
  by_cases heq : s1 = s2
  · subst heq
    exact consOk_same F A B C A2 B2 C2 s1 at_ x h1 hsz
  have hlt : s1 < s2 := by omega
  obtain ⟨hd, hodd⟩ := ctz_spec s1 h1 (by omega)
  obtain ⟨lv, hlv⟩ : ∃ lv, lv = Lib.ctz 64 s1 := ⟨_, rfl⟩
  rw [← hlv] at hd hodd
  have hpl2 := Nat.two_pow_pos lv
  obtain ⟨q, hq⟩ := hd
  have hq0 : q ≠ 0 := by intro h; subst h; omega
  obtain ⟨q, rfl⟩ : ∃ r, q = r + 1 := ⟨q - 1, by omega⟩
  have hqm : 2 ^ lv * (q + 1) = 2 ^ lv * q + 2 ^ lv := Nat.mul_succ _ _
  have hPq : (s1 - 1) / 2 ^ lv = q := by
    rw [hq, hqm, show 2 ^ lv * q + 2 ^ lv - 1 = 2 ^ lv - 1 + 2 ^ lv * q by omega, Nat.add_mul_div_left _ _ hpl2, Nat.div_eq_of_lt (by omega), Nat.zero_add]
  have hblk : (s1 - 1) / 2 ^ lv < s2 / 2 ^ lv := by
    rw [hPq]
    have : q + 1 ≤ s2 / 2 ^ lv := by
      rw [Nat.le_div_iff_mul_le hpl2, Nat.mul_comm, ← hq]; omega
    omega
  obtain ⟨ix, inn, fi, J, e, b, hix, hA, hJl, hJx, hPb, hPe⟩ := fork_here lv (s1 - 1) s2 hsz hblk
  have hF := fork_of 40000 lv ix s2 inn fi J e b (by omega) hsz hA
  have hJ63 := hA.J63
  have hJ := hA.hJ
  have hinn := hF.inn64
  have hsb := fork_sibs hsz hPe hA.e_le inn hJ
  obtain ⟨sp, t1, t2⟩ := sib_spos lv ix inn (s1 - 1) hix.symm hsb
  have hrows := sib_rows A B C A2 B2 C2 lv ix inn (s1 - 1) hix.symm hsb
  have hsl : (sibs lv ix inn).length = inn := by simp [sibs]
  obtain ⟨hlvJ, hgs⟩ := gS_top lv s2 0 (s1 - 1) J 64 (by omega) (by omega) (Nat.dvd_zero _) hblk hJx
  rw [hPb, hJl, Nat.zero_add] at hgs
  rw [← t2] at hrows hgs
  have hqix : q = ix := by rw [hix, hPq]
  have hm1 : s1 - 1 + 1 = s1 := by omega
  by_cases h0 : ix = 0
  · have hpw : s1 = 2 ^ lv := by rw [hq, hqix, h0, Nat.zero_add, Nat.mul_one]
    refine consOk_core F A B C A2 B2 C2 s1 s2 at_ x h1 hlt hsz lv hlv ix inn fi J e b hA (sibs lv ix inn) sp t1 (by omega) hrows ?_ (fun W hG => ?_)
    · have hh : headS lv 0 s1 true = [] := by unfold headS; rw [if_pos ⟨rfl, hpw⟩]
      rw [hh, List.nil_append, hgs]
    · have hn := consistency_pow F 40000 s1 s2 (s1 - 1) lv ix inn fi b e _ _ hm1 hlt hlv.symm hix.symm hF h0 W hG
      unfold skipOfFork at hn
      have e1 : ((if s2 % 2 ^ J = 0 then 0 else (sibs lv ix inn).length : Nat) : Int) = (if (rn (s2 % 2 ^ J) e).length = 0 then 0 else (inn : Int)) := by
        by_cases h0 : s2 % 2 ^ J = 0
        · rw [if_pos h0, h0, rn_zero]; rfl
        · rw [if_neg h0, if_neg (by simpa using rn_ne h0 e), hsl]
      have e2 : ((if s2 % 2 ^ J = 0 then 0 else (sibs lv ix inn).length + (rn (s2 % 2 ^ J) e).length : Nat) : Int) = (if (rn (s2 % 2 ^ J) e).length = 0 then 0 else ((inn + (rn (s2 % 2 ^ J) e).length : Nat) : Int)) := by
        by_cases h0 : s2 % 2 ^ J = 0
        · rw [if_pos h0, h0, rn_zero]; rfl
        · rw [if_neg h0, if_neg (by simpa using rn_ne h0 e), hsl]
      rw [← e1, ← e2] at hn
      exact hn
  · have hnp : s1 ≠ 2 ^ lv := by
      intro h
      rw [hq, hqix] at h
      have h3 : 1 ≤ ix := by omega
      have h4 : 2 ^ lv * 2 ≤ 2 ^ lv * (ix + 1) := Nat.mul_le_mul_left _ (by omega)
      omega
    have hs1 : (ix + 1) * 2 ^ lv = s1 := by rw [Nat.mul_comm, ← hqix, ← hq]
    have hs0 : ix * 2 ^ lv = s1 - 2 ^ lv := by rw [← hs1, Nat.add_mul, Nat.one_mul, Nat.add_sub_cancel]
    have hnode := spo_node lv ix (by rw [hs1]; omega)
    rw [hs0, hs1] at hnode
    have hpos2 : Spos (([(⟨(lv : Int), (ix : Int)⟩ : S69)] ++ sibs lv ix inn).map conv) ((s1 - 2 ^ lv, s1) :: sp) := Spos.cons hnode t1
    refine consOk_core F A B C A2 B2 C2 s1 s2 at_ x h1 hlt hsz lv hlv ix inn fi J e b hA ([(⟨(lv : Int), (ix : Int)⟩ : S69)] ++ sibs lv ix inn) ((s1 - 2 ^ lv, s1) :: sp) hpos2 (by rw [List.length_append, hsl, List.length_singleton]; omega) ⟨fun k hk => ?_, hrows⟩ ?_ (fun W hG => ?_)
    · have := spanHash_pow A B C A2 B2 C2 lv (s1 - 2 ^ lv) k (by omega) (by omega)
      have e1 : (s1 - 2 ^ lv) / 2 ^ lv = ix := by rw [← hs0, Nat.mul_div_cancel _ hpl2]
      have e2 : s1 - 2 ^ lv + 2 ^ lv = s1 := by have := Nat.le_mul_of_pos_left (2 ^ lv) (Nat.succ_pos ix); omega
      rw [e1, e2] at this
      exact this
    · have hh : headS lv 0 s1 true = [spn (s1 - 2 ^ lv) s1] := by
        unfold headS; rw [if_neg (fun h => hnp h.2), Nat.zero_add]
      rw [hh, hgs]
      rfl
    · have hn := consistency_odd F 40000 s1 s2 (s1 - 1) lv ix inn fi b e _ _ hm1 hlt hlv.symm hix.symm hF (by omega) W hG
      unfold planOfFork at hn
      have hl2 : ([(⟨(lv : Int), (ix : Int)⟩ : S69)] ++ sibs lv ix inn).length = 1 + inn := by rw [List.length_append, hsl, List.length_singleton]
      have e1 : ((if s2 % 2 ^ J = 0 then 0 else ([(⟨(lv : Int), (ix : Int)⟩ : S69)] ++ sibs lv ix inn).length : Nat) : Int) = (if (rn (s2 % 2 ^ J) e).length = 0 then 0 else ((1 + inn : Nat) : Int)) := by
        by_cases h0 : s2 % 2 ^ J = 0
        · rw [if_pos h0, h0, rn_zero]; rfl
        · rw [if_neg h0, if_neg (by simpa using rn_ne h0 e), hl2]
      have e2 : ((if s2 % 2 ^ J = 0 then 0 else ([(⟨(lv : Int), (ix : Int)⟩ : S69)] ++ sibs lv ix inn).length + (rn (s2 % 2 ^ J) e).length : Nat) : Int) = (if (rn (s2 % 2 ^ J) e).length = 0 then 0 else ((1 + inn + (rn (s2 % 2 ^ J) e).length : Nat) : Int)) := by
        by_cases h0 : s2 % 2 ^ J = 0
        · rw [if_pos h0, h0, rn_zero]; rfl
        · rw [if_neg h0, if_neg (by simpa using rn_ne h0 e), hl2]
      rw [← e1, ← e2] at hn
      exact hn
end Go.Proofs.YtdjfagknffknjaaFmt.H
end
