/- The reference's split and its roots of proofs, by their contracts; conditions: sizes at most 2^63. -/
import Derived.Test.YtdjfagknffknjaaFmtXV

section
namespace Go.Proofs.YtdjfagknffknjaaFmt.H
open Go.RowKit Go.Extern.Stop Go.Stop Go.Extern Go.Proofs.YtdjfagknffknjaaFmtW.PrintWords Go.Proofs.YtdjfagknffknjaaFmtW.PrintLast Go.Proofs.YtdjfagknffknjaaFmtW.PrintMore Go.Proofs.YtdjfagknffknjaaFmt.Q
/-- The largest power of two below a number above 1. -/
def splitN (n : Nat) : Nat := 2 ^ Nat.log2 (n - 1)
theorem splitN_lt {n : Nat} (h : 2 ≤ n) : splitN n < n := by
  have := Nat.log2_self_le (n := n - 1) (by omega)
  unfold splitN; omega
theorem splitN_ge {n : Nat} (h : 2 ≤ n) : n ≤ 2 * splitN n := by
  have := Nat.lt_log2_self (n := n - 1)
  rw [Nat.pow_succ] at this
  unfold splitN; omega
theorem splitN_pos (n : Nat) : 0 < splitN n := Nat.two_pow_pos _
theorem splitN_unique {n j : Nat} (h1 : 2 ^ j < n) (h2 : n ≤ 2 ^ (j + 1)) : splitN n = 2 ^ j := by
  unfold splitN
  have h0 : 1 ≤ 2 ^ j := Nat.one_le_two_pow
  have h3 : (n - 1).log2 = j := (Nat.log2_eq_iff (by omega)).2 ⟨by omega, by omega⟩
  rw [h3]
theorem split_from (n : Nat) (hn : 2 ≤ n) (hn2 : n ≤ 9223372036854775808) (d : Nat) : ∀ (k j : Nat), j + d = 63 → d < k → 2 ^ j < n → spec_Split.l0 k (n : Int) ((2 ^ j : Nat) : Int) = some ((splitN n : Nat) : Int) := by
  induction d with
  | zero =>
    intro k j hj hk hlt
    have : j = 63 := by omega
    subst this
    have : (2 : Nat) ^ 63 = 9223372036854775808 := by decide
    omega
  | succ d ih =>
    intro k j hj hk hlt
    obtain ⟨k, rfl⟩ : ∃ m, k = m + 1 := ⟨k - 1, by omega⟩
    have hj62 : (2 : Nat) ^ j ≤ 2 ^ 62 := Nat.pow_le_pow_right (by omega) (by omega)
    have h62 : (2 : Nat) ^ 62 = 4611686018427387904 := by decide
    have hs : (2 : Nat) ^ (j + 1) = 2 ^ j * 2 := Nat.pow_succ ..
    have e1 : IntKind.u64.wrap ((n : Int) - ((2 ^ j : Nat) : Int)) = (n : Int) - ((2 ^ j : Nat) : Int) := by rw [IntKind.wrap_u64]; omega
    have e2 : IntKind.u64.wrap (((2 ^ j : Nat) : Int) * 2) = ((2 ^ (j + 1) : Nat) : Int) := by rw [IntKind.wrap_u64, hs]; omega
    simp only [spec_Split.l0]
    rw [e1]
    by_cases hc : ((2 ^ j : Nat) : Int) < (n : Int) - ((2 ^ j : Nat) : Int)
    · rw [if_pos hc, e2]
      exact ih k (j + 1) (by omega) (by omega) (by omega)
    · rw [if_neg hc, splitN_unique hlt (by omega)]
theorem split_some (n : Nat) (hn : 2 ≤ n) (hn2 : n ≤ 9223372036854775808) : spec_Split.f 64 (n : Int) = some ((splitN n : Nat) : Int) :=
  split_from n hn hn2 63 64 0 rfl (by omega) (by omega)
theorem split_any (n : Nat) (hn : 2 ≤ n) (hn2 : n ≤ 9223372036854775808) (w : World) : Calls Tryf.prog 34 #[.int .u64 n] w fun e w' => e = .returned (.int .u64 (splitN n : Nat)) ∧ Below w.heap.size w w' :=
  (spec_Split.calls 64 n _ w (split_some n hn hn2)).mono fun _ _ ⟨he, hd⟩ => ⟨he, hd.below⟩
/-- The root that an inclusion proof tells, by RFC 6962. -/
def rootOf (A B C : Int) (i n : Nat) (leaf : List Int) (ps : List (List Int)) : List Int :=
  if _h : n ≤ 1 then leaf
  else if ps.length = 0 then []
  else if i < splitN n then hc A B C (rootOf A B C i (splitN n) leaf ps.dropLast) (ps.getD (ps.length - 1) [])
  else hc A B C (ps.getD (ps.length - 1) []) (rootOf A B C (i - splitN n) (n - splitN n) leaf ps.dropLast)
termination_by n
decreasing_by
  · exact splitN_lt (by omega)
  · have := splitN_pos n; omega
theorem rootOf_one (A B C : Int) (i : Nat) (leaf : List Int) (ps : List (List Int)) : rootOf A B C i 1 leaf ps = leaf := by rw [rootOf]; simp
theorem rootOf_nil (A B C : Int) (i n : Nat) (leaf : List Int) (hn : 2 ≤ n) : rootOf A B C i n leaf [] = [] := by rw [rootOf, dif_neg (by omega), if_pos List.length_nil]
theorem rootOf_left (A B C : Int) (i n : Nat) (leaf : List Int) (ps : List (List Int)) (hn : 2 ≤ n) (hp : 0 < ps.length) (hi : i < splitN n) :
    rootOf A B C i n leaf ps = hc A B C (rootOf A B C i (splitN n) leaf ps.dropLast) (ps.getD (ps.length - 1) []) := by rw [rootOf, dif_neg (by omega), if_neg (by omega), if_pos hi]
theorem rootOf_right (A B C : Int) (i n : Nat) (leaf : List Int) (ps : List (List Int)) (hn : 2 ≤ n) (hp : 0 < ps.length) (hi : ¬ i < splitN n) :
    rootOf A B C i n leaf ps = hc A B C (ps.getD (ps.length - 1) []) (rootOf A B C (i - splitN n) (n - splitN n) leaf ps.dropLast) := by rw [rootOf, dif_neg (by omega), if_neg (by omega), if_neg hi]
/-- What spec.RootOf hands back. -/
def RootPost (r : List Int) (w : World) (e : Ending) (w' : World) : Prop := ∃ v b, e = .returned (.tuple #[v, .bool b]) ∧ Rd KB w' v r ∧ Below w.heap.size w w'
theorem rd_nilB (w : World) : Rd KB w (.slice none 0 0) [] := Rd.nil KB w
set_option maxRecDepth 100000 in
set_option maxHeartbeats 4000000 in
theorem rootOf_any (A B C : Int) : ∀ (n : Nat) (_ : 1 ≤ n) (_ : n ≤ 9223372036854775808) (i : Nat) (_ : i < n) (lv pv : Value) (leaf : List Int) (ps : List (List Int)) (w : World) (_ : Rd KB w lv leaf) (_ : Rd KBB w pv ps),
    Calls Tryf.prog 17 #[.agg #[.int .u32 A, .int .u32 B, .int .u32 C], .int .u64 i, .int .u64 n, lv, pv] w (RootPost (rootOf A B C i n leaf ps) w) := by
  intro n
  induction n using Nat.strongRecOn with
  | _ n ih =>
  intro hn1 hn2 i hi lv pv leaf ps w hl hp
  have hu24 := Tryf.underlying24
  by_cases h1 : n = 1
  · subst h1
    rw [rootOf_one]
    obtain ⟨PA, pc, rfl, hpl, hpC⟩ := hp
    have HL := Aside0.mk (hl.below (below_alloc (Below.refl w.heap.size w) (.cells #[.int .u32 A, .int .u32 B, .int .u32 C] 24)))
    clear hl hpC hpl ih
    go_enter Tryf.func17, Tryf.ntmps17
    go_wp2
    go_ret2
    exact ⟨_, _, rfl, HL.out, below_alloc (Below.refl _ _) _⟩
  · have hn : 2 ≤ n := by omega
    have t1 : ((n : Int) == 1) = false := by simp; omega
    by_cases h0 : ps.length = 0
    · obtain rfl := List.eq_nil_of_length_eq_zero h0
      rw [rootOf_nil _ _ _ _ _ _ hn]
      obtain ⟨PA, pc, rfl, hpl, hpC⟩ := hp
      clear hl hpC hpl ih
      go_enter Tryf.func17, Tryf.ntmps17
      go_wp2
      go_ret2
      exact ⟨_, _, rfl, rd_nilB _, below_alloc (Below.refl _ _) _⟩
    · obtain ⟨m, hm⟩ : ∃ m, ps.length = m + 1 := ⟨ps.length - 1, by omega⟩
      have hmax := hp.max
      obtain ⟨PA, pc, rfl, hpl, hpC⟩ := id hp
      obtain ⟨ad, c, A0, c0, x, e, he, HX, HX0⟩ := hp.at_ m (by omega)
      injection e with e1 e2 e3
      subst e1; clear e2 e3
      obtain ⟨vt, htake, hT⟩ := hp.take m (by omega)
      have hdl : ps.take m = ps.dropLast := by rw [List.dropLast_eq_take, hm]; rfl
      rw [hdl] at hT
      have hlast : ps.getD (ps.length - 1) [] = x := by rw [List.getD_eq_getElem?_getD, hm, Nat.add_sub_cancel, HX0.out]; rfl
      rw [hm] at htake hmax hpl ⊢
      have t5 : (((m + 1 : Nat) : Int) == 0) = false := by simp; omega
      obtain ⟨sp, hsp⟩ : ∃ sp, sp = splitN n := ⟨_, rfl⟩
      have hs1 : sp < n := by rw [hsp]; exact splitN_lt hn
      have hs2 : n ≤ 2 * sp := by rw [hsp]; exact splitN_ge hn
      have HC34 := Aside0.mk (split_any n hn hn2)
      rw [← hsp] at HC34
      have HT := Aside0.mk hT
      have HL := Aside0.mk hl
      have HBX := Aside0.mk (heap_alloc_new w (.cells #[.int .u32 A, .int .u32 B, .int .u32 C] 24))
      have he' := pw_cell_below (below_alloc (Below.refl w.heap.size w) (.cells #[.int .u32 A, .int .u32 B, .int .u32 C] 24)) he
      clear he
      by_cases hlt : i < sp
      · have HRES := Aside0.mk (rootOf_left A B C i n leaf ps hn (by omega) (by rw [← hsp]; exact hlt))
        rw [← hsp, hlast] at HRES
        have HIH := Aside0.mk (ih sp hs1 (by omega) (by omega) i hlt)
        clear ih hl hp hpC hT hdl hm hlast hsp h0 h1
        go_enter Tryf.func17, Tryf.ntmps17
        go_wp2_with (first
          | (go_at_call 34; ((refine (HC34.out _).mono ?_); rintro e w1 ⟨rfl, hB1⟩; have HBX1 := Aside0.mk (blk_below HBX.out hB1); have HB1 := Aside0.mk (below_next (below_alloc (Below.refl w.heap.size w) _) hB1); have bx0 := blk_cell HBX1.out 0; have bx1 := blk_cell HBX1.out 1; have bx2 := blk_cell HBX1.out 2; simp only [Array.getElem?_eq_getElem, List.size_toArray, List.length_cons, List.length_nil, Nat.reduceAdd, Nat.reduceLT, List.getElem_toArray, List.getElem_cons_zero, List.getElem_cons_succ] at bx0 bx1 bx2; clear hB1))
          | (go_at_call 17; ((with_reducible refine (HIH.out _ _ leaf ps.dropLast _ (HL.out.below HB1.out) (HT.out.below HB1.out)).mono ?_); rintro e w2 ⟨v2, b2, rfl, hV2, hB2⟩; have HV2 := Aside0.mk hV2; have HBX2 := Aside0.mk (blk_below HBX1.out hB2); have HB2 := Aside0.mk (below_next HB1.out hB2); have cx0 := blk_cell HBX2.out 0; have cx1 := blk_cell HBX2.out 1; have cx2 := blk_cell HBX2.out 2; simp only [Array.getElem?_eq_getElem, List.size_toArray, List.length_cons, List.length_nil, Nat.reduceAdd, Nat.reduceLT, List.getElem_toArray, List.getElem_cons_zero, List.getElem_cons_succ] at cx0 cx1 cx2; clear hV2 hB2))
          | (go_at_call 36; ((with_reducible refine (hc_any A B C _ _ _ _ _ HV2.out (HX.out.below HB2.out)).mono ?_); rintro e w3 ⟨v3, rfl, hV3, hB3⟩; have HV3 := Aside0.mk hV3; have HB3 := Aside0.mk (below_next HB2.out hB3); clear hV3 hB3)))
        go_ret2
        exact ⟨_, _, rfl, by rw [HRES.out]; exact HV3.out, HB3.out⟩
      · have HRES := Aside0.mk (rootOf_right A B C i n leaf ps hn (by omega) (by rw [← hsp]; exact hlt))
        rw [← hsp, hlast] at HRES
        obtain ⟨i2, hi2, hi2'⟩ : ∃ i2 : Nat, (i : Int) - (sp : Int) = (i2 : Int) ∧ i2 = i - sp := ⟨i - sp, by omega, rfl⟩
        obtain ⟨n2, hn2e, hn2'⟩ : ∃ n2 : Nat, (n : Int) - (sp : Int) = (n2 : Int) ∧ n2 = n - sp := ⟨n - sp, by omega, rfl⟩
        rw [← hi2', ← hn2'] at HRES
        have HIH := Aside0.mk (ih n2 (by omega) (by omega) (by omega) i2 (by omega))
        have hge : sp ≤ i := by omega
        clear ih hl hp hpC hT hdl hm hlast hsp h0 h1 hi2' hn2' hlt
        go_enter Tryf.func17, Tryf.ntmps17
        go_wp2_with (first
          | (go_at_call 34; ((refine (HC34.out _).mono ?_); rintro e w1 ⟨rfl, hB1⟩; have HBX1 := Aside0.mk (blk_below HBX.out hB1); have HB1 := Aside0.mk (below_next (below_alloc (Below.refl w.heap.size w) _) hB1); have bx0 := blk_cell HBX1.out 0; have bx1 := blk_cell HBX1.out 1; have bx2 := blk_cell HBX1.out 2; simp only [Array.getElem?_eq_getElem, List.size_toArray, List.length_cons, List.length_nil, Nat.reduceAdd, Nat.reduceLT, List.getElem_toArray, List.getElem_cons_zero, List.getElem_cons_succ] at bx0 bx1 bx2; clear hB1))
          | (go_at_call 17; ((with_reducible refine (HIH.out _ _ leaf ps.dropLast _ (HL.out.below HB1.out) (HT.out.below HB1.out)).mono ?_); rintro e w2 ⟨v2, b2, rfl, hV2, hB2⟩; have HV2 := Aside0.mk hV2; have HBX2 := Aside0.mk (blk_below HBX1.out hB2); have HB2 := Aside0.mk (below_next HB1.out hB2); have cx0 := blk_cell HBX2.out 0; have cx1 := blk_cell HBX2.out 1; have cx2 := blk_cell HBX2.out 2; simp only [Array.getElem?_eq_getElem, List.size_toArray, List.length_cons, List.length_nil, Nat.reduceAdd, Nat.reduceLT, List.getElem_toArray, List.getElem_cons_zero, List.getElem_cons_succ] at cx0 cx1 cx2; clear hV2 hB2))
          | (go_at_call 36; ((with_reducible refine (hc_any A B C _ _ _ _ _ (HX.out.below HB2.out) HV2.out).mono ?_); rintro e w3 ⟨v3, rfl, hV3, hB3⟩; have HV3 := Aside0.mk hV3; have HB3 := Aside0.mk (below_next HB2.out hB3); clear hV3 hB3)))
        go_ret2
        exact ⟨_, _, rfl, by rw [HRES.out]; exact HV3.out, HB3.out⟩
end Go.Proofs.YtdjfagknffknjaaFmt.H
end

section
namespace Go.Proofs.YtdjfagknffknjaaFmt.H
open Go.RowKit Go.Extern.Stop Go.Stop Go.Extern Go.Proofs.YtdjfagknffknjaaFmtW.PrintWords Go.Proofs.YtdjfagknffknjaaFmtW.PrintLast Go.Proofs.YtdjfagknffknjaaFmtW.PrintMore Go.Proofs.YtdjfagknffknjaaFmt.Q
/-- The two roots that a consistency proof tells, by RFC 6962. -/
def rootsOf (A B C : Int) (m n : Nat) (ps : List (List Int)) (r1 : List Int) (whole : Bool) : List Int × List Int :=
  if _h : n ≤ m ∨ n ≤ 1 then (if whole = true then (r1, r1) else if ps.length = 1 then (ps.getD 0 [], ps.getD 0 []) else ([], []))
  else if ps.length = 0 then ([], [])
  else if m ≤ splitN n then
    ((rootsOf A B C m (splitN n) ps.dropLast r1 whole).1, hc A B C (rootsOf A B C m (splitN n) ps.dropLast r1 whole).2 (ps.getD (ps.length - 1) []))
  else (hc A B C (ps.getD (ps.length - 1) []) (rootsOf A B C (m - splitN n) (n - splitN n) ps.dropLast r1 false).1, hc A B C (ps.getD (ps.length - 1) []) (rootsOf A B C (m - splitN n) (n - splitN n) ps.dropLast r1 false).2)
termination_by n
decreasing_by
  all_goals first
    | exact splitN_lt (by omega)
    | (have := splitN_pos n; omega)
theorem rootsOf_whole (A B C : Int) (n : Nat) (ps : List (List Int)) (r1 : List Int) : rootsOf A B C n n ps r1 true = (r1, r1) := by rw [rootsOf, dif_pos (by omega), if_pos rfl]
theorem rootsOf_part (A B C : Int) (n : Nat) (x : List Int) (r1 : List Int) : rootsOf A B C n n [x] r1 false = (x, x) := by rw [rootsOf, dif_pos (by omega), if_neg (by decide), if_pos (by rfl)]; rfl
theorem rootsOf_bad (A B C : Int) (n : Nat) (ps : List (List Int)) (r1 : List Int) (h : ps.length ≠ 1) : rootsOf A B C n n ps r1 false = ([], []) := by rw [rootsOf, dif_pos (by omega), if_neg (by decide), if_neg h]
theorem rootsOf_nil (A B C : Int) (m n : Nat) (r1 : List Int) (whole : Bool) (h1 : 1 ≤ m) (h : m < n) : rootsOf A B C m n [] r1 whole = ([], []) := by rw [rootsOf, dif_neg (by omega), if_pos List.length_nil]
theorem rootsOf_left (A B C : Int) (m n : Nat) (ps : List (List Int)) (r1 : List Int) (whole : Bool) (h1 : 1 ≤ m) (h : m < n) (hp : 0 < ps.length) (hk : m ≤ splitN n) :
    rootsOf A B C m n ps r1 whole = ((rootsOf A B C m (splitN n) ps.dropLast r1 whole).1, hc A B C (rootsOf A B C m (splitN n) ps.dropLast r1 whole).2 (ps.getD (ps.length - 1) [])) := by
  rw [rootsOf, dif_neg (by omega), if_neg (by omega), if_pos hk]
theorem rootsOf_right (A B C : Int) (m n : Nat) (ps : List (List Int)) (r1 : List Int) (whole : Bool) (h1 : 1 ≤ m) (h : m < n) (hp : 0 < ps.length) (hk : ¬ m ≤ splitN n) :
    rootsOf A B C m n ps r1 whole = (hc A B C (ps.getD (ps.length - 1) []) (rootsOf A B C (m - splitN n) (n - splitN n) ps.dropLast r1 false).1, hc A B C (ps.getD (ps.length - 1) []) (rootsOf A B C (m - splitN n) (n - splitN n) ps.dropLast r1 false).2) := by
  rw [rootsOf, dif_neg (by omega), if_neg (by omega), if_neg hk]
/-- What spec.RootsOf hands back. -/
def RootsPost (r : List Int × List Int) (w : World) (e : Ending) (w' : World) : Prop := ∃ v1 v2 b, e = .returned (.tuple #[v1, v2, .bool b]) ∧ Rd KB w' v1 r.1 ∧ Rd KB w' v2 r.2 ∧ Below w.heap.size w w'
set_option maxRecDepth 100000 in
set_option maxHeartbeats 4000000 in
theorem rootsOf_any (A B C : Int) : ∀ (n : Nat) (_ : n ≤ 9223372036854775808) (m : Nat) (_ : 1 ≤ m) (_ : m ≤ n) (pv rv : Value) (ps : List (List Int)) (r1 : List Int) (whole : Bool) (w : World) (_ : Rd KBB w pv ps) (_ : Rd KB w rv r1),
    Calls Tryf.prog 23 #[.agg #[.int .u32 A, .int .u32 B, .int .u32 C], .int .u64 m, .int .u64 n, pv, rv, .bool whole] w (RootsPost (rootsOf A B C m n ps r1 whole) w) := by
  intro n
  induction n using Nat.strongRecOn with
  | _ n ih =>
  intro hn2 m hm1 hmn pv rv ps r1 whole w hp hr
  have hu24 := Tryf.underlying24
  have HB0 := Aside0.mk (below_alloc (Below.refl w.heap.size w) (.cells #[.int .u32 A, .int .u32 B, .int .u32 C] 24))
  have hmax := hp.max
  by_cases h1 : m = n
  · subst h1
    have HR := Aside0.mk (hr.below HB0.out)
    cases whole with
    | true =>
      rw [rootsOf_whole]
      obtain ⟨PA, pc, rfl, hpl, hpC⟩ := hp
      clear hr hpC hpl ih
      go_enter Tryf.func23, Tryf.ntmps23
      go_wp2
      go_ret3
      exact ⟨_, _, _, rfl, HR.out, HR.out, HB0.out⟩
    | false =>
      by_cases hl : ps.length = 1
      · obtain ⟨x, rfl⟩ := List.length_eq_one_iff.1 hl
        rw [rootsOf_part]
        obtain ⟨PA, pc, rfl, hpl, hpC⟩ := id hp
        obtain ⟨ad, c, A0, c0, y, e, he, HX, HX0⟩ := hp.at_ 0 (by simp)
        injection e with e1 e2 e3
        subst e1; clear e2 e3
        obtain rfl : x = y := by have := HX0.out; simpa using this
        have he' : w.cell? ad = some (.slice A0 x.length c0) := by rwa [show ad.add 0 = ad by simp [Addr.add]] at he
        have he2 := pw_cell_below HB0.out he'
        have HX2 := Aside0.mk (HX.out.below HB0.out)
        clear hr hpC hpl ih he he' hl hp
        go_enter Tryf.func23, Tryf.ntmps23
        go_wp2
        go_quiet (fail)
        go_wp2
        go_ret3
        exact ⟨_, _, _, rfl, HX2.out.drewN _, HX2.out.drewN _, pw_below_drewN HB0.out _⟩
      · rw [rootsOf_bad _ _ _ _ _ _ hl]
        obtain ⟨PA, pc, rfl, hpl, hpC⟩ := hp
        have t1 : ((ps.length : Int) != 1) = true := bne_iff_ne.2 (by omega)
        clear hr hpC hpl ih
        go_enter Tryf.func23, Tryf.ntmps23
        go_wp2
        go_ret3
        exact ⟨_, _, _, rfl, rd_nilB _, rd_nilB _, HB0.out⟩
  · have hlt : m < n := by omega
    have t1 : ((m : Int) == (n : Int)) = false := by simp; omega
    by_cases h0 : ps.length = 0
    · obtain rfl := List.eq_nil_of_length_eq_zero h0
      rw [rootsOf_nil _ _ _ _ _ _ _ hm1 hlt]
      obtain ⟨PA, pc, rfl, hpl, hpC⟩ := hp
      clear hr hpC hpl ih
      go_enter Tryf.func23, Tryf.ntmps23
      go_wp2
      go_ret3
      exact ⟨_, _, _, rfl, rd_nilB _, rd_nilB _, HB0.out⟩
    · obtain ⟨mm, hm⟩ : ∃ m, ps.length = m + 1 := ⟨ps.length - 1, by omega⟩
      obtain ⟨PA, pc, rfl, hpl, hpC⟩ := id hp
      obtain ⟨ad, c, A0, c0, x, e, he, HX, HX0⟩ := hp.at_ mm (by omega)
      injection e with e1 e2 e3
      subst e1; clear e2 e3
      obtain ⟨vt, htake, hT⟩ := hp.take mm (by omega)
      have hdl : ps.take mm = ps.dropLast := by rw [List.dropLast_eq_take, hm]; rfl
      rw [hdl] at hT
      have hlast : ps.getD (ps.length - 1) [] = x := by rw [List.getD_eq_getElem?_getD, hm, Nat.add_sub_cancel, HX0.out]; rfl
      rw [hm] at htake hmax hpl ⊢
      have t5 : (((mm + 1 : Nat) : Int) == 0) = false := by simp; omega
      obtain ⟨sp, hsp⟩ : ∃ sp, sp = splitN n := ⟨_, rfl⟩
      have hs1 : sp < n := by rw [hsp]; exact splitN_lt (by omega)
      have hs2 : n ≤ 2 * sp := by rw [hsp]; exact splitN_ge (by omega)
      have HC34 := Aside0.mk (split_any n (by omega) hn2)
      rw [← hsp] at HC34
      have HT := Aside0.mk hT
      have HR := Aside0.mk hr
      have HBX := Aside0.mk (heap_alloc_new w (.cells #[.int .u32 A, .int .u32 B, .int .u32 C] 24))
      have he' := pw_cell_below HB0.out he
      clear he
      by_cases hks : m ≤ sp
      · have HRES := Aside0.mk (rootsOf_left A B C m n ps r1 whole hm1 hlt (by omega) (by rw [← hsp]; exact hks))
        rw [← hsp, hlast] at HRES
        have HIH := Aside0.mk (ih sp hs1 (by omega) m hm1 hks)
        clear ih hr hp hpC hT hdl hm hlast hsp h0 h1
        go_enter Tryf.func23, Tryf.ntmps23
        go_wp2_with (first
          | (go_at_call 34; ((refine (HC34.out _).mono ?_); rintro e w1 ⟨rfl, hB1⟩; have HBX1 := Aside0.mk (blk_below HBX.out hB1); have HB1 := Aside0.mk (below_next (below_alloc (Below.refl w.heap.size w) _) hB1); have bx0 := blk_cell HBX1.out 0; have bx1 := blk_cell HBX1.out 1; have bx2 := blk_cell HBX1.out 2; simp only [Array.getElem?_eq_getElem, List.size_toArray, List.length_cons, List.length_nil, Nat.reduceAdd, Nat.reduceLT, List.getElem_toArray, List.getElem_cons_zero, List.getElem_cons_succ] at bx0 bx1 bx2; clear hB1))
          | (go_at_call 23; ((with_reducible refine (HIH.out _ _ ps.dropLast r1 whole _ (HT.out.below HB1.out) (HR.out.below HB1.out)).mono ?_); rintro e w2 ⟨va, vb, b2, rfl, hVa, hVb, hB2⟩; have HVa := Aside0.mk hVa; have HVb := Aside0.mk hVb; have HBX2 := Aside0.mk (blk_below HBX1.out hB2); have HB2 := Aside0.mk (below_next HB1.out hB2); have cx0 := blk_cell HBX2.out 0; have cx1 := blk_cell HBX2.out 1; have cx2 := blk_cell HBX2.out 2; simp only [Array.getElem?_eq_getElem, List.size_toArray, List.length_cons, List.length_nil, Nat.reduceAdd, Nat.reduceLT, List.getElem_toArray, List.getElem_cons_zero, List.getElem_cons_succ] at cx0 cx1 cx2; clear hVa hVb hB2))
          | (go_at_call 36; ((with_reducible refine (hc_any A B C _ _ _ _ _ HVb.out (HX.out.below HB2.out)).mono ?_); rintro e w3 ⟨v3, rfl, hV3, hB3⟩; have HV3 := Aside0.mk hV3; have HV1 := Aside0.mk (HVa.out.below hB3); have HB3 := Aside0.mk (below_next HB2.out hB3); clear hV3 hB3)))
        go_ret3
        exact ⟨_, _, _, rfl, by rw [HRES.out]; exact HV1.out, by rw [HRES.out]; exact HV3.out, HB3.out⟩
      · have HRES := Aside0.mk (rootsOf_right A B C m n ps r1 whole hm1 hlt (by omega) (by rw [← hsp]; exact hks))
        rw [← hsp, hlast] at HRES
        obtain ⟨m2, hm2, hm2'⟩ : ∃ m2 : Nat, (m : Int) - (sp : Int) = (m2 : Int) ∧ m2 = m - sp := ⟨m - sp, by omega, rfl⟩
        obtain ⟨n2, hn2e, hn2'⟩ : ∃ n2 : Nat, (n : Int) - (sp : Int) = (n2 : Int) ∧ n2 = n - sp := ⟨n - sp, by omega, rfl⟩
        rw [← hm2', ← hn2'] at HRES
        have HIH := Aside0.mk (ih n2 (by omega) (by omega) m2 (by omega) (by omega))
        have hge : sp < m := by omega
        clear ih hr hp hpC hT hdl hm hlast hsp h0 h1 hm2' hn2' hks
        go_enter Tryf.func23, Tryf.ntmps23
        go_upto_region 16 with (first
          | (go_at_call 34; ((refine (HC34.out _).mono ?_); rintro e w1 ⟨rfl, hB1⟩; have HBX1 := Aside0.mk (blk_below HBX.out hB1); have HB1 := Aside0.mk (below_next (below_alloc (Below.refl w.heap.size w) _) hB1); have bx0 := blk_cell HBX1.out 0; have bx1 := blk_cell HBX1.out 1; have bx2 := blk_cell HBX1.out 2; simp only [Array.getElem?_eq_getElem, List.size_toArray, List.length_cons, List.length_nil, Nat.reduceAdd, Nat.reduceLT, List.getElem_toArray, List.getElem_cons_zero, List.getElem_cons_succ] at bx0 bx1 bx2; clear hB1))
          | (go_at_call 23; ((with_reducible refine (HIH.out _ _ ps.dropLast r1 false _ (HT.out.below HB1.out) (HR.out.below HB1.out)).mono ?_); rintro e w2 ⟨va, vb, b2, rfl, hVa, hVb, hB2⟩; have HVa := Aside0.mk hVa; have HVb := Aside0.mk hVb; have HBX2 := Aside0.mk (blk_below HBX1.out hB2); have HB2 := Aside0.mk (below_next HB1.out hB2); have cx0 := blk_cell HBX2.out 0; have cx1 := blk_cell HBX2.out 1; have cx2 := blk_cell HBX2.out 2; simp only [Array.getElem?_eq_getElem, List.size_toArray, List.length_cons, List.length_nil, Nat.reduceAdd, Nat.reduceLT, List.getElem_toArray, List.getElem_cons_zero, List.getElem_cons_succ] at cx0 cx1 cx2; clear hVa hVb hB2)))
        have HX2 := Aside0.mk (HX.out.below HB2.out)
        have HKP := Aside0.mk (show ∀ W, Below w2.heap.size w2 W → W.cell? ⟨w.heap.size, 0, none⟩ = some (.int .u32 A) ∧ W.cell? ⟨w.heap.size, 1, none⟩ = some (.int .u32 B) ∧ W.cell? ⟨w.heap.size, 2, none⟩ = some (.int .u32 C) ∧ Aside0 (Below w2.heap.size w2 W) from fun W hb =>
          ⟨blk_cell (blk_below HBX2.out hb) 0, blk_cell (blk_below HBX2.out hb) 1, blk_cell (blk_below HBX2.out hb) 2, ⟨hb⟩⟩)
        go_region_held3 (fun W => W.cell? ⟨w.heap.size, 0, none⟩ = some (.int .u32 A) ∧ W.cell? ⟨w.heap.size, 1, none⟩ = some (.int .u32 B) ∧ W.cell? ⟨w.heap.size, 2, none⟩ = some (.int .u32 C) ∧ Aside0 (Below w2.heap.size w2 W))
          (first | exact HKP.out _ (Below.refl _ _).drew | exact HKP.out _ HBn.out)
          (first
            | (go_at_call 36; (with_reducible refine (hc_any A B C _ _ _ _ _ (HX2.out.below (by first | exact HBn.out | exact (Below.refl _ _).drew)) (HVa.out.below (by first | exact HBn.out | exact (Below.refl _ _).drew))).mono ?_); rintro e w3 ⟨v3, rfl, hV3, hB3⟩; have HRa := Aside0.mk hV3; have HLa := Aside0.mk hB3; have HBn := Aside0.mk (below_next (by first | exact HBn.out | exact (Below.refl _ _).drew) hB3); clear hV3 hB3)
            | (go_at_call 36; (with_reducible refine (hc_any A B C _ _ _ _ _ (HX2.out.below (by first | exact HBn.out | exact (Below.refl _ _).drew)) (HVb.out.below (by first | exact HBn.out | exact (Below.refl _ _).drew))).mono ?_); rintro e w4 ⟨v4, rfl, hV4, hB4⟩; have HRb := Aside0.mk hV4; have HLb := Aside0.mk hB4; have HBn := Aside0.mk (below_next (by first | exact HBn.out | exact (Below.refl _ _).drew) hB4); clear hV4 hB4))
        all_goals
          go_wp2
          go_ret3
          first
            | exact ⟨_, _, _, rfl, by rw [HRES.out]; exact HRa.out.below HLb.out, by rw [HRES.out]; exact HRb.out, below_next HB2.out HBn.out⟩
            | exact ⟨_, _, _, rfl, by rw [HRES.out]; exact HRa.out, by rw [HRES.out]; exact HRb.out.below HLa.out, below_next HB2.out HBn.out⟩
end Go.Proofs.YtdjfagknffknjaaFmt.H
end
