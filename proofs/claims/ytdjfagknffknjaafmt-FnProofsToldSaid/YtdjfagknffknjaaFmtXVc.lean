/- The verifier of consistency proofs, by its contract; conditions: the sizes are in order, the world holds the program's variables. -/
import Derived.Test.YtdjfagknffknjaaFmtXV

section
namespace Go.Proofs.YtdjfagknffknjaaFmt.H
open Go.RowKit Go.Extern.Stop Go.Stop Go.Extern Go.Proofs.YtdjfagknffknjaaFmtW.PrintWords Go.Proofs.YtdjfagknffknjaaFmtW.PrintLast Go.Proofs.YtdjfagknffknjaaFmtW.PrintMore Go.Proofs.YtdjfagknffknjaaFmt.Q
theorem tz_below (F : Interp) (x : Nat) (hx : x < 18446744073709551616) (hx0 : x ≠ 0) (w : World) (hG : Glob F w) :
    Calls Tryf.prog 49 #[.int .u64 x] w fun e w' => e = .returned (.int .i64 (Lib.ctz 64 x : Nat)) ∧ Below w.heap.size w w' :=
  (tz_any F x hx hx0 w hG).mono fun _ _ ⟨he, hw⟩ => ⟨he, by rw [hw]; exact Below.refl _ _⟩
abbrev hv (A B C : Int) : Value := .iface 24 (.agg #[.int .u32 A, .int .u32 B, .int .u32 C])
/-- Two sizes that are one, a proof that is empty. -/
theorem cons_same (A B C : Int) (s : Nat) (pv av rv : Value) (a r : List Int) (w : World) (hp : Rd KBB w pv []) (ha : Rd KB w av a) (hr : Rd KB w rv r) :
    Calls Tryf.prog 38 #[hv A B C, .int .u64 s, .int .u64 s, pv, av, rv] w fun e w' => ∃ v, e = .returned v ∧ As.IsErr v (faultN (eqB a r)) ∧ Below w.heap.size w w' := by
  obtain ⟨PA, pc, rfl, hpl, hpC⟩ := hp
  have C41 := match_any av rv a r w ha hr
  clear hpC hpl ha hr
  go_enter Tryf.func38, Tryf.ntmps38
  go_wp2_with (go_at_call 41; ((with_reducible refine C41.mono ?_); rintro e w1 ⟨v1, rfl, hV1, hB1⟩; have HV1 := Aside0.mk hV1; have HB1 := Aside0.mk hB1; clear hV1 hB1))
  go_ret
  exact ⟨_, rfl, HV1.out, HB1.out⟩
/-- Two sizes that are one, a proof that is not empty. -/
theorem cons_same_more (A B C : Int) (s : Nat) (pv av rv : Value) (ps : List (List Int)) (w : World) (hp : Rd KBB w pv ps) (h0 : 0 < ps.length) :
    Calls Tryf.prog 38 #[hv A B C, .int .u64 s, .int .u64 s, pv, av, rv] w fun e w' => ∃ v, e = .returned (.iface 130 v) ∧ Below w.heap.size w w' := by
  obtain ⟨PA, pc, rfl, hpl, hpC⟩ := hp
  clear hpC hpl
  go_enter Tryf.func38, Tryf.ntmps38
  go_wp2_with (go_at_call 50; ((refine (As.new_any _ _).mono ?_); rintro e w1 ⟨rfl, hB1⟩; have HB1 := Aside0.mk hB1; clear hB1))
  go_ret
  exact ⟨_, rfl, HB1.out⟩
/-- A proof that is empty, of two sizes that are two. -/
theorem cons_none (A B C : Int) (s1 s2 : Nat) (h1 : 1 ≤ s1) (h2 : s1 < s2) (pv av rv : Value) (w : World) (hp : Rd KBB w pv []) :
    Calls Tryf.prog 38 #[hv A B C, .int .u64 s1, .int .u64 s2, pv, av, rv] w fun e w' => ∃ v, e = .returned (.iface 130 v) ∧ Below w.heap.size w w' := by
  obtain ⟨PA, pc, rfl, hpl, hpC⟩ := hp
  have t1 : decide (s2 < s1) = false := by simp; omega
  have t2 : decide ((s2 : Int) < (s1 : Int)) = false := by simp; omega
  have t3 : ((s1 : Int) == (s2 : Int)) = false := by simp; omega
  have t4 : ((s1 : Int) == 0) = false := by simp; omega
  clear hpC hpl
  go_enter Tryf.func38, Tryf.ntmps38
  go_wp2_with (go_at_call 50; ((refine (As.new_any _ _).mono ?_); rintro e w1 ⟨rfl, hB1⟩; have HB1 := Aside0.mk hB1; clear hB1))
  go_ret
  exact ⟨_, rfl, HB1.out⟩
theorem Rd.drop' {w : World} {A : Option Addr} {c : Nat} {ps : List (List Int)} (h : Rd KBB w (.slice A ps.length c) ps) (j : Int) (m : Nat) (hj : j = m) (hm : m ≤ ps.length) :
    ∃ qs QA qc, qs.length + m = ps.length ∧ (∀ W : World, (Instr.slice 44 (.slice A ps.length c) (some (.int .i64 j)) none none).run Tryf.prog W = .ok (.slice QA qs.length qc) W) ∧ Rd KBB w (.slice QA qs.length qc) qs ∧ Aside0 (qs = ps.drop m) := by
  subst hj
  obtain ⟨v, h1, h2⟩ := h.drop m hm
  obtain ⟨QA, qc, rfl, hl, hC⟩ := id h2
  exact ⟨ps.drop m, QA, qc, by simp; omega, h1, h2, ⟨rfl⟩⟩
/-- What becomes of the two chains. -/
def consRest (A B C : Int) (mask n : Nat) (seed : List Int) (qs : List (List Int)) (a r : List Int) : Nat :=
  if eqB ((qs.drop n).foldl (fun s p => hc A B C p s) (rightN A B C mask (qs.take n) seed n)) a then
    faultN (eqB ((qs.drop n).foldl (fun s p => hc A B C p s) (innerN A B C mask (qs.take n) seed n)) r) else 1
theorem isErr_zero {v : Value} (h : As.IsErr v 0) : v = .nilIface := by cases h; rfl
theorem isErr_one {v : Value} (h : As.IsErr v 1) : ∃ x y, v = .iface 84 (.agg #[x, y]) := by cases h; exact ⟨_, _, rfl⟩
set_option maxRecDepth 100000 in
set_option maxHeartbeats 4000000 in
theorem cons_pow_bad (F : Interp) (A B C : Int) (k s1 s2 i b sh n m mask : Nat) (h1 : m + 1 = s1) (h2 : s1 < s2) (hs2 : s2 < 18446744073709551616) (hd : proof_decompInclProof.f k m s2 = some ((i : Int), (b : Int)))
    (hsh : Lib.ctz 64 s1 = sh) (hn : i = sh + n) (hi : i ≤ 64) (hb : b ≤ 64) (hsh63 : sh ≤ 63) (hmask : m / 2 ^ sh = mask) (hp2 : s1 = 2 ^ sh)
    (pv av rv : Value) (ps : List (List Int)) (a r : List Int) (w : World) (hG : Glob F w) (hp : Rd KBB w pv ps) (h0 : 0 < ps.length) (hl : ps.length ≠ 0 + n + b) (_ha : Rd KB w av a) (_hr : Rd KB w rv r) :
    Calls Tryf.prog 38 #[hv A B C, .int .u64 s1, .int .u64 s2, pv, av, rv] w fun e w' => ∃ v, e = .returned (.iface 130 v) ∧ Below w.heap.size w w' := by
  obtain ⟨PA, pc, rfl, hpl, hpC⟩ := id hp
  obtain ⟨ad, c, A0, c0, x, e, he, HX, HX0⟩ := hp.at_ 0 (by omega)
  injection e with e1 e2 e3
  subst e1; clear e2 e3
  have he : w.cell? ad = some (.slice A0 x.length c0) := by rwa [show ad.add 0 = ad by simp [Addr.add]] at he
  have t1 : decide (s2 < s1) = false := by simp; omega
  have t2 : decide ((s2 : Int) < (s1 : Int)) = false := by simp; omega
  have t3 : ((s1 : Int) == (s2 : Int)) = false := by simp; omega
  have t4 : ((s1 : Int) == 0) = false := by simp; omega
  have t5 : ((ps.length : Int) == 0) = false := beq_eq_false_iff_ne.2 (by omega)
  have t6 : (0 : Nat) < ps.length := by omega
  have hsw : IntKind.u64.wrap (2 ^ sh) = ((2 ^ sh : Nat) : Int) := by
    have hq : (2 : Nat) ^ sh ≤ 2 ^ 63 := Nat.pow_le_pow_right (show 0 < 2 by omega) hsh63
    have hq2 : (2 : Int) ^ sh = ((2 ^ sh : Nat) : Int) := by simp
    rw [hq2, IntKind.wrap_u64]
    generalize 2 ^ sh = q at hq ⊢
    omega
  have t7 : ((s1 : Int) == IntKind.u64.wrap (2 ^ sh)) = true := by rw [hsw]; simp [hp2]
  have m1 : (s1 : Int) - 1 = (m : Int) := by omega
  have m2 : IntKind.u64.wrap ((s1 : Int) - 1) = (m : Int) := by rw [IntKind.wrap_u64]; omega
  have m3 : IntKind.i64.wrap ((i : Int) - (sh : Int)) = (n : Int) := by rw [IntKind.wrap_i64]; omega
  have m4 : (m : Int) / 2 ^ sh = (mask : Int) := by rw [← hmask]; simp
  have hn64 : n ≤ 64 := by omega
  have hmask64 : mask < 18446744073709551616 := by have := Nat.div_le_self m (2 ^ sh); omega
  have hs1 : s1 < 18446744073709551616 := by omega
  have C49 := fun (W : World) (g : Glob F W) => tz_below F s1 hs1 (by omega) W g
  rw [hsh] at C49
  have t8 : ((ps.length : Int) != (n : Int) + (b : Int)) = true := bne_iff_ne.2 (by omega)
  have HD := Aside0.mk hd
  have HC49 := Aside0.mk C49
  have HG := Aside0.mk hG
  clear hd hp hpC hpl C49 hsh hG hl hn h1 hsw _ha _hr hmask hp2
  go_enter Tryf.func38, Tryf.ntmps38
  go_wp2_with (first
    | (go_at_call 51; ((with_reducible refine (proof_decompInclProof.calls k _ _ _ _ _ HD.out).mono ?_); rintro e w1 ⟨rfl, hB1⟩; have HB1 := Aside0.mk hB1.below; clear hB1))
    | (go_at_call 49; ((with_reducible refine (HC49.out _ (HG.out.below HB1.out)).mono ?_); rintro e w2 ⟨rfl, hB2⟩; have HB2 := Aside0.mk (below_next HB1.out hB2); have hc2 := pw_cell_below HB2.out he; clear hB2))
    | (go_at_call 42; (refine (Fm.errorf_any F _ _ _ _ (HG.out.below (below_alloc HB2.out _)).tape (by simp; rfl) (by simp; rfl)).mono ?_); rintro e w3 ⟨rfl, hB3⟩; have HB3 := Aside0.mk (below_next (below_alloc HB2.out _) hB3); clear hB3))
  go_ret
  exact ⟨_, rfl, HB3.out⟩
set_option maxRecDepth 100000 in
set_option maxHeartbeats 4000000 in
theorem cons_pow_ok (F : Interp) (A B C : Int) (k s1 s2 i b sh n m mask : Nat) (h1 : m + 1 = s1) (h2 : s1 < s2) (hs2 : s2 < 18446744073709551616) (hd : proof_decompInclProof.f k m s2 = some ((i : Int), (b : Int)))
    (hsh : Lib.ctz 64 s1 = sh) (hn : i = sh + n) (hi : i ≤ 64) (hb : b ≤ 64) (hsh63 : sh ≤ 63) (hmask : m / 2 ^ sh = mask) (hp2 : s1 = 2 ^ sh)
    (pv av rv : Value) (ps : List (List Int)) (a r : List Int) (w : World) (hG : Glob F w) (hp : Rd KBB w pv ps) (h0 : 0 < ps.length) (hl : ps.length = 0 + n + b) (ha : Rd KB w av a) (hr : Rd KB w rv r) :
    Calls Tryf.prog 38 #[hv A B C, .int .u64 s1, .int .u64 s2, pv, av, rv] w fun e w' => ∃ v, e = .returned v ∧ As.IsErr v (consRest A B C mask n a (ps.drop 0) a r) ∧ Below w.heap.size w w' := by
  have hu65 := Tryf.underlying65
  obtain ⟨PA, pc, rfl, hpl, hpC⟩ := id hp
  obtain ⟨ad, c, A0, c0, x, e, he, HX, HX0⟩ := hp.at_ 0 (by omega)
  injection e with e1 e2 e3
  subst e1; clear e2 e3
  have he : w.cell? ad = some (.slice A0 x.length c0) := by rwa [show ad.add 0 = ad by simp [Addr.add]] at he
  have t1 : decide (s2 < s1) = false := by simp; omega
  have t2 : decide ((s2 : Int) < (s1 : Int)) = false := by simp; omega
  have t3 : ((s1 : Int) == (s2 : Int)) = false := by simp; omega
  have t4 : ((s1 : Int) == 0) = false := by simp; omega
  have t5 : ((ps.length : Int) == 0) = false := beq_eq_false_iff_ne.2 (by omega)
  have t6 : (0 : Nat) < ps.length := by omega
  have hsw : IntKind.u64.wrap (2 ^ sh) = ((2 ^ sh : Nat) : Int) := by
    have hq : (2 : Nat) ^ sh ≤ 2 ^ 63 := Nat.pow_le_pow_right (show 0 < 2 by omega) hsh63
    have hq2 : (2 : Int) ^ sh = ((2 ^ sh : Nat) : Int) := by simp
    rw [hq2, IntKind.wrap_u64]
    generalize 2 ^ sh = q at hq ⊢
    omega
  have t7 : ((s1 : Int) == IntKind.u64.wrap (2 ^ sh)) = true := by rw [hsw]; simp [hp2]
  have m1 : (s1 : Int) - 1 = (m : Int) := by omega
  have m2 : IntKind.u64.wrap ((s1 : Int) - 1) = (m : Int) := by rw [IntKind.wrap_u64]; omega
  have m3 : IntKind.i64.wrap ((i : Int) - (sh : Int)) = (n : Int) := by rw [IntKind.wrap_i64]; omega
  have m4 : (m : Int) / 2 ^ sh = (mask : Int) := by rw [← hmask]; simp
  have hn64 : n ≤ 64 := by omega
  have hmask64 : mask < 18446744073709551616 := by have := Nat.div_le_self m (2 ^ sh); omega
  have hs1 : s1 < 18446744073709551616 := by omega
  have C49 := fun (W : World) (g : Glob F W) => tz_below F s1 hs1 (by omega) W g
  rw [hsh] at C49
  have t8 : ((ps.length : Int) != (n : Int) + (b : Int)) = false := bne_eq_false_iff_eq.2 (by omega)
  obtain ⟨qs, QA, qc, hql, hdrop, hQ, HQE⟩ := hp.drop' 0 0 rfl (by omega)
  obtain ⟨vt, htake, hT⟩ := hQ.take n (by omega)
  obtain ⟨vd, hdrop2, hD2⟩ := hQ.drop n (by omega)
  have hti : (qs.take n).length = n := by simp; omega
  have HT := Aside0.mk hT
  have HD2 := Aside0.mk hD2
  have HTI := Aside0.mk hti
  have HD := Aside0.mk hd
  have HA := Aside0.mk ha
  have HR := Aside0.mk hr
  have HC49 := Aside0.mk C49
  have HG := Aside0.mk hG
  clear hd hp hpC hpl C49 hsh hG hl hn h1 hsw ha hr hmask hp2 hT hD2 hti hQ
  rw [← HQE.out]
  unfold consRest
  cases hq : eqB ((qs.drop n).foldl (fun s p => hc A B C p s) (rightN A B C mask (qs.take n) a n)) a with
  | true =>
    have HQ := Aside0.mk hq
    clear hq
    rw [if_pos rfl]
    go_enter Tryf.func38, Tryf.ntmps38
    go_wp2_with (first
      | (go_at_call 51; ((with_reducible refine (proof_decompInclProof.calls k _ _ _ _ _ HD.out).mono ?_); rintro e w1 ⟨rfl, hB1⟩; have HB1 := Aside0.mk hB1.below; clear hB1))
      | (go_at_call 49; ((with_reducible refine (HC49.out _ (HG.out.below HB1.out)).mono ?_); rintro e w2 ⟨rfl, hB2⟩; have HB2 := Aside0.mk (below_next HB1.out hB2); have hc2 := pw_cell_below HB2.out he; clear hB2))
      | (go_at_call 52; ((with_reducible refine (right_any A B C _ _ _ _ mask hmask64 _ (HA.out.below HB2.out) (HT.out.below HB2.out)).mono ?_); rintro e w3 ⟨v3, rfl, hV3, hB3⟩; have HV3 := Aside0.mk hV3; have HB3 := Aside0.mk (below_next HB2.out hB3); clear hV3 hB3))
      | (go_at_call 53; ((with_reducible refine (border_any A B C _ _ _ _ _ HV3.out (HD2.out.below HB3.out)).mono ?_); rintro e w4 ⟨v4, rfl, hV4, hB4⟩; have HV4 := Aside0.mk hV4; have HB4 := Aside0.mk (below_next HB3.out hB4); clear hV4 hB4 HV3))
      | (go_at_call 41; ((refine (match_any _ _ _ a _ HV4.out (HA.out.below HB4.out)).mono ?_); rintro e w5 ⟨v5, rfl, hV5, hB5⟩; rw [HTI.out, HQ.out] at hV5; obtain rfl := isErr_zero hV5; have HB5 := Aside0.mk (below_next HB4.out hB5); clear hV5 hB5 HV4))
      | (go_at_call 54; ((with_reducible refine (inner_any A B C _ _ _ _ mask hmask64 _ (HA.out.below HB5.out) (HT.out.below HB5.out)).mono ?_); rintro e w6 ⟨v6, rfl, hV6, hB6⟩; have HV6 := Aside0.mk hV6; have HB6 := Aside0.mk (below_next HB5.out hB6); clear hV6 hB6))
      | (go_at_call 53; ((with_reducible refine (border_any A B C _ _ _ _ _ HV6.out (HD2.out.below HB6.out)).mono ?_); rintro e w7 ⟨v7, rfl, hV7, hB7⟩; have HV7 := Aside0.mk hV7; have HB7 := Aside0.mk (below_next HB6.out hB7); clear hV7 hB7 HV6))
      | (go_at_call 41; ((refine (match_any _ _ _ r _ HV7.out (HR.out.below HB7.out)).mono ?_); rintro e w8 ⟨v8, rfl, hV8, hB8⟩; rw [HTI.out] at hV8; have HV8 := Aside0.mk hV8; have HB8 := Aside0.mk (below_next HB7.out hB8); clear hV8 hB8)))
    go_ret
    exact ⟨_, rfl, HV8.out, HB8.out⟩
  | false =>
    have HQ := Aside0.mk hq
    clear hq
    rw [if_neg (by decide)]
    go_enter Tryf.func38, Tryf.ntmps38
    go_wp2_with (first
      | (go_at_call 51; ((with_reducible refine (proof_decompInclProof.calls k _ _ _ _ _ HD.out).mono ?_); rintro e w1 ⟨rfl, hB1⟩; have HB1 := Aside0.mk hB1.below; clear hB1))
      | (go_at_call 49; ((with_reducible refine (HC49.out _ (HG.out.below HB1.out)).mono ?_); rintro e w2 ⟨rfl, hB2⟩; have HB2 := Aside0.mk (below_next HB1.out hB2); have hc2 := pw_cell_below HB2.out he; clear hB2))
      | (go_at_call 52; ((with_reducible refine (right_any A B C _ _ _ _ mask hmask64 _ (HA.out.below HB2.out) (HT.out.below HB2.out)).mono ?_); rintro e w3 ⟨v3, rfl, hV3, hB3⟩; have HV3 := Aside0.mk hV3; have HB3 := Aside0.mk (below_next HB2.out hB3); clear hV3 hB3))
      | (go_at_call 53; ((with_reducible refine (border_any A B C _ _ _ _ _ HV3.out (HD2.out.below HB3.out)).mono ?_); rintro e w4 ⟨v4, rfl, hV4, hB4⟩; have HV4 := Aside0.mk hV4; have HB4 := Aside0.mk (below_next HB3.out hB4); clear hV4 hB4 HV3))
      | (go_at_call 41; ((refine (match_any _ _ _ a _ HV4.out (HA.out.below HB4.out)).mono ?_); rintro e w5 ⟨v5, rfl, hV5, hB5⟩; rw [HTI.out, HQ.out] at hV5; obtain ⟨x5, y5, rfl⟩ := isErr_one hV5; have HV5 := Aside0.mk hV5; have HB5 := Aside0.mk (below_next HB4.out hB5); clear hV5 hB5 HV4)))
    go_ret
    exact ⟨_, rfl, HV5.out, HB5.out⟩
set_option maxRecDepth 100000 in
set_option maxHeartbeats 4000000 in
theorem cons_odd_bad (F : Interp) (A B C : Int) (k s1 s2 i b sh n m mask : Nat) (h1 : m + 1 = s1) (h2 : s1 < s2) (hs2 : s2 < 18446744073709551616) (hd : proof_decompInclProof.f k m s2 = some ((i : Int), (b : Int)))
    (hsh : Lib.ctz 64 s1 = sh) (hn : i = sh + n) (hi : i ≤ 64) (hb : b ≤ 64) (hsh63 : sh ≤ 63) (hmask : m / 2 ^ sh = mask) (hp2 : s1 ≠ 2 ^ sh)
    (pv av rv : Value) (ps : List (List Int)) (a r : List Int) (w : World) (hG : Glob F w) (hp : Rd KBB w pv ps) (h0 : 0 < ps.length) (hl : ps.length ≠ 1 + n + b) (_ha : Rd KB w av a) (_hr : Rd KB w rv r) :
    Calls Tryf.prog 38 #[hv A B C, .int .u64 s1, .int .u64 s2, pv, av, rv] w fun e w' => ∃ v, e = .returned (.iface 130 v) ∧ Below w.heap.size w w' := by
  obtain ⟨PA, pc, rfl, hpl, hpC⟩ := id hp
  obtain ⟨ad, c, A0, c0, x, e, he, HX, HX0⟩ := hp.at_ 0 (by omega)
  injection e with e1 e2 e3
  subst e1; clear e2 e3
  have he : w.cell? ad = some (.slice A0 x.length c0) := by rwa [show ad.add 0 = ad by simp [Addr.add]] at he
  have t1 : decide (s2 < s1) = false := by simp; omega
  have t2 : decide ((s2 : Int) < (s1 : Int)) = false := by simp; omega
  have t3 : ((s1 : Int) == (s2 : Int)) = false := by simp; omega
  have t4 : ((s1 : Int) == 0) = false := by simp; omega
  have t5 : ((ps.length : Int) == 0) = false := beq_eq_false_iff_ne.2 (by omega)
  have t6 : (0 : Nat) < ps.length := by omega
  have hsw : IntKind.u64.wrap (2 ^ sh) = ((2 ^ sh : Nat) : Int) := by
    have hq : (2 : Nat) ^ sh ≤ 2 ^ 63 := Nat.pow_le_pow_right (show 0 < 2 by omega) hsh63
    have hq2 : (2 : Int) ^ sh = ((2 ^ sh : Nat) : Int) := by simp
    rw [hq2, IntKind.wrap_u64]
    generalize 2 ^ sh = q at hq ⊢
    omega
  have t7 : ((s1 : Int) == IntKind.u64.wrap (2 ^ sh)) = false := by rw [hsw]; exact beq_eq_false_iff_ne.2 (by omega)
  have m1 : (s1 : Int) - 1 = (m : Int) := by omega
  have m2 : IntKind.u64.wrap ((s1 : Int) - 1) = (m : Int) := by rw [IntKind.wrap_u64]; omega
  have m3 : IntKind.i64.wrap ((i : Int) - (sh : Int)) = (n : Int) := by rw [IntKind.wrap_i64]; omega
  have m4 : (m : Int) / 2 ^ sh = (mask : Int) := by rw [← hmask]; simp
  have hn64 : n ≤ 64 := by omega
  have hmask64 : mask < 18446744073709551616 := by have := Nat.div_le_self m (2 ^ sh); omega
  have hs1 : s1 < 18446744073709551616 := by omega
  have C49 := fun (W : World) (g : Glob F W) => tz_below F s1 hs1 (by omega) W g
  rw [hsh] at C49
  have t8 : ((ps.length : Int) != 1 + (n : Int) + (b : Int)) = true := bne_iff_ne.2 (by omega)
  have HD := Aside0.mk hd
  have HC49 := Aside0.mk C49
  have HG := Aside0.mk hG
  clear hd hp hpC hpl C49 hsh hG hl hn h1 hsw _ha _hr hmask hp2
  go_enter Tryf.func38, Tryf.ntmps38
  go_wp2_with (first
    | (go_at_call 51; ((with_reducible refine (proof_decompInclProof.calls k _ _ _ _ _ HD.out).mono ?_); rintro e w1 ⟨rfl, hB1⟩; have HB1 := Aside0.mk hB1.below; clear hB1))
    | (go_at_call 49; ((with_reducible refine (HC49.out _ (HG.out.below HB1.out)).mono ?_); rintro e w2 ⟨rfl, hB2⟩; have HB2 := Aside0.mk (below_next HB1.out hB2); have hc2 := pw_cell_below HB2.out he; clear hB2))
    | (go_at_call 42; (refine (Fm.errorf_any F _ _ _ _ (HG.out.below (below_alloc HB2.out _)).tape (by simp; rfl) (by simp; rfl)).mono ?_); rintro e w3 ⟨rfl, hB3⟩; have HB3 := Aside0.mk (below_next (below_alloc HB2.out _) hB3); clear hB3))
  go_ret
  exact ⟨_, rfl, HB3.out⟩
set_option maxRecDepth 100000 in
set_option maxHeartbeats 4000000 in
theorem cons_odd_ok (F : Interp) (A B C : Int) (k s1 s2 i b sh n m mask : Nat) (h1 : m + 1 = s1) (h2 : s1 < s2) (hs2 : s2 < 18446744073709551616) (hd : proof_decompInclProof.f k m s2 = some ((i : Int), (b : Int)))
    (hsh : Lib.ctz 64 s1 = sh) (hn : i = sh + n) (hi : i ≤ 64) (hb : b ≤ 64) (hsh63 : sh ≤ 63) (hmask : m / 2 ^ sh = mask) (hp2 : s1 ≠ 2 ^ sh)
    (pv av rv : Value) (ps : List (List Int)) (a r : List Int) (w : World) (hG : Glob F w) (hp : Rd KBB w pv ps) (h0 : 0 < ps.length) (hl : ps.length = 1 + n + b) (ha : Rd KB w av a) (hr : Rd KB w rv r) :
    Calls Tryf.prog 38 #[hv A B C, .int .u64 s1, .int .u64 s2, pv, av, rv] w fun e w' => ∃ v, e = .returned v ∧ As.IsErr v (consRest A B C mask n (ps.getD 0 []) (ps.drop 1) a r) ∧ Below w.heap.size w w' := by
  have hu65 := Tryf.underlying65
  obtain ⟨PA, pc, rfl, hpl, hpC⟩ := id hp
  obtain ⟨ad, c, A0, c0, x, e, he, HX, HX0⟩ := hp.at_ 0 (by omega)
  injection e with e1 e2 e3
  subst e1; clear e2 e3
  have he : w.cell? ad = some (.slice A0 x.length c0) := by rwa [show ad.add 0 = ad by simp [Addr.add]] at he
  have t1 : decide (s2 < s1) = false := by simp; omega
  have t2 : decide ((s2 : Int) < (s1 : Int)) = false := by simp; omega
  have t3 : ((s1 : Int) == (s2 : Int)) = false := by simp; omega
  have t4 : ((s1 : Int) == 0) = false := by simp; omega
  have t5 : ((ps.length : Int) == 0) = false := beq_eq_false_iff_ne.2 (by omega)
  have t6 : (0 : Nat) < ps.length := by omega
  have hsw : IntKind.u64.wrap (2 ^ sh) = ((2 ^ sh : Nat) : Int) := by
    have hq : (2 : Nat) ^ sh ≤ 2 ^ 63 := Nat.pow_le_pow_right (show 0 < 2 by omega) hsh63
    have hq2 : (2 : Int) ^ sh = ((2 ^ sh : Nat) : Int) := by simp
    rw [hq2, IntKind.wrap_u64]
    generalize 2 ^ sh = q at hq ⊢
    omega
  have t7 : ((s1 : Int) == IntKind.u64.wrap (2 ^ sh)) = false := by rw [hsw]; exact beq_eq_false_iff_ne.2 (by omega)
  have m1 : (s1 : Int) - 1 = (m : Int) := by omega
  have m2 : IntKind.u64.wrap ((s1 : Int) - 1) = (m : Int) := by rw [IntKind.wrap_u64]; omega
  have m3 : IntKind.i64.wrap ((i : Int) - (sh : Int)) = (n : Int) := by rw [IntKind.wrap_i64]; omega
  have m4 : (m : Int) / 2 ^ sh = (mask : Int) := by rw [← hmask]; simp
  have hn64 : n ≤ 64 := by omega
  have hmask64 : mask < 18446744073709551616 := by have := Nat.div_le_self m (2 ^ sh); omega
  have hs1 : s1 < 18446744073709551616 := by omega
  have C49 := fun (W : World) (g : Glob F W) => tz_below F s1 hs1 (by omega) W g
  rw [hsh] at C49
  have t8 : ((ps.length : Int) != 1 + (n : Int) + (b : Int)) = false := bne_eq_false_iff_eq.2 (by omega)
  obtain ⟨qs, QA, qc, hql, hdrop, hQ, HQE⟩ := hp.drop' 1 1 rfl (by omega)
  obtain ⟨vt, htake, hT⟩ := hQ.take n (by omega)
  obtain ⟨vd, hdrop2, hD2⟩ := hQ.drop n (by omega)
  have hti : (qs.take n).length = n := by simp; omega
  have HT := Aside0.mk hT
  have HD2 := Aside0.mk hD2
  have HTI := Aside0.mk hti
  have HD := Aside0.mk hd
  have HA := Aside0.mk ha
  have HR := Aside0.mk hr
  have HC49 := Aside0.mk C49
  have HG := Aside0.mk hG
  have HSD := Aside0.mk (show ps.getD 0 [] = x by have := HX0.out; simp [List.getD_eq_getElem?_getD, this])
  clear hd hp hpC hpl C49 hsh hG hl hn h1 hsw ha hr hmask hp2 hT hD2 hti hQ
  rw [HSD.out]
  rw [← HQE.out]
  unfold consRest
  cases hq : eqB ((qs.drop n).foldl (fun s p => hc A B C p s) (rightN A B C mask (qs.take n) x n)) a with
  | true =>
    have HQ := Aside0.mk hq
    clear hq
    rw [if_pos rfl]
    go_enter Tryf.func38, Tryf.ntmps38
    go_wp2_with (first
      | (go_at_call 51; ((with_reducible refine (proof_decompInclProof.calls k _ _ _ _ _ HD.out).mono ?_); rintro e w1 ⟨rfl, hB1⟩; have HB1 := Aside0.mk hB1.below; clear hB1))
      | (go_at_call 49; ((with_reducible refine (HC49.out _ (HG.out.below HB1.out)).mono ?_); rintro e w2 ⟨rfl, hB2⟩; have HB2 := Aside0.mk (below_next HB1.out hB2); have hc2 := pw_cell_below HB2.out he; clear hB2))
      | (go_at_call 52; ((with_reducible refine (right_any A B C _ _ _ _ mask hmask64 _ (HX.out.below HB2.out) (HT.out.below HB2.out)).mono ?_); rintro e w3 ⟨v3, rfl, hV3, hB3⟩; have HV3 := Aside0.mk hV3; have HB3 := Aside0.mk (below_next HB2.out hB3); clear hV3 hB3))
      | (go_at_call 53; ((with_reducible refine (border_any A B C _ _ _ _ _ HV3.out (HD2.out.below HB3.out)).mono ?_); rintro e w4 ⟨v4, rfl, hV4, hB4⟩; have HV4 := Aside0.mk hV4; have HB4 := Aside0.mk (below_next HB3.out hB4); clear hV4 hB4 HV3))
      | (go_at_call 41; ((refine (match_any _ _ _ a _ HV4.out (HA.out.below HB4.out)).mono ?_); rintro e w5 ⟨v5, rfl, hV5, hB5⟩; rw [HTI.out, HQ.out] at hV5; obtain rfl := isErr_zero hV5; have HB5 := Aside0.mk (below_next HB4.out hB5); clear hV5 hB5 HV4))
      | (go_at_call 54; ((with_reducible refine (inner_any A B C _ _ _ _ mask hmask64 _ (HX.out.below HB5.out) (HT.out.below HB5.out)).mono ?_); rintro e w6 ⟨v6, rfl, hV6, hB6⟩; have HV6 := Aside0.mk hV6; have HB6 := Aside0.mk (below_next HB5.out hB6); clear hV6 hB6))
      | (go_at_call 53; ((with_reducible refine (border_any A B C _ _ _ _ _ HV6.out (HD2.out.below HB6.out)).mono ?_); rintro e w7 ⟨v7, rfl, hV7, hB7⟩; have HV7 := Aside0.mk hV7; have HB7 := Aside0.mk (below_next HB6.out hB7); clear hV7 hB7 HV6))
      | (go_at_call 41; ((refine (match_any _ _ _ r _ HV7.out (HR.out.below HB7.out)).mono ?_); rintro e w8 ⟨v8, rfl, hV8, hB8⟩; rw [HTI.out] at hV8; have HV8 := Aside0.mk hV8; have HB8 := Aside0.mk (below_next HB7.out hB8); clear hV8 hB8)))
    go_ret
    exact ⟨_, rfl, HV8.out, HB8.out⟩
  | false =>
    have HQ := Aside0.mk hq
    clear hq
    rw [if_neg (by decide)]
    go_enter Tryf.func38, Tryf.ntmps38
    go_wp2_with (first
      | (go_at_call 51; ((with_reducible refine (proof_decompInclProof.calls k _ _ _ _ _ HD.out).mono ?_); rintro e w1 ⟨rfl, hB1⟩; have HB1 := Aside0.mk hB1.below; clear hB1))
      | (go_at_call 49; ((with_reducible refine (HC49.out _ (HG.out.below HB1.out)).mono ?_); rintro e w2 ⟨rfl, hB2⟩; have HB2 := Aside0.mk (below_next HB1.out hB2); have hc2 := pw_cell_below HB2.out he; clear hB2))
      | (go_at_call 52; ((with_reducible refine (right_any A B C _ _ _ _ mask hmask64 _ (HX.out.below HB2.out) (HT.out.below HB2.out)).mono ?_); rintro e w3 ⟨v3, rfl, hV3, hB3⟩; have HV3 := Aside0.mk hV3; have HB3 := Aside0.mk (below_next HB2.out hB3); clear hV3 hB3))
      | (go_at_call 53; ((with_reducible refine (border_any A B C _ _ _ _ _ HV3.out (HD2.out.below HB3.out)).mono ?_); rintro e w4 ⟨v4, rfl, hV4, hB4⟩; have HV4 := Aside0.mk hV4; have HB4 := Aside0.mk (below_next HB3.out hB4); clear hV4 hB4 HV3))
      | (go_at_call 41; ((refine (match_any _ _ _ a _ HV4.out (HA.out.below HB4.out)).mono ?_); rintro e w5 ⟨v5, rfl, hV5, hB5⟩; rw [HTI.out, HQ.out] at hV5; obtain ⟨x5, y5, rfl⟩ := isErr_one hV5; have HV5 := Aside0.mk hV5; have HB5 := Aside0.mk (below_next HB4.out hB5); clear hV5 hB5 HV4)))
    go_ret
    exact ⟨_, rfl, HV5.out, HB5.out⟩
end Go.Proofs.YtdjfagknffknjaaFmt.H
end

section
namespace Go.Proofs.YtdjfagknffknjaaFmt.H
open Go.RowKit Go.Extern.Stop Go.Stop Go.Extern Go.Proofs.YtdjfagknffknjaaFmtW.PrintWords Go.Proofs.YtdjfagknffknjaaFmtW.PrintLast Go.Proofs.YtdjfagknffknjaaFmtW.PrintMore Go.Proofs.YtdjfagknffknjaaFmt.Q
/-- What kind of fault a consistency proof has; i, b: how decompInclProof parts it. -/
def consFault (A B C : Int) (i b s1 s2 : Nat) (ps : List (List Int)) (a r : List Int) : Nat :=
  if s1 = s2 then (if ps.length = 0 then faultN (eqB a r) else 2)
  else if ps.length = 0 then 2
  else if s1 = 2 ^ Lib.ctz 64 s1 then (if ps.length = 0 + (i - Lib.ctz 64 s1) + b then consRest A B C ((s1 - 1) / 2 ^ Lib.ctz 64 s1) (i - Lib.ctz 64 s1) a (ps.drop 0) a r else 2)
  else (if ps.length = 1 + (i - Lib.ctz 64 s1) + b then consRest A B C ((s1 - 1) / 2 ^ Lib.ctz 64 s1) (i - Lib.ctz 64 s1) (ps.getD 0 []) (ps.drop 1) a r else 2)
/-- What is asked of the two sizes. -/
structure Parts (k s1 s2 i b : Nat) : Prop where
  one : 1 ≤ s1
  le : s1 ≤ s2
  top : s2 < 18446744073709551616
  hi : i ≤ 64
  hb : b ≤ 64
  part : s1 < s2 → proof_decompInclProof.f k ((s1 - 1 : Nat) : Int) s2 = some ((i : Int), (b : Int)) ∧ Lib.ctz 64 s1 ≤ i
theorem proofCons_any (F : Interp) (A B C : Int) (k s1 s2 i b : Nat) (hP : Parts k s1 s2 i b) (pv av rv : Value) (ps : List (List Int)) (a r : List Int) (w : World) (hG : Glob F w)
    (hp : Rd KBB w pv ps) (ha : Rd KB w av a) (hr : Rd KB w rv r) :
    Calls Tryf.prog 38 #[hv A B C, .int .u64 s1, .int .u64 s2, pv, av, rv] w fun e w' => ∃ v, e = .returned v ∧ As.IsErr v (consFault A B C i b s1 s2 ps a r) ∧ Below w.heap.size w w' := by
  have h1 := hP.one
  have h2 := hP.le
  have h3 := hP.top
  by_cases he : s1 = s2
  · subst he
    by_cases h0 : ps.length = 0
    · obtain rfl := List.eq_nil_of_length_eq_zero h0
      refine (cons_same A B C s1 pv av rv a r w hp ha hr).mono ?_
      rintro e w' ⟨v, rfl, hv, hB⟩
      exact ⟨v, rfl, by simpa [consFault] using hv, hB⟩
    · refine (cons_same_more A B C s1 pv av rv ps w hp (by omega)).mono ?_
      rintro e w' ⟨v, rfl, hB⟩
      refine ⟨_, rfl, ?_, hB⟩
      have : consFault A B C i b s1 s1 ps a r = 2 := by simp only [consFault]; rw [if_pos trivial, if_neg h0]
      rw [this]; exact As.IsErr.other _
  · have hlt : s1 < s2 := by omega
    obtain ⟨hd, hci⟩ := hP.part hlt
    by_cases h0 : ps.length = 0
    · obtain rfl := List.eq_nil_of_length_eq_zero h0
      refine (cons_none A B C s1 s2 h1 hlt pv av rv w hp).mono ?_
      rintro e w' ⟨v, rfl, hB⟩
      refine ⟨_, rfl, ?_, hB⟩
      have : consFault A B C i b s1 s2 [] a r = 2 := by unfold consFault; rw [if_neg he, if_pos List.length_nil]
      rw [this]; exact As.IsErr.other _
    · have hpos : 0 < ps.length := by omega
      have hsh63 : Lib.ctz 64 s1 ≤ 63 := by
        have := (Lib.lowest_bit 64 s1 (by omega) (by omega)).2
        omega
      by_cases hp2 : s1 = 2 ^ Lib.ctz 64 s1
      · by_cases hl : ps.length = 0 + (i - Lib.ctz 64 s1) + b
        · refine (cons_pow_ok F A B C k s1 s2 i b _ (i - Lib.ctz 64 s1) (s1 - 1) _ (by omega) hlt h3 hd rfl (by omega) hP.hi hP.hb hsh63 rfl hp2 pv av rv ps a r w hG hp hpos hl ha hr).mono ?_
          rintro e w' ⟨v, rfl, hv, hB⟩
          refine ⟨v, rfl, ?_, hB⟩
          have : consFault A B C i b s1 s2 ps a r = consRest A B C ((s1 - 1) / 2 ^ Lib.ctz 64 s1) (i - Lib.ctz 64 s1) a (ps.drop 0) a r := by
            unfold consFault; rw [if_neg he, if_neg h0, if_pos hp2, if_pos hl]
          rw [this]; exact hv
        · refine (cons_pow_bad F A B C k s1 s2 i b _ (i - Lib.ctz 64 s1) (s1 - 1) _ (by omega) hlt h3 hd rfl (by omega) hP.hi hP.hb hsh63 rfl hp2 pv av rv ps a r w hG hp hpos hl ha hr).mono ?_
          rintro e w' ⟨v, rfl, hB⟩
          refine ⟨_, rfl, ?_, hB⟩
          have : consFault A B C i b s1 s2 ps a r = 2 := by
            unfold consFault; rw [if_neg he, if_neg h0, if_pos hp2, if_neg hl]
          rw [this]; exact As.IsErr.other _
      · by_cases hl : ps.length = 1 + (i - Lib.ctz 64 s1) + b
        · refine (cons_odd_ok F A B C k s1 s2 i b _ (i - Lib.ctz 64 s1) (s1 - 1) _ (by omega) hlt h3 hd rfl (by omega) hP.hi hP.hb hsh63 rfl hp2 pv av rv ps a r w hG hp hpos hl ha hr).mono ?_
          rintro e w' ⟨v, rfl, hv, hB⟩
          refine ⟨v, rfl, ?_, hB⟩
          have : consFault A B C i b s1 s2 ps a r = consRest A B C ((s1 - 1) / 2 ^ Lib.ctz 64 s1) (i - Lib.ctz 64 s1) (ps.getD 0 []) (ps.drop 1) a r := by
            unfold consFault; rw [if_neg he, if_neg h0, if_neg hp2, if_pos hl]
          rw [this]; exact hv
        · refine (cons_odd_bad F A B C k s1 s2 i b _ (i - Lib.ctz 64 s1) (s1 - 1) _ (by omega) hlt h3 hd rfl (by omega) hP.hi hP.hb hsh63 rfl hp2 pv av rv ps a r w hG hp hpos hl ha hr).mono ?_
          rintro e w' ⟨v, rfl, hB⟩
          refine ⟨_, rfl, ?_, hB⟩
          have : consFault A B C i b s1 s2 ps a r = 2 := by
            unfold consFault; rw [if_neg he, if_neg h0, if_neg hp2, if_neg hl]
          rw [this]; exact As.IsErr.other _
set_option maxRecDepth 100000 in
theorem cons_any (F : Interp) (A B C : Int) (k s1 s2 i b : Nat) (hP : Parts k s1 s2 i b) (pv av rv : Value) (ps : List (List Int)) (a r : List Int) (w : World) (hG : Glob F w)
    (hs : Small ps) (hp : Rd KBB w pv ps) (ha : Rd KB w av a) (hr : Rd KB w rv r) :
    Calls Tryf.prog 25 #[.agg #[.int .u32 A, .int .u32 B, .int .u32 C], .int .u64 s1, .int .u64 s2, pv, av, rv] w fun e w' =>
      e = .returned (.int .i64 (consFault A B C i b s1 s2 ps a r : Nat)) ∧ Below w.heap.size w w' := by
  have hu24 := Tryf.underlying24
  have HL := Aside0.mk ha
  have HP := Aside0.mk hp
  have HR := Aside0.mk hr
  have HG := Aside0.mk hG
  have HS := Aside0.mk hs
  have HPA := Aside0.mk hP
  have HST := Aside0.mk (held_start w (.int .u32 A) (.int .u32 B) (.int .u32 C))
  clear ha hp hr hG hs hP
  go_enter Tryf.func25, Tryf.ntmps25
  go_wp2
  go_region_held3 (fun W => W.cell? ⟨w.heap.size, 0, none⟩ = some (.int .u32 A) ∧ W.cell? ⟨w.heap.size, 1, none⟩ = some (.int .u32 B) ∧ W.cell? ⟨w.heap.size, 2, none⟩ = some (.int .u32 C) ∧ Aside0 (Below w.heap.size w W))
    (first | exact HST.out | exact held_next (by assumption) HBn.out)
    (first
      | (go_at_call 29; (refine (copied_any _ ps _ HS.out (HP.out.below (held_below (by assumption)))).mono ?_); rintro e w1 ⟨v1, rfl, hV1, hB1⟩; have HV1 := Aside0.mk (Rd.ofR (Kd.S_R hV1)); have HBn := Aside0.mk hB1; have HB1 := HBn; clear hV1 hB1)
      | (go_at_call 38; (refine (proofCons_any F A B C k s1 s2 i b HPA.out _ _ _ ps a r _ (HG.out.below (held_below (by assumption))) HV1.out (HL.out.below (held_below (by assumption))) (HR.out.below (held_below (by assumption)))).mono ?_); rintro e w2 ⟨v2, rfl, hV2, hB2⟩; have HV2 := Aside0.mk hV2; have HBn := Aside0.mk hB2; clear hV2 hB2)
      | (go_at_call 27; (refine (As.faultOf_any _ _ _ HV2.out (HG.out.below (held_below (by assumption))).err).mono ?_); rintro e w3 ⟨rfl, hB3⟩; have HBn := Aside0.mk hB3; clear hB3))
  go_wp2
  go_ret
  exact ⟨rfl, held_below (by assumption)⟩
end Go.Proofs.YtdjfagknffknjaaFmt.H
end
