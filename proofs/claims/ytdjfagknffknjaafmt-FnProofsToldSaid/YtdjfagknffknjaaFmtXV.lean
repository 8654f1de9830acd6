/- The verifier of inclusion proofs, by its contract; conditions: the index lies below the size, the world holds the program's variables. -/
import Derived.Test.YtdjfagknffknjaaFmtXB
import Derived.Deep.RegionWith
import Derived.BigQuiet
import Derived.Deep.RegionHeld3

section
namespace Go.Proofs.YtdjfagknffknjaaFmt.H
open Go.RowKit Go.Extern.Stop Go.Stop Go.Extern Go.Proofs.YtdjfagknffknjaaFmtW.PrintWords Go.Proofs.YtdjfagknffknjaaFmtW.PrintLast Go.Proofs.YtdjfagknffknjaaFmtW.PrintMore Go.Proofs.YtdjfagknffknjaaFmt.Q
/-- Are two lists of bytes one text? -/
def eqB (a b : List Int) : Bool := (strOfNums a).toList == (strOfNums b).toList
theorem equal_any (v1 v2 : Value) (a b : List Int) (w : World) (h1 : Rd KB w v1 a) (h2 : Rd KB w v2 b) :
    Calls Tryf.prog 59 #[v1, v2] w fun e w' => e = .returned (.bool (eqB a b)) ∧ Below w.heap.size w w' := by
  obtain ⟨A1, c1, rfl, hl1, hC1⟩ := h1
  obtain ⟨A2, c2, rfl, hl2, hC2⟩ := h2
  refine (bytes_Equal.calls A1 c1 a A2 c2 b _ w hC1 hl1 hC2 hl2 rfl).mono ?_
  rintro e w' ⟨rfl, hD⟩
  exact ⟨rfl, hD.below⟩
/-- The kind of the fault of two roots. -/
def faultN (b : Bool) : Nat := if b then 0 else 1
theorem match_any (v1 v2 : Value) (a b : List Int) (w : World) (h1 : Rd KB w v1 a) (h2 : Rd KB w v2 b) :
    Calls Tryf.prog 41 #[v1, v2] w fun e w' => ∃ v, e = .returned v ∧ As.IsErr v (faultN (eqB a b)) ∧ Below w.heap.size w w' := by
  have C := equal_any v1 v2 a b w h1 h2
  obtain ⟨A1, c1, rfl, hl1, hC1⟩ := h1
  obtain ⟨A2, c2, rfl, hl2, hC2⟩ := h2
  clear hl1 hC1 hl2 hC2
  have hu84 := Tryf.underlying84
  cases hb : eqB a b with
  | true =>
    rw [hb] at C
    clear hb
    go_enter Tryf.func41, Tryf.ntmps41
    go_wp2_with (go_at_call 59; ((with_reducible refine C.mono ?_); rintro e w1 ⟨rfl, hB⟩; have HB := Aside0.mk hB; clear hB))
    go_ret
    exact ⟨_, rfl, As.IsErr.nil, HB.out⟩
  | false =>
    rw [hb] at C
    clear hb
    go_enter Tryf.func41, Tryf.ntmps41
    go_wp2_with (go_at_call 59; ((with_reducible refine C.mono ?_); rintro e w1 ⟨rfl, hB⟩; have HB := Aside0.mk hB; clear hB))
    go_ret
    exact ⟨_, rfl, As.IsErr.mismatch _ _ rfl rfl, HB.out⟩
theorem info26r : (Tryf.prog.info? 26).map (fun i => (i.zero, i.size, i.bytes)) = some (some (.slice none 0 0), 1, 24) := by kernel_rfl
theorem Rd.take {w : World} {A : Option Addr} {c : Nat} {ps : List (List Int)} (h : Rd KBB w (.slice A ps.length c) ps) (m : Nat) (hm : m ≤ ps.length) :
    ∃ v', (∀ W : World, (Instr.slice 44 (.slice A ps.length c) none (some (.int .i64 m)) none).run Tryf.prog W = .ok v' W) ∧ Rd KBB w v' (ps.take m) := by
  obtain ⟨A', c', e, hl, hC⟩ := h
  injection e with e1 e2 e3
  subst e1 e3
  obtain ⟨i0, hi, hz0, hz1, hz2⟩ := info_parts info26r
  refine ⟨_, cut_to 44 26 .i64 Tryf.underlying44 hi A ps.length c (m : Int) (by omega) (by omega) hl, A, c, ?_, ?_, Kd.C_take hC hm⟩
  · simp [Nat.min_eq_left hm]
  · simp; omega
theorem Rd.drop {w : World} {A : Option Addr} {c : Nat} {ps : List (List Int)} (h : Rd KBB w (.slice A ps.length c) ps) (m : Nat) (hm : m ≤ ps.length) :
    ∃ v', (∀ W : World, (Instr.slice 44 (.slice A ps.length c) (some (.int .i64 m)) none none).run Tryf.prog W = .ok v' W) ∧ Rd KBB w v' (ps.drop m) := by
  obtain ⟨A', c', e, hl, hC⟩ := h
  injection e with e1 e2 e3
  subst e1 e3
  obtain ⟨i0, hi, hz0, hz1, hz2⟩ := info_parts info26r
  refine ⟨_, cut_from 44 26 .i64 Tryf.underlying44 hi 1 hz1 A ps.length c (m : Int) (by omega) (by omega), (if c = m then A else A.map (·.add (m * KBB.sz))), c - m, ?_, ?_, Kd.C_drop hC hm hl⟩
  · simp only [Int.toNat_natCast, List.length_drop]; rfl
  · simp; omega
theorem size_any (x y z : Value) (w : World) : Calls Tryf.prog 93 #[.agg #[x, y, z]] w fun e w' => e = .returned (.int .i64 2) ∧ Below w.heap.size w w' := by
  have hu24 := Tryf.underlying24
  go_enter Tryf.func93, Tryf.ntmps93
  go_wp2
  go_ret
  exact ⟨rfl, (Below.refl _ _).alloc (Nat.le_refl _) _⟩
/-- The root that an inclusion proof tells: the inner chain, then the border's. -/
def rootOfProof (A B C : Int) (idx i : Nat) (leaf : List Int) (ps : List (List Int)) : List Int :=
  (ps.drop i).foldl (fun s p => hc A B C p s) (innerN A B C idx (ps.take i) leaf i)
set_option maxRecDepth 100000 in
set_option maxHeartbeats 4000000 in
theorem root_ok (A B C : Int) (k idx size i b : Nat) (lv pv : Value) (leaf : List Int) (ps : List (List Int)) (w : World)
    (hidx : idx < size) (hsize : size < 18446744073709551616) (hd : proof_decompInclProof.f k idx size = some ((i : Int), (b : Int))) (hi : i ≤ 64) (hb : b ≤ 64)
    (hl2 : leaf.length = 2) (hps : ps.length = i + b) (hl : Rd KB w lv leaf) (hp : Rd KBB w pv ps) :
    Calls Tryf.prog 40 #[.iface 24 (.agg #[.int .u32 A, .int .u32 B, .int .u32 C]), .int .u64 idx, .int .u64 size, lv, pv] w fun e w' =>
      ∃ v, e = .returned (.tuple #[v, .nilIface]) ∧ Rd KB w' v (rootOfProof A B C idx i leaf ps) ∧ Below w.heap.size w w' := by
  have asz := aheadSize
  have msz := methodSize
  have hmax := hp.max
  obtain ⟨PA, pc, rfl, hpl, hpC⟩ := id hp
  obtain ⟨LA, lc, rfl, hll, hlC⟩ := id hl
  obtain ⟨vt, htake, hT⟩ := hp.take i (by omega)
  obtain ⟨vd, hdrop, hD⟩ := hp.drop i (by omega)
  have hti : (ps.take i).length = i := by simp; omega
  have HL := Aside0.mk hl
  have HT := Aside0.mk hT
  have HD := Aside0.mk hD
  have HTI := Aside0.mk hti
  have HDC := Aside0.mk hd
  have c0 : decide ((size : Int) ≤ (idx : Int)) = false := by simp; omega
  have c0' : decide (size ≤ idx) = false := by simp; omega
  have hid64 : idx < 18446744073709551616 := by omega
  have e1 : ((ps.length : Int) != (i : Int) + (b : Int)) = false := by rw [hps]; simp
  have e1w : IntKind.i64.wrap ((i : Int) + (b : Int)) = (i : Int) + (b : Int) := by rw [IntKind.wrap_i64]; omega
  clear hl hp hpC hlC hT hD hti hd hps hpl hll
  rw [hl2] at HL ⊢
  clear hl2
  go_enter Tryf.func40, Tryf.ntmps40
  go_wp2_with (first
    | (go_at_call 93; ((with_reducible refine (size_any _ _ _ _).mono ?_); rintro e w1 ⟨rfl, hB1⟩; have HB1 := Aside0.mk hB1; clear hB1))
    | (go_at_call 51; ((with_reducible refine (proof_decompInclProof.calls k _ _ _ _ _ HDC.out).mono ?_); rintro e w2 ⟨rfl, hB2⟩; have HB2 := Aside0.mk (below_next HB1.out hB2.below); clear hB2))
    | (go_at_call 54; ((with_reducible refine (inner_any A B C _ _ _ _ idx hid64 _ (HL.out.below HB2.out) (HT.out.below HB2.out)).mono ?_); rintro e w3 ⟨v3, rfl, hV3, hB3⟩; have HV3 := Aside0.mk hV3; have HB3 := Aside0.mk (below_next HB2.out hB3); clear hV3 hB3))
    | (go_at_call 53; ((with_reducible refine (border_any A B C _ _ _ _ _ HV3.out (HD.out.below HB3.out)).mono ?_); rintro e w4 ⟨v4, rfl, hV4, hB4⟩; have HV4 := Aside0.mk hV4; have HB4 := Aside0.mk (below_next HB3.out hB4); clear hV4 hB4)))
  go_ret2
  refine ⟨_, rfl, ?_, HB4.out⟩
  have := HV4.out
  rw [HTI.out] at this
  exact this
set_option maxRecDepth 100000 in
set_option maxHeartbeats 4000000 in
theorem root_bad (F : Interp) (A B C : Int) (k idx size i b : Nat) (lv pv : Value) (leaf : List Int) (ps : List (List Int)) (w : World) (hG : Glob F w)
    (hidx : idx < size) (_hsize : size < 18446744073709551616) (hd : proof_decompInclProof.f k idx size = some ((i : Int), (b : Int))) (hi : i ≤ 64) (hb : b ≤ 64)
    (hl2 : leaf.length = 2) (hps : ps.length ≠ i + b) (hl : Rd KB w lv leaf) (hp : Rd KBB w pv ps) :
    Calls Tryf.prog 40 #[.iface 24 (.agg #[.int .u32 A, .int .u32 B, .int .u32 C]), .int .u64 idx, .int .u64 size, lv, pv] w fun e w' =>
      ∃ p, e = .returned (.tuple #[.slice none 0 0, .iface 130 p]) ∧ Below w.heap.size w w' := by
  have asz := aheadSize
  have msz := methodSize
  have hmax := hp.max
  obtain ⟨PA, pc, rfl, hpl, hpC⟩ := id hp
  obtain ⟨LA, lc, rfl, hll, hlC⟩ := id hl
  have HDC := Aside0.mk hd
  have HG := Aside0.mk hG
  have c0 : decide ((size : Int) ≤ (idx : Int)) = false := by simp; omega
  have c0' : decide (size ≤ idx) = false := by simp; omega
  have e1 : ((ps.length : Int) != (i : Int) + (b : Int)) = true := by simp; omega
  have e1w : IntKind.i64.wrap ((i : Int) + (b : Int)) = (i : Int) + (b : Int) := by rw [IntKind.wrap_i64]; omega
  clear hl hp hpC hlC hd hps hpl hll hG
  rw [hl2]
  clear hl2
  go_enter Tryf.func40, Tryf.ntmps40
  go_wp2_with (first
    | (go_at_call 93; ((with_reducible refine (size_any _ _ _ _).mono ?_); rintro e w1 ⟨rfl, hB1⟩; have HB1 := Aside0.mk hB1; clear hB1))
    | (go_at_call 51; ((with_reducible refine (proof_decompInclProof.calls k _ _ _ _ _ HDC.out).mono ?_); rintro e w2 ⟨rfl, hB2⟩; have HB2 := Aside0.mk (below_next HB1.out hB2.below); clear hB2))
    | (go_at_call 42; (refine (Fm.errorf_any F _ _ _ _ (HG.out.below (below_alloc HB2.out _)).tape (by simp; rfl) (by simp; rfl)).mono ?_); rintro e w3 ⟨rfl, hB3⟩; have HB3 := Aside0.mk (below_next (below_alloc HB2.out _) hB3); clear hB3))
  go_ret2
  exact ⟨_, rfl, HB3.out⟩
end Go.Proofs.YtdjfagknffknjaaFmt.H
end

section
namespace Go.Proofs.YtdjfagknffknjaaFmt.H
open Go.RowKit Go.Extern.Stop Go.Stop Go.Extern Go.Proofs.YtdjfagknffknjaaFmtW.PrintWords Go.Proofs.YtdjfagknffknjaaFmtW.PrintLast Go.Proofs.YtdjfagknffknjaaFmtW.PrintMore Go.Proofs.YtdjfagknffknjaaFmt.Q
/-- Few hashes, and short ones. -/
structure Small (ps : List (List Int)) : Prop where
  len : ps.length ≤ 1000
  each : ∀ x ∈ ps, x.length ≤ 1000
theorem rd_L1_mem (ps : List (List Int)) (j : Nat) (h : j < ps.length) : rd_L1 ps (j : Int) = ps[j] := by
  simp [rd_L1, List.getD_eq_getElem?_getD, h]
theorem copied_from (ps : List (List Int)) (hs : Small ps) (d : Nat) : ∀ (k j : Nat), j + d = ps.length → d < k → impl_copied.l0 k (ps.take j) ps (ps.length : Int) (j : Int) = some ps := by
  induction d with
  | zero =>
    intro k j hj hk
    obtain ⟨k, rfl⟩ : ∃ m, k = m + 1 := ⟨k - 1, by omega⟩
    simp only [impl_copied.l0]
    rw [if_neg (by omega), List.take_of_length_le (by omega)]
  | succ d ih =>
    intro k j hj hk
    obtain ⟨k, rfl⟩ : ∃ m, k = m + 1 := ⟨k - 1, by omega⟩
    have hjl : j < ps.length := by omega
    have h1 := hs.each _ (List.getElem_mem hjl)
    have h2 := hs.len
    have hw : wrap64 ((j : Int) + 1) = ((j + 1 : Nat) : Int) := by unfold wrap64; omega
    simp only [impl_copied.l0]
    rw [if_pos (by omega), if_pos (by omega), if_pos (by omega)]
    simp only [Option.bind_some]
    rw [rd_L1_mem ps j hjl, if_pos (by simp only [List.length_nil]; omega), if_pos (by simp only [List.length_take]; omega), hw, List.nil_append, ← List.take_succ_eq_append_getElem hjl]
    exact ih k (j + 1) (by omega) (by omega)
theorem copied_some (ps : List (List Int)) (hs : Small ps) : impl_copied.f (ps.length + 1) ps = some ps := by
  have := copied_from ps hs ps.length (ps.length + 1) 0 (by omega) (by omega)
  simpa [impl_copied.f] using this
theorem copied_any (pv : Value) (ps : List (List Int)) (w : World) (hs : Small ps) (hp : Rd KBB w pv ps) :
    Calls Tryf.prog 29 #[pv] w fun e w' => ∃ v, e = .returned v ∧ Kd.S KBB 26 w' w.heap.size (fun _ => True) v ps ∧ Below w.heap.size w w' := by
  obtain ⟨A, c, rfl, hl, hC⟩ := hp
  exact impl_copied.calls _ A c ps ps w hC hl (copied_some ps hs)
/-- What kind of fault an inclusion proof has: 0: none, 1: another root, 2: another one. -/
def inclFault (A B C : Int) (idx i b : Nat) (leaf : List Int) (ps : List (List Int)) (root : List Int) : Nat :=
  if ps.length = i + b then faultN (eqB (rootOfProof A B C idx i leaf ps) root) else 2
set_option maxRecDepth 100000 in
theorem proofIncl_any (F : Interp) (A B C : Int) (k idx size i b : Nat) (lv pv rv : Value) (leaf : List Int) (ps : List (List Int)) (root : List Int) (w : World) (hG : Glob F w)
    (hidx : idx < size) (hsize : size < 18446744073709551616) (hd : proof_decompInclProof.f k idx size = some ((i : Int), (b : Int))) (hi : i ≤ 64) (hb : b ≤ 64)
    (hl2 : leaf.length = 2) (hl : Rd KB w lv leaf) (hp : Rd KBB w pv ps) (hr : Rd KB w rv root) :
    Calls Tryf.prog 28 #[.iface 24 (.agg #[.int .u32 A, .int .u32 B, .int .u32 C]), .int .u64 idx, .int .u64 size, lv, pv, rv] w fun e w' =>
      ∃ v, e = .returned v ∧ As.IsErr v (inclFault A B C idx i b leaf ps root) ∧ Below w.heap.size w w' := by
  have hu65 := Tryf.underlying65
  by_cases hps : ps.length = i + b
  · have HF := Aside0.mk (show inclFault A B C idx i b leaf ps root = faultN (eqB (rootOfProof A B C idx i leaf ps) root) by simp [inclFault, hps])
    have C40 := root_ok A B C k idx size i b lv pv leaf ps w hidx hsize hd hi hb hl2 hps hl hp
    have HR := Aside0.mk hr
    clear hps hl2 hd hl hp hr hG
    go_enter Tryf.func28, Tryf.ntmps28
    go_wp2_with (first
      | (go_at_call 40; ((with_reducible refine C40.mono ?_); rintro e w1 ⟨v1, rfl, hV1, hB1⟩; have HV1 := Aside0.mk hV1; have HB1 := Aside0.mk hB1; clear hV1 hB1))
      | (go_at_call 41; ((with_reducible refine (match_any _ _ _ _ _ HV1.out (HR.out.below HB1.out)).mono ?_); rintro e w2 ⟨v2, rfl, hV2, hB2⟩; have HV2 := Aside0.mk hV2; have HB2 := Aside0.mk (below_next HB1.out hB2); clear hV2 hB2)))
    go_ret
    exact ⟨_, rfl, by rw [HF.out]; exact HV2.out, HB2.out⟩
  · have HF := Aside0.mk (show inclFault A B C idx i b leaf ps root = 2 by simp [inclFault, hps])
    have C40 := root_bad F A B C k idx size i b lv pv leaf ps w hG hidx hsize hd hi hb hl2 hps hl hp
    clear hps hl2 hd hl hp hr hG
    go_enter Tryf.func28, Tryf.ntmps28
    go_wp2_with (go_at_call 40; ((with_reducible refine C40.mono ?_); rintro e w1 ⟨p1, rfl, hB1⟩; have HB1 := Aside0.mk hB1; clear hB1))
    go_ret
    exact ⟨_, rfl, by rw [HF.out]; exact As.IsErr.other _, HB1.out⟩
/-- The box of a hash function, and that all is below. -/
theorem held_below {w W : World} {p q r : Prop} (h : p ∧ q ∧ r ∧ Aside0 (Below w.heap.size w W)) : Below w.heap.size w W := h.2.2.2.out
theorem held_next {w W W' : World} {a b c : Addr} {x y z : Value} (h : W.cell? a = some x ∧ W.cell? b = some y ∧ W.cell? c = some z ∧ Aside0 (Below w.heap.size w W)) (hb : Below W.heap.size W W') :
    W'.cell? a = some x ∧ W'.cell? b = some y ∧ W'.cell? c = some z ∧ Aside0 (Below w.heap.size w W') :=
  ⟨pw_cell_below hb h.1, pw_cell_below hb h.2.1, pw_cell_below hb h.2.2.1, ⟨below_next h.2.2.2.out hb⟩⟩
theorem held_start (w : World) (x y z : Value) : (w.alloc (.cells #[x, y, z] 24)).drew.cell? ⟨w.heap.size, 0, none⟩ = some x ∧ (w.alloc (.cells #[x, y, z] 24)).drew.cell? ⟨w.heap.size, 1, none⟩ = some y ∧
    (w.alloc (.cells #[x, y, z] 24)).drew.cell? ⟨w.heap.size, 2, none⟩ = some z ∧ Aside0 (Below w.heap.size w (w.alloc (.cells #[x, y, z] 24)).drew) :=
  ⟨by simp, by simp, by simp, ⟨(below_alloc (Below.refl _ _) _).drew⟩⟩
set_option maxRecDepth 100000 in
theorem incl_any (F : Interp) (A B C : Int) (k idx size i b : Nat) (lv pv rv : Value) (leaf : List Int) (ps : List (List Int)) (root : List Int) (w : World) (hG : Glob F w)
    (hidx : idx < size) (hsize : size < 18446744073709551616) (hd : proof_decompInclProof.f k idx size = some ((i : Int), (b : Int))) (hi : i ≤ 64) (hb : b ≤ 64)
    (hl2 : leaf.length = 2) (hs : Small ps) (hl : Rd KB w lv leaf) (hp : Rd KBB w pv ps) (hr : Rd KB w rv root) :
    Calls Tryf.prog 7 #[.agg #[.int .u32 A, .int .u32 B, .int .u32 C], .int .u64 idx, .int .u64 size, lv, pv, rv] w fun e w' =>
      e = .returned (.int .i64 (inclFault A B C idx i b leaf ps root : Nat)) ∧ Below w.heap.size w w' := by
  have hu24 := Tryf.underlying24
  have HL := Aside0.mk hl
  have HP := Aside0.mk hp
  have HR := Aside0.mk hr
  have HG := Aside0.mk hG
  have HD := Aside0.mk hd
  have HL2 := Aside0.mk hl2
  have HS := Aside0.mk hs
  have HST := Aside0.mk (held_start w (.int .u32 A) (.int .u32 B) (.int .u32 C))
  clear hl hp hr hG hd hl2 hs
  go_enter Tryf.func7, Tryf.ntmps7
  go_wp2
  go_region_held3 (fun W => W.cell? ⟨w.heap.size, 0, none⟩ = some (.int .u32 A) ∧ W.cell? ⟨w.heap.size, 1, none⟩ = some (.int .u32 B) ∧ W.cell? ⟨w.heap.size, 2, none⟩ = some (.int .u32 C) ∧ Aside0 (Below w.heap.size w W))
    (first | exact HST.out | exact held_next (by assumption) HBn.out)
    (first
      | (go_at_call 29; (refine (copied_any _ ps _ HS.out (HP.out.below (held_below (by assumption)))).mono ?_); rintro e w1 ⟨v1, rfl, hV1, hB1⟩; have HV1 := Aside0.mk (Rd.ofR (Kd.S_R hV1)); have HBn := Aside0.mk hB1; have HB1 := HBn; clear hV1 hB1)
      | (go_at_call 28; (refine (proofIncl_any F A B C k idx size i b _ _ _ leaf ps root _ (HG.out.below (held_below (by assumption))) hidx hsize HD.out hi hb HL2.out (HL.out.below (held_below (by assumption))) HV1.out (HR.out.below (held_below (by assumption)))).mono ?_); rintro e w2 ⟨v2, rfl, hV2, hB2⟩; have HV2 := Aside0.mk hV2; have HBn := Aside0.mk hB2; clear hV2 hB2)
      | (go_at_call 27; (refine (As.faultOf_any _ _ _ HV2.out (HG.out.below (held_below (by assumption))).err).mono ?_); rintro e w3 ⟨rfl, hB3⟩; have HBn := Aside0.mk hB3; clear hB3))
  go_wp2
  go_ret
  exact ⟨rfl, held_below (by assumption)⟩
end Go.Proofs.YtdjfagknffknjaaFmt.H
end
