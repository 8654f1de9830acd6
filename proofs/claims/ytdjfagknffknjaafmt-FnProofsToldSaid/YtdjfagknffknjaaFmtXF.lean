/- laws.FnProofs answers true; conditions: what the plain law says of sizes in range. -/
import Derived.Test.YtdjfagknffknjaaFmtXV
import Derived.Test.YtdjfagknffknjaaFmtXI
import Derived.Test.YtdjfagknffknjaaFmtXC

section
namespace Go.Proofs.YtdjfagknffknjaaFmt.H
open Go.RowKit Go.Extern.Stop Go.Stop Go.Extern Go.Proofs.YtdjfagknffknjaaFmtW.PrintWords Go.Proofs.YtdjfagknffknjaaFmtW.PrintLast Go.Proofs.YtdjfagknffknjaaFmtW.PrintMore Go.Proofs.YtdjfagknffknjaaFmt.Q
theorem rd_two {W : World} {g : Nat} {x y : Int} {e : TypeId} (h : W.heap[g]? = some (.cells #[.int .u8 x, .int .u8 y] e (0, 0))) : Rd KB W (.slice (some ⟨g, 0, none⟩) 2 2) [x, y] := by
  refine ⟨_, _, rfl, by simp, rfl, by simp, fun _ => ⟨_, rfl, fun j p hj => ?_⟩⟩
  rcases j with _ | _ | j
  · simp only [List.getElem?_cons_zero, Option.some.injEq] at hj
    subst hj
    refine ⟨[.int .u8 x], rfl, rfl, fun i u hu => ?_⟩
    rcases i with _ | i
    · simp only [List.getElem?_cons_zero, Option.some.injEq] at hu
      subst hu
      exact blk_cell h 0
    · simp at hu
  · simp only [Nat.zero_add, List.getElem?_cons_succ, List.getElem?_cons_zero, Option.some.injEq] at hj
    subst hj
    refine ⟨[.int .u8 y], rfl, rfl, fun i u hu => ?_⟩
    rcases i with _ | i
    · simp only [List.getElem?_cons_zero, Option.some.injEq] at hu
      subst hu
      exact blk_cell h 1
    · simp at hu
  · simp at hj
theorem new_two (w : World) (a b : Obj) : ((w.alloc a).alloc b).heap[w.heap.size + 1]? = some b := by
  have := heap_alloc_new (w.alloc a) b
  rwa [show (w.alloc a).heap.size = w.heap.size + 1 by simp] at this
theorem dec01 : proof_decompInclProof.f 2 ((0 : Nat) : Int) ((1 : Nat) : Int) = some (((0 : Nat) : Int), ((0 : Nat) : Int)) := by decide +kernel
set_option maxRecDepth 100000 in
set_option maxHeartbeats 4000000 in
theorem proves_any (F : Interp) (w : World) (hG : Glob F w) : Calls Tryf.prog 4 #[] w fun e w' => e = .returned (.bool true) ∧ Below w.heap.size w w' := by
  have hu24 := Tryf.underlying24
  have HG := Aside0.mk hG
  have C7 : ∀ (lv rv : Value) (r : List Int) (f : Nat) (W : World) (_ : f = faultN (eqB [1, 2] r)) (_ : Below w.heap.size w W) (_ : Rd KB W lv [1, 2]) (_ : Rd KB W rv r),
    Calls Tryf.prog 7 #[.agg #[.int .u32 1, .int .u32 0, .int .u32 0], .int .u64 0, .int .u64 1, lv, .slice none 0 0, rv] W fun e w' => e = .returned (.int .i64 f) ∧ Below W.heap.size W w' := by
    intro lv rv r f W hf hB hl hr
    subst hf
    exact incl_any F 1 0 0 2 0 1 0 0 lv _ rv [1, 2] [] r W (HG.out.below hB) (by decide) (by decide) dec01 (by decide) (by decide) rfl ⟨by simp, by simp⟩ hl (Rd.nil KBB W) hr
  have HC7 := Aside0.mk C7
  have e0 : 0 = faultN (eqB [1, 2] [1, 2]) := by decide +kernel
  have e1 : 1 = faultN (eqB [1, 2] [1, 3]) := by decide +kernel
  have HE0 := Aside0.mk e0
  have HE1 := Aside0.mk e1
  clear C7 hG e0 e1
  go_enter Tryf.func4, Tryf.ntmps4
  go_wp2_with (first
    | (go_at_call 7; ((with_reducible refine (HC7.out _ _ [1, 2] 0 _ HE0.out (below_alloc (below_alloc (Below.refl _ _) _) _) (rd_two (blk_alloc (heap_alloc_new w _) _)) (rd_two (new_two w _ _))).mono ?_); rintro e w1 ⟨rfl, hB1⟩; have HB1 := Aside0.mk (below_next (below_alloc (below_alloc (Below.refl w.heap.size w) _) _) hB1); clear hB1))
    | (go_at_call 7; ((with_reducible refine (HC7.out _ _ [1, 3] 1 _ HE1.out (below_alloc (below_alloc HB1.out _) _) (rd_two (blk_alloc (heap_alloc_new w1 _) _)) (rd_two (new_two w1 _ _))).mono ?_); rintro e w2 ⟨rfl, hB2⟩; have HB2 := Aside0.mk (below_next (below_alloc (below_alloc HB1.out _) _) hB2); clear hB2)))
  go_ret
  exact ⟨rfl, HB2.out⟩
end Go.Proofs.YtdjfagknffknjaaFmt.H
end

section
namespace Go.Proofs.YtdjfagknffknjaaFmt.H
open Go.RowKit Go.Extern.Stop Go.Stop Go.Extern Go.Proofs.YtdjfagknffknjaaFmtW.PrintWords Go.Proofs.YtdjfagknffknjaaFmtW.PrintLast Go.Proofs.YtdjfagknffknjaaFmtW.PrintMore Go.Proofs.YtdjfagknffknjaaFmt.Q
def InclOk (A B C A2 B2 C2 : Int) (idx size at_ : Nat) (x : List Int) : Prop :=
  ∃ k i b ids bg en e0 e1 spans want ps0 ps1 ps2 leaf root oth, InclAsk k A B C A2 B2 C2 idx size i b at_ x ids bg en e0 e1 spans want ps0 ps1 ps2 leaf root oth
def ConsOk (F : Interp) (A B C A2 B2 C2 : Int) (s1 s2 at_ : Nat) (x : List Int) : Prop :=
  ∃ k i b ids bg en e0 e1 spans want ps0 ps1 ps2 seed a r oth, ConsAsk F k A B C A2 B2 C2 s1 s2 i b at_ x ids bg en e0 e1 spans want ps0 ps1 ps2 seed a r oth
theorem inclOk_any (F : Interp) (A B C A2 B2 C2 : Int) (idx size at_ : Nat) (x : List Int) (h : InclOk A B C A2 B2 C2 idx size at_ x) (xv : Value) (w : World) (hG : Glob F w) (hx2 : x.length = 2) (hat : at_ < 256) (hx : Rd KB w xv x) :
    Calls Tryf.prog 5 #[.agg #[.int .u32 A, .int .u32 B, .int .u32 C], .agg #[.int .u32 A2, .int .u32 B2, .int .u32 C2], .int .u64 idx, .int .u64 size, .int .u8 at_, xv] w fun e w' => e = .returned (.bool true) ∧ Below w.heap.size w w' := by
  obtain ⟨k, i, b, ids, bg, en, e0, e1, spans, want, ps0, ps1, ps2, leaf, root, oth, hQ⟩ := h
  exact included_any F k A B C A2 B2 C2 idx size i b at_ x ids bg en e0 e1 spans want ps0 ps1 ps2 leaf root oth hQ xv w hG hx2 hat hx
theorem consOk_any (F : Interp) (A B C A2 B2 C2 : Int) (s1 s2 at_ : Nat) (x : List Int) (h : ConsOk F A B C A2 B2 C2 s1 s2 at_ x) (xv : Value) (w : World) (hG : Glob F w) (hx2 : x.length = 2) (hat : at_ < 256) (hx : Rd KB w xv x) :
    Calls Tryf.prog 6 #[.agg #[.int .u32 A, .int .u32 B, .int .u32 C], .agg #[.int .u32 A2, .int .u32 B2, .int .u32 C2], .int .u64 s1, .int .u64 s2, .int .u8 at_, xv] w fun e w' => e = .returned (.bool true) ∧ Below w.heap.size w w' := by
  obtain ⟨k, i, b, ids, bg, en, e0, e1, spans, want, ps0, ps1, ps2, seed, a, r, oth, hQ⟩ := h
  exact consists_any F k A B C A2 B2 C2 s1 s2 i b at_ x ids bg en e0 e1 spans want ps0 ps1 ps2 seed a r oth hQ xv w hG hx2 hat hx
set_option maxRecDepth 100000 in
set_option maxHeartbeats 8000000 in
theorem fnProofs_any (F : Interp) (A B C A2 B2 C2 : Int) (idx s1 s2 at_ : Nat) (xv : Value) (x : List Int) (w : World) (hG : Glob F w) (hat : at_ < 256) (hx : Rd KB w xv x)
    (hI : idx < s2 → s2 ≤ 9223372036854775808 → x.length = 2 → InclOk A B C A2 B2 C2 idx s2 at_ x) (hC : 1 ≤ s1 → s1 ≤ s2 → s2 ≤ 9223372036854775808 → x.length = 2 → ConsOk F A B C A2 B2 C2 s1 s2 at_ x) :
    Calls Tryf.prog 3 #[.agg #[.int .u32 A, .int .u32 B, .int .u32 C], .agg #[.int .u32 A2, .int .u32 B2, .int .u32 C2], .int .u64 idx, .int .u64 s1, .int .u64 s2, .int .u8 at_, xv] w fun e w' => e = .returned (.bool true) ∧ Below w.heap.size w w' := by
  have hu24 := Tryf.underlying24
  have HX := Aside0.mk hx
  have HG := Aside0.mk hG
  have HAT := Aside0.mk hat
  have HI := Aside0.mk hI
  have HC := Aside0.mk hC
  obtain ⟨XA, xc, rfl, hxl, hxC⟩ := hx
  obtain ⟨n, hn⟩ : ∃ n, n = x.length := ⟨_, rfl⟩
  have HN := Aside0.mk hn
  have HB0 := Aside0.mk (below_alloc (below_alloc (Below.refl w.heap.size w) (.cells #[.int .u32 A, .int .u32 B, .int .u32 C] 24)) (.cells #[.int .u32 A2, .int .u32 B2, .int .u32 C2] 24))
  rw [← hn]
  clear hxC hxl hI hC hG hat hn
  by_cases c0 : 2147483647 < n
  · have d0 : decide ((2147483647 : Int) < (n : Int)) = true := by simp; omega
    go_enter Tryf.func3, Tryf.ntmps3
    go_wp2
    go_ret
    exact ⟨rfl, HB0.out⟩
  have d0 : decide ((2147483647 : Int) < (n : Int)) = false := by simp; omega
  by_cases c1 : s1 < 1
  · have d1 : decide ((s1 : Int) < 1) = true := by simp; omega
    go_enter Tryf.func3, Tryf.ntmps3
    go_wp2_with (go_at_call 4; ((with_reducible refine (proves_any F _ (HG.out.below HB0.out)).mono ?_); rintro e w1 ⟨rfl, hB1⟩; have HB1 := Aside0.mk (below_next HB0.out hB1); clear hB1))
    go_ret
    exact ⟨rfl, HB1.out⟩
  have d1 : decide ((s1 : Int) < 1) = false := by simp; omega
  by_cases c2 : s2 < s1
  · have d2 : decide ((s2 : Int) < (s1 : Int)) = true := by simp; omega
    have m2 : decide (s2 < s1) = true := by simp; omega
    go_enter Tryf.func3, Tryf.ntmps3
    go_wp2_with (go_at_call 4; ((with_reducible refine (proves_any F _ (HG.out.below HB0.out)).mono ?_); rintro e w1 ⟨rfl, hB1⟩; have HB1 := Aside0.mk (below_next HB0.out hB1); clear hB1))
    go_ret
    exact ⟨rfl, HB1.out⟩
  have d2 : decide ((s2 : Int) < (s1 : Int)) = false := by simp; omega
  have m2 : decide (s2 < s1) = false := by simp; omega
  by_cases c3 : 9223372036854775808 < s2
  · have d3 : decide ((9223372036854775808 : Int) < (s2 : Int)) = true := by simp; omega
    go_enter Tryf.func3, Tryf.ntmps3
    go_wp2_with (go_at_call 4; ((with_reducible refine (proves_any F _ (HG.out.below HB0.out)).mono ?_); rintro e w1 ⟨rfl, hB1⟩; have HB1 := Aside0.mk (below_next HB0.out hB1); clear hB1))
    go_ret
    exact ⟨rfl, HB1.out⟩
  have d3 : decide ((9223372036854775808 : Int) < (s2 : Int)) = false := by simp; omega
  by_cases c4 : s2 ≤ idx
  · have d4 : decide ((s2 : Int) ≤ (idx : Int)) = true := by simp; omega
    have m4 : decide (s2 ≤ idx) = true := by simp; omega
    go_enter Tryf.func3, Tryf.ntmps3
    go_wp2_with (go_at_call 4; ((with_reducible refine (proves_any F _ (HG.out.below HB0.out)).mono ?_); rintro e w1 ⟨rfl, hB1⟩; have HB1 := Aside0.mk (below_next HB0.out hB1); clear hB1))
    go_ret
    exact ⟨rfl, HB1.out⟩
  have d4 : decide ((s2 : Int) ≤ (idx : Int)) = false := by simp; omega
  have m4 : decide (s2 ≤ idx) = false := by simp; omega
  by_cases c5 : n ≠ 2
  · have d5 : ((n : Int) != 2) = true := by simp; omega
    go_enter Tryf.func3, Tryf.ntmps3
    go_wp2_with (go_at_call 4; ((with_reducible refine (proves_any F _ (HG.out.below HB0.out)).mono ?_); rintro e w1 ⟨rfl, hB1⟩; have HB1 := Aside0.mk (below_next HB0.out hB1); clear hB1))
    go_ret
    exact ⟨rfl, HB1.out⟩
  have d5 : ((n : Int) != 2) = false := by simp; omega
  have hn2 : x.length = 2 := by have := HN.out; omega
  have HX2 := Aside0.mk hn2
  have HIK := Aside0.mk (HI.out (by omega) (by omega) hn2)
  have HCK := Aside0.mk (HC.out (by omega) (by omega) (by omega) hn2)
  have HK := Aside0.mk (show ∀ W, Below (((w.alloc (.cells #[.int .u32 A, .int .u32 B, .int .u32 C] 24)).alloc (.cells #[.int .u32 A2, .int .u32 B2, .int .u32 C2] 24))).heap.size ((w.alloc (.cells #[.int .u32 A, .int .u32 B, .int .u32 C] 24)).alloc (.cells #[.int .u32 A2, .int .u32 B2, .int .u32 C2] 24)) W →
      W.cell? ⟨w.heap.size, 0, none⟩ = some (.int .u32 A) ∧ W.cell? ⟨w.heap.size, 1, none⟩ = some (.int .u32 B) ∧ W.cell? ⟨w.heap.size, 2, none⟩ = some (.int .u32 C) ∧ W.cell? ⟨w.heap.size + 1, 0, none⟩ = some (.int .u32 A2) ∧ W.cell? ⟨w.heap.size + 1, 1, none⟩ = some (.int .u32 B2) ∧ W.cell? ⟨w.heap.size + 1, 2, none⟩ = some (.int .u32 C2) from fun W hb =>
    ⟨blk_cell (blk_below (blk_alloc (heap_alloc_new w _) _) hb) 0, blk_cell (blk_below (blk_alloc (heap_alloc_new w _) _) hb) 1, blk_cell (blk_below (blk_alloc (heap_alloc_new w _) _) hb) 2, blk_cell (blk_below (new_two w _ _) hb) 0, blk_cell (blk_below (new_two w _ _) hb) 1, blk_cell (blk_below (new_two w _ _) hb) 2⟩)
  clear hn2 c0 c1 c2 c3 c4 c5
  go_enter Tryf.func3, Tryf.ntmps3
  go_wp2_with (first
    | (go_at_call 5; ((with_reducible refine (inclOk_any F A B C A2 B2 C2 idx s2 at_ x HIK.out _ _ (HG.out.below HB0.out) HX2.out HAT.out (by rw [HN.out]; exact HX.out.below HB0.out)).mono ?_); rintro e w1 ⟨rfl, hB1⟩; have HB1 := Aside0.mk (below_next HB0.out hB1); obtain ⟨x0, x1, x2, y0, y1, y2⟩ := HK.out _ hB1; clear hB1))
    | (go_at_call 6; ((with_reducible refine (consOk_any F A B C A2 B2 C2 s1 s2 at_ x HCK.out _ _ (HG.out.below HB1.out) HX2.out HAT.out (by rw [HN.out]; exact HX.out.below HB1.out)).mono ?_); rintro e w2 ⟨rfl, hB2⟩; have HB2 := Aside0.mk (below_next HB1.out hB2); clear hB2))
    | (go_at_call 4; ((with_reducible refine (proves_any F _ (HG.out.below HB2.out)).mono ?_); rintro e w3 ⟨rfl, hB3⟩; have HB3 := Aside0.mk (below_next HB2.out hB3); clear hB3)))
  go_ret
  exact ⟨rfl, HB3.out⟩
end Go.Proofs.YtdjfagknffknjaaFmt.H
end
