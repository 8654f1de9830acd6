/- Contracts of this program's functions, as a turned copy of the kit's printer wrote them; conditions: as each theorem states. -/
import Derived.Test.YtdjfagknffknjaaFmtXQ0
import Derived.Test.YtdjfagknffknjaaFmtXQ2
import Derived.Test.YtdjfagknffknjaaFmtXQ3
import Derived.Test.YtdjfagknffknjaaFmtXQ4
import Derived.Test.YtdjfagknffknjaaFmtXQ5
import Derived.Test.YtdjfagknffknjaaFmtXQ6
import Derived.Test.YtdjfagknffknjaaFmtXQ7

namespace Go.Proofs.YtdjfagknffknjaaFmt.Q
open Go.RowKit Go.Proofs.YtdjfagknffknjaaFmtW.PrintWords Go.Proofs.YtdjfagknffknjaaFmtW.PrintLast Go.Proofs.YtdjfagknffknjaaFmtW.PrintMore
attribute [local go_sem] max2_int min2_int max_two min_two max_three min_three max_four min_four   -- for this text's walks alone
set_option linter.unusedVariables false
set_option linter.unusedSimpArgs false
def spec_Other.f (l0 : List Int) : Option (List Int) := if 0 < (l0.length : Int) then (if 1 < (l0.length : Int) then (some (([Go.bits .xor .u8 (rd l0 0) 1, rd l0 1] : List Int))) else (none)) else (none)
def spec_Other.T1 : Bool × List (List Nat × List Nat) := (true, [([], []), ([0], [0]), ([1], [1]), ([2], [2]), ([], []), ([4], [4]), ([5], [5]), ([3, 6], [3, 6]), ([7, 0, 1, 2, 3, 4, 5, 6, 7], [7])])
def spec_Other.B1 : List Nat := [0, 1, 3, 7, 0, 16, 48, 127, 255]
theorem spec_Other.tab1 : rtab .any (opsOf Tryf.f18 1) = spec_Other.T1 := by kernel_rfl
theorem spec_Other.bits1 : waitsOk spec_Other.T1.2 spec_Other.B1 = true := by kernel_rfl
set_option maxHeartbeats 8000000 in
set_option maxRecDepth 100000 in
theorem spec_Other.calls (A0 : Option Addr) (c0 : Nat) (l0 : List Int) (r : List Int) (w : World) (hr0 : Kd.C (Kd.int .u8) w A0 l0.length l0) (hc0 : l0.length ≤ c0) (h : spec_Other.f l0 = some r) :
    Calls Tryf.prog 18 #[.slice A0 l0.length c0] w fun e w' => ∃ v0_ : Value, e = .returned (v0_) ∧ Kd.R (Kd.int .u8) 5 w' w.heap.size (fun _ => True) v0_ r ∧ Below w.heap.size w w' := by
  have HR0 := Aside0.mk hr0
  have HC0 := Aside0.mk hc0
  clear hr0 hc0
  have HB := Aside0.mk (Below.refl w.heap.size w)
  have H : (if 0 < (l0.length : Int) then (if 1 < (l0.length : Int) then (some (([Go.bits .xor .u8 (rd l0 0) 1, rd l0 1] : List Int))) else (none)) else (none)) = some r := h
  clear h
  by_cases c2 : 0 < (l0.length : Int)
  · rw [if_pos c2] at H
    have c2b0 : decide (0 < (l0.length : Int)) = true := decide_eq_true c2
    have c2b1 : decide (0 < l0.length) = true := decide_eq_true (by omega)
    clear c2
    by_cases c3 : 1 < (l0.length : Int)
    · rw [if_pos c3] at H
      have c3b0 : decide (1 < (l0.length : Int)) = true := decide_eq_true c3
      have c3b1 : decide (1 < l0.length) = true := decide_eq_true (by omega)
      clear c3
      obtain ⟨y338, hy338⟩ : ∃ y_ : List Int, y_ = (([Go.bits .xor .u8 (rd l0 0) 1, rd l0 1] : List Int)) := ⟨_, rfl⟩
      replace H : (some y338) = some r := by first | (rw [hy338]; with_reducible exact H) | (have H2_ := (Option.bind_some _ _).symm.trans H; rw [hy338]; with_reducible exact H2_) | (have H2_ := (Option.bind_some _ _).symm.trans H; with_reducible exact H2_) | with_reducible exact H | (rw [hy338]; exact H) | exact H
      have Ny338 := Aside0.mk hy338
      clear hy338
      obtain rfl := Option.some.inj H
      go_enter Tryf.func18, Tryf.ntmps18
      try go_wp2
      have n0_ := Aside0.mk (below_drew1 HB.out)
      clear HB
      have HB := n0_
      clear n0_
      have p336 : 0 ≤ (0 : Int) := (by omega)
      have q336 : 0 < (l0.length : Int) := of_decide_eq_true (by first | (with_reducible assumption) | assumption)
      obtain ⟨ad336, e336, hx336_0⟩ := Kd.at_int HR0.out 0 p336 q336
      have hw336_0 := hx336_0
      (try rw [show ((0 : Int)).toNat = 0 from rfl] at hw336_0)
      (try rw [show 0 * 1 = 0 from rfl] at hw336_0)
      (try rw [Addr.add_zero'] at hw336_0)
      cases e336
      have qi336 : (0 < l0.length) = True := eq_true (by omega)
      (try rw [show ((0 : Int)).toNat = 0 from rfl] at hx336_0)
      (try rw [Addr.add_zero'] at hx336_0)
      replace hx336_0 := (HB.out.cell (World.block_lt_of_cell? w _ hx336_0)).trans hx336_0
      replace p336 := eq_true p336
      replace q336 := eq_true q336
      have p337 : 0 ≤ (1 : Int) := (by omega)
      have q337 : 1 < (l0.length : Int) := of_decide_eq_true (by first | (with_reducible assumption) | assumption)
      obtain ⟨ad337, e337, hx337_0⟩ := Kd.at_int HR0.out 1 p337 q337
      have hw337_0 := hx337_0
      (try rw [show ((1 : Int)).toNat = 1 from rfl] at hw337_0)
      (try rw [show 1 * 1 = 1 from rfl] at hw337_0)
      (try simp only [Nat.reduceMul, Nat.reduceEqDiff, Go.Addr.add, ↓reduceIte] at hw337_0)
      obtain rfl : ad336 = ad337 := (by injection e337)
      (try simp only [show (1 : Int).toNat = 1 from rfl, Nat.reduceMul, Nat.reduceEqDiff, Go.Addr.add, ↓reduceIte] at hx337_0)
      have qi337 : (1 < l0.length) = True := eq_true (by omega)
      (try rw [show ((1 : Int)).toNat = 1 from rfl] at hx337_0)
      replace hx337_0 := (HB.out.cell (World.block_lt_of_cell? w _ hx337_0)).trans hx337_0
      replace p337 := eq_true p337
      replace q337 := eq_true q337
      refine start_ (n := 9) (S := fun w' => w'.cell? ad336 = some (.int .u8 (rd l0 0)) ∧ w'.cell? ⟨ad336.block, ad336.off + 1, none⟩ = some (.int .u8 (rd l0 1))) (ds := []) #[false, false, false, false, false, false, false, false, false] (by kernel_rfl) rfl rfl ⟨((HB.out.cell (World.block_lt_of_cell? w _ hw336_0)).trans hw336_0), ((HB.out.cell (World.block_lt_of_cell? w _ hw337_0)).trans hw337_0)⟩ (fun hHeld => ?_); refine with_tabW spec_Other.tab1 spec_Other.bits1 (fun HT_ HW_ => ?_)
      generalize w.drew = w4 at HB hx336_0 hx337_0 hHeld ⊢
      refine pure_ (i := 0) (N := some 3) (v := ?_) (a' := ?_) #[true, false, false, false, false, false, false, false, false] rfl rfl (any_of HT_.out (by kernel_rfl)) (fun _ _ _ h => h) (Or.inl ⟨by rfl, ?_⟩) ?_ ?_
      rotate_left
      · intro w'
        go_simp
        with_reducible rfl
      rotate_left
      · simp only [Act.put, List.setIfInBounds_toArray, List.set_cons_zero, List.set_cons_succ, i64_w, i32_w]
        rfl
      refine pure_ (i := 1) (N := some 4) (v := ?_) (a' := ?_) #[true, true, false, false, false, false, false, false, false] rfl rfl (any_of HT_.out (by kernel_rfl)) (fun _ _ _ h => h) (Or.inl ⟨by rfl, ?_⟩) ?_ ?_
      rotate_left
      · intro w'
        go_simp
        with_reducible rfl
      rotate_left
      · simp only [Act.put, List.setIfInBounds_toArray, List.set_cons_zero, List.set_cons_succ, i64_w, i32_w]
        rfl
      refine pure_ (i := 4) (N := some 7) (v := ?_) (a' := ?_) #[true, true, false, false, true, false, false, false, false] rfl rfl (any_of HT_.out (by kernel_rfl)) (fun _ _ _ h => h) (Or.inl ⟨by rfl, ?_⟩) ?_ ?_
      rotate_left
      · intro w'
        go_simp
        with_reducible rfl
      rotate_left
      · simp only [Act.put, List.setIfInBounds_toArray, List.set_cons_zero, List.set_cons_succ, i64_w, i32_w]
        rfl
      refine pure_ (i := 5) (N := some 8) (v := ?_) (a' := ?_) #[true, true, false, false, true, true, false, false, false] rfl rfl (any_of HT_.out (by kernel_rfl)) (fun _ _ _ h => h) (Or.inl ⟨by rfl, ?_⟩) ?_ ?_
      rotate_left
      · intro w'
        go_simp
        with_reducible rfl
      rotate_left
      · simp only [Act.put, List.setIfInBounds_toArray, List.set_cons_zero, List.set_cons_succ, i64_w, i32_w]
        rfl
      refine take_ (i := 2) (N := some 5) (v := ?_) (a' := ?_) #[true, true, true, false, true, true, false, false, false] rfl rfl (take_ofW HT_.out HW_.out (by kernel_rfl)) (fun _ _ _ h => h) (Or.inl ⟨by rfl, ?_⟩) hHeld ?_ ?_
      rotate_left
      · rintro w' ⟨s0, s1⟩
        go_simp
        with_reducible rfl
      rotate_left
      · simp only [Act.put, List.setIfInBounds_toArray, List.set_cons_zero, List.set_cons_succ, i64_w, i32_w]
        rfl
      refine pure_ (i := 3) (N := some 6) (v := ?_) (a' := ?_) #[true, true, true, true, true, true, false, false, false] rfl rfl (any_of HT_.out (by kernel_rfl)) (fun _ _ _ h => h) (Or.inl ⟨by rfl, ?_⟩) ?_ ?_
      rotate_left
      · intro w'
        go_simp
        with_reducible rfl
      rotate_left
      · simp only [Act.put, List.setIfInBounds_toArray, List.set_cons_zero, List.set_cons_succ, i64_w, i32_w]
        rfl
      refine take_ (i := 6) (N := some 9) (v := ?_) (a' := ?_) #[true, true, true, true, true, true, true, false, false] rfl rfl (take_ofW HT_.out HW_.out (by kernel_rfl)) (fun _ _ _ h => h) (Or.inl ⟨by rfl, ?_⟩) hHeld ?_ ?_
      rotate_left
      · rintro w' ⟨s0, s1⟩
        go_simp
        with_reducible rfl
      rotate_left
      · simp only [Act.put, List.setIfInBounds_toArray, List.set_cons_zero, List.set_cons_succ, i64_w, i32_w]
        rfl
      refine one_ (i := 7) (N := some 10) #[true, true, true, true, true, true, true, true, false] rfl rfl (one_of HT_.out (by kernel_rfl)) (by decide) (fun K hK => ?_)
      refine Kd.R_lit_step (Kd.int .u8) _ 5 ?hg (N := 10) ?hd (xs := ([Go.bits .xor .u8 (rd l0 0) 1, rd l0 1] : List Int)) (inner := [.int .u8 (Go.bits .xor .u8 (rd l0 0) 1), .int .u8 (rd l0 1)]) (ok := fun _ => True) (okp := fun _ => True) ?hr ?hp (fun _ hk => hk) trivial (Below.refl _ _) (Nat.le_refl _) (by simp) ?_; (case hd => rfl); (case hg => rfl); (case hr => first | (go_simp; done) | (go_simp; rfl)); (case hp => exact (Reps.one (show Kd.M (Kd.int .u8) _ _ _ (Go.bits .xor .u8 (rd l0 0) 1) [.int .u8 (Go.bits .xor .u8 (rd l0 0) 1)] from rfl) (Reps.one (show Kd.M (Kd.int .u8) _ _ _ (rd l0 1) [.int .u8 (rd l0 1)] from rfl) (Reps.none _ _))))
      intro v339 w5 ho6 hb hg_ hnew_
      clear hg_ hnew_
      (first | rw [← Ny338.out] at ho6 | (simp only [Int.reduceToNat] at ho6; rw [← Ny338.out] at ho6))
      have n0_ := Aside0.mk (Kd.R_lower ho6 (below_size (by repeat (first | (with_reducible first | exact HB.out | apply below_alloc | apply pw_below_drewN | apply below_drew1) | exact HB.out))))
      have n1_ := Aside0.mk (below_step (by repeat (first | (with_reducible first | exact HB.out | apply below_alloc | apply pw_below_drewN | apply below_drew1) | exact HB.out)) hb)
      clear HB
      have HO340 := n0_
      have HB := n1_
      clear n0_ n1_
      clear hb ho6
      refine hK.out _ _ ⟨((HB.out.cell (World.block_lt_of_cell? w _ hw336_0)).trans hw336_0), ((HB.out.cell (World.block_lt_of_cell? w _ hw337_0)).trans hw337_0)⟩ (fun hHeld => ?_)
      clear hK K
      refine norm_ (a' := ?_) ?_ ?_
      rotate_left
      · show Act.put _ (some 10) _ = _
        simp only [Act.put, List.setIfInBounds_toArray, List.set_cons_zero, List.set_cons_succ, i64_w, i32_w]
        rfl
      refine pure_ (i := 8) (N := some 2) (v := ?_) (a' := ?_) #[true, true, true, true, true, true, true, true, true] rfl rfl (any_of HT_.out (by kernel_rfl)) (fun _ _ _ h => h) (Or.inl ⟨by rfl, ?_⟩) ?_ ?_
      rotate_left
      · intro w'
        go_simp
        with_reducible rfl
      rotate_left
      · simp only [Act.put, List.setIfInBounds_toArray, List.set_cons_zero, List.set_cons_succ, i64_w, i32_w]
        rfl
      refine done_ (done_of HT_.out (by kernel_rfl)) ?_
      try go_wp2
      go_ret
      exact ⟨_, by first | rfl | (simp [errW_none, errW_some] <;> rfl) | (simp [*, errW_none, errW_some] <;> rfl), by (with_reducible repeat (first | apply Kd.R_alloc | apply Kd.R_drewN | apply Kd.R_drew)); exact HO340.out, by repeat (first | (with_reducible first | exact HB.out | apply below_alloc | apply pw_below_drewN | apply below_drew1) | exact HB.out)⟩
    · rw [if_neg c3] at H
      exact absurd H (by simp)
  · rw [if_neg c2] at H
    exact absurd H (by simp)
def spec_ProofSpans.f : Nat → Int → Int → Int → Bool → Option ((List (S60)))
  | 0, _, _, _, _ => none
  | k + 1, a0, a1, a2, a3 => if a0 = a2 then (if a3 = true then (some (([] : List (S60)))) else (some (([(⟨a1, IntKind.u64.wrap (a1 + a2)⟩ : S60)] : List (S60))))) else ((spec_Split.f k a2).bind fun t352 => (if a0 ≤ t352 then ((spec_ProofSpans.f k a0 a1 t352 a3).bind fun t353 => (if t353.length < 8796093022208 then (some (t353 ++ [(⟨IntKind.u64.wrap (a1 + t352), IntKind.u64.wrap (a1 + a2)⟩ : S60)])) else (none))) else ((spec_ProofSpans.f k (IntKind.u64.wrap (a0 - t352)) (IntKind.u64.wrap (a1 + t352)) (IntKind.u64.wrap (a2 - t352)) false).bind fun t359 => (if t359.length < 8796093022208 then (some (t359 ++ [(⟨a1, IntKind.u64.wrap (a1 + t352)⟩ : S60)])) else (none)))))
theorem spec_ProofSpans.mono_l : ∀ k, (∀ y0 y1 y2 y3, LeO (spec_ProofSpans.f k y0 y1 y2 y3) (spec_ProofSpans.f (k + 1) y0 y1 y2 y3))
  | 0 => fun _ _ _ _ r h => by simp [spec_ProofSpans.f] at h
  | k + 1 => by
    have ih0 := spec_ProofSpans.mono_l k
    · intro y0 y1 y2 y3
      unfold spec_ProofSpans.f
      repeat' first
      | (with_reducible exact ih0 _ _ _ _)
      | (with_reducible exact spec_Split.mono _ _)
      | (with_reducible exact LeO.refl _)
      | (with_reducible exact LeO.none _)
      | (with_reducible refine LeO.ite ?_ ?_)
      | (with_reducible refine LeO.bind ?_ (fun _ => ?_))
      | exact ih0 _ _ _ _
      | exact spec_Split.mono _ _
      | exact LeO.none _
      | refine LeO.ite ?_ ?_
      | refine LeO.bind ?_ (fun _ => ?_)
theorem spec_ProofSpans.mono : ∀ a0 a1 a2 a3 k, LeO (spec_ProofSpans.f k a0 a1 a2 a3) (spec_ProofSpans.f (k + 1) a0 a1 a2 a3) := by
  intro a0 a1 a2 a3 k
  have ih0 := spec_ProofSpans.mono_l k
  exact ih0 a0 a1 a2 a3
set_option maxHeartbeats 8000000 in
set_option maxRecDepth 100000 in
theorem spec_ProofSpans.calls (k : Nat) : ∀ (a0 : Int) (a1 : Int) (a2 : Int) (a3 : Bool) (r : List (S60)) (w : World) (h : spec_ProofSpans.f k a0 a1 a2 a3 = some r),
    Calls Tryf.prog 21 #[.int .u64 a0, .int .u64 a1, .int .u64 a2, .bool a3] w fun e w' => ∃ v0_ : Value, e = .returned (v0_) ∧ Kd.R k60 60 w' w.heap.size (fun _ => True) v0_ r ∧ Below w.heap.size w w' := by
  induction k using Nat.strongRecOn with
  | _ k ih =>
  intro a0 a1 a2 a3 r w h
  cases k with
  | zero => exact absurd h (by simp [spec_ProofSpans.f])
  | succ k =>
  simp only [spec_ProofSpans.f] at h
  have hu60 := Tryf.underlying60
  have HB := Aside0.mk (Below.refl w.heap.size w)
  have H : (if a0 = a2 then (if a3 = true then (some (([] : List (S60)))) else (some (([(⟨a1, IntKind.u64.wrap (a1 + a2)⟩ : S60)] : List (S60))))) else ((spec_Split.f k a2).bind fun t352 => (if a0 ≤ t352 then ((spec_ProofSpans.f k a0 a1 t352 a3).bind fun t353 => (if t353.length < 8796093022208 then (some (t353 ++ [(⟨IntKind.u64.wrap (a1 + t352), IntKind.u64.wrap (a1 + a2)⟩ : S60)])) else (none))) else ((spec_ProofSpans.f k (IntKind.u64.wrap (a0 - t352)) (IntKind.u64.wrap (a1 + t352)) (IntKind.u64.wrap (a2 - t352)) false).bind fun t359 => (if t359.length < 8796093022208 then (some (t359 ++ [(⟨a1, IntKind.u64.wrap (a1 + t352)⟩ : S60)])) else (none)))))) = some r := h
  clear h
  by_cases c5 : a0 = a2
  · rw [if_pos c5] at H
    have c5b0 : (a0 == a2) = true := beq_iff_eq.mpr c5
    have c5b1 : (a0 != a2) = false := bne_eq_false_iff_eq.mpr c5
    clear c5
    by_cases c6 : a3 = true
    · subst c6
      have H1 : (some (([] : List (S60)))) = some r := by rw [if_pos rfl] at H; exact H
      clear H
      have H := H1
      clear H1
      obtain ⟨y346, hy346⟩ : ∃ y_ : List (S60), y_ = (([] : List (S60))) := ⟨_, rfl⟩
      replace H : (some y346) = some r := by first | (rw [hy346]; with_reducible exact H) | (have H2_ := (Option.bind_some _ _).symm.trans H; rw [hy346]; with_reducible exact H2_) | (have H2_ := (Option.bind_some _ _).symm.trans H; with_reducible exact H2_) | with_reducible exact H | (rw [hy346]; exact H) | exact H
      have Ny346 := Aside0.mk hy346
      clear hy346
      obtain rfl := Option.some.inj H
      go_enter Tryf.func21, Tryf.ntmps21
      go_wp2_with (first | ((with_reducible refine gate_dst (N := 14) rfl ?_); refine Kd.R_lit k60 _ 60 ?hg (N := 14) ?hd (xs := ([] : List (S60))) (inner := []) (ok := fun _ => True) (okp := fun _ => True) ?hr ?hp (fun _ hk => hk) trivial (Below.refl _ _) (Nat.le_refl _) (by simp) ?_; (case hd => rfl); (case hg => rfl); (case hr => first | (go_simp; done) | (go_simp; rfl)); (case hp => exact (Reps.none _ _)); intro v347 w7 ho8 hb hg_ hnew_; clear hg_ hnew_; (first | rw [← Ny346.out] at ho8 | (simp only [Int.reduceToNat] at ho8; rw [← Ny346.out] at ho8)); have n0_ := Aside0.mk (Kd.R_lower ho8 (below_size (by repeat (first | (with_reducible first | exact HB.out | apply below_alloc | apply pw_below_drewN | apply below_drew1) | exact HB.out)))); have n1_ := Aside0.mk (below_step (by repeat (first | (with_reducible first | exact HB.out | apply below_alloc | apply pw_below_drewN | apply below_drew1) | exact HB.out)) hb); clear HB; have HO348 := n0_; have HB := n1_; clear n0_ n1_; clear hb ho8))
      go_ret
      exact ⟨_, by first | rfl | (simp [errW_none, errW_some] <;> rfl) | (simp [*, errW_none, errW_some] <;> rfl), by (with_reducible repeat (first | apply Kd.R_alloc | apply Kd.R_drewN | apply Kd.R_drew)); exact HO348.out, by repeat (first | (with_reducible first | exact HB.out | apply below_alloc | apply pw_below_drewN | apply below_drew1) | exact HB.out)⟩
    · replace c6 := Bool.eq_false_iff.mpr c6
      subst c6
      have H1 : (some (([(⟨a1, IntKind.u64.wrap (a1 + a2)⟩ : S60)] : List (S60)))) = some r := by rw [if_neg (show ¬ (false = true) by decide)] at H; exact H
      clear H
      have H := H1
      clear H1
      obtain ⟨y349, hy349⟩ : ∃ y_ : List (S60), y_ = (([(⟨a1, IntKind.u64.wrap (a1 + a2)⟩ : S60)] : List (S60))) := ⟨_, rfl⟩
      replace H : (some y349) = some r := by first | (rw [hy349]; with_reducible exact H) | (have H2_ := (Option.bind_some _ _).symm.trans H; rw [hy349]; with_reducible exact H2_) | (have H2_ := (Option.bind_some _ _).symm.trans H; with_reducible exact H2_) | with_reducible exact H | (rw [hy349]; exact H) | exact H
      have Ny349 := Aside0.mk hy349
      clear hy349
      obtain rfl := Option.some.inj H
      go_enter Tryf.func21, Tryf.ntmps21
      go_wp2_with (first | ((with_reducible refine gate_dst (N := 20) rfl ?_); refine Kd.R_lit k60 _ 60 ?hg (N := 20) ?hd (xs := ([(⟨a1, IntKind.u64.wrap (a1 + a2)⟩ : S60)] : List (S60))) (inner := [.int .u64 a1, .int .u64 (IntKind.u64.wrap (a1 + a2))]) (ok := fun _ => True) (okp := fun _ => True) ?hr ?hp (fun _ hk => hk) trivial (Below.refl _ _) (Nat.le_refl _) (by simp) ?_; (case hd => rfl); (case hg => rfl); (case hr => first | (go_simp; done) | (go_simp; rfl)); (case hp => exact (Reps.c2 (show Kd.M k60 _ _ _ (⟨a1, IntKind.u64.wrap (a1 + a2)⟩ : S60) [.int .u64 a1, .int .u64 (IntKind.u64.wrap (a1 + a2))] from (k60_mkM _ _ _ (⟨a1, IntKind.u64.wrap (a1 + a2)⟩ : S60) )) (Reps.none _ _))); intro v350 w9 ho10 hb hg_ hnew_; clear hg_ hnew_; (first | rw [← Ny349.out] at ho10 | (simp only [Int.reduceToNat] at ho10; rw [← Ny349.out] at ho10)); have n0_ := Aside0.mk (Kd.R_lower ho10 (below_size (by repeat (first | (with_reducible first | exact HB.out | apply below_alloc | apply pw_below_drewN | apply below_drew1) | exact HB.out)))); have n1_ := Aside0.mk (below_step (by repeat (first | (with_reducible first | exact HB.out | apply below_alloc | apply pw_below_drewN | apply below_drew1) | exact HB.out)) hb); clear HB; have HO351 := n0_; have HB := n1_; clear n0_ n1_; clear hb ho10))
      go_ret
      exact ⟨_, by first | rfl | (simp [errW_none, errW_some] <;> rfl) | (simp [*, errW_none, errW_some] <;> rfl), by (with_reducible repeat (first | apply Kd.R_alloc | apply Kd.R_drewN | apply Kd.R_drew)); exact HO351.out, by repeat (first | (with_reducible first | exact HB.out | apply below_alloc | apply pw_below_drewN | apply below_drew1) | exact HB.out)⟩
  · rw [if_neg c5] at H
    have c5b0 : (a0 == a2) = false := beq_eq_false_iff_ne.mpr c5
    have c5b1 : (a0 != a2) = true := bne_iff_ne.mpr c5
    replace H := Option.bind_eq_some_iff.mp H
    obtain ⟨t352, A110, H⟩ := H
    replace H : (if a0 ≤ t352 then ((spec_ProofSpans.f k a0 a1 t352 a3).bind fun t353 => (if t353.length < 8796093022208 then (some (t353 ++ [(⟨IntKind.u64.wrap (a1 + t352), IntKind.u64.wrap (a1 + a2)⟩ : S60)])) else (none))) else ((spec_ProofSpans.f k (IntKind.u64.wrap (a0 - t352)) (IntKind.u64.wrap (a1 + t352)) (IntKind.u64.wrap (a2 - t352)) false).bind fun t359 => (if t359.length < 8796093022208 then (some (t359 ++ [(⟨a1, IntKind.u64.wrap (a1 + t352)⟩ : S60)])) else (none)))) = some r := H
    have A11 := Aside0.mk A110
    clear A110
    by_cases c12 : a0 ≤ t352
    · rw [if_pos c12] at H
      have c12b0 : decide (a0 ≤ t352) = true := decide_eq_true c12
      clear c12
      replace H := Option.bind_eq_some_iff.mp H
      obtain ⟨t353, A130, H⟩ := H
      replace H : (if t353.length < 8796093022208 then (some (t353 ++ [(⟨IntKind.u64.wrap (a1 + t352), IntKind.u64.wrap (a1 + a2)⟩ : S60)])) else (none)) = some r := H
      have A13 := Aside0.mk A130
      clear A130
      by_cases c14 : t353.length < 8796093022208
      · rw [if_pos c14] at H
        have LMc14 := Aside0.mk c14
        clear c14
        obtain ⟨y356, hy356⟩ : ∃ y_ : List (S60), y_ = (t353 ++ [(⟨IntKind.u64.wrap (a1 + t352), IntKind.u64.wrap (a1 + a2)⟩ : S60)]) := ⟨_, rfl⟩
        replace H : (some y356) = some r := by first | (rw [hy356]; with_reducible exact H) | (have H2_ := (Option.bind_some _ _).symm.trans H; rw [hy356]; with_reducible exact H2_) | (have H2_ := (Option.bind_some _ _).symm.trans H; with_reducible exact H2_) | with_reducible exact H | (rw [hy356]; exact H) | exact H
        have Ny356 := Aside0.mk hy356
        clear hy356
        obtain rfl := Option.some.inj H
        go_enter Tryf.func21, Tryf.ntmps21
        go_wp2_with (first | ((with_reducible refine gate_callee (f := 34) rfl ?_); refine goesL_ (some 22) rfl rfl Tryf.func34 (by kernel_rfl) rfl #[.int .u64 a2] rfl (by (try simp only [List.map_toArray, List.map_cons, List.map_nil]); first | done | rfl | (simp only [List.length_drop, List.length_take]; rfl)) ?_; (with_reducible refine (spec_Split.calls k a2 t352 _ A11.out).mono ?_); rintro e w' ⟨rfl, ⟨nd, rfl⟩⟩; refine ⟨_, rfl, ?_⟩) | ((with_reducible refine gate_callee (f := 21) rfl ?_); refine goesL_ (some 30) rfl rfl Tryf.func21 (by kernel_rfl) rfl #[.int .u64 a0, .int .u64 a1, .int .u64 t352, .bool a3] rfl (by (try simp only [List.map_toArray, List.map_cons, List.map_nil]); first | done | rfl | (simp only [List.length_drop, List.length_take]; rfl)) ?_; (with_reducible refine (ih k (by omega) a0 a1 t352 a3 t353 _ A13.out).mono ?_); rintro e w15 ⟨v354, rfl, ho0, hb⟩; refine ⟨_, rfl, ?_⟩; have n0_ := Aside0.mk (Kd.R_lower ho0 (below_size (by repeat (first | (with_reducible first | exact HB.out | apply below_alloc | apply pw_below_drewN | apply below_drew1) | exact HB.out)))); have n1_ := Aside0.mk (below_step (by repeat (first | (with_reducible first | exact HB.out | apply below_alloc | apply pw_below_drewN | apply below_drew1) | exact HB.out)) hb); clear HB; have HO355 := n0_; have HB := n1_; clear n0_ n1_; (try clear hb); (try clear hb2); (try clear hk); (try clear hi); (try clear ho0)) | ((with_reducible refine gate_builtin (b := .append) (xs := #[.tmp 30, .tmp 38]) rfl ?_); at_builtin; refine Kd.R_append k60 (w0 := w) w.heap.size rfl (.tmp 30) (.tmp 38) 39 60 (.agg #[(.int .u64 0), (.int .u64 0)]) 16 rfl Tryf.underlying39 info60 rfl (by decide) (by omega) v354 t353 (⟨IntKind.u64.wrap (a1 + t352), IntKind.u64.wrap (a1 + a2)⟩ : S60) [.int .u64 (IntKind.u64.wrap (a1 + t352)), .int .u64 (IntKind.u64.wrap (a1 + a2))] (fun _ => True) (fun _ => False) rfl rfl ?aP (fun _ hk => hk.elim) ?aF ?aO ?aB ?aS ?aL ?_; (case aP => exact k60_mkM _ _ _ (⟨IntKind.u64.wrap (a1 + t352), IntKind.u64.wrap (a1 + a2)⟩ : S60)); (case aB => exact (by repeat (first | (with_reducible first | exact HB.out | apply below_alloc | apply pw_below_drewN | apply below_drew1) | exact HB.out))); (case aF => exact (fun _ _ => trivial)); (case aO => exact (by (with_reducible repeat (first | apply Kd.R_alloc | apply Kd.R_drewN | apply Kd.R_drew)); exact HO355.out)); (case aS => exact (below_size (by repeat (first | (with_reducible first | exact HB.out | apply below_alloc | apply pw_below_drewN | apply below_drew1) | exact HB.out)))); (case aL => have := LMc14.out; omega); intro v357 w16 ho hb hg hat; rw [← Ny356.out] at ho; have n0_ := Aside0.mk (hb); have n1_ := Aside0.mk (ho); clear HB; clear HO355; have HB := n0_; have HO358 := n1_; clear n0_ n1_; clear ho hb hg hat))
        go_ret
        exact ⟨_, by first | rfl | (simp [errW_none, errW_some] <;> rfl) | (simp [*, errW_none, errW_some] <;> rfl), by (with_reducible repeat (first | apply Kd.R_alloc | apply Kd.R_drewN | apply Kd.R_drew)); exact HO358.out, by repeat (first | (with_reducible first | exact HB.out | apply below_alloc | apply pw_below_drewN | apply below_drew1) | exact HB.out)⟩
      · rw [if_neg c14] at H
        exact absurd H (by simp)
    · rw [if_neg c12] at H
      have c12b0 : decide (a0 ≤ t352) = false := decide_eq_false c12
      clear c12
      replace H := Option.bind_eq_some_iff.mp H
      obtain ⟨t359, A170, H⟩ := H
      replace H : (if t359.length < 8796093022208 then (some (t359 ++ [(⟨a1, IntKind.u64.wrap (a1 + t352)⟩ : S60)])) else (none)) = some r := H
      have A17 := Aside0.mk A170
      clear A170
      by_cases c18 : t359.length < 8796093022208
      · rw [if_pos c18] at H
        have LMc18 := Aside0.mk c18
        clear c18
        obtain ⟨y362, hy362⟩ : ∃ y_ : List (S60), y_ = (t359 ++ [(⟨a1, IntKind.u64.wrap (a1 + t352)⟩ : S60)]) := ⟨_, rfl⟩
        replace H : (some y362) = some r := by first | (rw [hy362]; with_reducible exact H) | (have H2_ := (Option.bind_some _ _).symm.trans H; rw [hy362]; with_reducible exact H2_) | (have H2_ := (Option.bind_some _ _).symm.trans H; with_reducible exact H2_) | with_reducible exact H | (rw [hy362]; exact H) | exact H
        have Ny362 := Aside0.mk hy362
        clear hy362
        obtain rfl := Option.some.inj H
        go_enter Tryf.func21, Tryf.ntmps21
        go_wp2_with (first | ((with_reducible refine gate_callee (f := 34) rfl ?_); refine goesL_ (some 22) rfl rfl Tryf.func34 (by kernel_rfl) rfl #[.int .u64 a2] rfl (by (try simp only [List.map_toArray, List.map_cons, List.map_nil]); first | done | rfl | (simp only [List.length_drop, List.length_take]; rfl)) ?_; (with_reducible refine (spec_Split.calls k a2 t352 _ A11.out).mono ?_); rintro e w' ⟨rfl, ⟨nd, rfl⟩⟩; refine ⟨_, rfl, ?_⟩) | ((with_reducible refine gate_callee (f := 21) rfl ?_); refine goesL_ (some 49) rfl rfl Tryf.func21 (by kernel_rfl) rfl #[.int .u64 (IntKind.u64.wrap (a0 - t352)), .int .u64 (IntKind.u64.wrap (a1 + t352)), .int .u64 (IntKind.u64.wrap (a2 - t352)), .bool false] rfl (by (try simp only [List.map_toArray, List.map_cons, List.map_nil]); first | done | rfl | (simp only [List.length_drop, List.length_take]; rfl)) ?_; (with_reducible refine (ih k (by omega) (IntKind.u64.wrap (a0 - t352)) (IntKind.u64.wrap (a1 + t352)) (IntKind.u64.wrap (a2 - t352)) false t359 _ A17.out).mono ?_); rintro e w19 ⟨v360, rfl, ho0, hb⟩; refine ⟨_, rfl, ?_⟩; have n0_ := Aside0.mk (Kd.R_lower ho0 (below_size (by repeat (first | (with_reducible first | exact HB.out | apply below_alloc | apply pw_below_drewN | apply below_drew1) | exact HB.out)))); have n1_ := Aside0.mk (below_step (by repeat (first | (with_reducible first | exact HB.out | apply below_alloc | apply pw_below_drewN | apply below_drew1) | exact HB.out)) hb); clear HB; have HO361 := n0_; have HB := n1_; clear n0_ n1_; (try clear hb); (try clear hb2); (try clear hk); (try clear hi); (try clear ho0)) | ((with_reducible refine gate_builtin (b := .append) (xs := #[.tmp 49, .tmp 55]) rfl ?_); at_builtin; refine Kd.R_append k60 (w0 := w) w.heap.size rfl (.tmp 49) (.tmp 55) 39 60 (.agg #[(.int .u64 0), (.int .u64 0)]) 16 rfl Tryf.underlying39 info60 rfl (by decide) (by omega) v360 t359 (⟨a1, IntKind.u64.wrap (a1 + t352)⟩ : S60) [.int .u64 a1, .int .u64 (IntKind.u64.wrap (a1 + t352))] (fun _ => True) (fun _ => False) rfl rfl ?aP (fun _ hk => hk.elim) ?aF ?aO ?aB ?aS ?aL ?_; (case aP => exact k60_mkM _ _ _ (⟨a1, IntKind.u64.wrap (a1 + t352)⟩ : S60)); (case aB => exact (by repeat (first | (with_reducible first | exact HB.out | apply below_alloc | apply pw_below_drewN | apply below_drew1) | exact HB.out))); (case aF => exact (fun _ _ => trivial)); (case aO => exact (by (with_reducible repeat (first | apply Kd.R_alloc | apply Kd.R_drewN | apply Kd.R_drew)); exact HO361.out)); (case aS => exact (below_size (by repeat (first | (with_reducible first | exact HB.out | apply below_alloc | apply pw_below_drewN | apply below_drew1) | exact HB.out)))); (case aL => have := LMc18.out; omega); intro v363 w20 ho hb hg hat; rw [← Ny362.out] at ho; have n0_ := Aside0.mk (hb); have n1_ := Aside0.mk (ho); clear HB; clear HO361; have HB := n0_; have HO364 := n1_; clear n0_ n1_; clear ho hb hg hat))
        go_ret
        exact ⟨_, by first | rfl | (simp [errW_none, errW_some] <;> rfl) | (simp [*, errW_none, errW_some] <;> rfl), by (with_reducible repeat (first | apply Kd.R_alloc | apply Kd.R_drewN | apply Kd.R_drew)); exact HO364.out, by repeat (first | (with_reducible first | exact HB.out | apply below_alloc | apply pw_below_drewN | apply below_drew1) | exact HB.out)⟩
      · rw [if_neg c18] at H
        exact absurd H (by simp)
end Go.Proofs.YtdjfagknffknjaaFmt.Q
