/- Contracts of this program's functions, as a turned copy of the kit's printer wrote them; conditions: as each theorem states. -/
import Derived.Test.YtdjfagknffknjaaFmtXQ0
import Derived.Test.YtdjfagknffknjaaFmtXQ5

namespace Go.Proofs.YtdjfagknffknjaaFmt.Q
open Go.RowKit Go.Proofs.YtdjfagknffknjaaFmtW.PrintWords Go.Proofs.YtdjfagknffknjaaFmtW.PrintLast Go.Proofs.YtdjfagknffknjaaFmtW.PrintMore
attribute [local go_sem] max2_int min2_int max_two min_two max_three min_three max_four min_four   -- for this text's walks alone
set_option linter.unusedVariables false
set_option linter.unusedSimpArgs false
attribute [local go_sem high] eqA60
def spec_PathSpans.f : Nat → Int → Int → Int → Option ((List (S60)))
  | 0, _, _, _ => none
  | k + 1, a0, a1, a2 => if a2 = 1 then (some (([] : List (S60)))) else ((spec_Split.f k a2).bind fun t241 => (if a0 < t241 then ((spec_PathSpans.f k a0 a1 t241).bind fun t242 => (if t242.length < 8796093022208 then (some (t242 ++ [(⟨IntKind.u64.wrap (a1 + t241), IntKind.u64.wrap (a1 + a2)⟩ : S60)])) else (none))) else ((spec_PathSpans.f k (IntKind.u64.wrap (a0 - t241)) (IntKind.u64.wrap (a1 + t241)) (IntKind.u64.wrap (a2 - t241))).bind fun t248 => (if t248.length < 8796093022208 then (some (t248 ++ [(⟨a1, IntKind.u64.wrap (a1 + t241)⟩ : S60)])) else (none)))))
theorem spec_PathSpans.mono_l : ∀ k, (∀ y0 y1 y2, LeO (spec_PathSpans.f k y0 y1 y2) (spec_PathSpans.f (k + 1) y0 y1 y2))
  | 0 => fun _ _ _ r h => by simp [spec_PathSpans.f] at h
  | k + 1 => by
    have ih0 := spec_PathSpans.mono_l k
    · intro y0 y1 y2
      unfold spec_PathSpans.f
      repeat' first
      | (with_reducible exact ih0 _ _ _)
      | (with_reducible exact spec_Split.mono _ _)
      | (with_reducible exact LeO.refl _)
      | (with_reducible exact LeO.none _)
      | (with_reducible refine LeO.ite ?_ ?_)
      | (with_reducible refine LeO.bind ?_ (fun _ => ?_))
      | exact ih0 _ _ _
      | exact spec_Split.mono _ _
      | exact LeO.none _
      | refine LeO.ite ?_ ?_
      | refine LeO.bind ?_ (fun _ => ?_)
theorem spec_PathSpans.mono : ∀ a0 a1 a2 k, LeO (spec_PathSpans.f k a0 a1 a2) (spec_PathSpans.f (k + 1) a0 a1 a2) := by
  intro a0 a1 a2 k
  have ih0 := spec_PathSpans.mono_l k
  exact ih0 a0 a1 a2
set_option maxHeartbeats 8000000 in
set_option maxRecDepth 100000 in
theorem spec_PathSpans.calls (k : Nat) : ∀ (a0 : Int) (a1 : Int) (a2 : Int) (r : List (S60)) (w : World) (h : spec_PathSpans.f k a0 a1 a2 = some r),
    Calls Tryf.prog 10 #[.int .u64 a0, .int .u64 a1, .int .u64 a2] w fun e w' => ∃ v0_ : Value, e = .returned (v0_) ∧ Kd.R k60 60 w' w.heap.size (fun _ => True) v0_ r ∧ Below w.heap.size w w' := by
  induction k using Nat.strongRecOn with
  | _ k ih =>
  intro a0 a1 a2 r w h
  cases k with
  | zero => exact absurd h (by simp [spec_PathSpans.f])
  | succ k =>
  simp only [spec_PathSpans.f] at h
  have hu60 := Tryf.underlying60
  have HB := Aside0.mk (Below.refl w.heap.size w)
  have H : (if a2 = 1 then (some (([] : List (S60)))) else ((spec_Split.f k a2).bind fun t241 => (if a0 < t241 then ((spec_PathSpans.f k a0 a1 t241).bind fun t242 => (if t242.length < 8796093022208 then (some (t242 ++ [(⟨IntKind.u64.wrap (a1 + t241), IntKind.u64.wrap (a1 + a2)⟩ : S60)])) else (none))) else ((spec_PathSpans.f k (IntKind.u64.wrap (a0 - t241)) (IntKind.u64.wrap (a1 + t241)) (IntKind.u64.wrap (a2 - t241))).bind fun t248 => (if t248.length < 8796093022208 then (some (t248 ++ [(⟨a1, IntKind.u64.wrap (a1 + t241)⟩ : S60)])) else (none)))))) = some r := h
  clear h
  by_cases c4 : a2 = 1
  · rw [if_pos c4] at H
    have c4b0 : (a2 == 1) = true := beq_iff_eq.mpr c4
    have c4b1 : (a2 != 1) = false := bne_eq_false_iff_eq.mpr c4
    clear c4
    obtain ⟨y238, hy238⟩ : ∃ y_ : List (S60), y_ = (([] : List (S60))) := ⟨_, rfl⟩
    replace H : (some y238) = some r := by first | (rw [hy238]; with_reducible exact H) | (have H2_ := (Option.bind_some _ _).symm.trans H; rw [hy238]; with_reducible exact H2_) | (have H2_ := (Option.bind_some _ _).symm.trans H; with_reducible exact H2_) | with_reducible exact H | (rw [hy238]; exact H) | exact H
    have Ny238 := Aside0.mk hy238
    clear hy238
    obtain rfl := Option.some.inj H
    go_enter Tryf.func10, Tryf.ntmps10
    go_wp2_with (first | ((with_reducible refine gate_dst (N := 10) rfl ?_); refine Kd.R_lit k60 _ 60 ?hg (N := 10) ?hd (xs := ([] : List (S60))) (inner := []) (ok := fun _ => True) (okp := fun _ => True) ?hr ?hp (fun _ hk => hk) trivial (Below.refl _ _) (Nat.le_refl _) (by simp) ?_; (case hd => rfl); (case hg => rfl); (case hr => first | (go_simp; done) | (go_simp; rfl)); (case hp => exact (Reps.none _ _)); intro v239 w5 ho6 hb hg_ hnew_; clear hg_ hnew_; (first | rw [← Ny238.out] at ho6 | (simp only [Int.reduceToNat] at ho6; rw [← Ny238.out] at ho6)); have n0_ := Aside0.mk (Kd.R_lower ho6 (below_size (by repeat (first | (with_reducible first | exact HB.out | apply below_alloc | apply pw_below_drewN | apply below_drew1) | exact HB.out)))); have n1_ := Aside0.mk (below_step (by repeat (first | (with_reducible first | exact HB.out | apply below_alloc | apply pw_below_drewN | apply below_drew1) | exact HB.out)) hb); clear HB; have HO240 := n0_; have HB := n1_; clear n0_ n1_; clear hb ho6))
    go_ret
    exact ⟨_, by first | rfl | (simp [errW_none, errW_some] <;> rfl) | (simp [*, errW_none, errW_some] <;> rfl), by (with_reducible repeat (first | apply Kd.R_alloc | apply Kd.R_drewN | apply Kd.R_drew)); exact HO240.out, by repeat (first | (with_reducible first | exact HB.out | apply below_alloc | apply pw_below_drewN | apply below_drew1) | exact HB.out)⟩
  · rw [if_neg c4] at H
    have c4b0 : (a2 == 1) = false := beq_eq_false_iff_ne.mpr c4
    have c4b1 : (a2 != 1) = true := bne_iff_ne.mpr c4
    replace H := Option.bind_eq_some_iff.mp H
    obtain ⟨t241, A70, H⟩ := H
    replace H : (if a0 < t241 then ((spec_PathSpans.f k a0 a1 t241).bind fun t242 => (if t242.length < 8796093022208 then (some (t242 ++ [(⟨IntKind.u64.wrap (a1 + t241), IntKind.u64.wrap (a1 + a2)⟩ : S60)])) else (none))) else ((spec_PathSpans.f k (IntKind.u64.wrap (a0 - t241)) (IntKind.u64.wrap (a1 + t241)) (IntKind.u64.wrap (a2 - t241))).bind fun t248 => (if t248.length < 8796093022208 then (some (t248 ++ [(⟨a1, IntKind.u64.wrap (a1 + t241)⟩ : S60)])) else (none)))) = some r := H
    have A7 := Aside0.mk A70
    clear A70
    by_cases c8 : a0 < t241
    · rw [if_pos c8] at H
      have c8b0 : decide (a0 < t241) = true := decide_eq_true c8
      clear c8
      replace H := Option.bind_eq_some_iff.mp H
      obtain ⟨t242, A90, H⟩ := H
      replace H : (if t242.length < 8796093022208 then (some (t242 ++ [(⟨IntKind.u64.wrap (a1 + t241), IntKind.u64.wrap (a1 + a2)⟩ : S60)])) else (none)) = some r := H
      have A9 := Aside0.mk A90
      clear A90
      by_cases c10 : t242.length < 8796093022208
      · rw [if_pos c10] at H
        have LMc10 := Aside0.mk c10
        clear c10
        obtain ⟨y245, hy245⟩ : ∃ y_ : List (S60), y_ = (t242 ++ [(⟨IntKind.u64.wrap (a1 + t241), IntKind.u64.wrap (a1 + a2)⟩ : S60)]) := ⟨_, rfl⟩
        replace H : (some y245) = some r := by first | (rw [hy245]; with_reducible exact H) | (have H2_ := (Option.bind_some _ _).symm.trans H; rw [hy245]; with_reducible exact H2_) | (have H2_ := (Option.bind_some _ _).symm.trans H; with_reducible exact H2_) | with_reducible exact H | (rw [hy245]; exact H) | exact H
        have Ny245 := Aside0.mk hy245
        clear hy245
        obtain rfl := Option.some.inj H
        go_enter Tryf.func10, Tryf.ntmps10
        go_wp2_with (first | ((with_reducible refine gate_callee (f := 34) rfl ?_); refine goesL_ (some 12) rfl rfl Tryf.func34 (by kernel_rfl) rfl #[.int .u64 a2] rfl (by (try simp only [List.map_toArray, List.map_cons, List.map_nil]); first | done | rfl | (simp only [List.length_drop, List.length_take]; rfl)) ?_; (with_reducible refine (spec_Split.calls k a2 t241 _ A7.out).mono ?_); rintro e w' ⟨rfl, ⟨nd, rfl⟩⟩; refine ⟨_, rfl, ?_⟩) | ((with_reducible refine gate_callee (f := 10) rfl ?_); refine goesL_ (some 19) rfl rfl Tryf.func10 (by kernel_rfl) rfl #[.int .u64 a0, .int .u64 a1, .int .u64 t241] rfl (by (try simp only [List.map_toArray, List.map_cons, List.map_nil]); first | done | rfl | (simp only [List.length_drop, List.length_take]; rfl)) ?_; (with_reducible refine (ih k (by omega) a0 a1 t241 t242 _ A9.out).mono ?_); rintro e w11 ⟨v243, rfl, ho0, hb⟩; refine ⟨_, rfl, ?_⟩; have n0_ := Aside0.mk (Kd.R_lower ho0 (below_size (by repeat (first | (with_reducible first | exact HB.out | apply below_alloc | apply pw_below_drewN | apply below_drew1) | exact HB.out)))); have n1_ := Aside0.mk (below_step (by repeat (first | (with_reducible first | exact HB.out | apply below_alloc | apply pw_below_drewN | apply below_drew1) | exact HB.out)) hb); clear HB; have HO244 := n0_; have HB := n1_; clear n0_ n1_; (try clear hb); (try clear hb2); (try clear hk); (try clear hi); (try clear ho0)) | ((with_reducible refine gate_builtin (b := .append) (xs := #[.tmp 19, .tmp 27]) rfl ?_); at_builtin; refine Kd.R_append k60 (w0 := w) w.heap.size rfl (.tmp 19) (.tmp 27) 39 60 (.agg #[(.int .u64 0), (.int .u64 0)]) 16 rfl Tryf.underlying39 info60 rfl (by decide) (by omega) v243 t242 (⟨IntKind.u64.wrap (a1 + t241), IntKind.u64.wrap (a1 + a2)⟩ : S60) [.int .u64 (IntKind.u64.wrap (a1 + t241)), .int .u64 (IntKind.u64.wrap (a1 + a2))] (fun _ => True) (fun _ => False) rfl rfl ?aP (fun _ hk => hk.elim) ?aF ?aO ?aB ?aS ?aL ?_; (case aP => exact k60_mkM _ _ _ (⟨IntKind.u64.wrap (a1 + t241), IntKind.u64.wrap (a1 + a2)⟩ : S60)); (case aB => exact (by repeat (first | (with_reducible first | exact HB.out | apply below_alloc | apply pw_below_drewN | apply below_drew1) | exact HB.out))); (case aF => exact (fun _ _ => trivial)); (case aO => exact (by (with_reducible repeat (first | apply Kd.R_alloc | apply Kd.R_drewN | apply Kd.R_drew)); exact HO244.out)); (case aS => exact (below_size (by repeat (first | (with_reducible first | exact HB.out | apply below_alloc | apply pw_below_drewN | apply below_drew1) | exact HB.out)))); (case aL => have := LMc10.out; omega); intro v246 w12 ho hb hg hat; rw [← Ny245.out] at ho; have n0_ := Aside0.mk (hb); have n1_ := Aside0.mk (ho); clear HB; clear HO244; have HB := n0_; have HO247 := n1_; clear n0_ n1_; clear ho hb hg hat))
        go_ret
        exact ⟨_, by first | rfl | (simp [errW_none, errW_some] <;> rfl) | (simp [*, errW_none, errW_some] <;> rfl), by (with_reducible repeat (first | apply Kd.R_alloc | apply Kd.R_drewN | apply Kd.R_drew)); exact HO247.out, by repeat (first | (with_reducible first | exact HB.out | apply below_alloc | apply pw_below_drewN | apply below_drew1) | exact HB.out)⟩
      · rw [if_neg c10] at H
        exact absurd H (by simp)
    · rw [if_neg c8] at H
      have c8b0 : decide (a0 < t241) = false := decide_eq_false c8
      clear c8
      replace H := Option.bind_eq_some_iff.mp H
      obtain ⟨t248, A130, H⟩ := H
      replace H : (if t248.length < 8796093022208 then (some (t248 ++ [(⟨a1, IntKind.u64.wrap (a1 + t241)⟩ : S60)])) else (none)) = some r := H
      have A13 := Aside0.mk A130
      clear A130
      by_cases c14 : t248.length < 8796093022208
      · rw [if_pos c14] at H
        have LMc14 := Aside0.mk c14
        clear c14
        obtain ⟨y251, hy251⟩ : ∃ y_ : List (S60), y_ = (t248 ++ [(⟨a1, IntKind.u64.wrap (a1 + t241)⟩ : S60)]) := ⟨_, rfl⟩
        replace H : (some y251) = some r := by first | (rw [hy251]; with_reducible exact H) | (have H2_ := (Option.bind_some _ _).symm.trans H; rw [hy251]; with_reducible exact H2_) | (have H2_ := (Option.bind_some _ _).symm.trans H; with_reducible exact H2_) | with_reducible exact H | (rw [hy251]; exact H) | exact H
        have Ny251 := Aside0.mk hy251
        clear hy251
        obtain rfl := Option.some.inj H
        go_enter Tryf.func10, Tryf.ntmps10
        go_wp2_with (first | ((with_reducible refine gate_callee (f := 34) rfl ?_); refine goesL_ (some 12) rfl rfl Tryf.func34 (by kernel_rfl) rfl #[.int .u64 a2] rfl (by (try simp only [List.map_toArray, List.map_cons, List.map_nil]); first | done | rfl | (simp only [List.length_drop, List.length_take]; rfl)) ?_; (with_reducible refine (spec_Split.calls k a2 t241 _ A7.out).mono ?_); rintro e w' ⟨rfl, ⟨nd, rfl⟩⟩; refine ⟨_, rfl, ?_⟩) | ((with_reducible refine gate_callee (f := 10) rfl ?_); refine goesL_ (some 38) rfl rfl Tryf.func10 (by kernel_rfl) rfl #[.int .u64 (IntKind.u64.wrap (a0 - t241)), .int .u64 (IntKind.u64.wrap (a1 + t241)), .int .u64 (IntKind.u64.wrap (a2 - t241))] rfl (by (try simp only [List.map_toArray, List.map_cons, List.map_nil]); first | done | rfl | (simp only [List.length_drop, List.length_take]; rfl)) ?_; (with_reducible refine (ih k (by omega) (IntKind.u64.wrap (a0 - t241)) (IntKind.u64.wrap (a1 + t241)) (IntKind.u64.wrap (a2 - t241)) t248 _ A13.out).mono ?_); rintro e w15 ⟨v249, rfl, ho0, hb⟩; refine ⟨_, rfl, ?_⟩; have n0_ := Aside0.mk (Kd.R_lower ho0 (below_size (by repeat (first | (with_reducible first | exact HB.out | apply below_alloc | apply pw_below_drewN | apply below_drew1) | exact HB.out)))); have n1_ := Aside0.mk (below_step (by repeat (first | (with_reducible first | exact HB.out | apply below_alloc | apply pw_below_drewN | apply below_drew1) | exact HB.out)) hb); clear HB; have HO250 := n0_; have HB := n1_; clear n0_ n1_; (try clear hb); (try clear hb2); (try clear hk); (try clear hi); (try clear ho0)) | ((with_reducible refine gate_builtin (b := .append) (xs := #[.tmp 38, .tmp 44]) rfl ?_); at_builtin; refine Kd.R_append k60 (w0 := w) w.heap.size rfl (.tmp 38) (.tmp 44) 39 60 (.agg #[(.int .u64 0), (.int .u64 0)]) 16 rfl Tryf.underlying39 info60 rfl (by decide) (by omega) v249 t248 (⟨a1, IntKind.u64.wrap (a1 + t241)⟩ : S60) [.int .u64 a1, .int .u64 (IntKind.u64.wrap (a1 + t241))] (fun _ => True) (fun _ => False) rfl rfl ?aP (fun _ hk => hk.elim) ?aF ?aO ?aB ?aS ?aL ?_; (case aP => exact k60_mkM _ _ _ (⟨a1, IntKind.u64.wrap (a1 + t241)⟩ : S60)); (case aB => exact (by repeat (first | (with_reducible first | exact HB.out | apply below_alloc | apply pw_below_drewN | apply below_drew1) | exact HB.out))); (case aF => exact (fun _ _ => trivial)); (case aO => exact (by (with_reducible repeat (first | apply Kd.R_alloc | apply Kd.R_drewN | apply Kd.R_drew)); exact HO250.out)); (case aS => exact (below_size (by repeat (first | (with_reducible first | exact HB.out | apply below_alloc | apply pw_below_drewN | apply below_drew1) | exact HB.out)))); (case aL => have := LMc14.out; omega); intro v252 w16 ho hb hg hat; rw [← Ny251.out] at ho; have n0_ := Aside0.mk (hb); have n1_ := Aside0.mk (ho); clear HB; clear HO250; have HB := n0_; have HO253 := n1_; clear n0_ n1_; clear ho hb hg hat))
        go_ret
        exact ⟨_, by first | rfl | (simp [errW_none, errW_some] <;> rfl) | (simp [*, errW_none, errW_some] <;> rfl), by (with_reducible repeat (first | apply Kd.R_alloc | apply Kd.R_drewN | apply Kd.R_drew)); exact HO253.out, by repeat (first | (with_reducible first | exact HB.out | apply below_alloc | apply pw_below_drewN | apply below_drew1) | exact HB.out)⟩
      · rw [if_neg c14] at H
        exact absurd H (by simp)
def laws_sameSpans.l0 : Nat → List (S60) → List (S60) → Int → Int → Option (Bool)
  | 0, _, _, _, _ => none
  | k + 1, x0, x1, x12, x13 => if x13 < x12 then (if 0 ≤ x13 then (if x13 < (x0.length : Int) then (if x13 < (x1.length : Int) then (if (!(((rd_T60 x0 x13).f0) == ((rd_T60 x1 x13).f0)) || (!(((rd_T60 x0 x13).f1) == ((rd_T60 x1 x13).f1)))) = true then (some false) else (laws_sameSpans.l0 k x0 x1 x12 (wrap64 (x13 + 1)))) else (none)) else (none)) else (none)) else (some true)
def laws_sameSpans.f (k : Nat) (l0 : List (S60)) (l1 : List (S60)) : Option (Bool) := if (l0.length : Int) = (l1.length : Int) then (laws_sameSpans.l0 k l0 l1 (l0.length : Int) 0) else (some false)
theorem laws_sameSpans.mono_l : ∀ k, (∀ y0 y1 y2 y3, LeO (laws_sameSpans.l0 k y0 y1 y2 y3) (laws_sameSpans.l0 (k + 1) y0 y1 y2 y3))
  | 0 => fun _ _ _ _ r h => by simp [laws_sameSpans.l0] at h
  | k + 1 => by
    have ih0 := laws_sameSpans.mono_l k
    · intro y0 y1 y2 y3
      unfold laws_sameSpans.l0
      repeat' first
      | (with_reducible exact ih0 _ _ _ _)
      | (with_reducible exact LeO.refl _)
      | (with_reducible exact LeO.none _)
      | (with_reducible refine LeO.ite ?_ ?_)
      | (with_reducible refine LeO.bind ?_ (fun _ => ?_))
      | exact ih0 _ _ _ _
      | exact LeO.none _
      | refine LeO.ite ?_ ?_
      | refine LeO.bind ?_ (fun _ => ?_)
theorem laws_sameSpans.mono : ∀ a0 a1 k, LeO (laws_sameSpans.f k a0 a1) (laws_sameSpans.f (k + 1) a0 a1) := by
  intro a0 a1 k
  have ih0 := laws_sameSpans.mono_l k
  unfold laws_sameSpans.f
  repeat' first
      | (with_reducible exact ih0 _ _ _ _)
      | (with_reducible exact LeO.refl _)
      | (with_reducible exact LeO.none _)
      | (with_reducible refine LeO.ite ?_ ?_)
      | (with_reducible refine LeO.bind ?_ (fun _ => ?_))
      | exact ih0 _ _ _ _
      | exact LeO.none _
      | refine LeO.ite ?_ ?_
      | refine LeO.bind ?_ (fun _ => ?_)
set_option maxHeartbeats 8000000 in
set_option maxRecDepth 100000 in
theorem laws_sameSpans.calls (k : Nat) (A0 : Option Addr) (c0 : Nat) (l0 : List (S60)) (A1 : Option Addr) (c1 : Nat) (l1 : List (S60)) (r : Bool) (w : World) (hr0 : Kd.C k60 w A0 l0.length l0) (hc0 : l0.length ≤ c0) (hr1 : Kd.C k60 w A1 l1.length l1) (hc1 : l1.length ≤ c1) (h : laws_sameSpans.f k l0 l1 = some r) :
    Calls Tryf.prog 11 #[.slice A0 l0.length c0, .slice A1 l1.length c1] w fun e w' => e = .returned (.bool r) ∧ Drawn0 w w' := by
  have hu60 := Tryf.underlying60
  have HR0 := Aside0.mk hr0
  have HC0 := Aside0.mk hc0
  clear hr0 hc0
  have HR1 := Aside0.mk hr1
  have HC1 := Aside0.mk hc1
  clear hr1 hc1
  have H : (if (l0.length : Int) = (l1.length : Int) then (laws_sameSpans.l0 k l0 l1 (l0.length : Int) 0) else (some false)) = some r := h
  clear h
  by_cases c3 : (l0.length : Int) = (l1.length : Int)
  · rw [if_pos c3] at H
    have c3b0 : ((l0.length : Int) == (l1.length : Int)) = true := beq_iff_eq.mpr c3
    have c3b1 : ((l0.length : Int) != (l1.length : Int)) = false := bne_eq_false_iff_eq.mpr c3
    have c3b2 : (l0.length == l1.length) = true := by first | simpa using c3 | (simp at c3 ⊢; omega)
    clear c3
    have H' := Aside0.mk H
    clear H
    go_enter Tryf.func11, Tryf.ntmps11
    go_wp2
    repeat (go_quiet (fail); try go_wp2)
    go_loopg [13] k (fun kq v13 w' => ∃ (x13_1 : Int), v13 = .int .i64 x13_1 ∧ Aside0 (laws_sameSpans.l0 kq l0 l1 (l0.length : Int) x13_1 = some r) ∧ Aside0 (kq ≤ k) ∧ Drawn0 w w')
    case atStart => exact ⟨(0), (by first | rfl | (simp; done) | (simp [*]; done)), H', ⟨Nat.le_refl _⟩, by repeat (first | exact Drawn0.refl _ | apply Drawn0.step)⟩
    case round =>
      clear H'
      try clear c1
      try clear p2
      try clear c3
      try clear c3b0
      try clear c3b1
      try clear c3b2
      obtain ⟨x13_1, rfl, HA, HK1, ⟨m1, rfl⟩⟩ := hrel
      cases gk with
      | zero => exact absurd HA.out (by simp [laws_sameSpans.l0])
      | succ k1 =>
        have H := HA.out
        clear HA
        simp only [laws_sameSpans.l0] at H
        by_cases c4 : x13_1 < (l0.length : Int)
        · rw [if_pos c4] at H
          have c4b0 : decide (x13_1 < (l0.length : Int)) = true := decide_eq_true c4
          clear c4
          by_cases c5 : 0 ≤ x13_1
          · rw [if_pos c5] at H
            have c5b0 : decide (0 ≤ x13_1) = true := decide_eq_true c5
            clear c5
            by_cases c6 : x13_1 < (l0.length : Int)
            · rw [if_pos c6] at H
              have c6b0 : decide (x13_1 < (l0.length : Int)) = true := decide_eq_true c6
              clear c6
              by_cases c7 : x13_1 < (l1.length : Int)
              · rw [if_pos c7] at H
                have c7b0 : decide (x13_1 < (l1.length : Int)) = true := decide_eq_true c7
                clear c7
                by_cases c8 : (!(((rd_T60 l0 x13_1).f0) == ((rd_T60 l1 x13_1).f0)) || (!(((rd_T60 l0 x13_1).f1) == ((rd_T60 l1 x13_1).f1)))) = true
                · rw [if_pos c8] at H
                  have c8b0 : (!(((rd_T60 l0 x13_1).f0) == ((rd_T60 l1 x13_1).f0)) || (!(((rd_T60 l0 x13_1).f1) == ((rd_T60 l1 x13_1).f1)))) = true := c8
                  clear c8
                  obtain rfl := Option.some.inj H
                  have p254 : 0 ≤ (x13_1 : Int) := of_decide_eq_true (by first | (with_reducible assumption) | assumption)
                  have q254 : x13_1 < (l0.length : Int) := of_decide_eq_true (by first | (with_reducible assumption) | assumption)
                  obtain ⟨ad254, e254, hx254_0, hx254_1⟩ := at_T60 HR0.out x13_1 p254 q254
                  cases e254
                  replace p254 := eq_true p254
                  replace q254 := eq_true q254
                  have p255 : 0 ≤ (x13_1 : Int) := of_decide_eq_true (by first | (with_reducible assumption) | assumption)
                  have q255 : x13_1 < (l1.length : Int) := of_decide_eq_true (by first | (with_reducible assumption) | assumption)
                  obtain ⟨ad255, e255, hx255_0, hx255_1⟩ := at_T60 HR1.out x13_1 p255 q255
                  cases e255
                  replace p255 := eq_true p255
                  replace q255 := eq_true q255
                  go_wp2
                  repeat (go_quiet (fail); try go_wp2)
                  go_ret
                  exact ⟨by first | rfl | (simp; done) | (simp [*]; done), by repeat (first | exact Drawn0.refl _ | apply Drawn0.step)⟩
                · rw [if_neg c8] at H
                  have c8b0 : (!(((rd_T60 l0 x13_1).f0) == ((rd_T60 l1 x13_1).f0)) || (!(((rd_T60 l0 x13_1).f1) == ((rd_T60 l1 x13_1).f1)))) = false := by simpa using c8
                  clear c8
                  have H' := Aside0.mk H
                  clear H
                  have p254 : 0 ≤ (x13_1 : Int) := of_decide_eq_true (by first | (with_reducible assumption) | assumption)
                  have q254 : x13_1 < (l0.length : Int) := of_decide_eq_true (by first | (with_reducible assumption) | assumption)
                  obtain ⟨ad254, e254, hx254_0, hx254_1⟩ := at_T60 HR0.out x13_1 p254 q254
                  cases e254
                  replace p254 := eq_true p254
                  replace q254 := eq_true q254
                  have p255 : 0 ≤ (x13_1 : Int) := of_decide_eq_true (by first | (with_reducible assumption) | assumption)
                  have q255 : x13_1 < (l1.length : Int) := of_decide_eq_true (by first | (with_reducible assumption) | assumption)
                  obtain ⟨ad255, e255, hx255_0, hx255_1⟩ := at_T60 HR1.out x13_1 p255 q255
                  cases e255
                  replace p255 := eq_true p255
                  replace q255 := eq_true q255
                  go_wp2
                  repeat (go_quiet (fail); try go_wp2)
                  go_roundg k1
                  case measure => have := HK1.out; omega
                  case rel => exact ⟨(wrap64 (x13_1 + 1)), (by first | rfl | (simp; done) | (simp [*]; done)), H', ⟨by have := HK1.out; omega⟩, by repeat (first | exact Drawn0.refl _ | apply Drawn0.step)⟩
              · rw [if_neg c7] at H
                exact absurd H (by simp)
            · rw [if_neg c6] at H
              exact absurd H (by simp)
          · rw [if_neg c5] at H
            exact absurd H (by simp)
        · rw [if_neg c4] at H
          have c4b0 : decide (x13_1 < (l0.length : Int)) = false := decide_eq_false c4
          clear c4
          obtain rfl := Option.some.inj H
          go_wp2
          repeat (go_quiet (fail); try go_wp2)
          go_ret
          exact ⟨by first | rfl | (simp; done) | (simp [*]; done), by repeat (first | exact Drawn0.refl _ | apply Drawn0.step)⟩
  · rw [if_neg c3] at H
    have c3b0 : ((l0.length : Int) == (l1.length : Int)) = false := beq_eq_false_iff_ne.mpr c3
    have c3b1 : ((l0.length : Int) != (l1.length : Int)) = true := bne_iff_ne.mpr c3
    have c3b2 : (l0.length == l1.length) = false := by first | simpa using c3 | (simp at c3 ⊢; omega)
    obtain rfl := Option.some.inj H
    go_enter Tryf.func11, Tryf.ntmps11
    go_wp2
    repeat (go_quiet (fail); try go_wp2)
    go_ret
    exact ⟨by first | rfl | (simp; done) | (simp [*]; done), by repeat (first | exact Drawn0.refl _ | apply Drawn0.step)⟩
def impl_two.f (a0 : Int) : Option (List Int) := some (([(IntKind.u64.wrap (Int.tdiv (Int.tmod a0 65521) 256)) % 256, (Int.tmod (Int.tmod a0 65521) 256) % 256] : List Int))
set_option maxHeartbeats 8000000 in
set_option maxRecDepth 100000 in
theorem impl_two.calls (a0 : Int) (r : List Int) (w : World) (h : impl_two.f a0 = some r) :
    Calls Tryf.prog 47 #[.int .u64 a0] w fun e w' => ∃ v0_ : Value, e = .returned (v0_) ∧ Kd.R (Kd.int .u8) 5 w' w.heap.size (fun _ => True) v0_ r ∧ Below w.heap.size w w' := by
  have HB := Aside0.mk (Below.refl w.heap.size w)
  have H : (some (([(IntKind.u64.wrap (Int.tdiv (Int.tmod a0 65521) 256)) % 256, (Int.tmod (Int.tmod a0 65521) 256) % 256] : List Int))) = some r := h
  clear h
  obtain ⟨y256, hy256⟩ : ∃ y_ : List Int, y_ = (([(IntKind.u64.wrap (Int.tdiv (Int.tmod a0 65521) 256)) % 256, (Int.tmod (Int.tmod a0 65521) 256) % 256] : List Int)) := ⟨_, rfl⟩
  replace H : (some y256) = some r := by first | (rw [hy256]; with_reducible exact H) | (have H2_ := (Option.bind_some _ _).symm.trans H; rw [hy256]; with_reducible exact H2_) | (have H2_ := (Option.bind_some _ _).symm.trans H; with_reducible exact H2_) | with_reducible exact H | (rw [hy256]; exact H) | exact H
  have Ny256 := Aside0.mk hy256
  clear hy256
  obtain rfl := Option.some.inj H
  go_enter Tryf.func47, Tryf.ntmps47
  go_wp2_with (first | ((with_reducible refine gate_dst (N := 11) rfl ?_); refine Kd.R_lit (Kd.int .u8) _ 5 ?hg (N := 11) ?hd (xs := ([(IntKind.u64.wrap (Int.tdiv (Int.tmod a0 65521) 256)) % 256, (Int.tmod (Int.tmod a0 65521) 256) % 256] : List Int)) (inner := [.int .u8 ((IntKind.u64.wrap (Int.tdiv (Int.tmod a0 65521) 256)) % 256), .int .u8 ((Int.tmod (Int.tmod a0 65521) 256) % 256)]) (ok := fun _ => True) (okp := fun _ => True) ?hr ?hp (fun _ hk => hk) trivial (Below.refl _ _) (Nat.le_refl _) (by simp) ?_; (case hd => rfl); (case hg => rfl); (case hr => first | (go_simp; done) | (go_simp; rfl)); (case hp => exact (Reps.one (show Kd.M (Kd.int .u8) _ _ _ ((IntKind.u64.wrap (Int.tdiv (Int.tmod a0 65521) 256)) % 256) [.int .u8 ((IntKind.u64.wrap (Int.tdiv (Int.tmod a0 65521) 256)) % 256)] from rfl) (Reps.one (show Kd.M (Kd.int .u8) _ _ _ ((Int.tmod (Int.tmod a0 65521) 256) % 256) [.int .u8 ((Int.tmod (Int.tmod a0 65521) 256) % 256)] from rfl) (Reps.none _ _)))); intro v257 w2 ho3 hb hg_ hnew_; clear hg_ hnew_; (first | rw [← Ny256.out] at ho3 | (simp only [Int.reduceToNat] at ho3; rw [← Ny256.out] at ho3)); have n0_ := Aside0.mk (Kd.R_lower ho3 (below_size (by repeat (first | (with_reducible first | exact HB.out | apply below_alloc | apply pw_below_drewN | apply below_drew1) | exact HB.out)))); have n1_ := Aside0.mk (below_step (by repeat (first | (with_reducible first | exact HB.out | apply below_alloc | apply pw_below_drewN | apply below_drew1) | exact HB.out)) hb); clear HB; have HO258 := n0_; have HB := n1_; clear n0_ n1_; clear hb ho3))
  go_ret
  exact ⟨_, by first | rfl | (simp [errW_none, errW_some] <;> rfl) | (simp [*, errW_none, errW_some] <;> rfl), by (with_reducible repeat (first | apply Kd.R_alloc | apply Kd.R_drewN | apply Kd.R_drew)); exact HO258.out, by repeat (first | (with_reducible first | exact HB.out | apply below_alloc | apply pw_below_drewN | apply below_drew1) | exact HB.out)⟩
def impl_number.l0 : Nat → List Int → Int → Int → Option (Int)
  | 0, _, _, _ => none
  | k + 1, x0, x3, x4 => if x4 < 2 then (if x4 < (x0.length : Int) then (if 0 ≤ x4 then (impl_number.l0 k x0 (IntKind.u64.wrap ((IntKind.u64.wrap (x3 * 256)) + (IntKind.u64.wrap (rd x0 x4)))) (wrap64 (x4 + 1))) else (none)) else (some x3)) else (some x3)
def impl_number.f (k : Nat) (l0 : List Int) : Option (Int) := impl_number.l0 k l0 0 0
theorem impl_number.mono_l : ∀ k, (∀ y0 y1 y2, LeO (impl_number.l0 k y0 y1 y2) (impl_number.l0 (k + 1) y0 y1 y2))
  | 0 => fun _ _ _ r h => by simp [impl_number.l0] at h
  | k + 1 => by
    have ih0 := impl_number.mono_l k
    · intro y0 y1 y2
      unfold impl_number.l0
      repeat' first
      | (with_reducible exact ih0 _ _ _)
      | (with_reducible exact LeO.refl _)
      | (with_reducible exact LeO.none _)
      | (with_reducible refine LeO.ite ?_ ?_)
      | (with_reducible refine LeO.bind ?_ (fun _ => ?_))
      | exact ih0 _ _ _
      | exact LeO.none _
      | refine LeO.ite ?_ ?_
      | refine LeO.bind ?_ (fun _ => ?_)
theorem impl_number.mono : ∀ a0 k, LeO (impl_number.f k a0) (impl_number.f (k + 1) a0) := by
  intro a0 k
  have ih0 := impl_number.mono_l k
  unfold impl_number.f
  repeat' first
      | (with_reducible exact ih0 _ _ _)
      | (with_reducible exact LeO.refl _)
      | (with_reducible exact LeO.none _)
      | (with_reducible refine LeO.ite ?_ ?_)
      | (with_reducible refine LeO.bind ?_ (fun _ => ?_))
      | exact ih0 _ _ _
      | exact LeO.none _
      | refine LeO.ite ?_ ?_
      | refine LeO.bind ?_ (fun _ => ?_)
set_option maxHeartbeats 8000000 in
set_option maxRecDepth 100000 in
theorem impl_number.calls (k : Nat) (A0 : Option Addr) (c0 : Nat) (l0 : List Int) (r : Int) (w : World) (hr0 : Kd.C (Kd.int .u8) w A0 l0.length l0) (hc0 : l0.length ≤ c0) (h : impl_number.f k l0 = some r) :
    Calls Tryf.prog 48 #[.slice A0 l0.length c0] w fun e w' => e = .returned (.int .u64 r) ∧ Drawn0 w w' := by
  have HR0 := Aside0.mk hr0
  have HC0 := Aside0.mk hc0
  clear hr0 hc0
  have H : (impl_number.l0 k l0 0 0) = some r := h
  clear h
  have H' := Aside0.mk H
  clear H
  go_enter Tryf.func48, Tryf.ntmps48
  go_wp2
  go_loopg [3, 4] k (fun kq v3 v4 w' => ∃ (x3_1 : Int) (x4_1 : Int), v3 = .int .u64 x3_1 ∧ v4 = .int .i64 x4_1 ∧ Aside0 (impl_number.l0 kq l0 x3_1 x4_1 = some r) ∧ Aside0 (kq ≤ k) ∧ Drawn0 w w')
  case atStart => exact ⟨(0), (0), (by first | rfl | (simp; done) | (simp [*]; done)), (by first | rfl | (simp; done) | (simp [*]; done)), H', ⟨Nat.le_refl _⟩, by repeat (first | exact Drawn0.refl _ | apply Drawn0.step)⟩
  case round =>
    clear H'
    obtain ⟨x3_1, x4_1, rfl, rfl, HA, HK1, ⟨m1, rfl⟩⟩ := hrel
    cases gk with
    | zero => exact absurd HA.out (by simp [impl_number.l0])
    | succ k1 =>
      have H := HA.out
      clear HA
      simp only [impl_number.l0] at H
      by_cases c2 : x4_1 < 2
      · rw [if_pos c2] at H
        have c2b0 : decide (x4_1 < 2) = true := decide_eq_true c2
        clear c2
        by_cases c3 : x4_1 < (l0.length : Int)
        · rw [if_pos c3] at H
          have c3b0 : decide (x4_1 < (l0.length : Int)) = true := decide_eq_true c3
          clear c3
          by_cases c4 : 0 ≤ x4_1
          · rw [if_pos c4] at H
            have c4b0 : decide (0 ≤ x4_1) = true := decide_eq_true c4
            clear c4
            have H' := Aside0.mk H
            clear H
            have p259 : 0 ≤ (x4_1 : Int) := of_decide_eq_true (by first | (with_reducible assumption) | assumption)
            have q259 : x4_1 < (l0.length : Int) := of_decide_eq_true (by first | (with_reducible assumption) | assumption)
            obtain ⟨ad259, e259, hx259_0⟩ := Kd.at_int HR0.out x4_1 p259 q259
            cases e259
            replace p259 := eq_true p259
            replace q259 := eq_true q259
            go_wp2
            go_roundg k1
            case measure => have := HK1.out; omega
            case rel => exact ⟨(IntKind.u64.wrap ((IntKind.u64.wrap (x3_1 * 256)) + (IntKind.u64.wrap (rd l0 x4_1)))), (wrap64 (x4_1 + 1)), (by first | rfl | (simp; done) | (simp [*]; done)), (by first | rfl | (simp; done) | (simp [*]; done)), H', ⟨by have := HK1.out; omega⟩, by repeat (first | exact Drawn0.refl _ | apply Drawn0.step)⟩
          · rw [if_neg c4] at H
            exact absurd H (by simp)
        · rw [if_neg c3] at H
          have c3b0 : decide (x4_1 < (l0.length : Int)) = false := decide_eq_false c3
          clear c3
          obtain rfl := Option.some.inj H
          go_wp2
          go_ret
          exact ⟨by first | rfl | (simp; done) | (simp [*]; done), by repeat (first | exact Drawn0.refl _ | apply Drawn0.step)⟩
      · rw [if_neg c2] at H
        have c2b0 : decide (x4_1 < 2) = false := decide_eq_false c2
        clear c2
        obtain rfl := Option.some.inj H
        go_wp2
        go_ret
        exact ⟨by first | rfl | (simp; done) | (simp [*]; done), by repeat (first | exact Drawn0.refl _ | apply Drawn0.step)⟩
def impl_Hash_HashChildren.f (k : Nat) (a0_0 : Int) (a0_1 : Int) (a0_2 : Int) (l1 : List Int) (l2 : List Int) : Option (List Int) := (impl_number.f k l1).bind fun t261 => ((impl_number.f k l2).bind fun t262 => ((impl_two.f (IntKind.u64.wrap ((IntKind.u64.wrap ((IntKind.u64.wrap ((IntKind.u64.wrap (a0_0)) * t261)) + (IntKind.u64.wrap ((IntKind.u64.wrap (a0_1)) * t262)))) + (IntKind.u64.wrap (a0_2))))).bind fun t263 => (some t263)))
theorem impl_Hash_HashChildren.mono : ∀ a0 a1 a2 a3 a4 k, LeO (impl_Hash_HashChildren.f k a0 a1 a2 a3 a4) (impl_Hash_HashChildren.f (k + 1) a0 a1 a2 a3 a4) := by
  intro a0 a1 a2 a3 a4 k
  unfold impl_Hash_HashChildren.f
  repeat' first
      | (with_reducible exact impl_number.mono _ _)
      | (with_reducible exact LeO.refl _)
      | (with_reducible exact LeO.none _)
      | (with_reducible refine LeO.ite ?_ ?_)
      | (with_reducible refine LeO.bind ?_ (fun _ => ?_))
      | exact impl_number.mono _ _
      | exact LeO.none _
      | refine LeO.ite ?_ ?_
      | refine LeO.bind ?_ (fun _ => ?_)
def impl_Hash_HashChildren.T1 : Bool × List (List Nat × List Nat) := (true, [([], []), ([0], [0]), ([1], [1]), ([], []), ([3], [3]), ([2, 4], [2, 4]), ([], []), ([6], [6]), ([7], [7]), ([], []), ([9, 4], [9]), ([8, 10], [8, 10]), ([5, 11], [5, 11]), ([], []), ([13], [13]), ([14], [14]), ([12, 15], [12, 15]), ([16, 10], [16]), ([17, 17, 0, 1, 2, 3, 4, 5, 6, 7, 8, 9, 10, 11, 12, 13, 14, 15, 16, 17], [17])])
def impl_Hash_HashChildren.B1 : List Nat := [0, 1, 3, 0, 8, 31, 0, 64, 192, 0, 536, 2008, 4095, 0, 8192, 24576, 65535, 131071, 262143]
theorem impl_Hash_HashChildren.tab1 : rtab .any (opsOf Tryf.f36 1) = impl_Hash_HashChildren.T1 := by kernel_rfl
theorem impl_Hash_HashChildren.bits1 : waitsOk impl_Hash_HashChildren.T1.2 impl_Hash_HashChildren.B1 = true := by kernel_rfl
set_option maxHeartbeats 8000000 in
set_option maxRecDepth 100000 in
theorem impl_Hash_HashChildren.calls (k : Nat) (a0_0 : Int) (a0_1 : Int) (a0_2 : Int) (A1 : Option Addr) (c1 : Nat) (l1 : List Int) (A2 : Option Addr) (c2 : Nat) (l2 : List Int) (r : List Int) (w : World) (hr1 : Kd.C (Kd.int .u8) w A1 l1.length l1) (hc1 : l1.length ≤ c1) (hr2 : Kd.C (Kd.int .u8) w A2 l2.length l2) (hc2 : l2.length ≤ c2) (h : impl_Hash_HashChildren.f k a0_0 a0_1 a0_2 l1 l2 = some r) :
    Calls Tryf.prog 36 #[.agg #[.int .u32 a0_0, .int .u32 a0_1, .int .u32 a0_2], .slice A1 l1.length c1, .slice A2 l2.length c2] w fun e w' => ∃ v0_ : Value, e = .returned (v0_) ∧ Kd.R (Kd.int .u8) 5 w' w.heap.size (fun _ => True) v0_ r ∧ Below w.heap.size w w' := by
  have hu24 := Tryf.underlying24
  have HR1 := Aside0.mk hr1
  have HC1 := Aside0.mk hc1
  clear hr1 hc1
  have HR2 := Aside0.mk hr2
  have HC2 := Aside0.mk hc2
  clear hr2 hc2
  have HB := Aside0.mk (Below.refl w.heap.size w)
  have H : ((impl_number.f k l1).bind fun t261 => ((impl_number.f k l2).bind fun t262 => ((impl_two.f (IntKind.u64.wrap ((IntKind.u64.wrap ((IntKind.u64.wrap ((IntKind.u64.wrap (a0_0)) * t261)) + (IntKind.u64.wrap ((IntKind.u64.wrap (a0_1)) * t262)))) + (IntKind.u64.wrap (a0_2))))).bind fun t263 => (some t263)))) = some r := h
  clear h
  replace H := Option.bind_eq_some_iff.mp H
  obtain ⟨t261, A40, H⟩ := H
  replace H : ((impl_number.f k l2).bind fun t262 => ((impl_two.f (IntKind.u64.wrap ((IntKind.u64.wrap ((IntKind.u64.wrap ((IntKind.u64.wrap (a0_0)) * t261)) + (IntKind.u64.wrap ((IntKind.u64.wrap (a0_1)) * t262)))) + (IntKind.u64.wrap (a0_2))))).bind fun t263 => (some t263))) = some r := H
  have A4 := Aside0.mk A40
  clear A40
  replace H := Option.bind_eq_some_iff.mp H
  obtain ⟨t262, A50, H⟩ := H
  replace H : ((impl_two.f (IntKind.u64.wrap ((IntKind.u64.wrap ((IntKind.u64.wrap ((IntKind.u64.wrap (a0_0)) * t261)) + (IntKind.u64.wrap ((IntKind.u64.wrap (a0_1)) * t262)))) + (IntKind.u64.wrap (a0_2))))).bind fun t263 => (some t263)) = some r := H
  have A5 := Aside0.mk A50
  clear A50
  replace H := Option.bind_eq_some_iff.mp H
  obtain ⟨t263, A60, H⟩ := H
  replace H : (some t263) = some r := H
  have A6 := Aside0.mk A60
  clear A60
  obtain rfl := Option.some.inj H
  go_enter Tryf.func36, Tryf.ntmps36
  try go_wp2_with (first | ((with_reducible refine gate_dst (N := 3) rfl ?_); refine box_event ?hg (N := 3) ?hd (cs := #[.int .u32 a0_0, .int .u32 a0_1, .int .u32 a0_2]) (t := 24) ?hr ?_; (case hd => rfl); (case hg => rfl); (case hr => first | (go_simp; done) | (go_simp; rfl)); intro gb260 hg w7 hbox hb; have n0_ := Aside0.mk (below_step (by repeat (first | (with_reducible first | exact HB.out | apply below_alloc | apply pw_below_drewN | apply below_drew1) | exact HB.out)) hb); have n1_ := Aside0.mk (hbox); have n2_ := Aside0.mk ((by rw [hg]; exact (below_size (by repeat (first | (with_reducible first | exact HB.out | apply below_alloc | apply pw_below_drewN | apply below_drew1) | exact HB.out))) : w.heap.size ≤ gb260)); have n3_ := Aside0.mk ((by rw [hg]; exact (below_size (by repeat (first | (with_reducible first | exact HB.out | apply below_alloc | apply pw_below_drewN | apply below_drew1) | exact HB.out))) : w.heap.size ≤ gb260)); clear HB; have HB := n0_; have BK260 := n1_; have GW260 := n2_; have GE260 := n3_; clear n0_ n1_ n2_ n3_; clear hb hbox hg))
  have n0_ := Aside0.mk (blk_drew BK260.out)
  have n1_ := Aside0.mk (below_drew1 HB.out)
  clear BK260
  clear HB
  have BK260 := n0_
  have HB := n1_
  clear n0_ n1_
  refine start_ (n := 19) (S := fun w' => w'.cell? ⟨gb260, 0, none⟩ = some (.int .u32 a0_0) ∧ w'.cell? ⟨gb260, 1, none⟩ = some (.int .u32 a0_1) ∧ w'.cell? ⟨gb260, 2, none⟩ = some (.int .u32 a0_2)) (ds := []) #[false, false, false, false, false, false, false, false, false, false, false, false, false, false, false, false, false, false, false] (by kernel_rfl) rfl rfl ⟨(blk_cell BK260.out 0).trans rfl, (blk_cell BK260.out 1).trans rfl, (blk_cell BK260.out 2).trans rfl⟩ (fun hHeld => ?_); refine with_tabW impl_Hash_HashChildren.tab1 impl_Hash_HashChildren.bits1 (fun HT_ HW_ => ?_)
  generalize w7.drew = w8 at BK260 HB hHeld ⊢
  refine pure_ (i := 0) (N := some 7) (v := ?_) (a' := ?_) #[true, false, false, false, false, false, false, false, false, false, false, false, false, false, false, false, false, false, false] rfl rfl (any_of HT_.out (by kernel_rfl)) (fun _ _ _ h => h) (Or.inl ⟨by rfl, ?_⟩) ?_ ?_
  rotate_left
  · intro w'
    go_simp
    with_reducible rfl
  rotate_left
  · simp only [Act.put, List.setIfInBounds_toArray, List.set_cons_zero, List.set_cons_succ, i64_w, i32_w]
    rfl
  refine pure_ (i := 3) (N := some 10) (v := ?_) (a' := ?_) #[true, false, false, true, false, false, false, false, false, false, false, false, false, false, false, false, false, false, false] rfl rfl (any_of HT_.out (by kernel_rfl)) (fun _ _ _ h => h) (Or.inl ⟨by rfl, ?_⟩) ?_ ?_
  rotate_left
  · intro w'
    go_simp
    with_reducible rfl
  rotate_left
  · simp only [Act.put, List.setIfInBounds_toArray, List.set_cons_zero, List.set_cons_succ, i64_w, i32_w]
    rfl
  refine pure_ (i := 6) (N := some 13) (v := ?_) (a' := ?_) #[true, false, false, true, false, false, true, false, false, false, false, false, false, false, false, false, false, false, false] rfl rfl (any_of HT_.out (by kernel_rfl)) (fun _ _ _ h => h) (Or.inl ⟨by rfl, ?_⟩) ?_ ?_
  rotate_left
  · intro w'
    go_simp
    with_reducible rfl
  rotate_left
  · simp only [Act.put, List.setIfInBounds_toArray, List.set_cons_zero, List.set_cons_succ, i64_w, i32_w]
    rfl
  refine pure_ (i := 9) (N := some 16) (v := ?_) (a' := ?_) #[true, false, false, true, false, false, true, false, false, true, false, false, false, false, false, false, false, false, false] rfl rfl (any_of HT_.out (by kernel_rfl)) (fun _ _ _ h => h) (Or.inl ⟨by rfl, ?_⟩) ?_ ?_
  rotate_left
  · intro w'
    go_simp
    with_reducible rfl
  rotate_left
  · simp only [Act.put, List.setIfInBounds_toArray, List.set_cons_zero, List.set_cons_succ, i64_w, i32_w]
    rfl
  refine pure_ (i := 13) (N := some 20) (v := ?_) (a' := ?_) #[true, false, false, true, false, false, true, false, false, true, false, false, false, true, false, false, false, false, false] rfl rfl (any_of HT_.out (by kernel_rfl)) (fun _ _ _ h => h) (Or.inl ⟨by rfl, ?_⟩) ?_ ?_
  rotate_left
  · intro w'
    go_simp
    with_reducible rfl
  rotate_left
  · simp only [Act.put, List.setIfInBounds_toArray, List.set_cons_zero, List.set_cons_succ, i64_w, i32_w]
    rfl
  refine take_ (i := 1) (N := some 8) (v := ?_) (a' := ?_) #[true, true, false, true, false, false, true, false, false, true, false, false, false, true, false, false, false, false, false] rfl rfl (take_ofW HT_.out HW_.out (by kernel_rfl)) (fun _ _ _ h => h) (Or.inl ⟨by rfl, ?_⟩) hHeld ?_ ?_
  rotate_left
  · rintro w' ⟨s0, s1, s2⟩
    go_simp
    with_reducible rfl
  rotate_left
  · simp only [Act.put, List.setIfInBounds_toArray, List.set_cons_zero, List.set_cons_succ, i64_w, i32_w]
    rfl
  refine pure_ (i := 2) (N := some 9) (v := ?_) (a' := ?_) #[true, true, true, true, false, false, true, false, false, true, false, false, false, true, false, false, false, false, false] rfl rfl (any_of HT_.out (by kernel_rfl)) (fun _ _ _ h => h) (Or.inl ⟨by rfl, ?_⟩) ?_ ?_
  rotate_left
  · intro w'
    go_simp
    with_reducible rfl
  rotate_left
  · simp only [Act.put, List.setIfInBounds_toArray, List.set_cons_zero, List.set_cons_succ, i64_w, i32_w]
    rfl
  refine take_ (i := 7) (N := some 14) (v := ?_) (a' := ?_) #[true, true, true, true, false, false, true, true, false, true, false, false, false, true, false, false, false, false, false] rfl rfl (take_ofW HT_.out HW_.out (by kernel_rfl)) (fun _ _ _ h => h) (Or.inl ⟨by rfl, ?_⟩) hHeld ?_ ?_
  rotate_left
  · rintro w' ⟨s0, s1, s2⟩
    go_simp
    with_reducible rfl
  rotate_left
  · simp only [Act.put, List.setIfInBounds_toArray, List.set_cons_zero, List.set_cons_succ, i64_w, i32_w]
    rfl
  refine pure_ (i := 8) (N := some 15) (v := ?_) (a' := ?_) #[true, true, true, true, false, false, true, true, true, true, false, false, false, true, false, false, false, false, false] rfl rfl (any_of HT_.out (by kernel_rfl)) (fun _ _ _ h => h) (Or.inl ⟨by rfl, ?_⟩) ?_ ?_
  rotate_left
  · intro w'
    go_simp
    with_reducible rfl
  rotate_left
  · simp only [Act.put, List.setIfInBounds_toArray, List.set_cons_zero, List.set_cons_succ, i64_w, i32_w]
    rfl
  refine take_ (i := 14) (N := some 21) (v := ?_) (a' := ?_) #[true, true, true, true, false, false, true, true, true, true, false, false, false, true, true, false, false, false, false] rfl rfl (take_ofW HT_.out HW_.out (by kernel_rfl)) (fun _ _ _ h => h) (Or.inl ⟨by rfl, ?_⟩) hHeld ?_ ?_
  rotate_left
  · rintro w' ⟨s0, s1, s2⟩
    go_simp
    with_reducible rfl
  rotate_left
  · simp only [Act.put, List.setIfInBounds_toArray, List.set_cons_zero, List.set_cons_succ, i64_w, i32_w]
    rfl
  refine pure_ (i := 15) (N := some 22) (v := ?_) (a' := ?_) #[true, true, true, true, false, false, true, true, true, true, false, false, false, true, true, true, false, false, false] rfl rfl (any_of HT_.out (by kernel_rfl)) (fun _ _ _ h => h) (Or.inl ⟨by rfl, ?_⟩) ?_ ?_
  rotate_left
  · intro w'
    go_simp
    with_reducible rfl
  rotate_left
  · simp only [Act.put, List.setIfInBounds_toArray, List.set_cons_zero, List.set_cons_succ, i64_w, i32_w]
    rfl
  refine one_ (i := 4) (N := some 11) #[true, true, true, true, true, false, true, true, true, true, false, false, false, true, true, true, false, false, false] rfl rfl (one_of HT_.out (by kernel_rfl)) (by decide) (fun K hK => ?_)
  refine goes_ Tryf.func48 (by kernel_rfl) rfl #[.slice A1 l1.length c1] (by rfl) rfl rfl (by (try simp only [List.map_toArray, List.map_cons, List.map_nil]); first | done | rfl | (simp only [List.length_drop, List.length_take]; rfl)) ?_
  with_reducible refine (impl_number.calls k _ _ l1 t261 _ ?side1 ?side2 A4.out).mono ?_
  (case side1 => repeat (first | exact (Kd.C_below HR1.out HB.out) | (with_reducible refine Kd.C_alloc ?_ _) | (with_reducible refine Kd.C_drewN ?_ _) | (with_reducible refine Kd.C_drew ?_)))
  (case side2 => exact HC1.out)
  rintro e w' ⟨rfl, ⟨nd, rfl⟩⟩
  refine ⟨_, rfl, ?_⟩
  refine hK.out _ _ ⟨(blk_cell BK260.out 0).trans rfl, (blk_cell BK260.out 1).trans rfl, (blk_cell BK260.out 2).trans rfl⟩ (fun hHeld => ?_)
  clear hK K
  refine norm_ (a' := ?_) ?_ ?_
  rotate_left
  · show Act.put _ (some 11) _ = _
    simp only [Act.put, List.setIfInBounds_toArray, List.set_cons_zero, List.set_cons_succ, i64_w, i32_w]
    rfl
  refine pure_ (i := 5) (N := some 12) (v := ?_) (a' := ?_) #[true, true, true, true, true, true, true, true, true, true, false, false, false, true, true, true, false, false, false] rfl rfl (any_of HT_.out (by kernel_rfl)) (fun _ _ _ h => h) (Or.inl ⟨by rfl, ?_⟩) ?_ ?_
  rotate_left
  · intro w'
    go_simp
    with_reducible rfl
  rotate_left
  · simp only [Act.put, List.setIfInBounds_toArray, List.set_cons_zero, List.set_cons_succ, i64_w, i32_w]
    rfl
  refine one_ (i := 10) (N := some 17) #[true, true, true, true, true, true, true, true, true, true, true, false, false, true, true, true, false, false, false] rfl rfl (one_of HT_.out (by kernel_rfl)) (by decide) (fun K hK => ?_)
  refine goes_ Tryf.func48 (by kernel_rfl) rfl #[.slice A2 l2.length c2] (by rfl) rfl rfl (by (try simp only [List.map_toArray, List.map_cons, List.map_nil]); first | done | rfl | (simp only [List.length_drop, List.length_take]; rfl)) ?_
  with_reducible refine (impl_number.calls k _ _ l2 t262 _ ?side1 ?side2 A5.out).mono ?_
  (case side1 => repeat (first | exact (Kd.C_below HR2.out (by repeat (first | (with_reducible first | exact HB.out | apply below_alloc | apply pw_below_drewN | apply below_drew1 | refine below_set ?_ GE260.out) | exact HB.out))) | (with_reducible refine Kd.C_alloc ?_ _) | (with_reducible refine Kd.C_drewN ?_ _) | (with_reducible refine Kd.C_drew ?_)))
  (case side2 => exact HC2.out)
  rintro e w' ⟨rfl, ⟨nd, rfl⟩⟩
  refine ⟨_, rfl, ?_⟩
  refine hK.out _ _ ⟨(blk_cell BK260.out 0).trans rfl, (blk_cell BK260.out 1).trans rfl, (blk_cell BK260.out 2).trans rfl⟩ (fun hHeld => ?_)
  clear hK K
  refine norm_ (a' := ?_) ?_ ?_
  rotate_left
  · show Act.put _ (some 17) _ = _
    simp only [Act.put, List.setIfInBounds_toArray, List.set_cons_zero, List.set_cons_succ, i64_w, i32_w]
    rfl
  refine pure_ (i := 11) (N := some 18) (v := ?_) (a' := ?_) #[true, true, true, true, true, true, true, true, true, true, true, true, false, true, true, true, false, false, false] rfl rfl (any_of HT_.out (by kernel_rfl)) (fun _ _ _ h => h) (Or.inl ⟨by rfl, ?_⟩) ?_ ?_
  rotate_left
  · intro w'
    go_simp
    with_reducible rfl
  rotate_left
  · simp only [Act.put, List.setIfInBounds_toArray, List.set_cons_zero, List.set_cons_succ, i64_w, i32_w]
    rfl
  refine pure_ (i := 12) (N := some 19) (v := ?_) (a' := ?_) #[true, true, true, true, true, true, true, true, true, true, true, true, true, true, true, true, false, false, false] rfl rfl (any_of HT_.out (by kernel_rfl)) (fun _ _ _ h => h) (Or.inl ⟨by rfl, ?_⟩) ?_ ?_
  rotate_left
  · intro w'
    go_simp
    with_reducible rfl
  rotate_left
  · simp only [Act.put, List.setIfInBounds_toArray, List.set_cons_zero, List.set_cons_succ, i64_w, i32_w]
    rfl
  refine pure_ (i := 16) (N := some 23) (v := ?_) (a' := ?_) #[true, true, true, true, true, true, true, true, true, true, true, true, true, true, true, true, true, false, false] rfl rfl (any_of HT_.out (by kernel_rfl)) (fun _ _ _ h => h) (Or.inl ⟨by rfl, ?_⟩) ?_ ?_
  rotate_left
  · intro w'
    go_simp
    with_reducible rfl
  rotate_left
  · simp only [Act.put, List.setIfInBounds_toArray, List.set_cons_zero, List.set_cons_succ, i64_w, i32_w]
    rfl
  refine one_ (i := 17) (N := some 24) #[true, true, true, true, true, true, true, true, true, true, true, true, true, true, true, true, true, true, false] rfl rfl (one_of HT_.out (by kernel_rfl)) (by decide) (fun K hK => ?_)
  refine goes_ Tryf.func47 (by kernel_rfl) rfl #[.int .u64 (IntKind.u64.wrap ((IntKind.u64.wrap ((IntKind.u64.wrap ((IntKind.u64.wrap (a0_0)) * t261)) + (IntKind.u64.wrap ((IntKind.u64.wrap (a0_1)) * t262)))) + (IntKind.u64.wrap (a0_2))))] (by rfl) rfl rfl (by (try simp only [List.map_toArray, List.map_cons, List.map_nil]); first | done | rfl | (simp only [List.length_drop, List.length_take]; rfl)) ?_
  with_reducible refine (impl_two.calls (IntKind.u64.wrap ((IntKind.u64.wrap ((IntKind.u64.wrap ((IntKind.u64.wrap (a0_0)) * t261)) + (IntKind.u64.wrap ((IntKind.u64.wrap (a0_1)) * t262)))) + (IntKind.u64.wrap (a0_2)))) t263 _ A6.out).mono ?_
  rintro e w9 ⟨v264, rfl, ho0, hb⟩
  refine ⟨_, rfl, ?_⟩
  have n0_ := Aside0.mk (Kd.R_lower ho0 (below_size (by repeat (first | (with_reducible first | exact HB.out | apply below_alloc | apply pw_below_drewN | apply below_drew1 | refine below_set ?_ GE260.out) | exact HB.out))))
  have n1_ := Aside0.mk (blk_below (g := gb260) (o := .cells #[.int .u32 a0_0, .int .u32 a0_1, .int .u32 a0_2] 24 (0, 0)) (by (with_reducible repeat (first | refine blk_drewN ?_ _ | refine blk_drew ?_ | refine blk_alloc ?_ _)); exact BK260.out) hb)
  have n2_ := Aside0.mk (below_step (by repeat (first | (with_reducible first | exact HB.out | apply below_alloc | apply pw_below_drewN | apply below_drew1 | refine below_set ?_ GE260.out) | exact HB.out)) hb)
  clear BK260
  clear HB
  have HO265 := n0_
  have BK260 := n1_
  have HB := n2_
  clear n0_ n1_ n2_
  (try clear hb)
  (try clear hb2)
  (try clear hk)
  (try clear hi)
  (try clear ho0)
  refine hK.out _ _ ⟨(blk_cell BK260.out 0).trans rfl, (blk_cell BK260.out 1).trans rfl, (blk_cell BK260.out 2).trans rfl⟩ (fun hHeld => ?_)
  clear hK K
  refine norm_ (a' := ?_) ?_ ?_
  rotate_left
  · show Act.put _ (some 24) _ = _
    simp only [Act.put, List.setIfInBounds_toArray, List.set_cons_zero, List.set_cons_succ, i64_w, i32_w]
    rfl
  refine pure_ (i := 18) (N := some 6) (v := ?_) (a' := ?_) #[true, true, true, true, true, true, true, true, true, true, true, true, true, true, true, true, true, true, true] rfl rfl (any_of HT_.out (by kernel_rfl)) (fun _ _ _ h => h) (Or.inl ⟨by rfl, ?_⟩) ?_ ?_
  rotate_left
  · intro w'
    go_simp
    with_reducible rfl
  rotate_left
  · simp only [Act.put, List.setIfInBounds_toArray, List.set_cons_zero, List.set_cons_succ, i64_w, i32_w]
    rfl
  refine done_ (done_of HT_.out (by kernel_rfl)) ?_
  try go_wp2
  go_ret
  exact ⟨_, by first | rfl | (simp [errW_none, errW_some] <;> rfl) | (simp [*, errW_none, errW_some] <;> rfl), by (with_reducible repeat (first | apply Kd.R_alloc | apply Kd.R_drewN | apply Kd.R_drew)); exact HO265.out, by repeat (first | (with_reducible first | exact HB.out | apply below_alloc | apply pw_below_drewN | apply below_drew1 | refine below_set ?_ GE260.out) | exact HB.out)⟩
def spec_NodeHash.f (a0_0 : Int) (a0_1 : Int) (a0_2 : Int) (a1_0 : Int) (a1_1 : Int) : Option (List Int) := some (([(IntKind.u64.wrap (Int.tdiv (Int.tmod (IntKind.u64.wrap ((IntKind.u64.wrap ((IntKind.u64.wrap ((IntKind.u64.wrap (a0_0)) * a1_0)) + (IntKind.u64.wrap ((IntKind.u64.wrap (a0_1)) * (Int.tmod a1_1 65521))))) + (IntKind.u64.wrap (a0_2)))) 65521) 256)) % 256, (Int.tmod (Int.tmod (IntKind.u64.wrap ((IntKind.u64.wrap ((IntKind.u64.wrap ((IntKind.u64.wrap (a0_0)) * a1_0)) + (IntKind.u64.wrap ((IntKind.u64.wrap (a0_1)) * (Int.tmod a1_1 65521))))) + (IntKind.u64.wrap (a0_2)))) 65521) 256) % 256] : List Int))
set_option maxHeartbeats 8000000 in
set_option maxRecDepth 100000 in
theorem spec_NodeHash.calls (a0_0 : Int) (a0_1 : Int) (a0_2 : Int) (a1_0 : Int) (a1_1 : Int) (r : List Int) (w : World) (h : spec_NodeHash.f a0_0 a0_1 a0_2 a1_0 a1_1 = some r) :
    Calls Tryf.prog 16 #[.agg #[.int .u32 a0_0, .int .u32 a0_1, .int .u32 a0_2], .agg #[.int .u64 a1_0, .int .u64 a1_1]] w fun e w' => ∃ v0_ : Value, e = .returned (v0_) ∧ Kd.R (Kd.int .u8) 5 w' w.heap.size (fun _ => True) v0_ r ∧ Below w.heap.size w w' := by
  have hu24 := Tryf.underlying24
  have hu34 := Tryf.underlying34
  have HB := Aside0.mk (Below.refl w.heap.size w)
  have H : (some (([(IntKind.u64.wrap (Int.tdiv (Int.tmod (IntKind.u64.wrap ((IntKind.u64.wrap ((IntKind.u64.wrap ((IntKind.u64.wrap (a0_0)) * a1_0)) + (IntKind.u64.wrap ((IntKind.u64.wrap (a0_1)) * (Int.tmod a1_1 65521))))) + (IntKind.u64.wrap (a0_2)))) 65521) 256)) % 256, (Int.tmod (Int.tmod (IntKind.u64.wrap ((IntKind.u64.wrap ((IntKind.u64.wrap ((IntKind.u64.wrap (a0_0)) * a1_0)) + (IntKind.u64.wrap ((IntKind.u64.wrap (a0_1)) * (Int.tmod a1_1 65521))))) + (IntKind.u64.wrap (a0_2)))) 65521) 256) % 256] : List Int))) = some r := h
  clear h
  obtain ⟨y269, hy269⟩ : ∃ y_ : List Int, y_ = (([(IntKind.u64.wrap (Int.tdiv (Int.tmod (IntKind.u64.wrap ((IntKind.u64.wrap ((IntKind.u64.wrap ((IntKind.u64.wrap (a0_0)) * a1_0)) + (IntKind.u64.wrap ((IntKind.u64.wrap (a0_1)) * (Int.tmod a1_1 65521))))) + (IntKind.u64.wrap (a0_2)))) 65521) 256)) % 256, (Int.tmod (Int.tmod (IntKind.u64.wrap ((IntKind.u64.wrap ((IntKind.u64.wrap ((IntKind.u64.wrap (a0_0)) * a1_0)) + (IntKind.u64.wrap ((IntKind.u64.wrap (a0_1)) * (Int.tmod a1_1 65521))))) + (IntKind.u64.wrap (a0_2)))) 65521) 256) % 256] : List Int)) := ⟨_, rfl⟩
  replace H : (some y269) = some r := by first | (rw [hy269]; with_reducible exact H) | (have H2_ := (Option.bind_some _ _).symm.trans H; rw [hy269]; with_reducible exact H2_) | (have H2_ := (Option.bind_some _ _).symm.trans H; with_reducible exact H2_) | with_reducible exact H | (rw [hy269]; exact H) | exact H
  have Ny269 := Aside0.mk hy269
  clear hy269
  obtain rfl := Option.some.inj H
  go_enter Tryf.func16, Tryf.ntmps16
  go_wp2_with (first | ((with_reducible refine gate_dst (N := 2) rfl ?_); refine box_event ?hg (N := 2) ?hd (cs := #[.int .u32 a0_0, .int .u32 a0_1, .int .u32 a0_2]) (t := 24) ?hr ?_; (case hd => rfl); (case hg => rfl); (case hr => first | (go_simp; done) | (go_simp; rfl)); intro gb267 hg w3 hbox hb; have n0_ := Aside0.mk (below_step (by repeat (first | (with_reducible first | exact HB.out | apply below_alloc | apply pw_below_drewN | apply below_drew1) | exact HB.out)) hb); have n1_ := Aside0.mk (hbox); have n2_ := Aside0.mk ((by rw [hg]; exact (below_size (by repeat (first | (with_reducible first | exact HB.out | apply below_alloc | apply pw_below_drewN | apply below_drew1) | exact HB.out))) : w.heap.size ≤ gb267)); have n3_ := Aside0.mk ((by rw [hg]; exact (below_size (by repeat (first | (with_reducible first | exact HB.out | apply below_alloc | apply pw_below_drewN | apply below_drew1) | exact HB.out))) : w.heap.size ≤ gb267)); clear HB; have HB := n0_; have BK267 := n1_; have GW267 := n2_; have GE267 := n3_; clear n0_ n1_ n2_ n3_; clear hb hbox hg) | ((with_reducible refine gate_dst (N := 3) rfl ?_); refine box_event ?hg (N := 3) ?hd (cs := #[.int .u64 a1_0, .int .u64 a1_1]) (t := 34) ?hr ?_; (case hd => rfl); (case hg => rfl); (case hr => first | (go_simp; done) | (go_simp; rfl)); intro gb268 hg w4 hbox hb; have n0_ := Aside0.mk (blk_below (g := gb267) (o := .cells #[.int .u32 a0_0, .int .u32 a0_1, .int .u32 a0_2] 24 (0, 0)) (by (with_reducible repeat (first | refine blk_drewN ?_ _ | refine blk_drew ?_ | refine blk_alloc ?_ _)); exact BK267.out) hb); have n1_ := Aside0.mk (below_step (by repeat (first | (with_reducible first | exact HB.out | apply below_alloc | apply pw_below_drewN | apply below_drew1 | refine below_set ?_ GE267.out) | exact HB.out)) hb); have n2_ := Aside0.mk (hbox); have n3_ := Aside0.mk ((by rw [hg]; exact (below_size (by repeat (first | (with_reducible first | exact HB.out | apply below_alloc | apply pw_below_drewN | apply below_drew1 | refine below_set ?_ GE267.out) | exact HB.out))) : w.heap.size ≤ gb268)); have n4_ := Aside0.mk ((by rw [hg]; exact (below_size (by repeat (first | (with_reducible first | exact HB.out | apply below_alloc | apply pw_below_drewN | apply below_drew1 | refine below_set ?_ GE267.out) | exact HB.out))) : w.heap.size ≤ gb268)); have n5_ := Aside0.mk ((by rw [hg]; exact Nat.ne_of_lt (blk_lt (g := gb267) (o := .cells #[.int .u32 a0_0, .int .u32 a0_1, .int .u32 a0_2] 24 (0, 0)) (by (with_reducible repeat (first | refine blk_drewN ?_ _ | refine blk_drew ?_ | refine blk_alloc ?_ _)); exact BK267.out)) : gb267 ≠ gb268)); have n6_ := Aside0.mk ((by rw [hg]; exact Nat.ne_of_gt (blk_lt (g := gb267) (o := .cells #[.int .u32 a0_0, .int .u32 a0_1, .int .u32 a0_2] 24 (0, 0)) (by (with_reducible repeat (first | refine blk_drewN ?_ _ | refine blk_drew ?_ | refine blk_alloc ?_ _)); exact BK267.out)) : gb268 ≠ gb267)); clear BK267; clear HB; have BK267 := n0_; have HB := n1_; have BK268 := n2_; have GW268 := n3_; have GE268 := n4_; have NB267_268 := n5_; have NB268_267 := n6_; clear n0_ n1_ n2_ n3_ n4_ n5_ n6_; clear hb hbox hg; have hnb5 := NB267_268.out; have hnc5 := NB268_267.out; have hcz6_0 : w4.cell? ⟨gb267, 0, none⟩ = some (.int .u32 a0_0) := (blk_cell BK267.out 0).trans rfl; have hcz6_1 : w4.cell? ⟨gb267, 1, none⟩ = some (.int .u32 a0_1) := (blk_cell BK267.out 1).trans rfl; have hcz6_2 : w4.cell? ⟨gb267, 2, none⟩ = some (.int .u32 a0_2) := (blk_cell BK267.out 2).trans rfl; have hfz6_0 := blk_frozen BK267.out 0; have hfz6_1 := blk_frozen BK267.out 1; have hfz6_2 := blk_frozen BK267.out 2; have hcz7_0 : w4.cell? ⟨gb268, 0, none⟩ = some (.int .u64 a1_0) := (blk_cell BK268.out 0).trans rfl; have hcz7_1 : w4.cell? ⟨gb268, 1, none⟩ = some (.int .u64 a1_1) := (blk_cell BK268.out 1).trans rfl; have hfz7_0 := blk_frozen BK268.out 0; have hfz7_1 := blk_frozen BK268.out 1) | ((with_reducible refine gate_dst (N := 31) rfl ?_); refine Kd.R_lit (Kd.int .u8) _ 5 ?hg (N := 31) ?hd (xs := ([(IntKind.u64.wrap (Int.tdiv (Int.tmod (IntKind.u64.wrap ((IntKind.u64.wrap ((IntKind.u64.wrap ((IntKind.u64.wrap (a0_0)) * a1_0)) + (IntKind.u64.wrap ((IntKind.u64.wrap (a0_1)) * (Int.tmod a1_1 65521))))) + (IntKind.u64.wrap (a0_2)))) 65521) 256)) % 256, (Int.tmod (Int.tmod (IntKind.u64.wrap ((IntKind.u64.wrap ((IntKind.u64.wrap ((IntKind.u64.wrap (a0_0)) * a1_0)) + (IntKind.u64.wrap ((IntKind.u64.wrap (a0_1)) * (Int.tmod a1_1 65521))))) + (IntKind.u64.wrap (a0_2)))) 65521) 256) % 256] : List Int)) (inner := [.int .u8 ((IntKind.u64.wrap (Int.tdiv (Int.tmod (IntKind.u64.wrap ((IntKind.u64.wrap ((IntKind.u64.wrap ((IntKind.u64.wrap (a0_0)) * a1_0)) + (IntKind.u64.wrap ((IntKind.u64.wrap (a0_1)) * (Int.tmod a1_1 65521))))) + (IntKind.u64.wrap (a0_2)))) 65521) 256)) % 256), .int .u8 ((Int.tmod (Int.tmod (IntKind.u64.wrap ((IntKind.u64.wrap ((IntKind.u64.wrap ((IntKind.u64.wrap (a0_0)) * a1_0)) + (IntKind.u64.wrap ((IntKind.u64.wrap (a0_1)) * (Int.tmod a1_1 65521))))) + (IntKind.u64.wrap (a0_2)))) 65521) 256) % 256)]) (ok := fun _ => True) (okp := fun _ => True) ?hr ?hp (fun _ hk => hk) trivial (Below.refl _ _) (Nat.le_refl _) (by simp) ?_; (case hd => rfl); (case hg => rfl); (case hr => first | (go_simp; done) | (go_simp; rfl)); (case hp => exact (Reps.one (show Kd.M (Kd.int .u8) _ _ _ ((IntKind.u64.wrap (Int.tdiv (Int.tmod (IntKind.u64.wrap ((IntKind.u64.wrap ((IntKind.u64.wrap ((IntKind.u64.wrap (a0_0)) * a1_0)) + (IntKind.u64.wrap ((IntKind.u64.wrap (a0_1)) * (Int.tmod a1_1 65521))))) + (IntKind.u64.wrap (a0_2)))) 65521) 256)) % 256) [.int .u8 ((IntKind.u64.wrap (Int.tdiv (Int.tmod (IntKind.u64.wrap ((IntKind.u64.wrap ((IntKind.u64.wrap ((IntKind.u64.wrap (a0_0)) * a1_0)) + (IntKind.u64.wrap ((IntKind.u64.wrap (a0_1)) * (Int.tmod a1_1 65521))))) + (IntKind.u64.wrap (a0_2)))) 65521) 256)) % 256)] from rfl) (Reps.one (show Kd.M (Kd.int .u8) _ _ _ ((Int.tmod (Int.tmod (IntKind.u64.wrap ((IntKind.u64.wrap ((IntKind.u64.wrap ((IntKind.u64.wrap (a0_0)) * a1_0)) + (IntKind.u64.wrap ((IntKind.u64.wrap (a0_1)) * (Int.tmod a1_1 65521))))) + (IntKind.u64.wrap (a0_2)))) 65521) 256) % 256) [.int .u8 ((Int.tmod (Int.tmod (IntKind.u64.wrap ((IntKind.u64.wrap ((IntKind.u64.wrap ((IntKind.u64.wrap (a0_0)) * a1_0)) + (IntKind.u64.wrap ((IntKind.u64.wrap (a0_1)) * (Int.tmod a1_1 65521))))) + (IntKind.u64.wrap (a0_2)))) 65521) 256) % 256)] from rfl) (Reps.none _ _)))); intro v270 w8 ho9 hb hg_ hnew_; clear hg_ hnew_; (first | rw [← Ny269.out] at ho9 | (simp only [Int.reduceToNat] at ho9; rw [← Ny269.out] at ho9)); have n0_ := Aside0.mk (Kd.R_lower ho9 (below_size (by repeat (first | (with_reducible first | exact HB.out | apply below_alloc | apply pw_below_drewN | apply below_drew1 | refine below_set ?_ GE267.out | refine below_set ?_ GE268.out) | exact HB.out)))); have n1_ := Aside0.mk (blk_below (g := gb267) (o := .cells #[.int .u32 a0_0, .int .u32 a0_1, .int .u32 a0_2] 24 (0, 0)) (by (with_reducible repeat (first | refine blk_drewN ?_ _ | refine blk_drew ?_ | refine blk_alloc ?_ _)); exact BK267.out) hb); have n2_ := Aside0.mk (blk_below (g := gb268) (o := .cells #[.int .u64 a1_0, .int .u64 a1_1] 34 (0, 0)) (by (with_reducible repeat (first | refine blk_drewN ?_ _ | refine blk_drew ?_ | refine blk_alloc ?_ _)); exact BK268.out) hb); have n3_ := Aside0.mk (below_step (by repeat (first | (with_reducible first | exact HB.out | apply below_alloc | apply pw_below_drewN | apply below_drew1 | refine below_set ?_ GE267.out | refine below_set ?_ GE268.out) | exact HB.out)) hb); clear BK267; clear BK268; clear HB; have HO271 := n0_; have BK267 := n1_; have BK268 := n2_; have HB := n3_; clear n0_ n1_ n2_ n3_; clear hb ho9))
  go_ret
  exact ⟨_, by first | rfl | (simp [errW_none, errW_some] <;> rfl) | (simp [*, errW_none, errW_some] <;> rfl), by (with_reducible repeat (first | apply Kd.R_alloc | apply Kd.R_drewN | apply Kd.R_drew)); exact HO271.out, by repeat (first | (with_reducible first | exact HB.out | apply below_alloc | apply pw_below_drewN | apply below_drew1 | refine below_set ?_ GE267.out | refine below_set ?_ GE268.out) | exact HB.out)⟩
def spec_NodeHashes.l0 : Nat → List (List Int) → List (S34) → Int → Int → Int → Int → Int → Option ((List (List Int)))
  | 0, _, _, _, _, _, _, _ => none
  | k + 1, x5, x9, x10, x11, x273000, x273001, x273002 => if x11 < x10 then (if 0 ≤ x11 then (if x11 < (x9.length : Int) then ((spec_NodeHash.f x273000 x273001 x273002 ((rd_T34 x9 x11).f0) ((rd_T34 x9 x11).f1)).bind fun t278 => (if x5.length < 5864062014805 then (spec_NodeHashes.l0 k (x5 ++ [t278]) x9 x10 (wrap64 (x11 + 1)) x273000 x273001 x273002) else (none))) else (none)) else (none)) else (some x5)
def spec_NodeHashes.f (k : Nat) (a0_0 : Int) (a0_1 : Int) (a0_2 : Int) (l1 : List (S34)) : Option ((List (List Int))) := spec_NodeHashes.l0 k (([] : List (List Int))) l1 (l1.length : Int) 0 a0_0 a0_1 a0_2
theorem spec_NodeHashes.mono_l : ∀ k, (∀ y0 y1 y2 y3 y4 y5 y6, LeO (spec_NodeHashes.l0 k y0 y1 y2 y3 y4 y5 y6) (spec_NodeHashes.l0 (k + 1) y0 y1 y2 y3 y4 y5 y6))
  | 0 => fun _ _ _ _ _ _ _ r h => by simp [spec_NodeHashes.l0] at h
  | k + 1 => by
    have ih0 := spec_NodeHashes.mono_l k
    · intro y0 y1 y2 y3 y4 y5 y6
      unfold spec_NodeHashes.l0
      repeat' first
      | (with_reducible exact ih0 _ _ _ _ _ _ _)
      | (with_reducible exact LeO.refl _)
      | (with_reducible exact LeO.none _)
      | (with_reducible refine LeO.ite ?_ ?_)
      | (with_reducible refine LeO.bind ?_ (fun _ => ?_))
      | exact ih0 _ _ _ _ _ _ _
      | exact LeO.none _
      | refine LeO.ite ?_ ?_
      | refine LeO.bind ?_ (fun _ => ?_)
theorem spec_NodeHashes.mono : ∀ a0 a1 a2 a3 k, LeO (spec_NodeHashes.f k a0 a1 a2 a3) (spec_NodeHashes.f (k + 1) a0 a1 a2 a3) := by
  intro a0 a1 a2 a3 k
  have ih0 := spec_NodeHashes.mono_l k
  unfold spec_NodeHashes.f
  repeat' first
      | (with_reducible exact ih0 _ _ _ _ _ _ _)
      | (with_reducible exact LeO.refl _)
      | (with_reducible exact LeO.none _)
      | (with_reducible refine LeO.ite ?_ ?_)
      | (with_reducible refine LeO.bind ?_ (fun _ => ?_))
      | exact ih0 _ _ _ _ _ _ _
      | exact LeO.none _
      | refine LeO.ite ?_ ?_
      | refine LeO.bind ?_ (fun _ => ?_)
set_option maxHeartbeats 8000000 in
set_option maxRecDepth 100000 in
theorem spec_NodeHashes.calls (k : Nat) (a0_0 : Int) (a0_1 : Int) (a0_2 : Int) (A1 : Option Addr) (c1 : Nat) (l1 : List (S34)) (r : List (List Int)) (w : World) (hr1 : Kd.C k34 w A1 l1.length l1) (hc1 : l1.length ≤ c1) (h : spec_NodeHashes.f k a0_0 a0_1 a0_2 l1 = some r) :
    Calls Tryf.prog 13 #[.agg #[.int .u32 a0_0, .int .u32 a0_1, .int .u32 a0_2], .slice A1 l1.length c1] w fun e w' => ∃ v0_ : Value, e = .returned (v0_) ∧ Kd.S (Kd.slice 5 (Kd.int .u8)) 26 w' w.heap.size (fun _ => True) v0_ r ∧ Below w.heap.size w w' := by
  have hu24 := Tryf.underlying24
  have hu34 := Tryf.underlying34
  have HR1 := Aside0.mk hr1
  have HC1 := Aside0.mk hc1
  clear hr1 hc1
  have HB := Aside0.mk (Below.refl w.heap.size w)
  have H : (spec_NodeHashes.l0 k (([] : List (List Int))) l1 (l1.length : Int) 0 a0_0 a0_1 a0_2) = some r := h
  clear h
  obtain ⟨y273, hy273⟩ : ∃ y_ : List (List Int), y_ = (([] : List (List Int))) := ⟨_, rfl⟩
  replace H : (spec_NodeHashes.l0 k y273 l1 (l1.length : Int) 0 a0_0 a0_1 a0_2) = some r := by first | (rw [hy273]; with_reducible exact H) | (have H2_ := (Option.bind_some _ _).symm.trans H; rw [hy273]; with_reducible exact H2_) | (have H2_ := (Option.bind_some _ _).symm.trans H; with_reducible exact H2_) | with_reducible exact H | (rw [hy273]; exact H) | exact H
  have Ny273 := Aside0.mk hy273
  clear hy273
  have H' := Aside0.mk H
  clear H
  go_enter Tryf.func13, Tryf.ntmps13
  go_wp2_with (first | ((with_reducible refine gate_dst (N := 2) rfl ?_); refine box_event ?hg (N := 2) ?hd (cs := #[.int .u32 a0_0, .int .u32 a0_1, .int .u32 a0_2]) (t := 24) ?hr ?_; (case hd => rfl); (case hg => rfl); (case hr => first | (go_simp; done) | (go_simp; rfl)); intro gb272 hg w3 hbox hb; have n0_ := Aside0.mk (below_step (by repeat (first | (with_reducible first | exact HB.out | apply below_alloc | apply pw_below_drewN | apply below_drew1) | exact HB.out)) hb); have n1_ := Aside0.mk (hbox); have n2_ := Aside0.mk ((by rw [hg]; exact (below_size (by repeat (first | (with_reducible first | exact HB.out | apply below_alloc | apply pw_below_drewN | apply below_drew1) | exact HB.out))) : w.heap.size ≤ gb272)); have n3_ := Aside0.mk ((by rw [hg]; exact (below_size (by repeat (first | (with_reducible first | exact HB.out | apply below_alloc | apply pw_below_drewN | apply below_drew1) | exact HB.out))) : w.heap.size ≤ gb272)); clear HB; have HB := n0_; have BK272 := n1_; have GW272 := n2_; have GE272 := n3_; clear n0_ n1_ n2_ n3_; clear hb hbox hg) | ((with_reducible refine gate_dst (N := 8) rfl ?_); refine Kd.S_lit (Kd.slice 5 (Kd.int .u8)) _ 26 ?hg (N := 8) ?hd (xs := ([] : List (List Int))) (inner := []) (ok := fun _ => True) (okp := fun _ => True) ?hr ?hp (fun _ hk => hk) trivial (Below.refl _ _) (Nat.le_refl _) (by simp) ?_; (case hd => rfl); (case hg => rfl); (case hr => first | (go_simp; done) | (go_simp; rfl)); (case hp => exact (Reps.none _ _)); intro v274 w4 ho5 hb hg_ hnew_; clear hg_ hnew_; (first | rw [← Ny273.out] at ho5 | (simp only [Int.reduceToNat] at ho5; rw [← Ny273.out] at ho5)); have n0_ := Aside0.mk (Kd.S_lower ho5 (below_size (by repeat (first | (with_reducible first | exact HB.out | apply below_alloc | apply pw_below_drewN | apply below_drew1 | refine below_set ?_ GE272.out) | exact HB.out)))); have n1_ := Aside0.mk (blk_below (g := gb272) (o := .cells #[.int .u32 a0_0, .int .u32 a0_1, .int .u32 a0_2] 24 (0, 0)) (by (with_reducible repeat (first | refine blk_drewN ?_ _ | refine blk_drew ?_ | refine blk_alloc ?_ _)); exact BK272.out) hb); have n2_ := Aside0.mk (below_step (by repeat (first | (with_reducible first | exact HB.out | apply below_alloc | apply pw_below_drewN | apply below_drew1 | refine below_set ?_ GE272.out) | exact HB.out)) hb); clear BK272; clear HB; have HO275 := n0_; have BK272 := n1_; have HB := n2_; clear n0_ n1_ n2_; clear hb ho5))
  go_loopg [5, 11] k (fun kq v5 v11 w' => ∃ (x5_1 : List (List Int)) (x11_1 : Int), v11 = .int .i64 x11_1 ∧ Aside0 (spec_NodeHashes.l0 kq x5_1 l1 (l1.length : Int) x11_1 a0_0 a0_1 a0_2 = some r) ∧ Aside0 (kq ≤ k) ∧ Aside0 (Kd.S (Kd.slice 5 (Kd.int .u8)) 26 w' w.heap.size (fun _ => True) v5 x5_1) ∧ Aside0 (w'.heap[gb272]? = some (.cells #[.int .u32 a0_0, .int .u32 a0_1, .int .u32 a0_2] 24 (0, 0))) ∧ Aside0 (Below w.heap.size w w'))
  case atStart => exact ⟨(y273), (0), (by first | rfl | (simp; done) | (simp [*]; done)), H', ⟨Nat.le_refl _⟩, ⟨by (with_reducible repeat (first | apply Kd.S_alloc | apply Kd.S_drewN | apply Kd.S_drew)); exact HO275.out⟩, ⟨by (with_reducible repeat (first | refine blk_drewN ?_ _ | refine blk_drew ?_ | refine blk_alloc ?_ _)); exact BK272.out⟩, ⟨by repeat (first | (with_reducible first | exact HB.out | apply below_alloc | apply pw_below_drewN | apply below_drew1 | refine below_set ?_ GE272.out) | exact HB.out)⟩⟩
  case round =>
    clear H'
    try clear c1
    try clear p2
    obtain ⟨x5_1, x11_1, rfl, HA, HK1, HO_5, BK272, HB⟩ := hrel
    cases gk with
    | zero => exact absurd HA.out (by simp [spec_NodeHashes.l0])
    | succ k1 =>
      have H := HA.out
      clear HA
      simp only [spec_NodeHashes.l0] at H
      by_cases c6 : x11_1 < (l1.length : Int)
      · rw [if_pos c6] at H
        have c6b0 : decide (x11_1 < (l1.length : Int)) = true := decide_eq_true c6
        clear c6
        by_cases c7 : 0 ≤ x11_1
        · rw [if_pos c7] at H
          have c7b0 : decide (0 ≤ x11_1) = true := decide_eq_true c7
          clear c7
          by_cases c8 : x11_1 < (l1.length : Int)
          · rw [if_pos c8] at H
            have c8b0 : decide (x11_1 < (l1.length : Int)) = true := decide_eq_true c8
            clear c8
            replace H := Option.bind_eq_some_iff.mp H
            obtain ⟨t278, A90, H⟩ := H
            replace H : (if x5_1.length < 5864062014805 then (spec_NodeHashes.l0 k1 (x5_1 ++ [t278]) l1 (l1.length : Int) (wrap64 (x11_1 + 1)) a0_0 a0_1 a0_2) else (none)) = some r := H
            have A9 := Aside0.mk A90
            clear A90
            by_cases c10 : x5_1.length < 5864062014805
            · rw [if_pos c10] at H
              have LMc10 := Aside0.mk c10
              clear c10
              obtain ⟨y281, hy281⟩ : ∃ y_ : List (List Int), y_ = (x5_1 ++ [t278]) := ⟨_, rfl⟩
              replace H : (spec_NodeHashes.l0 k1 y281 l1 (l1.length : Int) (wrap64 (x11_1 + 1)) a0_0 a0_1 a0_2) = some r := by first | (rw [hy281]; with_reducible exact H) | (have H2_ := (Option.bind_some _ _).symm.trans H; rw [hy281]; with_reducible exact H2_) | (have H2_ := (Option.bind_some _ _).symm.trans H; with_reducible exact H2_) | with_reducible exact H | (rw [hy281]; exact H) | exact H
              have Ny281 := Aside0.mk hy281
              clear hy281
              have H' := Aside0.mk H
              clear H
              have p276 : 0 ≤ (x11_1 : Int) := of_decide_eq_true (by first | (with_reducible assumption) | assumption)
              have q276 : x11_1 < (l1.length : Int) := of_decide_eq_true (by first | (with_reducible assumption) | assumption)
              obtain ⟨ad276, e276, hx276_0, hx276_1⟩ := at_T34 HR1.out x11_1 p276 q276
              cases e276
              replace hx276_0 := (HB.out.cell (World.block_lt_of_cell? w _ hx276_0)).trans hx276_0
              replace hx276_1 := (HB.out.cell (World.block_lt_of_cell? w _ hx276_1)).trans hx276_1
              replace p276 := eq_true p276
              replace q276 := eq_true q276
              go_wp2_with (first | ((with_reducible refine gate_dst (N := 7) rfl ?_); refine box_event ?hg (N := 7) ?hd (cs := #[.int .u64 0, .int .u64 0]) (t := 34) ?hr ?_; (case hd => rfl); (case hg => rfl); (case hr => first | (go_simp; done) | (go_simp; rfl)); intro gb277 hg w11 hbox hb; have n0_ := Aside0.mk (Kd.S_below (by (with_reducible repeat (first | apply Kd.S_alloc | apply Kd.S_drewN | apply Kd.S_drew)); exact HO_5.out) hb); have n1_ := Aside0.mk (blk_below (g := gb272) (o := .cells #[.int .u32 a0_0, .int .u32 a0_1, .int .u32 a0_2] 24 (0, 0)) (by (with_reducible repeat (first | refine blk_drewN ?_ _ | refine blk_drew ?_ | refine blk_alloc ?_ _)); exact BK272.out) hb); have n2_ := Aside0.mk (below_step (by repeat (first | (with_reducible first | exact HB.out | apply below_alloc | apply pw_below_drewN | apply below_drew1 | refine below_set ?_ GE272.out) | exact HB.out)) hb); have n3_ := Aside0.mk (hbox); have n4_ := Aside0.mk ((by rw [hg]; exact (below_size (by repeat (first | (with_reducible first | exact HB.out | apply below_alloc | apply pw_below_drewN | apply below_drew1 | refine below_set ?_ GE272.out) | exact HB.out))) : w.heap.size ≤ gb277)); have n5_ := Aside0.mk ((by rw [hg]; exact (below_size (by repeat (first | (with_reducible first | exact HB.out | apply below_alloc | apply pw_below_drewN | apply below_drew1 | refine below_set ?_ GE272.out) | exact HB.out))) : w.heap.size ≤ gb277)); have n6_ := Aside0.mk ((by rw [hg]; exact Nat.ne_of_lt (blk_lt (g := gb272) (o := .cells #[.int .u32 a0_0, .int .u32 a0_1, .int .u32 a0_2] 24 (0, 0)) (by (with_reducible repeat (first | refine blk_drewN ?_ _ | refine blk_drew ?_ | refine blk_alloc ?_ _)); exact BK272.out)) : gb272 ≠ gb277)); have n7_ := Aside0.mk ((by rw [hg]; exact Nat.ne_of_gt (blk_lt (g := gb272) (o := .cells #[.int .u32 a0_0, .int .u32 a0_1, .int .u32 a0_2] 24 (0, 0)) (by (with_reducible repeat (first | refine blk_drewN ?_ _ | refine blk_drew ?_ | refine blk_alloc ?_ _)); exact BK272.out)) : gb277 ≠ gb272)); clear HO_5; clear BK272; clear HB; have HO_5 := n0_; have BK272 := n1_; have HB := n2_; have BK277 := n3_; have GW277 := n4_; have GE277 := n5_; have NB272_277 := n6_; have NB277_272 := n7_; clear n0_ n1_ n2_ n3_ n4_ n5_ n6_ n7_; clear hb hbox hg; have hnb12 := NB277_272.out; have hnc12 := NB272_277.out; have hcz13_0 : w11.cell? ⟨gb277, 0, none⟩ = some (.int .u64 0) := (blk_cell BK277.out 0).trans rfl; have hcz13_1 : w11.cell? ⟨gb277, 1, none⟩ = some (.int .u64 0) := (blk_cell BK277.out 1).trans rfl; have hfz13_0 := blk_frozen BK277.out 0; have hfz13_1 := blk_frozen BK277.out 1; have hcz14_0 : w11.cell? ⟨gb272, 0, none⟩ = some (.int .u32 a0_0) := (blk_cell BK272.out 0).trans rfl; have hcz14_1 : w11.cell? ⟨gb272, 1, none⟩ = some (.int .u32 a0_1) := (blk_cell BK272.out 1).trans rfl; have hcz14_2 : w11.cell? ⟨gb272, 2, none⟩ = some (.int .u32 a0_2) := (blk_cell BK272.out 2).trans rfl; have hfz14_0 := blk_frozen BK272.out 0; have hfz14_1 := blk_frozen BK272.out 1; have hfz14_2 := blk_frozen BK272.out 2) | ((with_reducible refine gate_callee (f := 16) rfl ?_); refine goesL_ (some 18) rfl rfl Tryf.func16 (by kernel_rfl) rfl #[.agg #[.int .u32 a0_0, .int .u32 a0_1, .int .u32 a0_2], .agg #[.int .u64 ((rd_T34 l1 x11_1).f0), .int .u64 ((rd_T34 l1 x11_1).f1)]] rfl (by (try simp only [List.map_toArray, List.map_cons, List.map_nil]); first | done | rfl | (simp only [List.length_drop, List.length_take]; rfl)) ?_; (with_reducible refine (spec_NodeHash.calls a0_0 a0_1 a0_2 ((rd_T34 l1 x11_1).f0) ((rd_T34 l1 x11_1).f1) t278 _ A9.out).mono ?_); rintro e w15 ⟨v279, rfl, ho0, hb⟩; refine ⟨_, rfl, ?_⟩; have n0_ := Aside0.mk (Kd.S_elder' (by (with_reducible repeat (first | apply Kd.S_alloc | apply Kd.S_drewN | apply Kd.S_drew)); exact (Kd.S_mono (Kd.S_far (p := ⟨gb277, 1, none⟩) (Kd.S_far (p := ⟨gb277, 0, none⟩) (Kd.S_types HO_5.out BK277.out (by decide)) (fun _ hk => hk.2) (.int .u64 ((rd_T34 l1 x11_1).f0))) (fun _ hk => hk.2) (.int .u64 ((rd_T34 l1 x11_1).f1))) (fun _ h_ => h_.1))) (Kd.R_base ho0) hb); have n1_ := Aside0.mk (Kd.R_lower ho0 (below_size (by repeat (first | (with_reducible first | exact HB.out | apply below_alloc | apply pw_below_drewN | apply below_drew1 | refine below_set ?_ GE272.out | refine below_set ?_ GE277.out) | exact HB.out)))); have n2_ := Aside0.mk (blk_below (g := gb272) (o := .cells #[.int .u32 a0_0, .int .u32 a0_1, .int .u32 a0_2] 24 (0, 0)) (by (with_reducible repeat (first | refine blk_drewN ?_ _ | refine blk_drew ?_ | refine blk_alloc ?_ _)); refine blk_far ?_ NB272_277.out _; (with_reducible repeat (first | refine blk_drewN ?_ _ | refine blk_drew ?_ | refine blk_alloc ?_ _)); refine blk_far ?_ NB272_277.out _; (with_reducible repeat (first | refine blk_drewN ?_ _ | refine blk_drew ?_ | refine blk_alloc ?_ _)); exact BK272.out) hb); have n3_ := Aside0.mk (blk_below (g := gb277) (o := .cells #[.int .u64 ((rd_T34 l1 x11_1).f0), .int .u64 ((rd_T34 l1 x11_1).f1)] 34 (0, 0)) (by (with_reducible repeat (first | refine blk_drewN ?_ _ | refine blk_drew ?_ | refine blk_alloc ?_ _)); refine blk_put (cs := #[.int .u64 ((rd_T34 l1 x11_1).f0), .int .u64 0]) ?_ 1 _ rfl; (with_reducible repeat (first | refine blk_drewN ?_ _ | refine blk_drew ?_ | refine blk_alloc ?_ _)); refine blk_put (cs := #[.int .u64 0, .int .u64 0]) ?_ 0 _ rfl; (with_reducible repeat (first | refine blk_drewN ?_ _ | refine blk_drew ?_ | refine blk_alloc ?_ _)); exact BK277.out) hb); have n4_ := Aside0.mk (below_step (by repeat (first | (with_reducible first | exact HB.out | apply below_alloc | apply pw_below_drewN | apply below_drew1 | refine below_set ?_ GE272.out | refine below_set ?_ GE277.out) | exact HB.out)) hb); clear HO_5; clear BK272; clear BK277; clear HB; have HO_5 := n0_; have HO280 := n1_; have BK272 := n2_; have BK277 := n3_; have HB := n4_; clear n0_ n1_ n2_ n3_ n4_; (try clear hb); (try clear hb2); (try clear hk); (try clear hi); (try clear ho0); obtain ⟨Ao17, co17, eo17⟩ := Kd.R_slice HO280.out; subst eo17) | ((with_reducible refine gate_builtin (b := .append) (xs := #[.tmp 15, .tmp 19]) rfl ?_); at_builtin; refine Kd.S_append (Kd.slice 5 (Kd.int .u8)) (w0 := w) w.heap.size rfl (.tmp 15) (.tmp 19) 44 26 (.slice none 0 0) 24 rfl Tryf.underlying44 info26 rfl (by decide) (by omega) u5 x5_1 t278 [.slice Ao17 t278.length co17] (fun _ => True) (fun k_ => some k_ = (.slice Ao17 t278.length co17 : Value).ownBlock) rfl rfl ?aP (fun k_ hk_ => ((Kd.R_mono (ok' := fun k_ => ((fun _ => True)) k_ ∧ some k_ ≠ (u5 : Value).ownBlock) (Kd.R_apart' (HO280.out) (Kd.S_typed HO_5.out) (by decide)) (fun k_ hk => ⟨trivial, hk.2⟩))).1 k_ hk_.symm) ?aF ?aO ?aB ?aS ?aL ?_; (case aP => exact Kd.M_row (Kd.R_mono (Kd.R_tight rfl (Kd.R_mono (ok' := fun k_ => ((fun _ => True)) k_ ∧ some k_ ≠ (u5 : Value).ownBlock) (Kd.R_apart' (HO280.out) (Kd.S_typed HO_5.out) (by decide)) (fun k_ hk => ⟨trivial, hk.2⟩))) (fun _ h_ => h_))); (case aB => exact (by repeat (first | (with_reducible first | exact HB.out | apply below_alloc | apply pw_below_drewN | apply below_drew1 | refine below_set ?_ GE272.out | refine below_set ?_ GE277.out) | exact HB.out))); (case aF => exact (fun _ _ => trivial)); (case aO => exact (by (with_reducible repeat (first | apply Kd.S_alloc | apply Kd.S_drewN | apply Kd.S_drew)); exact Kd.S_mono HO_5.out (fun k_ hk => ⟨trivial, fun e_ => hk.2 e_⟩))); (case aS => exact (below_size (by repeat (first | (with_reducible first | exact HB.out | apply below_alloc | apply pw_below_drewN | apply below_drew1 | refine below_set ?_ GE272.out | refine below_set ?_ GE277.out) | exact HB.out)))); (case aL => have := LMc10.out; omega); intro v282 w16 ho hb hg hat; rw [← Ny281.out] at ho; have n0_ := Aside0.mk (blk_grown (g := gb272) (o := .cells #[.int .u32 a0_0, .int .u32 a0_1, .int .u32 a0_2] 24 (0, 0)) (by (with_reducible repeat (first | refine blk_drewN ?_ _ | refine blk_drew ?_ | refine blk_alloc ?_ _)); exact BK272.out) hg (Kd.S_ne HO_5.out BK272.out (by decide))); have n1_ := Aside0.mk (blk_grown (g := gb277) (o := .cells #[.int .u64 ((rd_T34 l1 x11_1).f0), .int .u64 ((rd_T34 l1 x11_1).f1)] 34 (0, 0)) (by (with_reducible repeat (first | refine blk_drewN ?_ _ | refine blk_drew ?_ | refine blk_alloc ?_ _)); exact BK277.out) hg (Kd.S_ne HO_5.out BK277.out (by decide))); have n2_ := Aside0.mk (hb); have n3_ := Aside0.mk (ho); clear BK272; clear BK277; clear HB; clear HO_5; clear HO280; have BK272 := n0_; have BK277 := n1_; have HB := n2_; have HO283 := n3_; clear n0_ n1_ n2_ n3_; clear ho hb hg hat))
              go_roundg k1
              case measure => have := HK1.out; omega
              case rel => exact ⟨(y281), (wrap64 (x11_1 + 1)), (by first | rfl | (simp; done) | (simp [*]; done)), H', ⟨by have := HK1.out; omega⟩, ⟨by (with_reducible repeat (first | apply Kd.S_alloc | apply Kd.S_drewN | apply Kd.S_drew)); exact HO283.out⟩, ⟨by (with_reducible repeat (first | refine blk_drewN ?_ _ | refine blk_drew ?_ | refine blk_alloc ?_ _)); exact BK272.out⟩, ⟨by repeat (first | (with_reducible first | exact HB.out | apply below_alloc | apply pw_below_drewN | apply below_drew1 | refine below_set ?_ GE272.out | refine below_set ?_ GE277.out) | exact HB.out)⟩⟩
            · rw [if_neg c10] at H
              exact absurd H (by simp)
          · rw [if_neg c8] at H
            exact absurd H (by simp)
        · rw [if_neg c7] at H
          exact absurd H (by simp)
      · rw [if_neg c6] at H
        have c6b0 : decide (x11_1 < (l1.length : Int)) = false := decide_eq_false c6
        clear c6
        obtain rfl := Option.some.inj H
        go_wp2
        go_ret
        exact ⟨_, by first | rfl | (simp [errW_none, errW_some] <;> rfl) | (simp [*, errW_none, errW_some] <;> rfl), by (with_reducible repeat (first | apply Kd.S_alloc | apply Kd.S_drewN | apply Kd.S_drew)); exact HO_5.out, by repeat (first | (with_reducible first | exact HB.out | apply below_alloc | apply pw_below_drewN | apply below_drew1 | refine below_set ?_ GE272.out) | exact HB.out)⟩
end Go.Proofs.YtdjfagknffknjaaFmt.Q
