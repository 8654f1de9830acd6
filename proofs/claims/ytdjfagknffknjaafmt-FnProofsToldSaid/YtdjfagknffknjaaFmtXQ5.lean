/- Contracts of this program's functions, as a turned copy of the kit's printer wrote them; conditions: as each theorem states. -/
import Derived.Test.YtdjfagknffknjaaFmtXQ0
import Derived.Test.YtdjfagknffknjaaFmtXQ3
import Derived.Test.YtdjfagknffknjaaFmtXQ4

namespace Go.Proofs.YtdjfagknffknjaaFmt.Q
open Go.RowKit Go.Proofs.YtdjfagknffknjaaFmtW.PrintWords Go.Proofs.YtdjfagknffknjaaFmtW.PrintLast Go.Proofs.YtdjfagknffknjaaFmtW.PrintMore
attribute [local go_sem] max2_int min2_int max_two min_two max_three min_three max_four min_four   -- for this text's walks alone
set_option linter.unusedVariables false
set_option linter.unusedSimpArgs false
mutual
def spec_Planned.j0 : Nat → Bool → List (S34) → Int → Int → Int → Int → Option ((List (S60)) × Bool)
  | 0, _, _, _, _, _, _ => none
  | k + 1, x27, x213000, x213001, x213002, x213003, x213004 => if x27 = true then (some (([] : List (S60)), false)) else (spec_Planned.l0 k (([] : List (S60))) 0 x213000 x213001 x213002 x213003 x213004)
def spec_Planned.l0 : Nat → List (S60) → Int → List (S34) → Int → Int → Int → Int → Option ((List (S60)) × Bool)
  | 0, _, _, _, _, _, _, _ => none
  | k + 1, x4, x5, x213000, x213001, x213002, x213003, x213004 => if x5 < (x213000.length : Int) then (if 0 ≤ x5 then ((spec_SpanOf.f ((rd_T34 x213000 x5).f0) ((rd_T34 x213000 x5).f1)).bind fun bt217 => (if x5 = x213003 then (spec_Planned.j2 k x4 x5 bt217.2.2 (decide (x213003 < x213004)) x213000 x213001 x213002 x213003 x213004 bt217.1 bt217.2.1) else (spec_Planned.j2 k x4 x5 bt217.2.2 false x213000 x213001 x213002 x213003 x213004 bt217.1 bt217.2.1))) else (none)) else (some (x4, true))
def spec_Planned.j2 : Nat → List (S60) → Int → Bool → Bool → List (S34) → Int → Int → Int → Int → Int → Int → Option ((List (S60)) × Bool)
  | 0, _, _, _, _, _, _, _, _, _, _, _ => none
  | k + 1, x4, x5, x7, x55, x213000, x213001, x213002, x213003, x213004, x221000, x221001 => if x55 = true then (if 0 ≤ x213003 then (if x213003 ≤ x213004 then (if x213004 ≤ (x213000.length : Int) then ((spec_Joined.f k ((x213000.take (x213004 : Int).toNat).drop (x213003 : Int).toNat)).bind fun bt225 => ((spec_SpanOf.f x213001 x213002).bind fun bt228 => (if bt225.2.2 = true then (if bt228.2.2 = true then (if bt228.1 = bt225.1 then (if bt228.2.1 ≥ bt225.2.1 then (if x4.length < 8796093022208 then (spec_Planned.l0 k (x4 ++ [(⟨bt225.1, bt225.2.1⟩ : S60)]) (wrap64 ((wrap64 (x213004 - 1)) + 1)) x213000 x213001 x213002 x213003 x213004) else (none)) else (some (([] : List (S60)), false))) else (some (([] : List (S60)), false))) else (some (([] : List (S60)), false))) else (some (([] : List (S60)), false))))) else (none)) else (none)) else (none)) else (if x7 = true then (if x4.length < 8796093022208 then (spec_Planned.l0 k (x4 ++ [(⟨x221000, x221001⟩ : S60)]) (wrap64 (x5 + 1)) x213000 x213001 x213002 x213003 x213004) else (none)) else (some (([] : List (S60)), false)))
end
def spec_Planned.f (k : Nat) (l0_0 : List (S34)) (a0_1 : Int) (a0_2 : Int) (a0_3 : Int) (a0_4 : Int) : Option ((List (S60)) × Bool) := if a0_3 < 0 then (spec_Planned.j0 k true l0_0 a0_1 a0_2 a0_3 a0_4) else (if a0_3 > a0_4 then (spec_Planned.j0 k true l0_0 a0_1 a0_2 a0_3 a0_4) else (spec_Planned.j0 k (decide (a0_4 > (l0_0.length : Int))) l0_0 a0_1 a0_2 a0_3 a0_4))
theorem spec_Planned.mono_l : ∀ k, (∀ y0 y1 y2 y3 y4 y5, LeO (spec_Planned.j0 k y0 y1 y2 y3 y4 y5) (spec_Planned.j0 (k + 1) y0 y1 y2 y3 y4 y5)) ∧ (∀ y0 y1 y2 y3 y4 y5 y6, LeO (spec_Planned.l0 k y0 y1 y2 y3 y4 y5 y6) (spec_Planned.l0 (k + 1) y0 y1 y2 y3 y4 y5 y6)) ∧ (∀ y0 y1 y2 y3 y4 y5 y6 y7 y8 y9 y10, LeO (spec_Planned.j2 k y0 y1 y2 y3 y4 y5 y6 y7 y8 y9 y10) (spec_Planned.j2 (k + 1) y0 y1 y2 y3 y4 y5 y6 y7 y8 y9 y10))
  | 0 => ⟨fun _ _ _ _ _ _ r h => by simp [spec_Planned.j0] at h, fun _ _ _ _ _ _ _ r h => by simp [spec_Planned.l0] at h, fun _ _ _ _ _ _ _ _ _ _ _ r h => by simp [spec_Planned.j2] at h⟩
  | k + 1 => by
    obtain ⟨ih0, ih1, ih2⟩ := spec_Planned.mono_l k
    refine ⟨?_, ?_, ?_⟩
    · intro y0 y1 y2 y3 y4 y5
      unfold spec_Planned.j0
      repeat' first
      | (with_reducible exact ih0 _ _ _ _ _ _)
      | (with_reducible exact ih1 _ _ _ _ _ _ _)
      | (with_reducible exact ih2 _ _ _ _ _ _ _ _ _ _ _)
      | (with_reducible exact spec_Joined.mono _ _)
      | (with_reducible exact LeO.refl _)
      | (with_reducible exact LeO.none _)
      | (with_reducible refine LeO.ite ?_ ?_)
      | (with_reducible refine LeO.bind ?_ (fun _ => ?_))
      | exact ih0 _ _ _ _ _ _
      | exact ih1 _ _ _ _ _ _ _
      | exact ih2 _ _ _ _ _ _ _ _ _ _ _
      | exact spec_Joined.mono _ _
      | exact LeO.none _
      | refine LeO.ite ?_ ?_
      | refine LeO.bind ?_ (fun _ => ?_)
    · intro y0 y1 y2 y3 y4 y5 y6
      unfold spec_Planned.l0
      repeat' first
      | (with_reducible exact ih0 _ _ _ _ _ _)
      | (with_reducible exact ih1 _ _ _ _ _ _ _)
      | (with_reducible exact ih2 _ _ _ _ _ _ _ _ _ _ _)
      | (with_reducible exact spec_Joined.mono _ _)
      | (with_reducible exact LeO.refl _)
      | (with_reducible exact LeO.none _)
      | (with_reducible refine LeO.ite ?_ ?_)
      | (with_reducible refine LeO.bind ?_ (fun _ => ?_))
      | exact ih0 _ _ _ _ _ _
      | exact ih1 _ _ _ _ _ _ _
      | exact ih2 _ _ _ _ _ _ _ _ _ _ _
      | exact spec_Joined.mono _ _
      | exact LeO.none _
      | refine LeO.ite ?_ ?_
      | refine LeO.bind ?_ (fun _ => ?_)
    · intro y0 y1 y2 y3 y4 y5 y6 y7 y8 y9 y10
      unfold spec_Planned.j2
      repeat' first
      | (with_reducible exact ih0 _ _ _ _ _ _)
      | (with_reducible exact ih1 _ _ _ _ _ _ _)
      | (with_reducible exact ih2 _ _ _ _ _ _ _ _ _ _ _)
      | (with_reducible exact spec_Joined.mono _ _)
      | (with_reducible exact LeO.refl _)
      | (with_reducible exact LeO.none _)
      | (with_reducible refine LeO.ite ?_ ?_)
      | (with_reducible refine LeO.bind ?_ (fun _ => ?_))
      | exact ih0 _ _ _ _ _ _
      | exact ih1 _ _ _ _ _ _ _
      | exact ih2 _ _ _ _ _ _ _ _ _ _ _
      | exact spec_Joined.mono _ _
      | exact LeO.none _
      | refine LeO.ite ?_ ?_
      | refine LeO.bind ?_ (fun _ => ?_)
theorem spec_Planned.mono : ∀ a0 a1 a2 a3 a4 k, LeO (spec_Planned.f k a0 a1 a2 a3 a4) (spec_Planned.f (k + 1) a0 a1 a2 a3 a4) := by
  intro a0 a1 a2 a3 a4 k
  obtain ⟨ih0, ih1, ih2⟩ := spec_Planned.mono_l k
  unfold spec_Planned.f
  repeat' first
      | (with_reducible exact ih0 _ _ _ _ _ _)
      | (with_reducible exact ih1 _ _ _ _ _ _ _)
      | (with_reducible exact ih2 _ _ _ _ _ _ _ _ _ _ _)
      | (with_reducible exact spec_Joined.mono _ _)
      | (with_reducible exact LeO.refl _)
      | (with_reducible exact LeO.none _)
      | (with_reducible refine LeO.ite ?_ ?_)
      | (with_reducible refine LeO.bind ?_ (fun _ => ?_))
      | exact ih0 _ _ _ _ _ _
      | exact ih1 _ _ _ _ _ _ _
      | exact ih2 _ _ _ _ _ _ _ _ _ _ _
      | exact spec_Joined.mono _ _
      | exact LeO.none _
      | refine LeO.ite ?_ ?_
      | refine LeO.bind ?_ (fun _ => ?_)
set_option maxHeartbeats 8000000 in
set_option maxRecDepth 100000 in
theorem spec_Planned.calls (k : Nat) (A0_0 : Option Addr) (c0_0 : Nat) (l0_0 : List (S34)) (a0_1 : Int) (a0_2 : Int) (a0_3 : Int) (a0_4 : Int) (r1 : List (S60)) (r2 : Bool) (w : World) (hr0_0 : Kd.C k34 w A0_0 l0_0.length l0_0) (hc0_0 : l0_0.length ≤ c0_0) (h : spec_Planned.f k l0_0 a0_1 a0_2 a0_3 a0_4 = some (r1, r2)) :
    Calls Tryf.prog 9 #[.agg #[.slice A0_0 l0_0.length c0_0, .int .u64 a0_1, .int .u64 a0_2, .int .i64 a0_3, .int .i64 a0_4]] w fun e w' => ∃ v0_ : Value, e = .returned (.tuple #[v0_, .bool r2]) ∧ Kd.R k60 60 w' w.heap.size (fun _ => True) v0_ r1 ∧ Below w.heap.size w w' := by
  have hu36 := Tryf.underlying36
  have hu34 := Tryf.underlying34
  have hu60 := Tryf.underlying60
  have HR0_0 := Aside0.mk hr0_0
  have HC0_0 := Aside0.mk hc0_0
  clear hr0_0 hc0_0
  have HB := Aside0.mk (Below.refl w.heap.size w)
  have H : (if a0_3 < 0 then (spec_Planned.j0 k true l0_0 a0_1 a0_2 a0_3 a0_4) else (if a0_3 > a0_4 then (spec_Planned.j0 k true l0_0 a0_1 a0_2 a0_3 a0_4) else (spec_Planned.j0 k (decide (a0_4 > (l0_0.length : Int))) l0_0 a0_1 a0_2 a0_3 a0_4))) = some (r1, r2) := h
  clear h
  have HC2 := Aside0.mk H
  clear H
  go_enter Tryf.func9, Tryf.ntmps9
  go_upto_region 1 with (first | ((with_reducible refine gate_dst (N := 1) rfl ?_); (try (refine gate_guard (by rfl) ?_; dsimp only)); refine box_event ?hg (N := 1) ?hd (cs := #[.slice A0_0 l0_0.length c0_0, .int .u64 a0_1, .int .u64 a0_2, .int .i64 a0_3, .int .i64 a0_4]) (t := 36) ?hr ?_; (case hd => rfl); (case hg => rfl); (case hr => first | (go_simp; done) | (go_simp; rfl)); intro gb212 hg w3 hbox hb; have n0_ := Aside0.mk (below_step (by repeat (first | (with_reducible first | exact HB.out | apply below_alloc | apply pw_below_drewN | apply below_drew1) | exact HB.out)) hb); have n1_ := Aside0.mk (hbox); have n2_ := Aside0.mk ((by rw [hg]; exact (below_size (by repeat (first | (with_reducible first | exact HB.out | apply below_alloc | apply pw_below_drewN | apply below_drew1) | exact HB.out))) : w.heap.size ≤ gb212)); have n3_ := Aside0.mk ((by rw [hg]; exact (below_size (by repeat (first | (with_reducible first | exact HB.out | apply below_alloc | apply pw_below_drewN | apply below_drew1) | exact HB.out))) : w.heap.size ≤ gb212)); clear HB; have HB := n0_; have BK212 := n1_; have GW212 := n2_; have GE212 := n3_; clear n0_ n1_ n2_ n3_; clear hb hbox hg))
  (try simp only [Act.put, List.setIfInBounds_toArray, List.set_cons_zero, List.set_cons_succ])
  go_cut [27] (fun v27 wc => ∃ (kq : Nat) (x27_1 : Bool), v27 = .bool x27_1 ∧ Aside0 (spec_Planned.j0 kq x27_1 l0_0 a0_1 a0_2 a0_3 a0_4 = some (r1, r2)) ∧ Aside0 (kq ≤ k) ∧ Aside0 (wc.heap[gb212]? = some (.cells #[(.slice A0_0 l0_0.length c0_0), .int .u64 a0_1, .int .u64 a0_2, .int .i64 a0_3, .int .i64 a0_4] 36 (0, 0))) ∧ Aside0 (Below w.heap.size w wc))
  case first =>
    have H := HC2.out
    clear HC2
    by_cases c4 : a0_3 < 0
    · rw [if_pos c4] at H
      have c4b0 : decide (a0_3 < 0) = true := decide_eq_true c4
      clear c4
      (first | rw [c4b0] | (simp only [i64_w, i32_w]; rw [c4b0]) | skip)
      have H' := Aside0.mk H
      clear H
      have hcz5_0 : w3.cell? ⟨gb212, 0, none⟩ = some (.slice A0_0 l0_0.length c0_0) := (blk_cell BK212.out 0).trans rfl
      have hcz5_1 : w3.cell? ⟨gb212, 1, none⟩ = some (.int .u64 a0_1) := (blk_cell BK212.out 1).trans rfl
      have hcz5_2 : w3.cell? ⟨gb212, 2, none⟩ = some (.int .u64 a0_2) := (blk_cell BK212.out 2).trans rfl
      have hcz5_3 : w3.cell? ⟨gb212, 3, none⟩ = some (.int .i64 a0_3) := (blk_cell BK212.out 3).trans rfl
      have hcz5_4 : w3.cell? ⟨gb212, 4, none⟩ = some (.int .i64 a0_4) := (blk_cell BK212.out 4).trans rfl
      have hfz5_0 := blk_frozen BK212.out 0
      have hfz5_1 := blk_frozen BK212.out 1
      have hfz5_2 := blk_frozen BK212.out 2
      have hfz5_3 := blk_frozen BK212.out 3
      have hfz5_4 := blk_frozen BK212.out 4
      go_wp2
      go_meet
      case rel => exact ⟨_, (true), (by first | rfl | (simp; done) | (simp [*]; done)), H', ⟨by first | omega | exact Nat.le_refl _⟩, ⟨by (with_reducible repeat (first | refine blk_drewN ?_ _ | refine blk_drew ?_ | refine blk_alloc ?_ _)); exact BK212.out⟩, ⟨by repeat (first | (with_reducible first | exact HB.out | apply below_alloc | apply pw_below_drewN | apply below_drew1 | refine below_set ?_ GE212.out) | exact HB.out)⟩⟩
    · rw [if_neg c4] at H
      have c4b0 : decide (a0_3 < 0) = false := decide_eq_false c4
      clear c4
      (first | rw [c4b0] | (simp only [i64_w, i32_w]; rw [c4b0]) | skip)
      by_cases c6 : a0_3 > a0_4
      · rw [if_pos c6] at H
        have c6b0 : decide (a0_4 < a0_3) = true := decide_eq_true c6
        clear c6
        have H' := Aside0.mk H
        clear H
        have hcz7_0 : w3.cell? ⟨gb212, 0, none⟩ = some (.slice A0_0 l0_0.length c0_0) := (blk_cell BK212.out 0).trans rfl
        have hcz7_1 : w3.cell? ⟨gb212, 1, none⟩ = some (.int .u64 a0_1) := (blk_cell BK212.out 1).trans rfl
        have hcz7_2 : w3.cell? ⟨gb212, 2, none⟩ = some (.int .u64 a0_2) := (blk_cell BK212.out 2).trans rfl
        have hcz7_3 : w3.cell? ⟨gb212, 3, none⟩ = some (.int .i64 a0_3) := (blk_cell BK212.out 3).trans rfl
        have hcz7_4 : w3.cell? ⟨gb212, 4, none⟩ = some (.int .i64 a0_4) := (blk_cell BK212.out 4).trans rfl
        have hfz7_0 := blk_frozen BK212.out 0
        have hfz7_1 := blk_frozen BK212.out 1
        have hfz7_2 := blk_frozen BK212.out 2
        have hfz7_3 := blk_frozen BK212.out 3
        have hfz7_4 := blk_frozen BK212.out 4
        go_wp2
        go_meet
        case rel => exact ⟨_, (true), (by first | rfl | (simp; done) | (simp [*]; done)), H', ⟨by first | omega | exact Nat.le_refl _⟩, ⟨by (with_reducible repeat (first | refine blk_drewN ?_ _ | refine blk_drew ?_ | refine blk_alloc ?_ _)); exact BK212.out⟩, ⟨by repeat (first | (with_reducible first | exact HB.out | apply below_alloc | apply pw_below_drewN | apply below_drew1 | refine below_set ?_ GE212.out) | exact HB.out)⟩⟩
      · rw [if_neg c6] at H
        have c6b0 : decide (a0_4 < a0_3) = false := decide_eq_false c6
        clear c6
        have H' := Aside0.mk H
        clear H
        have hcz8_0 : w3.cell? ⟨gb212, 0, none⟩ = some (.slice A0_0 l0_0.length c0_0) := (blk_cell BK212.out 0).trans rfl
        have hcz8_1 : w3.cell? ⟨gb212, 1, none⟩ = some (.int .u64 a0_1) := (blk_cell BK212.out 1).trans rfl
        have hcz8_2 : w3.cell? ⟨gb212, 2, none⟩ = some (.int .u64 a0_2) := (blk_cell BK212.out 2).trans rfl
        have hcz8_3 : w3.cell? ⟨gb212, 3, none⟩ = some (.int .i64 a0_3) := (blk_cell BK212.out 3).trans rfl
        have hcz8_4 : w3.cell? ⟨gb212, 4, none⟩ = some (.int .i64 a0_4) := (blk_cell BK212.out 4).trans rfl
        have hfz8_0 := blk_frozen BK212.out 0
        have hfz8_1 := blk_frozen BK212.out 1
        have hfz8_2 := blk_frozen BK212.out 2
        have hfz8_3 := blk_frozen BK212.out 3
        have hfz8_4 := blk_frozen BK212.out 4
        go_wp2
        go_meet
        case rel => exact ⟨_, (decide (a0_4 > (l0_0.length : Int))), (by first | rfl | (simp; done) | (simp [*]; done)), H', ⟨by first | omega | exact Nat.le_refl _⟩, ⟨by (with_reducible repeat (first | refine blk_drewN ?_ _ | refine blk_drew ?_ | refine blk_alloc ?_ _)); exact BK212.out⟩, ⟨by repeat (first | (with_reducible first | exact HB.out | apply below_alloc | apply pw_below_drewN | apply below_drew1 | refine below_set ?_ GE212.out) | exact HB.out)⟩⟩
  case rest =>
    clear HC2
    try clear p2
    try clear c4
    try clear c4b0
    try clear c6
    try clear c6b0
    try clear hcz5_0
    try clear hcz5_1
    try clear hcz5_2
    try clear hcz5_3
    try clear hcz5_4
    try clear hcz7_0
    try clear hcz7_1
    try clear hcz7_2
    try clear hcz7_3
    try clear hcz7_4
    try clear hcz8_0
    try clear hcz8_1
    try clear hcz8_2
    try clear hcz8_3
    try clear hcz8_4
    try clear hfz5_0
    try clear hfz5_1
    try clear hfz5_2
    try clear hfz5_3
    try clear hfz5_4
    try clear hfz7_0
    try clear hfz7_1
    try clear hfz7_2
    try clear hfz7_3
    try clear hfz7_4
    try clear hfz8_0
    try clear hfz8_1
    try clear hfz8_2
    try clear hfz8_3
    try clear hfz8_4
    obtain ⟨kq, x27_1, rfl, HA, HJ1, BK212, HB⟩ := hcut
    cases kq with
    | zero => exact absurd HA.out (by simp [spec_Planned.j0])
    | succ kj1 =>
      have H := HA.out
      clear HA
      simp only [spec_Planned.j0] at H
      by_cases c9 : x27_1 = true
      · subst c9
        have H1 : (some (([] : List (S60)), false)) = some (r1, r2) := by rw [if_pos rfl] at H; exact H
        clear H
        have H := H1
        clear H1
        simp only [Option.some.injEq, Prod.mk.injEq] at H
        obtain ⟨rfl, rfl⟩ := H
        go_wp2
        go_ret2
        exact ⟨_, by first | rfl | (simp [errW_none, errW_some] <;> rfl) | (simp [*, errW_none, errW_some] <;> rfl), by first | exact Kd.R_nil _ _ _ _ _ | exact Kd.N_nil _ _ _ _ _ | exact Kd.V_nil _ _ _ _ _ | exact Kd.Q_nil _ _ _ _ _ | exact Kd.S_nil _ _ _ _ _, by repeat (first | (with_reducible first | exact HB.out | apply below_alloc | apply pw_below_drewN | apply below_drew1 | refine below_set ?_ GE212.out) | exact HB.out)⟩
      · replace c9 := Bool.eq_false_iff.mpr c9
        subst c9
        have H1 : (spec_Planned.l0 kj1 (([] : List (S60))) 0 l0_0 a0_1 a0_2 a0_3 a0_4) = some (r1, r2) := by rw [if_neg (show ¬ (false = true) by decide)] at H; exact H
        clear H
        have H := H1
        clear H1
        obtain ⟨y213, hy213⟩ : ∃ y_ : List (S60), y_ = (([] : List (S60))) := ⟨_, rfl⟩
        replace H : (spec_Planned.l0 kj1 y213 0 l0_0 a0_1 a0_2 a0_3 a0_4) = some (r1, r2) := by first | (rw [hy213]; with_reducible exact H) | (have H2_ := (Option.bind_some _ _).symm.trans H; rw [hy213]; with_reducible exact H2_) | (have H2_ := (Option.bind_some _ _).symm.trans H; with_reducible exact H2_) | with_reducible exact H | (rw [hy213]; exact H) | exact H
        have Ny213 := Aside0.mk hy213
        clear hy213
        have H' := Aside0.mk H
        clear H
        go_wp2_with (first | ((with_reducible refine gate_dst (N := 28) rfl ?_); (try (refine gate_guard (by rfl) ?_; dsimp only)); refine Kd.R_lit k60 _ 60 ?hg (N := 28) ?hd (xs := ([] : List (S60))) (inner := []) (ok := fun _ => True) (okp := fun _ => True) ?hr ?hp (fun _ hk => hk) trivial (Below.refl _ _) (Nat.le_refl _) (by simp) ?_; (case hd => rfl); (case hg => rfl); (case hr => first | (go_simp; done) | (go_simp; rfl)); (case hp => exact (Reps.none _ _)); intro v214 w10 ho11 hb hg_ hnew_; clear hg_ hnew_; (first | rw [← Ny213.out] at ho11 | (simp only [Int.reduceToNat] at ho11; rw [← Ny213.out] at ho11)); have n0_ := Aside0.mk (Kd.R_lower ho11 (below_size (by repeat (first | (with_reducible first | exact HB.out | apply below_alloc | apply pw_below_drewN | apply below_drew1 | refine below_set ?_ GE212.out) | exact HB.out)))); have n1_ := Aside0.mk (blk_below (g := gb212) (o := .cells #[.slice A0_0 l0_0.length c0_0, .int .u64 a0_1, .int .u64 a0_2, .int .i64 a0_3, .int .i64 a0_4] 36 (0, 0)) (by (with_reducible repeat (first | refine blk_drewN ?_ _ | refine blk_drew ?_ | refine blk_alloc ?_ _)); exact BK212.out) hb); have n2_ := Aside0.mk (below_step (by repeat (first | (with_reducible first | exact HB.out | apply below_alloc | apply pw_below_drewN | apply below_drew1 | refine below_set ?_ GE212.out) | exact HB.out)) hb); clear BK212; clear HB; have HO215 := n0_; have BK212 := n1_; have HB := n2_; clear n0_ n1_ n2_; clear hb ho11))
        go_loopg [4, 5] kj1 (fun kq v4 v5 w' => ∃ (x4_2 : List (S60)) (x5_2 : Int), v5 = .int .i64 x5_2 ∧ Aside0 (spec_Planned.l0 kq x4_2 x5_2 l0_0 a0_1 a0_2 a0_3 a0_4 = some (r1, r2)) ∧ Aside0 (kq ≤ kj1) ∧ Aside0 (Kd.R k60 60 w' w.heap.size (fun _ => True) v4 x4_2) ∧ Aside0 (w'.heap[gb212]? = some (.cells #[(.slice A0_0 l0_0.length c0_0), .int .u64 a0_1, .int .u64 a0_2, .int .i64 a0_3, .int .i64 a0_4] 36 (0, 0))) ∧ Aside0 (Below w.heap.size w w'))
        case atStart => exact ⟨(y213), (0), (by first | rfl | (simp; done) | (simp [*]; done)), H', ⟨Nat.le_refl _⟩, ⟨by (with_reducible repeat (first | apply Kd.R_alloc | apply Kd.R_drewN | apply Kd.R_drew)); exact HO215.out⟩, ⟨by (with_reducible repeat (first | refine blk_drewN ?_ _ | refine blk_drew ?_ | refine blk_alloc ?_ _)); exact BK212.out⟩, ⟨by repeat (first | (with_reducible first | exact HB.out | apply below_alloc | apply pw_below_drewN | apply below_drew1 | refine below_set ?_ GE212.out) | exact HB.out)⟩⟩
        case round =>
          clear H'
          try clear p2
          try clear c4
          try clear c4b0
          try clear c6
          try clear c6b0
          try clear c9
          try clear hcz5_0
          try clear hcz5_1
          try clear hcz5_2
          try clear hcz5_3
          try clear hcz5_4
          try clear hcz7_0
          try clear hcz7_1
          try clear hcz7_2
          try clear hcz7_3
          try clear hcz7_4
          try clear hcz8_0
          try clear hcz8_1
          try clear hcz8_2
          try clear hcz8_3
          try clear hcz8_4
          try clear hfz5_0
          try clear hfz5_1
          try clear hfz5_2
          try clear hfz5_3
          try clear hfz5_4
          try clear hfz7_0
          try clear hfz7_1
          try clear hfz7_2
          try clear hfz7_3
          try clear hfz7_4
          try clear hfz8_0
          try clear hfz8_1
          try clear hfz8_2
          try clear hfz8_3
          try clear hfz8_4
          try clear p2
          obtain ⟨x4_2, x5_2, rfl, HA, HK2, HO_4, BK212, HB⟩ := hrel
          cases gk with
          | zero => exact absurd HA.out (by simp [spec_Planned.l0])
          | succ k2 =>
            have H := HA.out
            clear HA
            simp only [spec_Planned.l0] at H
            by_cases c12 : x5_2 < (l0_0.length : Int)
            · rw [if_pos c12] at H
              have c12b0 : decide (x5_2 < (l0_0.length : Int)) = true := decide_eq_true c12
              clear c12
              by_cases c13 : 0 ≤ x5_2
              · rw [if_pos c13] at H
                have c13b0 : decide (0 ≤ x5_2) = true := decide_eq_true c13
                clear c13
                replace H := Option.bind_eq_some_iff.mp H
                obtain ⟨⟨t217, t218, t219⟩, A140, H⟩ := H
                replace H : (if x5_2 = a0_3 then (spec_Planned.j2 k2 x4_2 x5_2 t219 (decide (a0_3 < a0_4)) l0_0 a0_1 a0_2 a0_3 a0_4 t217 t218) else (spec_Planned.j2 k2 x4_2 x5_2 t219 false l0_0 a0_1 a0_2 a0_3 a0_4 t217 t218)) = some (r1, r2) := H
                have A14 := Aside0.mk A140
                clear A140
                have HC15 := Aside0.mk H
                clear H
                have hcz16_0 : wr.cell? ⟨gb212, 0, none⟩ = some (.slice A0_0 l0_0.length c0_0) := (blk_cell BK212.out 0).trans rfl
                have hcz16_1 : wr.cell? ⟨gb212, 1, none⟩ = some (.int .u64 a0_1) := (blk_cell BK212.out 1).trans rfl
                have hcz16_2 : wr.cell? ⟨gb212, 2, none⟩ = some (.int .u64 a0_2) := (blk_cell BK212.out 2).trans rfl
                have hcz16_3 : wr.cell? ⟨gb212, 3, none⟩ = some (.int .i64 a0_3) := (blk_cell BK212.out 3).trans rfl
                have hcz16_4 : wr.cell? ⟨gb212, 4, none⟩ = some (.int .i64 a0_4) := (blk_cell BK212.out 4).trans rfl
                have hfz16_0 := blk_frozen BK212.out 0
                have hfz16_1 := blk_frozen BK212.out 1
                have hfz16_2 := blk_frozen BK212.out 2
                have hfz16_3 := blk_frozen BK212.out 3
                have hfz16_4 := blk_frozen BK212.out 4
                have p216 : 0 ≤ (x5_2 : Int) := of_decide_eq_true (by first | (with_reducible assumption) | assumption)
                have q216 : x5_2 < (l0_0.length : Int) := of_decide_eq_true (by first | (with_reducible assumption) | assumption)
                obtain ⟨ad216, e216, hx216_0, hx216_1⟩ := at_T34 HR0_0.out x5_2 p216 q216
                cases e216
                replace hx216_0 := (HB.out.cell (World.block_lt_of_cell? w _ hx216_0)).trans hx216_0
                replace hx216_1 := (HB.out.cell (World.block_lt_of_cell? w _ hx216_1)).trans hx216_1
                replace p216 := eq_true p216
                replace q216 := eq_true q216
                go_upto_region 8 with (first | ((with_reducible refine gate_callee (f := 32) rfl ?_); refine goesL_ (some 42) rfl rfl Tryf.func32 (by kernel_rfl) rfl #[.agg #[.int .u64 ((rd_T34 l0_0 x5_2).f0), .int .u64 ((rd_T34 l0_0 x5_2).f1)]] rfl (by (try simp only [List.map_toArray, List.map_cons, List.map_nil]); first | done | rfl | (simp only [List.length_drop, List.length_take]; rfl)) ?_; (with_reducible refine (spec_SpanOf.calls ((rd_T34 l0_0 x5_2).f0) ((rd_T34 l0_0 x5_2).f1) t217 t218 t219 _ A14.out).mono ?_); rintro e w17 ⟨rfl, hb⟩; refine ⟨_, rfl, ?_⟩; have n0_ := Aside0.mk (Kd.R_below (by (with_reducible repeat (first | apply Kd.R_alloc | apply Kd.R_drewN | apply Kd.R_drew)); exact HO_4.out) hb); have n1_ := Aside0.mk (blk_below (g := gb212) (o := .cells #[.slice (some ad216) l0_0.length c0_0, .int .u64 a0_1, .int .u64 a0_2, .int .i64 a0_3, .int .i64 a0_4] 36 (0, 0)) (by (with_reducible repeat (first | refine blk_drewN ?_ _ | refine blk_drew ?_ | refine blk_alloc ?_ _)); exact BK212.out) hb); have n2_ := Aside0.mk (below_step (by repeat (first | (with_reducible first | exact HB.out | apply below_alloc | apply pw_below_drewN | apply below_drew1 | refine below_set ?_ GE212.out) | exact HB.out)) hb); clear HO_4; clear BK212; clear HB; have HO_4 := n0_; have BK212 := n1_; have HB := n2_; clear n0_ n1_ n2_; (try clear hb); (try clear hb2); (try clear hk); (try clear hi)) | ((with_reducible refine gate_dst (N := 6) rfl ?_); (try (refine gate_guard (by rfl) ?_; dsimp only)); refine box_event ?hg (N := 6) ?hd (cs := #[.int .u64 0, .int .u64 0]) (t := 60) ?hr ?_; (case hd => rfl); (case hg => rfl); (case hr => first | (go_simp; done) | (go_simp; rfl)); intro gb220 hg w18 hbox hb; have n0_ := Aside0.mk (Kd.R_below (Kd.R_elderB (by (with_reducible repeat (first | apply Kd.R_alloc | apply Kd.R_drewN | apply Kd.R_drew)); exact HO_4.out) gb220 (Nat.le_of_eq hg.symm)) hb); have n1_ := Aside0.mk (blk_below (g := gb212) (o := .cells #[.slice (some ad216) l0_0.length c0_0, .int .u64 a0_1, .int .u64 a0_2, .int .i64 a0_3, .int .i64 a0_4] 36 (0, 0)) (by (with_reducible repeat (first | refine blk_drewN ?_ _ | refine blk_drew ?_ | refine blk_alloc ?_ _)); exact BK212.out) hb); have n2_ := Aside0.mk (below_step (by repeat (first | (with_reducible first | exact HB.out | apply below_alloc | apply pw_below_drewN | apply below_drew1 | refine below_set ?_ GE212.out) | exact HB.out)) hb); have n3_ := Aside0.mk (hbox); have n4_ := Aside0.mk ((by rw [hg]; exact (below_size (by repeat (first | (with_reducible first | exact HB.out | apply below_alloc | apply pw_below_drewN | apply below_drew1 | refine below_set ?_ GE212.out) | exact HB.out))) : w.heap.size ≤ gb220)); have n5_ := Aside0.mk ((by rw [hg]; exact (below_size (by repeat (first | (with_reducible first | exact HB.out | apply below_alloc | apply pw_below_drewN | apply below_drew1 | refine below_set ?_ GE212.out) | exact HB.out))) : w.heap.size ≤ gb220)); have n6_ := Aside0.mk ((by rw [hg]; exact Nat.ne_of_lt (blk_lt (g := gb212) (o := .cells #[.slice (some ad216) l0_0.length c0_0, .int .u64 a0_1, .int .u64 a0_2, .int .i64 a0_3, .int .i64 a0_4] 36 (0, 0)) (by (with_reducible repeat (first | refine blk_drewN ?_ _ | refine blk_drew ?_ | refine blk_alloc ?_ _)); exact BK212.out)) : gb212 ≠ gb220)); have n7_ := Aside0.mk ((by rw [hg]; exact Nat.ne_of_gt (blk_lt (g := gb212) (o := .cells #[.slice (some ad216) l0_0.length c0_0, .int .u64 a0_1, .int .u64 a0_2, .int .i64 a0_3, .int .i64 a0_4] 36 (0, 0)) (by (with_reducible repeat (first | refine blk_drewN ?_ _ | refine blk_drew ?_ | refine blk_alloc ?_ _)); exact BK212.out)) : gb220 ≠ gb212)); clear HO_4; clear BK212; clear HB; have HO_4 := n0_; have BK212 := n1_; have HB := n2_; have BK220 := n3_; have GW220 := n4_; have GE220 := n5_; have NB212_220 := n6_; have NB220_212 := n7_; clear n0_ n1_ n2_ n3_ n4_ n5_ n6_ n7_; clear hb hbox hg; have hnb19 := NB220_212.out; have hnc19 := NB212_220.out; have hcz20_0 : w18.cell? ⟨gb220, 0, none⟩ = some (.int .u64 0) := (blk_cell BK220.out 0).trans rfl; have hcz20_1 : w18.cell? ⟨gb220, 1, none⟩ = some (.int .u64 0) := (blk_cell BK220.out 1).trans rfl; have hfz20_0 := blk_frozen BK220.out 0; have hfz20_1 := blk_frozen BK220.out 1))
                (try simp only [Act.put, List.setIfInBounds_toArray, List.set_cons_zero, List.set_cons_succ])
                go_cut [55] (fun v55 wc => ∃ (kq : Nat) (x55_14 : Bool), v55 = .bool x55_14 ∧ Aside0 (spec_Planned.j2 kq x4_2 x5_2 t219 x55_14 l0_0 a0_1 a0_2 a0_3 a0_4 t217 t218 = some (r1, r2)) ∧ Aside0 (kq ≤ k2) ∧ Aside0 (Kd.R k60 60 wc w.heap.size (fun k_ => k_ ≠ gb220) u4 x4_2) ∧ Aside0 (wc.heap[gb212]? = some (.cells #[(.slice (some ad216) l0_0.length c0_0), .int .u64 a0_1, .int .u64 a0_2, .int .i64 a0_3, .int .i64 a0_4] 36 (0, 0))) ∧ Aside0 (wc.heap[gb220]? = some (.cells #[.int .u64 t217, .int .u64 t218] 60 (0, 0))) ∧ Aside0 (Below w.heap.size w wc))
                case first =>
                  have H := HC15.out
                  clear HC15
                  by_cases c21 : x5_2 = a0_3
                  · rw [if_pos c21] at H
                    have c21b0 : (x5_2 == a0_3) = true := beq_iff_eq.mpr c21
                    have c21b1 : (x5_2 != a0_3) = false := bne_eq_false_iff_eq.mpr c21
                    clear c21
                    (first | rw [c21b0] | (simp only [i64_w, i32_w]; rw [c21b0]) | skip)
                    have H' := Aside0.mk H
                    clear H
                    have hnb22 := NB212_220.out
                    have hnc22 := NB220_212.out
                    have hcz23_0 : w18.cell? ⟨gb212, 0, none⟩ = some (.slice (some ad216) l0_0.length c0_0) := (blk_cell BK212.out 0).trans rfl
                    have hcz23_1 : w18.cell? ⟨gb212, 1, none⟩ = some (.int .u64 a0_1) := (blk_cell BK212.out 1).trans rfl
                    have hcz23_2 : w18.cell? ⟨gb212, 2, none⟩ = some (.int .u64 a0_2) := (blk_cell BK212.out 2).trans rfl
                    have hcz23_3 : w18.cell? ⟨gb212, 3, none⟩ = some (.int .i64 a0_3) := (blk_cell BK212.out 3).trans rfl
                    have hcz23_4 : w18.cell? ⟨gb212, 4, none⟩ = some (.int .i64 a0_4) := (blk_cell BK212.out 4).trans rfl
                    have hfz23_0 := blk_frozen BK212.out 0
                    have hfz23_1 := blk_frozen BK212.out 1
                    have hfz23_2 := blk_frozen BK212.out 2
                    have hfz23_3 := blk_frozen BK212.out 3
                    have hfz23_4 := blk_frozen BK212.out 4
                    go_wp2
                    go_meet
                    case rel => exact ⟨_, (decide (a0_3 < a0_4)), (by first | rfl | (simp; done) | (simp [*]; done)), H', ⟨by have := HJ1.out; have := HK2.out; first | omega | exact Nat.le_refl _⟩, ⟨by (with_reducible repeat (first | apply Kd.R_alloc | apply Kd.R_drewN | apply Kd.R_drew)); exact Kd.R_mono (Kd.R_far (p := ⟨gb220, 1, none⟩) (Kd.R_far (p := ⟨gb220, 0, none⟩) (Kd.R_mono HO_4.out (fun k_ hk => (⟨hk, hk.2⟩ : _ ∧ k_ ≠ gb220))) (fun _ hk => hk.2) (.int .u64 t217)) (fun _ hk => hk.2) (.int .u64 t218)) (fun _ hk => hk.1.2)⟩, ⟨by (with_reducible repeat (first | refine blk_drewN ?_ _ | refine blk_drew ?_ | refine blk_alloc ?_ _)); refine blk_far ?_ NB212_220.out _; (with_reducible repeat (first | refine blk_drewN ?_ _ | refine blk_drew ?_ | refine blk_alloc ?_ _)); refine blk_far ?_ NB212_220.out _; (with_reducible repeat (first | refine blk_drewN ?_ _ | refine blk_drew ?_ | refine blk_alloc ?_ _)); exact BK212.out⟩, ⟨by (with_reducible repeat (first | refine blk_drewN ?_ _ | refine blk_drew ?_ | refine blk_alloc ?_ _)); refine blk_put (cs := #[.int .u64 t217, .int .u64 0]) ?_ 1 _ rfl; (with_reducible repeat (first | refine blk_drewN ?_ _ | refine blk_drew ?_ | refine blk_alloc ?_ _)); refine blk_put (cs := #[.int .u64 0, .int .u64 0]) ?_ 0 _ rfl; (with_reducible repeat (first | refine blk_drewN ?_ _ | refine blk_drew ?_ | refine blk_alloc ?_ _)); exact BK220.out⟩, ⟨by repeat (first | (with_reducible first | exact HB.out | apply below_alloc | apply pw_below_drewN | apply below_drew1 | refine below_set ?_ GE212.out | refine below_set ?_ GE220.out) | exact HB.out)⟩⟩
                  · rw [if_neg c21] at H
                    have c21b0 : (x5_2 == a0_3) = false := beq_eq_false_iff_ne.mpr c21
                    have c21b1 : (x5_2 != a0_3) = true := bne_iff_ne.mpr c21
                    (first | rw [c21b0] | (simp only [i64_w, i32_w]; rw [c21b0]) | skip)
                    have H' := Aside0.mk H
                    clear H
                    have hnb24 := NB212_220.out
                    have hnc24 := NB220_212.out
                    have hcz25_0 : w18.cell? ⟨gb212, 0, none⟩ = some (.slice (some ad216) l0_0.length c0_0) := (blk_cell BK212.out 0).trans rfl
                    have hcz25_1 : w18.cell? ⟨gb212, 1, none⟩ = some (.int .u64 a0_1) := (blk_cell BK212.out 1).trans rfl
                    have hcz25_2 : w18.cell? ⟨gb212, 2, none⟩ = some (.int .u64 a0_2) := (blk_cell BK212.out 2).trans rfl
                    have hcz25_3 : w18.cell? ⟨gb212, 3, none⟩ = some (.int .i64 a0_3) := (blk_cell BK212.out 3).trans rfl
                    have hcz25_4 : w18.cell? ⟨gb212, 4, none⟩ = some (.int .i64 a0_4) := (blk_cell BK212.out 4).trans rfl
                    have hfz25_0 := blk_frozen BK212.out 0
                    have hfz25_1 := blk_frozen BK212.out 1
                    have hfz25_2 := blk_frozen BK212.out 2
                    have hfz25_3 := blk_frozen BK212.out 3
                    have hfz25_4 := blk_frozen BK212.out 4
                    go_wp2
                    go_meet
                    case rel => exact ⟨_, (false), (by first | rfl | (simp; done) | (simp [*]; done)), H', ⟨by have := HJ1.out; have := HK2.out; first | omega | exact Nat.le_refl _⟩, ⟨by (with_reducible repeat (first | apply Kd.R_alloc | apply Kd.R_drewN | apply Kd.R_drew)); exact Kd.R_mono (Kd.R_far (p := ⟨gb220, 1, none⟩) (Kd.R_far (p := ⟨gb220, 0, none⟩) (Kd.R_mono HO_4.out (fun k_ hk => (⟨hk, hk.2⟩ : _ ∧ k_ ≠ gb220))) (fun _ hk => hk.2) (.int .u64 t217)) (fun _ hk => hk.2) (.int .u64 t218)) (fun _ hk => hk.1.2)⟩, ⟨by (with_reducible repeat (first | refine blk_drewN ?_ _ | refine blk_drew ?_ | refine blk_alloc ?_ _)); refine blk_far ?_ NB212_220.out _; (with_reducible repeat (first | refine blk_drewN ?_ _ | refine blk_drew ?_ | refine blk_alloc ?_ _)); refine blk_far ?_ NB212_220.out _; (with_reducible repeat (first | refine blk_drewN ?_ _ | refine blk_drew ?_ | refine blk_alloc ?_ _)); exact BK212.out⟩, ⟨by (with_reducible repeat (first | refine blk_drewN ?_ _ | refine blk_drew ?_ | refine blk_alloc ?_ _)); refine blk_put (cs := #[.int .u64 t217, .int .u64 0]) ?_ 1 _ rfl; (with_reducible repeat (first | refine blk_drewN ?_ _ | refine blk_drew ?_ | refine blk_alloc ?_ _)); refine blk_put (cs := #[.int .u64 0, .int .u64 0]) ?_ 0 _ rfl; (with_reducible repeat (first | refine blk_drewN ?_ _ | refine blk_drew ?_ | refine blk_alloc ?_ _)); exact BK220.out⟩, ⟨by repeat (first | (with_reducible first | exact HB.out | apply below_alloc | apply pw_below_drewN | apply below_drew1 | refine below_set ?_ GE212.out | refine below_set ?_ GE220.out) | exact HB.out)⟩⟩
                case rest =>
                  clear HC15
                  try clear c1
                  try clear c2
                  try clear p2
                  try clear q2
                  try clear hx2
                  try clear c3
                  try clear c4
                  try clear c4b0
                  try clear c6
                  try clear c6b0
                  try clear c9
                  try clear c12
                  try clear c12b0
                  try clear c13
                  try clear c13b0
                  try clear c19
                  try clear c21
                  try clear c21b0
                  try clear c21b1
                  try clear p21
                  try clear q21
                  try clear hx21
                  try clear c22
                  try clear c24
                  try clear hcz16_0
                  try clear hcz16_1
                  try clear hcz16_2
                  try clear hcz16_3
                  try clear hcz16_4
                  try clear hcz20_0
                  try clear hcz20_1
                  try clear hcz23_0
                  try clear hcz23_1
                  try clear hcz23_2
                  try clear hcz23_3
                  try clear hcz23_4
                  try clear hcz25_0
                  try clear hcz25_1
                  try clear hcz25_2
                  try clear hcz25_3
                  try clear hcz25_4
                  try clear hcz5_0
                  try clear hcz5_1
                  try clear hcz5_2
                  try clear hcz5_3
                  try clear hcz5_4
                  try clear hcz7_0
                  try clear hcz7_1
                  try clear hcz7_2
                  try clear hcz7_3
                  try clear hcz7_4
                  try clear hcz8_0
                  try clear hcz8_1
                  try clear hcz8_2
                  try clear hcz8_3
                  try clear hcz8_4
                  try clear hfz16_0
                  try clear hfz16_1
                  try clear hfz16_2
                  try clear hfz16_3
                  try clear hfz16_4
                  try clear hfz20_0
                  try clear hfz20_1
                  try clear hfz23_0
                  try clear hfz23_1
                  try clear hfz23_2
                  try clear hfz23_3
                  try clear hfz23_4
                  try clear hfz25_0
                  try clear hfz25_1
                  try clear hfz25_2
                  try clear hfz25_3
                  try clear hfz25_4
                  try clear hfz5_0
                  try clear hfz5_1
                  try clear hfz5_2
                  try clear hfz5_3
                  try clear hfz5_4
                  try clear hfz7_0
                  try clear hfz7_1
                  try clear hfz7_2
                  try clear hfz7_3
                  try clear hfz7_4
                  try clear hfz8_0
                  try clear hfz8_1
                  try clear hfz8_2
                  try clear hfz8_3
                  try clear hfz8_4
                  try clear hx216_0
                  try clear hx216_1
                  try clear p2
                  try clear p216
                  try clear q216
                  obtain ⟨kq, x55_14, rfl, HA, HJ14, HO_4, BK212, BK220, HB⟩ := hcut
                  cases kq with
                  | zero => exact absurd HA.out (by simp [spec_Planned.j2])
                  | succ kj14 =>
                    have H := HA.out
                    clear HA
                    simp only [spec_Planned.j2] at H
                    by_cases c26 : x55_14 = true
                    · subst c26
                      have H1 : (if 0 ≤ a0_3 then (if a0_3 ≤ a0_4 then (if a0_4 ≤ (l0_0.length : Int) then ((spec_Joined.f kj14 ((l0_0.take (a0_4 : Int).toNat).drop (a0_3 : Int).toNat)).bind fun bt225 => ((spec_SpanOf.f a0_1 a0_2).bind fun bt228 => (if bt225.2.2 = true then (if bt228.2.2 = true then (if bt228.1 = bt225.1 then (if bt228.2.1 ≥ bt225.2.1 then (if x4_2.length < 8796093022208 then (spec_Planned.l0 kj14 (x4_2 ++ [(⟨bt225.1, bt225.2.1⟩ : S60)]) (wrap64 ((wrap64 (a0_4 - 1)) + 1)) l0_0 a0_1 a0_2 a0_3 a0_4) else (none)) else (some (([] : List (S60)), false))) else (some (([] : List (S60)), false))) else (some (([] : List (S60)), false))) else (some (([] : List (S60)), false))))) else (none)) else (none)) else (none)) = some (r1, r2) := by rw [if_pos rfl] at H; exact H
                      clear H
                      have H := H1
                      clear H1
                      by_cases c27 : 0 ≤ a0_3
                      · rw [if_pos c27] at H
                        have c27b0 := eq_true c27
                        have c27b1 : decide (0 ≤ a0_3) = true := decide_eq_true c27
                        clear c27
                        by_cases c28 : a0_3 ≤ a0_4
                        · rw [if_pos c28] at H
                          have c28b0 := eq_true c28
                          have c28b1 : decide (a0_3 ≤ a0_4) = true := decide_eq_true c28
                          clear c28
                          by_cases c29 : a0_4 ≤ (l0_0.length : Int)
                          · rw [if_pos c29] at H
                            have c29b0 := eq_true c29
                            have c29b1 : decide (a0_4 ≤ (l0_0.length : Int)) = true := decide_eq_true c29
                            clear c29
                            obtain ⟨y221, hy221⟩ : ∃ y_ : List (S34), y_ = ((l0_0.take (a0_4 : Int).toNat).drop (a0_3 : Int).toNat) := ⟨_, rfl⟩
                            replace H : ((spec_Joined.f kj14 y221).bind fun bt225 => ((spec_SpanOf.f a0_1 a0_2).bind fun bt228 => (if bt225.2.2 = true then (if bt228.2.2 = true then (if bt228.1 = bt225.1 then (if bt228.2.1 ≥ bt225.2.1 then (if x4_2.length < 8796093022208 then (spec_Planned.l0 kj14 (x4_2 ++ [(⟨bt225.1, bt225.2.1⟩ : S60)]) (wrap64 ((wrap64 (a0_4 - 1)) + 1)) l0_0 a0_1 a0_2 a0_3 a0_4) else (none)) else (some (([] : List (S60)), false))) else (some (([] : List (S60)), false))) else (some (([] : List (S60)), false))) else (some (([] : List (S60)), false))))) = some (r1, r2) := by first | (rw [hy221]; with_reducible exact H) | (have H2_ := (Option.bind_some _ _).symm.trans H; rw [hy221]; with_reducible exact H2_) | (have H2_ := (Option.bind_some _ _).symm.trans H; with_reducible exact H2_) | with_reducible exact H | (rw [hy221]; exact H) | exact H
                            have Ny221 := Aside0.mk hy221
                            clear hy221
                            replace H := Option.bind_eq_some_iff.mp H
                            obtain ⟨⟨t225, t226, t227⟩, A300, H⟩ := H
                            replace H : ((spec_SpanOf.f a0_1 a0_2).bind fun bt228 => (if t227 = true then (if bt228.2.2 = true then (if bt228.1 = t225 then (if bt228.2.1 ≥ t226 then (if x4_2.length < 8796093022208 then (spec_Planned.l0 kj14 (x4_2 ++ [(⟨t225, t226⟩ : S60)]) (wrap64 ((wrap64 (a0_4 - 1)) + 1)) l0_0 a0_1 a0_2 a0_3 a0_4) else (none)) else (some (([] : List (S60)), false))) else (some (([] : List (S60)), false))) else (some (([] : List (S60)), false))) else (some (([] : List (S60)), false)))) = some (r1, r2) := H
                            have A30 := Aside0.mk A300
                            clear A300
                            replace H := Option.bind_eq_some_iff.mp H
                            obtain ⟨⟨t228, t229, t230⟩, A310, H⟩ := H
                            replace H : (if t227 = true then (if t230 = true then (if t228 = t225 then (if t229 ≥ t226 then (if x4_2.length < 8796093022208 then (spec_Planned.l0 kj14 (x4_2 ++ [(⟨t225, t226⟩ : S60)]) (wrap64 ((wrap64 (a0_4 - 1)) + 1)) l0_0 a0_1 a0_2 a0_3 a0_4) else (none)) else (some (([] : List (S60)), false))) else (some (([] : List (S60)), false))) else (some (([] : List (S60)), false))) else (some (([] : List (S60)), false))) = some (r1, r2) := H
                            have A31 := Aside0.mk A310
                            clear A310
                            by_cases c32 : t227 = true
                            · subst c32
                              have H1 : (if t230 = true then (if t228 = t225 then (if t229 ≥ t226 then (if x4_2.length < 8796093022208 then (spec_Planned.l0 kj14 (x4_2 ++ [(⟨t225, t226⟩ : S60)]) (wrap64 ((wrap64 (a0_4 - 1)) + 1)) l0_0 a0_1 a0_2 a0_3 a0_4) else (none)) else (some (([] : List (S60)), false))) else (some (([] : List (S60)), false))) else (some (([] : List (S60)), false))) = some (r1, r2) := by rw [if_pos rfl] at H; exact H
                              clear H
                              have H := H1
                              clear H1
                              by_cases c33 : t230 = true
                              · subst c33
                                have H1 : (if t228 = t225 then (if t229 ≥ t226 then (if x4_2.length < 8796093022208 then (spec_Planned.l0 kj14 (x4_2 ++ [(⟨t225, t226⟩ : S60)]) (wrap64 ((wrap64 (a0_4 - 1)) + 1)) l0_0 a0_1 a0_2 a0_3 a0_4) else (none)) else (some (([] : List (S60)), false))) else (some (([] : List (S60)), false))) = some (r1, r2) := by rw [if_pos rfl] at H; exact H
                                clear H
                                have H := H1
                                clear H1
                                by_cases c34 : t228 = t225
                                · rw [if_pos c34] at H
                                  have c34b0 : (t228 == t225) = true := beq_iff_eq.mpr c34
                                  have c34b1 : (t228 != t225) = false := bne_eq_false_iff_eq.mpr c34
                                  clear c34
                                  by_cases c35 : t229 ≥ t226
                                  · rw [if_pos c35] at H
                                    have c35b0 : decide (t226 ≤ t229) = true := decide_eq_true c35
                                    clear c35
                                    by_cases c36 : x4_2.length < 8796093022208
                                    · rw [if_pos c36] at H
                                      have LMc36 := Aside0.mk c36
                                      clear c36
                                      obtain ⟨y232, hy232⟩ : ∃ y_ : List (S60), y_ = (x4_2 ++ [(⟨t225, t226⟩ : S60)]) := ⟨_, rfl⟩
                                      replace H : (spec_Planned.l0 kj14 y232 (wrap64 ((wrap64 (a0_4 - 1)) + 1)) l0_0 a0_1 a0_2 a0_3 a0_4) = some (r1, r2) := by first | (rw [hy232]; with_reducible exact H) | (have H2_ := (Option.bind_some _ _).symm.trans H; rw [hy232]; with_reducible exact H2_) | (have H2_ := (Option.bind_some _ _).symm.trans H; with_reducible exact H2_) | with_reducible exact H | (rw [hy232]; exact H) | exact H
                                      have Ny232 := Aside0.mk hy232
                                      clear hy232
                                      have H' := Aside0.mk H
                                      clear H
                                      have hnb37 := NB212_220.out
                                      have hnc37 := NB220_212.out
                                      have hcz38_0 : wc.cell? ⟨gb212, 0, none⟩ = some (.slice (some ad216) l0_0.length c0_0) := (blk_cell BK212.out 0).trans rfl
                                      have hcz38_1 : wc.cell? ⟨gb212, 1, none⟩ = some (.int .u64 a0_1) := (blk_cell BK212.out 1).trans rfl
                                      have hcz38_2 : wc.cell? ⟨gb212, 2, none⟩ = some (.int .u64 a0_2) := (blk_cell BK212.out 2).trans rfl
                                      have hcz38_3 : wc.cell? ⟨gb212, 3, none⟩ = some (.int .i64 a0_3) := (blk_cell BK212.out 3).trans rfl
                                      have hcz38_4 : wc.cell? ⟨gb212, 4, none⟩ = some (.int .i64 a0_4) := (blk_cell BK212.out 4).trans rfl
                                      have hfz38_0 := blk_frozen BK212.out 0
                                      have hfz38_1 := blk_frozen BK212.out 1
                                      have hfz38_2 := blk_frozen BK212.out 2
                                      have hfz38_3 := blk_frozen BK212.out 3
                                      have hfz38_4 := blk_frozen BK212.out 4
                                      have q39 : (a0_4 : Int) ≤ ((l0_0.length : Int) : Int) := of_decide_eq_true (by first | (with_reducible assumption) | assumption)
                                      obtain ⟨i039, hi039, _, hsz39, _⟩ := info_parts info34
                                      have hroom39 : l0_0.length ≤ c0_0 := HC0_0.out
                                      have hC39 : Kd.C k34 _ (some ad216) l0_0.length l0_0 := HR0_0.out
                                      have ql39 : (a0_3 : Int) ≤ (a0_4 : Int) := of_decide_eq_true (by first | (with_reducible assumption) | assumption)
                                      have q039 : (0 : Int) ≤ (a0_3 : Int) := of_decide_eq_true (by first | (with_reducible assumption) | assumption)
                                      have hcut39 := cut_mid (P := Tryf.prog) 31 34 .i64 .i64 Tryf.underlying31 hi039 2 hsz39 (some ad216) l0_0.length c0_0 a0_3 a0_4 q039 ql39 q39 hroom39
                                      have hr39 := Kd.C_mid (lo := (a0_3 : Int).toNat) (hi := (a0_4 : Int).toNat) (c := c0_0) hC39 (by omega) (by omega) hroom39
                                      obtain ⟨A39, hA39⟩ : ∃ A1, A1 = (if c0_0 = (a0_3 : Int).toNat then (some ad216) else ((some ad216) : Option Addr).map (·.add ((a0_3 : Int).toNat * 2))) := ⟨_, rfl⟩
                                      obtain ⟨c39, hc39⟩ : ∃ c1, c1 = c0_0 - (a0_3 : Int).toNat := ⟨_, rfl⟩
                                      have hy39 : y221.length = (a0_4 : Int).toNat - (a0_3 : Int).toNat := (by rw [Ny221.out, List.length_drop, List.length_take] <;> omega)
                                      rw [show ((l0_0).take (a0_4 : Int).toNat).drop (a0_3 : Int).toNat = y221 from Ny221.out.symm] at hr39
                                      replace hr39 : Kd.C k34 _ A39 y221.length y221 := (by rw [hA39]; exact hr39)
                                      rw [← hy39, ← hA39, ← hc39] at hcut39
                                      have HR224 := Aside0.mk hr39
                                      have HC224 := Aside0.mk (show y221.length ≤ c39 from by rw [hy39, hc39]; exact Nat.sub_le_sub_right (Nat.le_trans (by omega) hroom39) _)
                                      clear hr39 hC39 hroom39 hi039 hsz39 hc39
                                      have KY39 := Aside0.mk hy39
                                      have KA39 := Aside0.mk hA39
                                      clear hy39 hA39
                                      replace q39 := eq_true q39
                                      go_wp2_with (first | ((with_reducible refine gate_callee (f := 33) rfl ?_); refine goesL_ (some 64) rfl rfl Tryf.func33 (by kernel_rfl) rfl #[.slice A39 y221.length c39] rfl (by (try simp only [List.map_toArray, List.map_cons, List.map_nil]); first | done | rfl | (simp only [List.length_drop, List.length_take]; rfl)) ?_; (with_reducible refine (spec_Joined.calls kj14 _ _ y221 t225 t226 true _ ?side1 ?side2 A30.out).mono ?_); (case side1 => repeat (first | exact (Kd.C_below HR224.out HB.out) | (with_reducible refine Kd.C_alloc ?_ _) | (with_reducible refine Kd.C_drewN ?_ _) | (with_reducible refine Kd.C_drew ?_))); (case side2 => exact HC224.out); rintro e w40 ⟨rfl, hb⟩; refine ⟨_, rfl, ?_⟩; have n0_ := Aside0.mk (Kd.R_below (by (with_reducible repeat (first | apply Kd.R_alloc | apply Kd.R_drewN | apply Kd.R_drew)); exact HO_4.out) hb); have n1_ := Aside0.mk (blk_below (g := gb212) (o := .cells #[.slice (some ad216) l0_0.length c0_0, .int .u64 a0_1, .int .u64 a0_2, .int .i64 a0_3, .int .i64 a0_4] 36 (0, 0)) (by (with_reducible repeat (first | refine blk_drewN ?_ _ | refine blk_drew ?_ | refine blk_alloc ?_ _)); exact BK212.out) hb); have n2_ := Aside0.mk (blk_below (g := gb220) (o := .cells #[.int .u64 t217, .int .u64 t218] 60 (0, 0)) (by (with_reducible repeat (first | refine blk_drewN ?_ _ | refine blk_drew ?_ | refine blk_alloc ?_ _)); exact BK220.out) hb); have n3_ := Aside0.mk (below_step (by repeat (first | (with_reducible first | exact HB.out | apply below_alloc | apply pw_below_drewN | apply below_drew1 | refine below_set ?_ GE212.out | refine below_set ?_ GE220.out) | exact HB.out)) hb); clear HO_4; clear BK212; clear BK220; clear HB; have HO_4 := n0_; have BK212 := n1_; have BK220 := n2_; have HB := n3_; clear n0_ n1_ n2_ n3_; (try clear hb); (try clear hb2); (try clear hk); (try clear hi); have hcz41_0 : w40.cell? ⟨gb220, 0, none⟩ = some (.int .u64 t217) := (blk_cell BK220.out 0).trans rfl; have hcz41_1 : w40.cell? ⟨gb220, 1, none⟩ = some (.int .u64 t218) := (blk_cell BK220.out 1).trans rfl; have hfz41_0 := blk_frozen BK220.out 0; have hfz41_1 := blk_frozen BK220.out 1; have hcz42_0 : w40.cell? ⟨gb212, 0, none⟩ = some (.slice (some ad216) l0_0.length c0_0) := (blk_cell BK212.out 0).trans rfl; have hcz42_1 : w40.cell? ⟨gb212, 1, none⟩ = some (.int .u64 a0_1) := (blk_cell BK212.out 1).trans rfl; have hcz42_2 : w40.cell? ⟨gb212, 2, none⟩ = some (.int .u64 a0_2) := (blk_cell BK212.out 2).trans rfl; have hcz42_3 : w40.cell? ⟨gb212, 3, none⟩ = some (.int .i64 a0_3) := (blk_cell BK212.out 3).trans rfl; have hcz42_4 : w40.cell? ⟨gb212, 4, none⟩ = some (.int .i64 a0_4) := (blk_cell BK212.out 4).trans rfl; have hfz42_0 := blk_frozen BK212.out 0; have hfz42_1 := blk_frozen BK212.out 1; have hfz42_2 := blk_frozen BK212.out 2; have hfz42_3 := blk_frozen BK212.out 3; have hfz42_4 := blk_frozen BK212.out 4) | ((with_reducible refine gate_callee (f := 32) rfl ?_); refine goesL_ (some 70) rfl rfl Tryf.func32 (by kernel_rfl) rfl #[.agg #[.int .u64 a0_1, .int .u64 a0_2]] rfl (by (try simp only [List.map_toArray, List.map_cons, List.map_nil]); first | done | rfl | (simp only [List.length_drop, List.length_take]; rfl)) ?_; (with_reducible refine (spec_SpanOf.calls a0_1 a0_2 t228 t229 true _ A31.out).mono ?_); rintro e w43 ⟨rfl, hb⟩; refine ⟨_, rfl, ?_⟩; have n0_ := Aside0.mk (Kd.R_below (by (with_reducible repeat (first | apply Kd.R_alloc | apply Kd.R_drewN | apply Kd.R_drew)); exact (Kd.R_mono (Kd.R_far (p := ⟨gb220, 1, none⟩) (Kd.R_far (p := ⟨gb220, 0, none⟩) (Kd.R_mono HO_4.out (fun k_ hk => (⟨hk, hk⟩ : _ ∧ k_ ≠ gb220))) (fun _ hk => hk.2) (.int .u64 t225)) (fun _ hk => hk.2) (.int .u64 t226)) (fun _ h_ => h_.1))) hb); have n1_ := Aside0.mk (blk_below (g := gb212) (o := .cells #[.slice (some ad216) l0_0.length c0_0, .int .u64 a0_1, .int .u64 a0_2, .int .i64 a0_3, .int .i64 a0_4] 36 (0, 0)) (by (with_reducible repeat (first | refine blk_drewN ?_ _ | refine blk_drew ?_ | refine blk_alloc ?_ _)); refine blk_far ?_ NB212_220.out _; (with_reducible repeat (first | refine blk_drewN ?_ _ | refine blk_drew ?_ | refine blk_alloc ?_ _)); refine blk_far ?_ NB212_220.out _; (with_reducible repeat (first | refine blk_drewN ?_ _ | refine blk_drew ?_ | refine blk_alloc ?_ _)); exact BK212.out) hb); have n2_ := Aside0.mk (blk_below (g := gb220) (o := .cells #[.int .u64 t225, .int .u64 t226] 60 (0, 0)) (by (with_reducible repeat (first | refine blk_drewN ?_ _ | refine blk_drew ?_ | refine blk_alloc ?_ _)); refine blk_put (cs := #[.int .u64 t225, .int .u64 t218]) ?_ 1 _ rfl; (with_reducible repeat (first | refine blk_drewN ?_ _ | refine blk_drew ?_ | refine blk_alloc ?_ _)); refine blk_put (cs := #[.int .u64 t217, .int .u64 t218]) ?_ 0 _ rfl; (with_reducible repeat (first | refine blk_drewN ?_ _ | refine blk_drew ?_ | refine blk_alloc ?_ _)); exact BK220.out) hb); have n3_ := Aside0.mk (below_step (by repeat (first | (with_reducible first | exact HB.out | apply below_alloc | apply pw_below_drewN | apply below_drew1 | refine below_set ?_ GE212.out | refine below_set ?_ GE220.out) | exact HB.out)) hb); clear HO_4; clear BK212; clear BK220; clear HB; have HO_4 := n0_; have BK212 := n1_; have BK220 := n2_; have HB := n3_; clear n0_ n1_ n2_ n3_; (try clear hb); (try clear hb2); (try clear hk); (try clear hi)) | ((with_reducible refine gate_dst (N := 8) rfl ?_); (try (refine gate_guard (by rfl) ?_; dsimp only)); refine box_event ?hg (N := 8) ?hd (cs := #[.int .u64 0, .int .u64 0]) (t := 60) ?hr ?_; (case hd => rfl); (case hg => rfl); (case hr => first | (go_simp; done) | (go_simp; rfl)); intro gb231 hg w44 hbox hb; have n0_ := Aside0.mk (Kd.R_below (Kd.R_elderB (by (with_reducible repeat (first | apply Kd.R_alloc | apply Kd.R_drewN | apply Kd.R_drew)); exact HO_4.out) gb231 (Nat.le_of_eq hg.symm)) hb); have n1_ := Aside0.mk (blk_below (g := gb212) (o := .cells #[.slice (some ad216) l0_0.length c0_0, .int .u64 a0_1, .int .u64 a0_2, .int .i64 a0_3, .int .i64 a0_4] 36 (0, 0)) (by (with_reducible repeat (first | refine blk_drewN ?_ _ | refine blk_drew ?_ | refine blk_alloc ?_ _)); exact BK212.out) hb); have n2_ := Aside0.mk (blk_below (g := gb220) (o := .cells #[.int .u64 t225, .int .u64 t226] 60 (0, 0)) (by (with_reducible repeat (first | refine blk_drewN ?_ _ | refine blk_drew ?_ | refine blk_alloc ?_ _)); exact BK220.out) hb); have n3_ := Aside0.mk (below_step (by repeat (first | (with_reducible first | exact HB.out | apply below_alloc | apply pw_below_drewN | apply below_drew1 | refine below_set ?_ GE212.out | refine below_set ?_ GE220.out) | exact HB.out)) hb); have n4_ := Aside0.mk (hbox); have n5_ := Aside0.mk ((by rw [hg]; exact (below_size (by repeat (first | (with_reducible first | exact HB.out | apply below_alloc | apply pw_below_drewN | apply below_drew1 | refine below_set ?_ GE212.out | refine below_set ?_ GE220.out) | exact HB.out))) : w.heap.size ≤ gb231)); have n6_ := Aside0.mk ((by rw [hg]; exact (below_size (by repeat (first | (with_reducible first | exact HB.out | apply below_alloc | apply pw_below_drewN | apply below_drew1 | refine below_set ?_ GE212.out | refine below_set ?_ GE220.out) | exact HB.out))) : w.heap.size ≤ gb231)); have n7_ := Aside0.mk ((by rw [hg]; exact Nat.ne_of_lt (blk_lt (g := gb212) (o := .cells #[.slice (some ad216) l0_0.length c0_0, .int .u64 a0_1, .int .u64 a0_2, .int .i64 a0_3, .int .i64 a0_4] 36 (0, 0)) (by (with_reducible repeat (first | refine blk_drewN ?_ _ | refine blk_drew ?_ | refine blk_alloc ?_ _)); exact BK212.out)) : gb212 ≠ gb231)); have n8_ := Aside0.mk ((by rw [hg]; exact Nat.ne_of_gt (blk_lt (g := gb212) (o := .cells #[.slice (some ad216) l0_0.length c0_0, .int .u64 a0_1, .int .u64 a0_2, .int .i64 a0_3, .int .i64 a0_4] 36 (0, 0)) (by (with_reducible repeat (first | refine blk_drewN ?_ _ | refine blk_drew ?_ | refine blk_alloc ?_ _)); exact BK212.out)) : gb231 ≠ gb212)); have n9_ := Aside0.mk ((by rw [hg]; exact Nat.ne_of_lt (blk_lt (g := gb220) (o := .cells #[.int .u64 t225, .int .u64 t226] 60 (0, 0)) (by (with_reducible repeat (first | refine blk_drewN ?_ _ | refine blk_drew ?_ | refine blk_alloc ?_ _)); exact BK220.out)) : gb220 ≠ gb231)); have n10_ := Aside0.mk ((by rw [hg]; exact Nat.ne_of_gt (blk_lt (g := gb220) (o := .cells #[.int .u64 t225, .int .u64 t226] 60 (0, 0)) (by (with_reducible repeat (first | refine blk_drewN ?_ _ | refine blk_drew ?_ | refine blk_alloc ?_ _)); exact BK220.out)) : gb231 ≠ gb220)); clear HO_4; clear BK212; clear BK220; clear HB; have HO_4 := n0_; have BK212 := n1_; have BK220 := n2_; have HB := n3_; have BK231 := n4_; have GW231 := n5_; have GE231 := n6_; have NB212_231 := n7_; have NB231_212 := n8_; have NB220_231 := n9_; have NB231_220 := n10_; clear n0_ n1_ n2_ n3_ n4_ n5_ n6_ n7_ n8_ n9_ n10_; clear hb hbox hg; have hnb45 := NB231_212.out; have hnc45 := NB212_231.out; have hnb46 := NB231_220.out; have hnc46 := NB220_231.out; have hcz47_0 : w44.cell? ⟨gb231, 0, none⟩ = some (.int .u64 0) := (blk_cell BK231.out 0).trans rfl; have hcz47_1 : w44.cell? ⟨gb231, 1, none⟩ = some (.int .u64 0) := (blk_cell BK231.out 1).trans rfl; have hfz47_0 := blk_frozen BK231.out 0; have hfz47_1 := blk_frozen BK231.out 1; have hcz48_0 : w44.cell? ⟨gb220, 0, none⟩ = some (.int .u64 t225) := (blk_cell BK220.out 0).trans rfl; have hcz48_1 : w44.cell? ⟨gb220, 1, none⟩ = some (.int .u64 t226) := (blk_cell BK220.out 1).trans rfl; have hfz48_0 := blk_frozen BK220.out 0; have hfz48_1 := blk_frozen BK220.out 1; have hcz49_0 : w44.cell? ⟨gb212, 0, none⟩ = some (.slice (some ad216) l0_0.length c0_0) := (blk_cell BK212.out 0).trans rfl; have hcz49_1 : w44.cell? ⟨gb212, 1, none⟩ = some (.int .u64 a0_1) := (blk_cell BK212.out 1).trans rfl; have hcz49_2 : w44.cell? ⟨gb212, 2, none⟩ = some (.int .u64 a0_2) := (blk_cell BK212.out 2).trans rfl; have hcz49_3 : w44.cell? ⟨gb212, 3, none⟩ = some (.int .i64 a0_3) := (blk_cell BK212.out 3).trans rfl; have hcz49_4 : w44.cell? ⟨gb212, 4, none⟩ = some (.int .i64 a0_4) := (blk_cell BK212.out 4).trans rfl; have hfz49_0 := blk_frozen BK212.out 0; have hfz49_1 := blk_frozen BK212.out 1; have hfz49_2 := blk_frozen BK212.out 2; have hfz49_3 := blk_frozen BK212.out 3; have hfz49_4 := blk_frozen BK212.out 4) | ((with_reducible refine gate_builtin (b := .append) (xs := #[.tmp 96, .tmp 98]) rfl ?_); (try (refine gate_guard (by rfl) ?_; dsimp only)); at_builtin; refine Kd.R_append k60 (w0 := w) w.heap.size rfl (.tmp 96) (.tmp 98) 39 60 (.agg #[(.int .u64 0), (.int .u64 0)]) 16 rfl Tryf.underlying39 info60 rfl (by decide) (by omega) u4 x4_2 (⟨t225, t226⟩ : S60) [.int .u64 t225, .int .u64 t226] (fun k_ => k_ ≠ gb220 ∧ k_ ≠ gb231) (fun _ => False) rfl (by first | (go_simp; done) | (go_simp; rfl)) ?aP (fun _ hk => hk.elim) ?aF ?aO ?aB ?aS ?aL ?_; (case aP => exact k60_mkM _ _ _ (⟨t225, t226⟩ : S60)); (case aB => exact (by repeat (first | (with_reducible first | exact HB.out | apply below_alloc | apply pw_below_drewN | apply below_drew1 | refine below_set ?_ GE212.out | refine below_set ?_ GE220.out | refine below_set ?_ GE231.out) | exact HB.out))); (case aF => exact (fun k_ hk => ⟨Kd.freshB (g := gb220) (o := .cells #[.int .u64 t225, .int .u64 t226] 60 (0, 0)) (by (with_reducible repeat (first | refine blk_drewN ?_ _ | refine blk_drew ?_ | refine blk_alloc ?_ _)); refine blk_far ?_ NB220_231.out _; (with_reducible repeat (first | refine blk_drewN ?_ _ | refine blk_drew ?_ | refine blk_alloc ?_ _)); refine blk_far ?_ NB220_231.out _; (with_reducible repeat (first | refine blk_drewN ?_ _ | refine blk_drew ?_ | refine blk_alloc ?_ _)); exact BK220.out) k_ hk, Kd.freshB (g := gb231) (o := .cells #[.int .u64 t228, .int .u64 t229] 60 (0, 0)) (by (with_reducible repeat (first | refine blk_drewN ?_ _ | refine blk_drew ?_ | refine blk_alloc ?_ _)); refine blk_put (cs := #[.int .u64 t228, .int .u64 0]) ?_ 1 _ rfl; (with_reducible repeat (first | refine blk_drewN ?_ _ | refine blk_drew ?_ | refine blk_alloc ?_ _)); refine blk_put (cs := #[.int .u64 0, .int .u64 0]) ?_ 0 _ rfl; (with_reducible repeat (first | refine blk_drewN ?_ _ | refine blk_drew ?_ | refine blk_alloc ?_ _)); exact BK231.out) k_ hk⟩)); (case aO => exact (by (with_reducible repeat (first | apply Kd.R_alloc | apply Kd.R_drewN | apply Kd.R_drew)); exact Kd.R_mono (Kd.R_far (p := ⟨gb231, 1, none⟩) (Kd.R_far (p := ⟨gb231, 0, none⟩) (Kd.R_mono HO_4.out (fun k_ hk => (⟨hk, hk.2⟩ : _ ∧ k_ ≠ gb231))) (fun _ hk => hk.2) (.int .u64 t228)) (fun _ hk => hk.2) (.int .u64 t229)) (fun _ hk => ⟨hk.1.1, hk.1.2⟩))); (case aS => exact (below_size (by repeat (first | (with_reducible first | exact HB.out | apply below_alloc | apply pw_below_drewN | apply below_drew1 | refine below_set ?_ GE212.out | refine below_set ?_ GE220.out | refine below_set ?_ GE231.out) | exact HB.out)))); (case aL => have := LMc36.out; omega); intro v233 w50 ho hb hg hat; rw [← Ny232.out] at ho; have n0_ := Aside0.mk (blk_grown (g := gb212) (o := .cells #[.slice (some ad216) l0_0.length c0_0, .int .u64 a0_1, .int .u64 a0_2, .int .i64 a0_3, .int .i64 a0_4] 36 (0, 0)) (by (with_reducible repeat (first | refine blk_drewN ?_ _ | refine blk_drew ?_ | refine blk_alloc ?_ _)); refine blk_far ?_ NB212_231.out _; (with_reducible repeat (first | refine blk_drewN ?_ _ | refine blk_drew ?_ | refine blk_alloc ?_ _)); refine blk_far ?_ NB212_231.out _; (with_reducible repeat (first | refine blk_drewN ?_ _ | refine blk_drew ?_ | refine blk_alloc ?_ _)); exact BK212.out) hg (Kd.R_ne HO_4.out BK212.out (by decide))); have n1_ := Aside0.mk (blk_grown (g := gb220) (o := .cells #[.int .u64 t225, .int .u64 t226] 60 (0, 0)) (by (with_reducible repeat (first | refine blk_drewN ?_ _ | refine blk_drew ?_ | refine blk_alloc ?_ _)); refine blk_far ?_ NB220_231.out _; (with_reducible repeat (first | refine blk_drewN ?_ _ | refine blk_drew ?_ | refine blk_alloc ?_ _)); refine blk_far ?_ NB220_231.out _; (with_reducible repeat (first | refine blk_drewN ?_ _ | refine blk_drew ?_ | refine blk_alloc ?_ _)); exact BK220.out) hg (Kd.R_away HO_4.out (fun _ hk => hk.1))); have n2_ := Aside0.mk (blk_grown (g := gb231) (o := .cells #[.int .u64 t228, .int .u64 t229] 60 (0, 0)) (by (with_reducible repeat (first | refine blk_drewN ?_ _ | refine blk_drew ?_ | refine blk_alloc ?_ _)); refine blk_put (cs := #[.int .u64 t228, .int .u64 0]) ?_ 1 _ rfl; (with_reducible repeat (first | refine blk_drewN ?_ _ | refine blk_drew ?_ | refine blk_alloc ?_ _)); refine blk_put (cs := #[.int .u64 0, .int .u64 0]) ?_ 0 _ rfl; (with_reducible repeat (first | refine blk_drewN ?_ _ | refine blk_drew ?_ | refine blk_alloc ?_ _)); exact BK231.out) hg (Kd.R_away HO_4.out (fun _ hk => hk.2))); have n3_ := Aside0.mk (hb); have n4_ := Aside0.mk (ho); clear BK212; clear BK220; clear BK231; clear HB; clear HO_4; have BK212 := n0_; have BK220 := n1_; have BK231 := n2_; have HB := n3_; have HO234 := n4_; clear n0_ n1_ n2_ n3_ n4_; clear ho hb hg hat))
                                      go_roundg kj14
                                      case measure => have := HJ1.out; have := HK2.out; have := HJ14.out; omega
                                      case rel => exact ⟨(y232), (wrap64 ((wrap64 (a0_4 - 1)) + 1)), (by first | rfl | (simp; done) | (simp [*]; done)), H', ⟨by have := HJ1.out; have := HK2.out; have := HJ14.out; omega⟩, ⟨by (with_reducible repeat (first | apply Kd.R_alloc | apply Kd.R_drewN | apply Kd.R_drew)); exact Kd.R_mono HO234.out (fun _ hk => trivial)⟩, ⟨by (with_reducible repeat (first | refine blk_drewN ?_ _ | refine blk_drew ?_ | refine blk_alloc ?_ _)); exact BK212.out⟩, ⟨by repeat (first | (with_reducible first | exact HB.out | apply below_alloc | apply pw_below_drewN | apply below_drew1 | refine below_set ?_ GE212.out | refine below_set ?_ GE220.out | refine below_set ?_ GE231.out) | exact HB.out)⟩⟩
                                    · rw [if_neg c36] at H
                                      exact absurd H (by simp)
                                  · rw [if_neg c35] at H
                                    have c35b0 : decide (t226 ≤ t229) = false := decide_eq_false c35
                                    clear c35
                                    simp only [Option.some.injEq, Prod.mk.injEq] at H
                                    obtain ⟨rfl, rfl⟩ := H
                                    have hnb51 := NB212_220.out
                                    have hnc51 := NB220_212.out
                                    have hcz52_0 : wc.cell? ⟨gb212, 0, none⟩ = some (.slice (some ad216) l0_0.length c0_0) := (blk_cell BK212.out 0).trans rfl
                                    have hcz52_1 : wc.cell? ⟨gb212, 1, none⟩ = some (.int .u64 a0_1) := (blk_cell BK212.out 1).trans rfl
                                    have hcz52_2 : wc.cell? ⟨gb212, 2, none⟩ = some (.int .u64 a0_2) := (blk_cell BK212.out 2).trans rfl
                                    have hcz52_3 : wc.cell? ⟨gb212, 3, none⟩ = some (.int .i64 a0_3) := (blk_cell BK212.out 3).trans rfl
                                    have hcz52_4 : wc.cell? ⟨gb212, 4, none⟩ = some (.int .i64 a0_4) := (blk_cell BK212.out 4).trans rfl
                                    have hfz52_0 := blk_frozen BK212.out 0
                                    have hfz52_1 := blk_frozen BK212.out 1
                                    have hfz52_2 := blk_frozen BK212.out 2
                                    have hfz52_3 := blk_frozen BK212.out 3
                                    have hfz52_4 := blk_frozen BK212.out 4
                                    have q53 : (a0_4 : Int) ≤ ((l0_0.length : Int) : Int) := of_decide_eq_true (by first | (with_reducible assumption) | assumption)
                                    obtain ⟨i053, hi053, _, hsz53, _⟩ := info_parts info34
                                    have hroom53 : l0_0.length ≤ c0_0 := HC0_0.out
                                    have hC53 : Kd.C k34 _ (some ad216) l0_0.length l0_0 := HR0_0.out
                                    have ql53 : (a0_3 : Int) ≤ (a0_4 : Int) := of_decide_eq_true (by first | (with_reducible assumption) | assumption)
                                    have q053 : (0 : Int) ≤ (a0_3 : Int) := of_decide_eq_true (by first | (with_reducible assumption) | assumption)
                                    have hcut53 := cut_mid (P := Tryf.prog) 31 34 .i64 .i64 Tryf.underlying31 hi053 2 hsz53 (some ad216) l0_0.length c0_0 a0_3 a0_4 q053 ql53 q53 hroom53
                                    have hr53 := Kd.C_mid (lo := (a0_3 : Int).toNat) (hi := (a0_4 : Int).toNat) (c := c0_0) hC53 (by omega) (by omega) hroom53
                                    obtain ⟨A53, hA53⟩ : ∃ A1, A1 = (if c0_0 = (a0_3 : Int).toNat then (some ad216) else ((some ad216) : Option Addr).map (·.add ((a0_3 : Int).toNat * 2))) := ⟨_, rfl⟩
                                    obtain ⟨c53, hc53⟩ : ∃ c1, c1 = c0_0 - (a0_3 : Int).toNat := ⟨_, rfl⟩
                                    have hy53 : y221.length = (a0_4 : Int).toNat - (a0_3 : Int).toNat := (by rw [Ny221.out, List.length_drop, List.length_take] <;> omega)
                                    rw [show ((l0_0).take (a0_4 : Int).toNat).drop (a0_3 : Int).toNat = y221 from Ny221.out.symm] at hr53
                                    replace hr53 : Kd.C k34 _ A53 y221.length y221 := (by rw [hA53]; exact hr53)
                                    rw [← hy53, ← hA53, ← hc53] at hcut53
                                    have HR224 := Aside0.mk hr53
                                    have HC224 := Aside0.mk (show y221.length ≤ c53 from by rw [hy53, hc53]; exact Nat.sub_le_sub_right (Nat.le_trans (by omega) hroom53) _)
                                    clear hr53 hC53 hroom53 hi053 hsz53 hc53
                                    have KY53 := Aside0.mk hy53
                                    have KA53 := Aside0.mk hA53
                                    clear hy53 hA53
                                    replace q53 := eq_true q53
                                    go_wp2_with (first | ((with_reducible refine gate_callee (f := 33) rfl ?_); refine goesL_ (some 64) rfl rfl Tryf.func33 (by kernel_rfl) rfl #[.slice A53 y221.length c53] rfl (by (try simp only [List.map_toArray, List.map_cons, List.map_nil]); first | done | rfl | (simp only [List.length_drop, List.length_take]; rfl)) ?_; (with_reducible refine (spec_Joined.calls kj14 _ _ y221 t225 t226 true _ ?side1 ?side2 A30.out).mono ?_); (case side1 => repeat (first | exact (Kd.C_below HR224.out HB.out) | (with_reducible refine Kd.C_alloc ?_ _) | (with_reducible refine Kd.C_drewN ?_ _) | (with_reducible refine Kd.C_drew ?_))); (case side2 => exact HC224.out); rintro e w54 ⟨rfl, hb⟩; refine ⟨_, rfl, ?_⟩; have n0_ := Aside0.mk (Kd.R_below (by (with_reducible repeat (first | apply Kd.R_alloc | apply Kd.R_drewN | apply Kd.R_drew)); exact HO_4.out) hb); have n1_ := Aside0.mk (blk_below (g := gb212) (o := .cells #[.slice (some ad216) l0_0.length c0_0, .int .u64 a0_1, .int .u64 a0_2, .int .i64 a0_3, .int .i64 a0_4] 36 (0, 0)) (by (with_reducible repeat (first | refine blk_drewN ?_ _ | refine blk_drew ?_ | refine blk_alloc ?_ _)); exact BK212.out) hb); have n2_ := Aside0.mk (blk_below (g := gb220) (o := .cells #[.int .u64 t217, .int .u64 t218] 60 (0, 0)) (by (with_reducible repeat (first | refine blk_drewN ?_ _ | refine blk_drew ?_ | refine blk_alloc ?_ _)); exact BK220.out) hb); have n3_ := Aside0.mk (below_step (by repeat (first | (with_reducible first | exact HB.out | apply below_alloc | apply pw_below_drewN | apply below_drew1 | refine below_set ?_ GE212.out | refine below_set ?_ GE220.out) | exact HB.out)) hb); clear HO_4; clear BK212; clear BK220; clear HB; have HO_4 := n0_; have BK212 := n1_; have BK220 := n2_; have HB := n3_; clear n0_ n1_ n2_ n3_; (try clear hb); (try clear hb2); (try clear hk); (try clear hi); have hcz55_0 : w54.cell? ⟨gb220, 0, none⟩ = some (.int .u64 t217) := (blk_cell BK220.out 0).trans rfl; have hcz55_1 : w54.cell? ⟨gb220, 1, none⟩ = some (.int .u64 t218) := (blk_cell BK220.out 1).trans rfl; have hfz55_0 := blk_frozen BK220.out 0; have hfz55_1 := blk_frozen BK220.out 1; have hcz56_0 : w54.cell? ⟨gb212, 0, none⟩ = some (.slice (some ad216) l0_0.length c0_0) := (blk_cell BK212.out 0).trans rfl; have hcz56_1 : w54.cell? ⟨gb212, 1, none⟩ = some (.int .u64 a0_1) := (blk_cell BK212.out 1).trans rfl; have hcz56_2 : w54.cell? ⟨gb212, 2, none⟩ = some (.int .u64 a0_2) := (blk_cell BK212.out 2).trans rfl; have hcz56_3 : w54.cell? ⟨gb212, 3, none⟩ = some (.int .i64 a0_3) := (blk_cell BK212.out 3).trans rfl; have hcz56_4 : w54.cell? ⟨gb212, 4, none⟩ = some (.int .i64 a0_4) := (blk_cell BK212.out 4).trans rfl; have hfz56_0 := blk_frozen BK212.out 0; have hfz56_1 := blk_frozen BK212.out 1; have hfz56_2 := blk_frozen BK212.out 2; have hfz56_3 := blk_frozen BK212.out 3; have hfz56_4 := blk_frozen BK212.out 4) | ((with_reducible refine gate_callee (f := 32) rfl ?_); refine goesL_ (some 70) rfl rfl Tryf.func32 (by kernel_rfl) rfl #[.agg #[.int .u64 a0_1, .int .u64 a0_2]] rfl (by (try simp only [List.map_toArray, List.map_cons, List.map_nil]); first | done | rfl | (simp only [List.length_drop, List.length_take]; rfl)) ?_; (with_reducible refine (spec_SpanOf.calls a0_1 a0_2 t228 t229 true _ A31.out).mono ?_); rintro e w57 ⟨rfl, hb⟩; refine ⟨_, rfl, ?_⟩; have n0_ := Aside0.mk (Kd.R_below (by (with_reducible repeat (first | apply Kd.R_alloc | apply Kd.R_drewN | apply Kd.R_drew)); exact (Kd.R_mono (Kd.R_far (p := ⟨gb220, 1, none⟩) (Kd.R_far (p := ⟨gb220, 0, none⟩) (Kd.R_mono HO_4.out (fun k_ hk => (⟨hk, hk⟩ : _ ∧ k_ ≠ gb220))) (fun _ hk => hk.2) (.int .u64 t225)) (fun _ hk => hk.2) (.int .u64 t226)) (fun _ h_ => h_.1))) hb); have n1_ := Aside0.mk (blk_below (g := gb212) (o := .cells #[.slice (some ad216) l0_0.length c0_0, .int .u64 a0_1, .int .u64 a0_2, .int .i64 a0_3, .int .i64 a0_4] 36 (0, 0)) (by (with_reducible repeat (first | refine blk_drewN ?_ _ | refine blk_drew ?_ | refine blk_alloc ?_ _)); refine blk_far ?_ NB212_220.out _; (with_reducible repeat (first | refine blk_drewN ?_ _ | refine blk_drew ?_ | refine blk_alloc ?_ _)); refine blk_far ?_ NB212_220.out _; (with_reducible repeat (first | refine blk_drewN ?_ _ | refine blk_drew ?_ | refine blk_alloc ?_ _)); exact BK212.out) hb); have n2_ := Aside0.mk (blk_below (g := gb220) (o := .cells #[.int .u64 t225, .int .u64 t226] 60 (0, 0)) (by (with_reducible repeat (first | refine blk_drewN ?_ _ | refine blk_drew ?_ | refine blk_alloc ?_ _)); refine blk_put (cs := #[.int .u64 t225, .int .u64 t218]) ?_ 1 _ rfl; (with_reducible repeat (first | refine blk_drewN ?_ _ | refine blk_drew ?_ | refine blk_alloc ?_ _)); refine blk_put (cs := #[.int .u64 t217, .int .u64 t218]) ?_ 0 _ rfl; (with_reducible repeat (first | refine blk_drewN ?_ _ | refine blk_drew ?_ | refine blk_alloc ?_ _)); exact BK220.out) hb); have n3_ := Aside0.mk (below_step (by repeat (first | (with_reducible first | exact HB.out | apply below_alloc | apply pw_below_drewN | apply below_drew1 | refine below_set ?_ GE212.out | refine below_set ?_ GE220.out) | exact HB.out)) hb); clear HO_4; clear BK212; clear BK220; clear HB; have HO_4 := n0_; have BK212 := n1_; have BK220 := n2_; have HB := n3_; clear n0_ n1_ n2_ n3_; (try clear hb); (try clear hb2); (try clear hk); (try clear hi)) | ((with_reducible refine gate_dst (N := 8) rfl ?_); (try (refine gate_guard (by rfl) ?_; dsimp only)); refine box_event ?hg (N := 8) ?hd (cs := #[.int .u64 0, .int .u64 0]) (t := 60) ?hr ?_; (case hd => rfl); (case hg => rfl); (case hr => first | (go_simp; done) | (go_simp; rfl)); intro gb231 hg w58 hbox hb; have n0_ := Aside0.mk (Kd.R_below (Kd.R_elderB (by (with_reducible repeat (first | apply Kd.R_alloc | apply Kd.R_drewN | apply Kd.R_drew)); exact HO_4.out) gb231 (Nat.le_of_eq hg.symm)) hb); have n1_ := Aside0.mk (blk_below (g := gb212) (o := .cells #[.slice (some ad216) l0_0.length c0_0, .int .u64 a0_1, .int .u64 a0_2, .int .i64 a0_3, .int .i64 a0_4] 36 (0, 0)) (by (with_reducible repeat (first | refine blk_drewN ?_ _ | refine blk_drew ?_ | refine blk_alloc ?_ _)); exact BK212.out) hb); have n2_ := Aside0.mk (blk_below (g := gb220) (o := .cells #[.int .u64 t225, .int .u64 t226] 60 (0, 0)) (by (with_reducible repeat (first | refine blk_drewN ?_ _ | refine blk_drew ?_ | refine blk_alloc ?_ _)); exact BK220.out) hb); have n3_ := Aside0.mk (below_step (by repeat (first | (with_reducible first | exact HB.out | apply below_alloc | apply pw_below_drewN | apply below_drew1 | refine below_set ?_ GE212.out | refine below_set ?_ GE220.out) | exact HB.out)) hb); have n4_ := Aside0.mk (hbox); have n5_ := Aside0.mk ((by rw [hg]; exact (below_size (by repeat (first | (with_reducible first | exact HB.out | apply below_alloc | apply pw_below_drewN | apply below_drew1 | refine below_set ?_ GE212.out | refine below_set ?_ GE220.out) | exact HB.out))) : w.heap.size ≤ gb231)); have n6_ := Aside0.mk ((by rw [hg]; exact (below_size (by repeat (first | (with_reducible first | exact HB.out | apply below_alloc | apply pw_below_drewN | apply below_drew1 | refine below_set ?_ GE212.out | refine below_set ?_ GE220.out) | exact HB.out))) : w.heap.size ≤ gb231)); have n7_ := Aside0.mk ((by rw [hg]; exact Nat.ne_of_lt (blk_lt (g := gb212) (o := .cells #[.slice (some ad216) l0_0.length c0_0, .int .u64 a0_1, .int .u64 a0_2, .int .i64 a0_3, .int .i64 a0_4] 36 (0, 0)) (by (with_reducible repeat (first | refine blk_drewN ?_ _ | refine blk_drew ?_ | refine blk_alloc ?_ _)); exact BK212.out)) : gb212 ≠ gb231)); have n8_ := Aside0.mk ((by rw [hg]; exact Nat.ne_of_gt (blk_lt (g := gb212) (o := .cells #[.slice (some ad216) l0_0.length c0_0, .int .u64 a0_1, .int .u64 a0_2, .int .i64 a0_3, .int .i64 a0_4] 36 (0, 0)) (by (with_reducible repeat (first | refine blk_drewN ?_ _ | refine blk_drew ?_ | refine blk_alloc ?_ _)); exact BK212.out)) : gb231 ≠ gb212)); have n9_ := Aside0.mk ((by rw [hg]; exact Nat.ne_of_lt (blk_lt (g := gb220) (o := .cells #[.int .u64 t225, .int .u64 t226] 60 (0, 0)) (by (with_reducible repeat (first | refine blk_drewN ?_ _ | refine blk_drew ?_ | refine blk_alloc ?_ _)); exact BK220.out)) : gb220 ≠ gb231)); have n10_ := Aside0.mk ((by rw [hg]; exact Nat.ne_of_gt (blk_lt (g := gb220) (o := .cells #[.int .u64 t225, .int .u64 t226] 60 (0, 0)) (by (with_reducible repeat (first | refine blk_drewN ?_ _ | refine blk_drew ?_ | refine blk_alloc ?_ _)); exact BK220.out)) : gb231 ≠ gb220)); clear HO_4; clear BK212; clear BK220; clear HB; have HO_4 := n0_; have BK212 := n1_; have BK220 := n2_; have HB := n3_; have BK231 := n4_; have GW231 := n5_; have GE231 := n6_; have NB212_231 := n7_; have NB231_212 := n8_; have NB220_231 := n9_; have NB231_220 := n10_; clear n0_ n1_ n2_ n3_ n4_ n5_ n6_ n7_ n8_ n9_ n10_; clear hb hbox hg; have hnb59 := NB231_212.out; have hnc59 := NB212_231.out; have hnb60 := NB231_220.out; have hnc60 := NB220_231.out; have hcz61_0 : w58.cell? ⟨gb231, 0, none⟩ = some (.int .u64 0) := (blk_cell BK231.out 0).trans rfl; have hcz61_1 : w58.cell? ⟨gb231, 1, none⟩ = some (.int .u64 0) := (blk_cell BK231.out 1).trans rfl; have hfz61_0 := blk_frozen BK231.out 0; have hfz61_1 := blk_frozen BK231.out 1; have hcz62_0 : w58.cell? ⟨gb220, 0, none⟩ = some (.int .u64 t225) := (blk_cell BK220.out 0).trans rfl; have hcz62_1 : w58.cell? ⟨gb220, 1, none⟩ = some (.int .u64 t226) := (blk_cell BK220.out 1).trans rfl; have hfz62_0 := blk_frozen BK220.out 0; have hfz62_1 := blk_frozen BK220.out 1; have hcz63_0 : w58.cell? ⟨gb212, 0, none⟩ = some (.slice (some ad216) l0_0.length c0_0) := (blk_cell BK212.out 0).trans rfl; have hcz63_1 : w58.cell? ⟨gb212, 1, none⟩ = some (.int .u64 a0_1) := (blk_cell BK212.out 1).trans rfl; have hcz63_2 : w58.cell? ⟨gb212, 2, none⟩ = some (.int .u64 a0_2) := (blk_cell BK212.out 2).trans rfl; have hcz63_3 : w58.cell? ⟨gb212, 3, none⟩ = some (.int .i64 a0_3) := (blk_cell BK212.out 3).trans rfl; have hcz63_4 : w58.cell? ⟨gb212, 4, none⟩ = some (.int .i64 a0_4) := (blk_cell BK212.out 4).trans rfl; have hfz63_0 := blk_frozen BK212.out 0; have hfz63_1 := blk_frozen BK212.out 1; have hfz63_2 := blk_frozen BK212.out 2; have hfz63_3 := blk_frozen BK212.out 3; have hfz63_4 := blk_frozen BK212.out 4))
                                    go_ret2
                                    exact ⟨_, by first | rfl | (simp [errW_none, errW_some] <;> rfl) | (simp [*, errW_none, errW_some] <;> rfl), by first | exact Kd.R_nil _ _ _ _ _ | exact Kd.N_nil _ _ _ _ _ | exact Kd.V_nil _ _ _ _ _ | exact Kd.Q_nil _ _ _ _ _ | exact Kd.S_nil _ _ _ _ _, by repeat (first | (with_reducible first | exact HB.out | apply below_alloc | apply pw_below_drewN | apply below_drew1 | refine below_set ?_ GE212.out | refine below_set ?_ GE220.out | refine below_set ?_ GE231.out) | exact HB.out)⟩
                                · rw [if_neg c34] at H
                                  have c34b0 : (t228 == t225) = false := beq_eq_false_iff_ne.mpr c34
                                  have c34b1 : (t228 != t225) = true := bne_iff_ne.mpr c34
                                  simp only [Option.some.injEq, Prod.mk.injEq] at H
                                  obtain ⟨rfl, rfl⟩ := H
                                  have hnb64 := NB212_220.out
                                  have hnc64 := NB220_212.out
                                  have hcz65_0 : wc.cell? ⟨gb212, 0, none⟩ = some (.slice (some ad216) l0_0.length c0_0) := (blk_cell BK212.out 0).trans rfl
                                  have hcz65_1 : wc.cell? ⟨gb212, 1, none⟩ = some (.int .u64 a0_1) := (blk_cell BK212.out 1).trans rfl
                                  have hcz65_2 : wc.cell? ⟨gb212, 2, none⟩ = some (.int .u64 a0_2) := (blk_cell BK212.out 2).trans rfl
                                  have hcz65_3 : wc.cell? ⟨gb212, 3, none⟩ = some (.int .i64 a0_3) := (blk_cell BK212.out 3).trans rfl
                                  have hcz65_4 : wc.cell? ⟨gb212, 4, none⟩ = some (.int .i64 a0_4) := (blk_cell BK212.out 4).trans rfl
                                  have hfz65_0 := blk_frozen BK212.out 0
                                  have hfz65_1 := blk_frozen BK212.out 1
                                  have hfz65_2 := blk_frozen BK212.out 2
                                  have hfz65_3 := blk_frozen BK212.out 3
                                  have hfz65_4 := blk_frozen BK212.out 4
                                  have q66 : (a0_4 : Int) ≤ ((l0_0.length : Int) : Int) := of_decide_eq_true (by first | (with_reducible assumption) | assumption)
                                  obtain ⟨i066, hi066, _, hsz66, _⟩ := info_parts info34
                                  have hroom66 : l0_0.length ≤ c0_0 := HC0_0.out
                                  have hC66 : Kd.C k34 _ (some ad216) l0_0.length l0_0 := HR0_0.out
                                  have ql66 : (a0_3 : Int) ≤ (a0_4 : Int) := of_decide_eq_true (by first | (with_reducible assumption) | assumption)
                                  have q066 : (0 : Int) ≤ (a0_3 : Int) := of_decide_eq_true (by first | (with_reducible assumption) | assumption)
                                  have hcut66 := cut_mid (P := Tryf.prog) 31 34 .i64 .i64 Tryf.underlying31 hi066 2 hsz66 (some ad216) l0_0.length c0_0 a0_3 a0_4 q066 ql66 q66 hroom66
                                  have hr66 := Kd.C_mid (lo := (a0_3 : Int).toNat) (hi := (a0_4 : Int).toNat) (c := c0_0) hC66 (by omega) (by omega) hroom66
                                  obtain ⟨A66, hA66⟩ : ∃ A1, A1 = (if c0_0 = (a0_3 : Int).toNat then (some ad216) else ((some ad216) : Option Addr).map (·.add ((a0_3 : Int).toNat * 2))) := ⟨_, rfl⟩
                                  obtain ⟨c66, hc66⟩ : ∃ c1, c1 = c0_0 - (a0_3 : Int).toNat := ⟨_, rfl⟩
                                  have hy66 : y221.length = (a0_4 : Int).toNat - (a0_3 : Int).toNat := (by rw [Ny221.out, List.length_drop, List.length_take] <;> omega)
                                  rw [show ((l0_0).take (a0_4 : Int).toNat).drop (a0_3 : Int).toNat = y221 from Ny221.out.symm] at hr66
                                  replace hr66 : Kd.C k34 _ A66 y221.length y221 := (by rw [hA66]; exact hr66)
                                  rw [← hy66, ← hA66, ← hc66] at hcut66
                                  have HR224 := Aside0.mk hr66
                                  have HC224 := Aside0.mk (show y221.length ≤ c66 from by rw [hy66, hc66]; exact Nat.sub_le_sub_right (Nat.le_trans (by omega) hroom66) _)
                                  clear hr66 hC66 hroom66 hi066 hsz66 hc66
                                  have KY66 := Aside0.mk hy66
                                  have KA66 := Aside0.mk hA66
                                  clear hy66 hA66
                                  replace q66 := eq_true q66
                                  go_wp2_with (first | ((with_reducible refine gate_callee (f := 33) rfl ?_); refine goesL_ (some 64) rfl rfl Tryf.func33 (by kernel_rfl) rfl #[.slice A66 y221.length c66] rfl (by (try simp only [List.map_toArray, List.map_cons, List.map_nil]); first | done | rfl | (simp only [List.length_drop, List.length_take]; rfl)) ?_; (with_reducible refine (spec_Joined.calls kj14 _ _ y221 t225 t226 true _ ?side1 ?side2 A30.out).mono ?_); (case side1 => repeat (first | exact (Kd.C_below HR224.out HB.out) | (with_reducible refine Kd.C_alloc ?_ _) | (with_reducible refine Kd.C_drewN ?_ _) | (with_reducible refine Kd.C_drew ?_))); (case side2 => exact HC224.out); rintro e w67 ⟨rfl, hb⟩; refine ⟨_, rfl, ?_⟩; have n0_ := Aside0.mk (Kd.R_below (by (with_reducible repeat (first | apply Kd.R_alloc | apply Kd.R_drewN | apply Kd.R_drew)); exact HO_4.out) hb); have n1_ := Aside0.mk (blk_below (g := gb212) (o := .cells #[.slice (some ad216) l0_0.length c0_0, .int .u64 a0_1, .int .u64 a0_2, .int .i64 a0_3, .int .i64 a0_4] 36 (0, 0)) (by (with_reducible repeat (first | refine blk_drewN ?_ _ | refine blk_drew ?_ | refine blk_alloc ?_ _)); exact BK212.out) hb); have n2_ := Aside0.mk (blk_below (g := gb220) (o := .cells #[.int .u64 t217, .int .u64 t218] 60 (0, 0)) (by (with_reducible repeat (first | refine blk_drewN ?_ _ | refine blk_drew ?_ | refine blk_alloc ?_ _)); exact BK220.out) hb); have n3_ := Aside0.mk (below_step (by repeat (first | (with_reducible first | exact HB.out | apply below_alloc | apply pw_below_drewN | apply below_drew1 | refine below_set ?_ GE212.out | refine below_set ?_ GE220.out) | exact HB.out)) hb); clear HO_4; clear BK212; clear BK220; clear HB; have HO_4 := n0_; have BK212 := n1_; have BK220 := n2_; have HB := n3_; clear n0_ n1_ n2_ n3_; (try clear hb); (try clear hb2); (try clear hk); (try clear hi); have hcz68_0 : w67.cell? ⟨gb220, 0, none⟩ = some (.int .u64 t217) := (blk_cell BK220.out 0).trans rfl; have hcz68_1 : w67.cell? ⟨gb220, 1, none⟩ = some (.int .u64 t218) := (blk_cell BK220.out 1).trans rfl; have hfz68_0 := blk_frozen BK220.out 0; have hfz68_1 := blk_frozen BK220.out 1; have hcz69_0 : w67.cell? ⟨gb212, 0, none⟩ = some (.slice (some ad216) l0_0.length c0_0) := (blk_cell BK212.out 0).trans rfl; have hcz69_1 : w67.cell? ⟨gb212, 1, none⟩ = some (.int .u64 a0_1) := (blk_cell BK212.out 1).trans rfl; have hcz69_2 : w67.cell? ⟨gb212, 2, none⟩ = some (.int .u64 a0_2) := (blk_cell BK212.out 2).trans rfl; have hcz69_3 : w67.cell? ⟨gb212, 3, none⟩ = some (.int .i64 a0_3) := (blk_cell BK212.out 3).trans rfl; have hcz69_4 : w67.cell? ⟨gb212, 4, none⟩ = some (.int .i64 a0_4) := (blk_cell BK212.out 4).trans rfl; have hfz69_0 := blk_frozen BK212.out 0; have hfz69_1 := blk_frozen BK212.out 1; have hfz69_2 := blk_frozen BK212.out 2; have hfz69_3 := blk_frozen BK212.out 3; have hfz69_4 := blk_frozen BK212.out 4) | ((with_reducible refine gate_callee (f := 32) rfl ?_); refine goesL_ (some 70) rfl rfl Tryf.func32 (by kernel_rfl) rfl #[.agg #[.int .u64 a0_1, .int .u64 a0_2]] rfl (by (try simp only [List.map_toArray, List.map_cons, List.map_nil]); first | done | rfl | (simp only [List.length_drop, List.length_take]; rfl)) ?_; (with_reducible refine (spec_SpanOf.calls a0_1 a0_2 t228 t229 true _ A31.out).mono ?_); rintro e w70 ⟨rfl, hb⟩; refine ⟨_, rfl, ?_⟩; have n0_ := Aside0.mk (Kd.R_below (by (with_reducible repeat (first | apply Kd.R_alloc | apply Kd.R_drewN | apply Kd.R_drew)); exact (Kd.R_mono (Kd.R_far (p := ⟨gb220, 1, none⟩) (Kd.R_far (p := ⟨gb220, 0, none⟩) (Kd.R_mono HO_4.out (fun k_ hk => (⟨hk, hk⟩ : _ ∧ k_ ≠ gb220))) (fun _ hk => hk.2) (.int .u64 t225)) (fun _ hk => hk.2) (.int .u64 t226)) (fun _ h_ => h_.1))) hb); have n1_ := Aside0.mk (blk_below (g := gb212) (o := .cells #[.slice (some ad216) l0_0.length c0_0, .int .u64 a0_1, .int .u64 a0_2, .int .i64 a0_3, .int .i64 a0_4] 36 (0, 0)) (by (with_reducible repeat (first | refine blk_drewN ?_ _ | refine blk_drew ?_ | refine blk_alloc ?_ _)); refine blk_far ?_ NB212_220.out _; (with_reducible repeat (first | refine blk_drewN ?_ _ | refine blk_drew ?_ | refine blk_alloc ?_ _)); refine blk_far ?_ NB212_220.out _; (with_reducible repeat (first | refine blk_drewN ?_ _ | refine blk_drew ?_ | refine blk_alloc ?_ _)); exact BK212.out) hb); have n2_ := Aside0.mk (blk_below (g := gb220) (o := .cells #[.int .u64 t225, .int .u64 t226] 60 (0, 0)) (by (with_reducible repeat (first | refine blk_drewN ?_ _ | refine blk_drew ?_ | refine blk_alloc ?_ _)); refine blk_put (cs := #[.int .u64 t225, .int .u64 t218]) ?_ 1 _ rfl; (with_reducible repeat (first | refine blk_drewN ?_ _ | refine blk_drew ?_ | refine blk_alloc ?_ _)); refine blk_put (cs := #[.int .u64 t217, .int .u64 t218]) ?_ 0 _ rfl; (with_reducible repeat (first | refine blk_drewN ?_ _ | refine blk_drew ?_ | refine blk_alloc ?_ _)); exact BK220.out) hb); have n3_ := Aside0.mk (below_step (by repeat (first | (with_reducible first | exact HB.out | apply below_alloc | apply pw_below_drewN | apply below_drew1 | refine below_set ?_ GE212.out | refine below_set ?_ GE220.out) | exact HB.out)) hb); clear HO_4; clear BK212; clear BK220; clear HB; have HO_4 := n0_; have BK212 := n1_; have BK220 := n2_; have HB := n3_; clear n0_ n1_ n2_ n3_; (try clear hb); (try clear hb2); (try clear hk); (try clear hi)) | ((with_reducible refine gate_dst (N := 8) rfl ?_); (try (refine gate_guard (by rfl) ?_; dsimp only)); refine box_event ?hg (N := 8) ?hd (cs := #[.int .u64 0, .int .u64 0]) (t := 60) ?hr ?_; (case hd => rfl); (case hg => rfl); (case hr => first | (go_simp; done) | (go_simp; rfl)); intro gb231 hg w71 hbox hb; have n0_ := Aside0.mk (Kd.R_below (Kd.R_elderB (by (with_reducible repeat (first | apply Kd.R_alloc | apply Kd.R_drewN | apply Kd.R_drew)); exact HO_4.out) gb231 (Nat.le_of_eq hg.symm)) hb); have n1_ := Aside0.mk (blk_below (g := gb212) (o := .cells #[.slice (some ad216) l0_0.length c0_0, .int .u64 a0_1, .int .u64 a0_2, .int .i64 a0_3, .int .i64 a0_4] 36 (0, 0)) (by (with_reducible repeat (first | refine blk_drewN ?_ _ | refine blk_drew ?_ | refine blk_alloc ?_ _)); exact BK212.out) hb); have n2_ := Aside0.mk (blk_below (g := gb220) (o := .cells #[.int .u64 t225, .int .u64 t226] 60 (0, 0)) (by (with_reducible repeat (first | refine blk_drewN ?_ _ | refine blk_drew ?_ | refine blk_alloc ?_ _)); exact BK220.out) hb); have n3_ := Aside0.mk (below_step (by repeat (first | (with_reducible first | exact HB.out | apply below_alloc | apply pw_below_drewN | apply below_drew1 | refine below_set ?_ GE212.out | refine below_set ?_ GE220.out) | exact HB.out)) hb); have n4_ := Aside0.mk (hbox); have n5_ := Aside0.mk ((by rw [hg]; exact (below_size (by repeat (first | (with_reducible first | exact HB.out | apply below_alloc | apply pw_below_drewN | apply below_drew1 | refine below_set ?_ GE212.out | refine below_set ?_ GE220.out) | exact HB.out))) : w.heap.size ≤ gb231)); have n6_ := Aside0.mk ((by rw [hg]; exact (below_size (by repeat (first | (with_reducible first | exact HB.out | apply below_alloc | apply pw_below_drewN | apply below_drew1 | refine below_set ?_ GE212.out | refine below_set ?_ GE220.out) | exact HB.out))) : w.heap.size ≤ gb231)); have n7_ := Aside0.mk ((by rw [hg]; exact Nat.ne_of_lt (blk_lt (g := gb212) (o := .cells #[.slice (some ad216) l0_0.length c0_0, .int .u64 a0_1, .int .u64 a0_2, .int .i64 a0_3, .int .i64 a0_4] 36 (0, 0)) (by (with_reducible repeat (first | refine blk_drewN ?_ _ | refine blk_drew ?_ | refine blk_alloc ?_ _)); exact BK212.out)) : gb212 ≠ gb231)); have n8_ := Aside0.mk ((by rw [hg]; exact Nat.ne_of_gt (blk_lt (g := gb212) (o := .cells #[.slice (some ad216) l0_0.length c0_0, .int .u64 a0_1, .int .u64 a0_2, .int .i64 a0_3, .int .i64 a0_4] 36 (0, 0)) (by (with_reducible repeat (first | refine blk_drewN ?_ _ | refine blk_drew ?_ | refine blk_alloc ?_ _)); exact BK212.out)) : gb231 ≠ gb212)); have n9_ := Aside0.mk ((by rw [hg]; exact Nat.ne_of_lt (blk_lt (g := gb220) (o := .cells #[.int .u64 t225, .int .u64 t226] 60 (0, 0)) (by (with_reducible repeat (first | refine blk_drewN ?_ _ | refine blk_drew ?_ | refine blk_alloc ?_ _)); exact BK220.out)) : gb220 ≠ gb231)); have n10_ := Aside0.mk ((by rw [hg]; exact Nat.ne_of_gt (blk_lt (g := gb220) (o := .cells #[.int .u64 t225, .int .u64 t226] 60 (0, 0)) (by (with_reducible repeat (first | refine blk_drewN ?_ _ | refine blk_drew ?_ | refine blk_alloc ?_ _)); exact BK220.out)) : gb231 ≠ gb220)); clear HO_4; clear BK212; clear BK220; clear HB; have HO_4 := n0_; have BK212 := n1_; have BK220 := n2_; have HB := n3_; have BK231 := n4_; have GW231 := n5_; have GE231 := n6_; have NB212_231 := n7_; have NB231_212 := n8_; have NB220_231 := n9_; have NB231_220 := n10_; clear n0_ n1_ n2_ n3_ n4_ n5_ n6_ n7_ n8_ n9_ n10_; clear hb hbox hg; have hnb72 := NB231_212.out; have hnc72 := NB212_231.out; have hnb73 := NB231_220.out; have hnc73 := NB220_231.out; have hcz74_0 : w71.cell? ⟨gb231, 0, none⟩ = some (.int .u64 0) := (blk_cell BK231.out 0).trans rfl; have hcz74_1 : w71.cell? ⟨gb231, 1, none⟩ = some (.int .u64 0) := (blk_cell BK231.out 1).trans rfl; have hfz74_0 := blk_frozen BK231.out 0; have hfz74_1 := blk_frozen BK231.out 1; have hcz75_0 : w71.cell? ⟨gb220, 0, none⟩ = some (.int .u64 t225) := (blk_cell BK220.out 0).trans rfl; have hcz75_1 : w71.cell? ⟨gb220, 1, none⟩ = some (.int .u64 t226) := (blk_cell BK220.out 1).trans rfl; have hfz75_0 := blk_frozen BK220.out 0; have hfz75_1 := blk_frozen BK220.out 1; have hcz76_0 : w71.cell? ⟨gb212, 0, none⟩ = some (.slice (some ad216) l0_0.length c0_0) := (blk_cell BK212.out 0).trans rfl; have hcz76_1 : w71.cell? ⟨gb212, 1, none⟩ = some (.int .u64 a0_1) := (blk_cell BK212.out 1).trans rfl; have hcz76_2 : w71.cell? ⟨gb212, 2, none⟩ = some (.int .u64 a0_2) := (blk_cell BK212.out 2).trans rfl; have hcz76_3 : w71.cell? ⟨gb212, 3, none⟩ = some (.int .i64 a0_3) := (blk_cell BK212.out 3).trans rfl; have hcz76_4 : w71.cell? ⟨gb212, 4, none⟩ = some (.int .i64 a0_4) := (blk_cell BK212.out 4).trans rfl; have hfz76_0 := blk_frozen BK212.out 0; have hfz76_1 := blk_frozen BK212.out 1; have hfz76_2 := blk_frozen BK212.out 2; have hfz76_3 := blk_frozen BK212.out 3; have hfz76_4 := blk_frozen BK212.out 4))
                                  go_ret2
                                  exact ⟨_, by first | rfl | (simp [errW_none, errW_some] <;> rfl) | (simp [*, errW_none, errW_some] <;> rfl), by first | exact Kd.R_nil _ _ _ _ _ | exact Kd.N_nil _ _ _ _ _ | exact Kd.V_nil _ _ _ _ _ | exact Kd.Q_nil _ _ _ _ _ | exact Kd.S_nil _ _ _ _ _, by repeat (first | (with_reducible first | exact HB.out | apply below_alloc | apply pw_below_drewN | apply below_drew1 | refine below_set ?_ GE212.out | refine below_set ?_ GE220.out | refine below_set ?_ GE231.out) | exact HB.out)⟩
                              · replace c33 := Bool.eq_false_iff.mpr c33
                                subst c33
                                have H1 : (some (([] : List (S60)), false)) = some (r1, r2) := by rw [if_neg (show ¬ (false = true) by decide)] at H; exact H
                                clear H
                                have H := H1
                                clear H1
                                simp only [Option.some.injEq, Prod.mk.injEq] at H
                                obtain ⟨rfl, rfl⟩ := H
                                have hnb77 := NB212_220.out
                                have hnc77 := NB220_212.out
                                have hcz78_0 : wc.cell? ⟨gb212, 0, none⟩ = some (.slice (some ad216) l0_0.length c0_0) := (blk_cell BK212.out 0).trans rfl
                                have hcz78_1 : wc.cell? ⟨gb212, 1, none⟩ = some (.int .u64 a0_1) := (blk_cell BK212.out 1).trans rfl
                                have hcz78_2 : wc.cell? ⟨gb212, 2, none⟩ = some (.int .u64 a0_2) := (blk_cell BK212.out 2).trans rfl
                                have hcz78_3 : wc.cell? ⟨gb212, 3, none⟩ = some (.int .i64 a0_3) := (blk_cell BK212.out 3).trans rfl
                                have hcz78_4 : wc.cell? ⟨gb212, 4, none⟩ = some (.int .i64 a0_4) := (blk_cell BK212.out 4).trans rfl
                                have hfz78_0 := blk_frozen BK212.out 0
                                have hfz78_1 := blk_frozen BK212.out 1
                                have hfz78_2 := blk_frozen BK212.out 2
                                have hfz78_3 := blk_frozen BK212.out 3
                                have hfz78_4 := blk_frozen BK212.out 4
                                have q79 : (a0_4 : Int) ≤ ((l0_0.length : Int) : Int) := of_decide_eq_true (by first | (with_reducible assumption) | assumption)
                                obtain ⟨i079, hi079, _, hsz79, _⟩ := info_parts info34
                                have hroom79 : l0_0.length ≤ c0_0 := HC0_0.out
                                have hC79 : Kd.C k34 _ (some ad216) l0_0.length l0_0 := HR0_0.out
                                have ql79 : (a0_3 : Int) ≤ (a0_4 : Int) := of_decide_eq_true (by first | (with_reducible assumption) | assumption)
                                have q079 : (0 : Int) ≤ (a0_3 : Int) := of_decide_eq_true (by first | (with_reducible assumption) | assumption)
                                have hcut79 := cut_mid (P := Tryf.prog) 31 34 .i64 .i64 Tryf.underlying31 hi079 2 hsz79 (some ad216) l0_0.length c0_0 a0_3 a0_4 q079 ql79 q79 hroom79
                                have hr79 := Kd.C_mid (lo := (a0_3 : Int).toNat) (hi := (a0_4 : Int).toNat) (c := c0_0) hC79 (by omega) (by omega) hroom79
                                obtain ⟨A79, hA79⟩ : ∃ A1, A1 = (if c0_0 = (a0_3 : Int).toNat then (some ad216) else ((some ad216) : Option Addr).map (·.add ((a0_3 : Int).toNat * 2))) := ⟨_, rfl⟩
                                obtain ⟨c79, hc79⟩ : ∃ c1, c1 = c0_0 - (a0_3 : Int).toNat := ⟨_, rfl⟩
                                have hy79 : y221.length = (a0_4 : Int).toNat - (a0_3 : Int).toNat := (by rw [Ny221.out, List.length_drop, List.length_take] <;> omega)
                                rw [show ((l0_0).take (a0_4 : Int).toNat).drop (a0_3 : Int).toNat = y221 from Ny221.out.symm] at hr79
                                replace hr79 : Kd.C k34 _ A79 y221.length y221 := (by rw [hA79]; exact hr79)
                                rw [← hy79, ← hA79, ← hc79] at hcut79
                                have HR224 := Aside0.mk hr79
                                have HC224 := Aside0.mk (show y221.length ≤ c79 from by rw [hy79, hc79]; exact Nat.sub_le_sub_right (Nat.le_trans (by omega) hroom79) _)
                                clear hr79 hC79 hroom79 hi079 hsz79 hc79
                                have KY79 := Aside0.mk hy79
                                have KA79 := Aside0.mk hA79
                                clear hy79 hA79
                                replace q79 := eq_true q79
                                go_wp2_with (first | ((with_reducible refine gate_callee (f := 33) rfl ?_); refine goesL_ (some 64) rfl rfl Tryf.func33 (by kernel_rfl) rfl #[.slice A79 y221.length c79] rfl (by (try simp only [List.map_toArray, List.map_cons, List.map_nil]); first | done | rfl | (simp only [List.length_drop, List.length_take]; rfl)) ?_; (with_reducible refine (spec_Joined.calls kj14 _ _ y221 t225 t226 true _ ?side1 ?side2 A30.out).mono ?_); (case side1 => repeat (first | exact (Kd.C_below HR224.out HB.out) | (with_reducible refine Kd.C_alloc ?_ _) | (with_reducible refine Kd.C_drewN ?_ _) | (with_reducible refine Kd.C_drew ?_))); (case side2 => exact HC224.out); rintro e w80 ⟨rfl, hb⟩; refine ⟨_, rfl, ?_⟩; have n0_ := Aside0.mk (Kd.R_below (by (with_reducible repeat (first | apply Kd.R_alloc | apply Kd.R_drewN | apply Kd.R_drew)); exact HO_4.out) hb); have n1_ := Aside0.mk (blk_below (g := gb212) (o := .cells #[.slice (some ad216) l0_0.length c0_0, .int .u64 a0_1, .int .u64 a0_2, .int .i64 a0_3, .int .i64 a0_4] 36 (0, 0)) (by (with_reducible repeat (first | refine blk_drewN ?_ _ | refine blk_drew ?_ | refine blk_alloc ?_ _)); exact BK212.out) hb); have n2_ := Aside0.mk (blk_below (g := gb220) (o := .cells #[.int .u64 t217, .int .u64 t218] 60 (0, 0)) (by (with_reducible repeat (first | refine blk_drewN ?_ _ | refine blk_drew ?_ | refine blk_alloc ?_ _)); exact BK220.out) hb); have n3_ := Aside0.mk (below_step (by repeat (first | (with_reducible first | exact HB.out | apply below_alloc | apply pw_below_drewN | apply below_drew1 | refine below_set ?_ GE212.out | refine below_set ?_ GE220.out) | exact HB.out)) hb); clear HO_4; clear BK212; clear BK220; clear HB; have HO_4 := n0_; have BK212 := n1_; have BK220 := n2_; have HB := n3_; clear n0_ n1_ n2_ n3_; (try clear hb); (try clear hb2); (try clear hk); (try clear hi); have hcz81_0 : w80.cell? ⟨gb220, 0, none⟩ = some (.int .u64 t217) := (blk_cell BK220.out 0).trans rfl; have hcz81_1 : w80.cell? ⟨gb220, 1, none⟩ = some (.int .u64 t218) := (blk_cell BK220.out 1).trans rfl; have hfz81_0 := blk_frozen BK220.out 0; have hfz81_1 := blk_frozen BK220.out 1; have hcz82_0 : w80.cell? ⟨gb212, 0, none⟩ = some (.slice (some ad216) l0_0.length c0_0) := (blk_cell BK212.out 0).trans rfl; have hcz82_1 : w80.cell? ⟨gb212, 1, none⟩ = some (.int .u64 a0_1) := (blk_cell BK212.out 1).trans rfl; have hcz82_2 : w80.cell? ⟨gb212, 2, none⟩ = some (.int .u64 a0_2) := (blk_cell BK212.out 2).trans rfl; have hcz82_3 : w80.cell? ⟨gb212, 3, none⟩ = some (.int .i64 a0_3) := (blk_cell BK212.out 3).trans rfl; have hcz82_4 : w80.cell? ⟨gb212, 4, none⟩ = some (.int .i64 a0_4) := (blk_cell BK212.out 4).trans rfl; have hfz82_0 := blk_frozen BK212.out 0; have hfz82_1 := blk_frozen BK212.out 1; have hfz82_2 := blk_frozen BK212.out 2; have hfz82_3 := blk_frozen BK212.out 3; have hfz82_4 := blk_frozen BK212.out 4) | ((with_reducible refine gate_callee (f := 32) rfl ?_); refine goesL_ (some 70) rfl rfl Tryf.func32 (by kernel_rfl) rfl #[.agg #[.int .u64 a0_1, .int .u64 a0_2]] rfl (by (try simp only [List.map_toArray, List.map_cons, List.map_nil]); first | done | rfl | (simp only [List.length_drop, List.length_take]; rfl)) ?_; (with_reducible refine (spec_SpanOf.calls a0_1 a0_2 t228 t229 false _ A31.out).mono ?_); rintro e w83 ⟨rfl, hb⟩; refine ⟨_, rfl, ?_⟩; have n0_ := Aside0.mk (Kd.R_below (by (with_reducible repeat (first | apply Kd.R_alloc | apply Kd.R_drewN | apply Kd.R_drew)); exact (Kd.R_mono (Kd.R_far (p := ⟨gb220, 1, none⟩) (Kd.R_far (p := ⟨gb220, 0, none⟩) (Kd.R_mono HO_4.out (fun k_ hk => (⟨hk, hk⟩ : _ ∧ k_ ≠ gb220))) (fun _ hk => hk.2) (.int .u64 t225)) (fun _ hk => hk.2) (.int .u64 t226)) (fun _ h_ => h_.1))) hb); have n1_ := Aside0.mk (blk_below (g := gb212) (o := .cells #[.slice (some ad216) l0_0.length c0_0, .int .u64 a0_1, .int .u64 a0_2, .int .i64 a0_3, .int .i64 a0_4] 36 (0, 0)) (by (with_reducible repeat (first | refine blk_drewN ?_ _ | refine blk_drew ?_ | refine blk_alloc ?_ _)); refine blk_far ?_ NB212_220.out _; (with_reducible repeat (first | refine blk_drewN ?_ _ | refine blk_drew ?_ | refine blk_alloc ?_ _)); refine blk_far ?_ NB212_220.out _; (with_reducible repeat (first | refine blk_drewN ?_ _ | refine blk_drew ?_ | refine blk_alloc ?_ _)); exact BK212.out) hb); have n2_ := Aside0.mk (blk_below (g := gb220) (o := .cells #[.int .u64 t225, .int .u64 t226] 60 (0, 0)) (by (with_reducible repeat (first | refine blk_drewN ?_ _ | refine blk_drew ?_ | refine blk_alloc ?_ _)); refine blk_put (cs := #[.int .u64 t225, .int .u64 t218]) ?_ 1 _ rfl; (with_reducible repeat (first | refine blk_drewN ?_ _ | refine blk_drew ?_ | refine blk_alloc ?_ _)); refine blk_put (cs := #[.int .u64 t217, .int .u64 t218]) ?_ 0 _ rfl; (with_reducible repeat (first | refine blk_drewN ?_ _ | refine blk_drew ?_ | refine blk_alloc ?_ _)); exact BK220.out) hb); have n3_ := Aside0.mk (below_step (by repeat (first | (with_reducible first | exact HB.out | apply below_alloc | apply pw_below_drewN | apply below_drew1 | refine below_set ?_ GE212.out | refine below_set ?_ GE220.out) | exact HB.out)) hb); clear HO_4; clear BK212; clear BK220; clear HB; have HO_4 := n0_; have BK212 := n1_; have BK220 := n2_; have HB := n3_; clear n0_ n1_ n2_ n3_; (try clear hb); (try clear hb2); (try clear hk); (try clear hi)) | ((with_reducible refine gate_dst (N := 8) rfl ?_); (try (refine gate_guard (by rfl) ?_; dsimp only)); refine box_event ?hg (N := 8) ?hd (cs := #[.int .u64 0, .int .u64 0]) (t := 60) ?hr ?_; (case hd => rfl); (case hg => rfl); (case hr => first | (go_simp; done) | (go_simp; rfl)); intro gb231 hg w84 hbox hb; have n0_ := Aside0.mk (Kd.R_below (Kd.R_elderB (by (with_reducible repeat (first | apply Kd.R_alloc | apply Kd.R_drewN | apply Kd.R_drew)); exact HO_4.out) gb231 (Nat.le_of_eq hg.symm)) hb); have n1_ := Aside0.mk (blk_below (g := gb212) (o := .cells #[.slice (some ad216) l0_0.length c0_0, .int .u64 a0_1, .int .u64 a0_2, .int .i64 a0_3, .int .i64 a0_4] 36 (0, 0)) (by (with_reducible repeat (first | refine blk_drewN ?_ _ | refine blk_drew ?_ | refine blk_alloc ?_ _)); exact BK212.out) hb); have n2_ := Aside0.mk (blk_below (g := gb220) (o := .cells #[.int .u64 t225, .int .u64 t226] 60 (0, 0)) (by (with_reducible repeat (first | refine blk_drewN ?_ _ | refine blk_drew ?_ | refine blk_alloc ?_ _)); exact BK220.out) hb); have n3_ := Aside0.mk (below_step (by repeat (first | (with_reducible first | exact HB.out | apply below_alloc | apply pw_below_drewN | apply below_drew1 | refine below_set ?_ GE212.out | refine below_set ?_ GE220.out) | exact HB.out)) hb); have n4_ := Aside0.mk (hbox); have n5_ := Aside0.mk ((by rw [hg]; exact (below_size (by repeat (first | (with_reducible first | exact HB.out | apply below_alloc | apply pw_below_drewN | apply below_drew1 | refine below_set ?_ GE212.out | refine below_set ?_ GE220.out) | exact HB.out))) : w.heap.size ≤ gb231)); have n6_ := Aside0.mk ((by rw [hg]; exact (below_size (by repeat (first | (with_reducible first | exact HB.out | apply below_alloc | apply pw_below_drewN | apply below_drew1 | refine below_set ?_ GE212.out | refine below_set ?_ GE220.out) | exact HB.out))) : w.heap.size ≤ gb231)); have n7_ := Aside0.mk ((by rw [hg]; exact Nat.ne_of_lt (blk_lt (g := gb212) (o := .cells #[.slice (some ad216) l0_0.length c0_0, .int .u64 a0_1, .int .u64 a0_2, .int .i64 a0_3, .int .i64 a0_4] 36 (0, 0)) (by (with_reducible repeat (first | refine blk_drewN ?_ _ | refine blk_drew ?_ | refine blk_alloc ?_ _)); exact BK212.out)) : gb212 ≠ gb231)); have n8_ := Aside0.mk ((by rw [hg]; exact Nat.ne_of_gt (blk_lt (g := gb212) (o := .cells #[.slice (some ad216) l0_0.length c0_0, .int .u64 a0_1, .int .u64 a0_2, .int .i64 a0_3, .int .i64 a0_4] 36 (0, 0)) (by (with_reducible repeat (first | refine blk_drewN ?_ _ | refine blk_drew ?_ | refine blk_alloc ?_ _)); exact BK212.out)) : gb231 ≠ gb212)); have n9_ := Aside0.mk ((by rw [hg]; exact Nat.ne_of_lt (blk_lt (g := gb220) (o := .cells #[.int .u64 t225, .int .u64 t226] 60 (0, 0)) (by (with_reducible repeat (first | refine blk_drewN ?_ _ | refine blk_drew ?_ | refine blk_alloc ?_ _)); exact BK220.out)) : gb220 ≠ gb231)); have n10_ := Aside0.mk ((by rw [hg]; exact Nat.ne_of_gt (blk_lt (g := gb220) (o := .cells #[.int .u64 t225, .int .u64 t226] 60 (0, 0)) (by (with_reducible repeat (first | refine blk_drewN ?_ _ | refine blk_drew ?_ | refine blk_alloc ?_ _)); exact BK220.out)) : gb231 ≠ gb220)); clear HO_4; clear BK212; clear BK220; clear HB; have HO_4 := n0_; have BK212 := n1_; have BK220 := n2_; have HB := n3_; have BK231 := n4_; have GW231 := n5_; have GE231 := n6_; have NB212_231 := n7_; have NB231_212 := n8_; have NB220_231 := n9_; have NB231_220 := n10_; clear n0_ n1_ n2_ n3_ n4_ n5_ n6_ n7_ n8_ n9_ n10_; clear hb hbox hg; have hnb85 := NB231_212.out; have hnc85 := NB212_231.out; have hnb86 := NB231_220.out; have hnc86 := NB220_231.out; have hcz87_0 : w84.cell? ⟨gb231, 0, none⟩ = some (.int .u64 0) := (blk_cell BK231.out 0).trans rfl; have hcz87_1 : w84.cell? ⟨gb231, 1, none⟩ = some (.int .u64 0) := (blk_cell BK231.out 1).trans rfl; have hfz87_0 := blk_frozen BK231.out 0; have hfz87_1 := blk_frozen BK231.out 1; have hcz88_0 : w84.cell? ⟨gb212, 0, none⟩ = some (.slice (some ad216) l0_0.length c0_0) := (blk_cell BK212.out 0).trans rfl; have hcz88_1 : w84.cell? ⟨gb212, 1, none⟩ = some (.int .u64 a0_1) := (blk_cell BK212.out 1).trans rfl; have hcz88_2 : w84.cell? ⟨gb212, 2, none⟩ = some (.int .u64 a0_2) := (blk_cell BK212.out 2).trans rfl; have hcz88_3 : w84.cell? ⟨gb212, 3, none⟩ = some (.int .i64 a0_3) := (blk_cell BK212.out 3).trans rfl; have hcz88_4 : w84.cell? ⟨gb212, 4, none⟩ = some (.int .i64 a0_4) := (blk_cell BK212.out 4).trans rfl; have hfz88_0 := blk_frozen BK212.out 0; have hfz88_1 := blk_frozen BK212.out 1; have hfz88_2 := blk_frozen BK212.out 2; have hfz88_3 := blk_frozen BK212.out 3; have hfz88_4 := blk_frozen BK212.out 4))
                                go_ret2
                                exact ⟨_, by first | rfl | (simp [errW_none, errW_some] <;> rfl) | (simp [*, errW_none, errW_some] <;> rfl), by first | exact Kd.R_nil _ _ _ _ _ | exact Kd.N_nil _ _ _ _ _ | exact Kd.V_nil _ _ _ _ _ | exact Kd.Q_nil _ _ _ _ _ | exact Kd.S_nil _ _ _ _ _, by repeat (first | (with_reducible first | exact HB.out | apply below_alloc | apply pw_below_drewN | apply below_drew1 | refine below_set ?_ GE212.out | refine below_set ?_ GE220.out | refine below_set ?_ GE231.out) | exact HB.out)⟩
                            · replace c32 := Bool.eq_false_iff.mpr c32
                              subst c32
                              have H1 : (some (([] : List (S60)), false)) = some (r1, r2) := by rw [if_neg (show ¬ (false = true) by decide)] at H; exact H
                              clear H
                              have H := H1
                              clear H1
                              simp only [Option.some.injEq, Prod.mk.injEq] at H
                              obtain ⟨rfl, rfl⟩ := H
                              have hnb89 := NB212_220.out
                              have hnc89 := NB220_212.out
                              have hcz90_0 : wc.cell? ⟨gb212, 0, none⟩ = some (.slice (some ad216) l0_0.length c0_0) := (blk_cell BK212.out 0).trans rfl
                              have hcz90_1 : wc.cell? ⟨gb212, 1, none⟩ = some (.int .u64 a0_1) := (blk_cell BK212.out 1).trans rfl
                              have hcz90_2 : wc.cell? ⟨gb212, 2, none⟩ = some (.int .u64 a0_2) := (blk_cell BK212.out 2).trans rfl
                              have hcz90_3 : wc.cell? ⟨gb212, 3, none⟩ = some (.int .i64 a0_3) := (blk_cell BK212.out 3).trans rfl
                              have hcz90_4 : wc.cell? ⟨gb212, 4, none⟩ = some (.int .i64 a0_4) := (blk_cell BK212.out 4).trans rfl
                              have hfz90_0 := blk_frozen BK212.out 0
                              have hfz90_1 := blk_frozen BK212.out 1
                              have hfz90_2 := blk_frozen BK212.out 2
                              have hfz90_3 := blk_frozen BK212.out 3
                              have hfz90_4 := blk_frozen BK212.out 4
                              have q91 : (a0_4 : Int) ≤ ((l0_0.length : Int) : Int) := of_decide_eq_true (by first | (with_reducible assumption) | assumption)
                              obtain ⟨i091, hi091, _, hsz91, _⟩ := info_parts info34
                              have hroom91 : l0_0.length ≤ c0_0 := HC0_0.out
                              have hC91 : Kd.C k34 _ (some ad216) l0_0.length l0_0 := HR0_0.out
                              have ql91 : (a0_3 : Int) ≤ (a0_4 : Int) := of_decide_eq_true (by first | (with_reducible assumption) | assumption)
                              have q091 : (0 : Int) ≤ (a0_3 : Int) := of_decide_eq_true (by first | (with_reducible assumption) | assumption)
                              have hcut91 := cut_mid (P := Tryf.prog) 31 34 .i64 .i64 Tryf.underlying31 hi091 2 hsz91 (some ad216) l0_0.length c0_0 a0_3 a0_4 q091 ql91 q91 hroom91
                              have hr91 := Kd.C_mid (lo := (a0_3 : Int).toNat) (hi := (a0_4 : Int).toNat) (c := c0_0) hC91 (by omega) (by omega) hroom91
                              obtain ⟨A91, hA91⟩ : ∃ A1, A1 = (if c0_0 = (a0_3 : Int).toNat then (some ad216) else ((some ad216) : Option Addr).map (·.add ((a0_3 : Int).toNat * 2))) := ⟨_, rfl⟩
                              obtain ⟨c91, hc91⟩ : ∃ c1, c1 = c0_0 - (a0_3 : Int).toNat := ⟨_, rfl⟩
                              have hy91 : y221.length = (a0_4 : Int).toNat - (a0_3 : Int).toNat := (by rw [Ny221.out, List.length_drop, List.length_take] <;> omega)
                              rw [show ((l0_0).take (a0_4 : Int).toNat).drop (a0_3 : Int).toNat = y221 from Ny221.out.symm] at hr91
                              replace hr91 : Kd.C k34 _ A91 y221.length y221 := (by rw [hA91]; exact hr91)
                              rw [← hy91, ← hA91, ← hc91] at hcut91
                              have HR224 := Aside0.mk hr91
                              have HC224 := Aside0.mk (show y221.length ≤ c91 from by rw [hy91, hc91]; exact Nat.sub_le_sub_right (Nat.le_trans (by omega) hroom91) _)
                              clear hr91 hC91 hroom91 hi091 hsz91 hc91
                              have KY91 := Aside0.mk hy91
                              have KA91 := Aside0.mk hA91
                              clear hy91 hA91
                              replace q91 := eq_true q91
                              go_wp2_with (first | ((with_reducible refine gate_callee (f := 33) rfl ?_); refine goesL_ (some 64) rfl rfl Tryf.func33 (by kernel_rfl) rfl #[.slice A91 y221.length c91] rfl (by (try simp only [List.map_toArray, List.map_cons, List.map_nil]); first | done | rfl | (simp only [List.length_drop, List.length_take]; rfl)) ?_; (with_reducible refine (spec_Joined.calls kj14 _ _ y221 t225 t226 false _ ?side1 ?side2 A30.out).mono ?_); (case side1 => repeat (first | exact (Kd.C_below HR224.out HB.out) | (with_reducible refine Kd.C_alloc ?_ _) | (with_reducible refine Kd.C_drewN ?_ _) | (with_reducible refine Kd.C_drew ?_))); (case side2 => exact HC224.out); rintro e w92 ⟨rfl, hb⟩; refine ⟨_, rfl, ?_⟩; have n0_ := Aside0.mk (Kd.R_below (by (with_reducible repeat (first | apply Kd.R_alloc | apply Kd.R_drewN | apply Kd.R_drew)); exact HO_4.out) hb); have n1_ := Aside0.mk (blk_below (g := gb212) (o := .cells #[.slice (some ad216) l0_0.length c0_0, .int .u64 a0_1, .int .u64 a0_2, .int .i64 a0_3, .int .i64 a0_4] 36 (0, 0)) (by (with_reducible repeat (first | refine blk_drewN ?_ _ | refine blk_drew ?_ | refine blk_alloc ?_ _)); exact BK212.out) hb); have n2_ := Aside0.mk (blk_below (g := gb220) (o := .cells #[.int .u64 t217, .int .u64 t218] 60 (0, 0)) (by (with_reducible repeat (first | refine blk_drewN ?_ _ | refine blk_drew ?_ | refine blk_alloc ?_ _)); exact BK220.out) hb); have n3_ := Aside0.mk (below_step (by repeat (first | (with_reducible first | exact HB.out | apply below_alloc | apply pw_below_drewN | apply below_drew1 | refine below_set ?_ GE212.out | refine below_set ?_ GE220.out) | exact HB.out)) hb); clear HO_4; clear BK212; clear BK220; clear HB; have HO_4 := n0_; have BK212 := n1_; have BK220 := n2_; have HB := n3_; clear n0_ n1_ n2_ n3_; (try clear hb); (try clear hb2); (try clear hk); (try clear hi); have hcz93_0 : w92.cell? ⟨gb220, 0, none⟩ = some (.int .u64 t217) := (blk_cell BK220.out 0).trans rfl; have hcz93_1 : w92.cell? ⟨gb220, 1, none⟩ = some (.int .u64 t218) := (blk_cell BK220.out 1).trans rfl; have hfz93_0 := blk_frozen BK220.out 0; have hfz93_1 := blk_frozen BK220.out 1; have hcz94_0 : w92.cell? ⟨gb212, 0, none⟩ = some (.slice (some ad216) l0_0.length c0_0) := (blk_cell BK212.out 0).trans rfl; have hcz94_1 : w92.cell? ⟨gb212, 1, none⟩ = some (.int .u64 a0_1) := (blk_cell BK212.out 1).trans rfl; have hcz94_2 : w92.cell? ⟨gb212, 2, none⟩ = some (.int .u64 a0_2) := (blk_cell BK212.out 2).trans rfl; have hcz94_3 : w92.cell? ⟨gb212, 3, none⟩ = some (.int .i64 a0_3) := (blk_cell BK212.out 3).trans rfl; have hcz94_4 : w92.cell? ⟨gb212, 4, none⟩ = some (.int .i64 a0_4) := (blk_cell BK212.out 4).trans rfl; have hfz94_0 := blk_frozen BK212.out 0; have hfz94_1 := blk_frozen BK212.out 1; have hfz94_2 := blk_frozen BK212.out 2; have hfz94_3 := blk_frozen BK212.out 3; have hfz94_4 := blk_frozen BK212.out 4) | ((with_reducible refine gate_callee (f := 32) rfl ?_); refine goesL_ (some 70) rfl rfl Tryf.func32 (by kernel_rfl) rfl #[.agg #[.int .u64 a0_1, .int .u64 a0_2]] rfl (by (try simp only [List.map_toArray, List.map_cons, List.map_nil]); first | done | rfl | (simp only [List.length_drop, List.length_take]; rfl)) ?_; (with_reducible refine (spec_SpanOf.calls a0_1 a0_2 t228 t229 t230 _ A31.out).mono ?_); rintro e w95 ⟨rfl, hb⟩; refine ⟨_, rfl, ?_⟩; have n0_ := Aside0.mk (Kd.R_below (by (with_reducible repeat (first | apply Kd.R_alloc | apply Kd.R_drewN | apply Kd.R_drew)); exact (Kd.R_mono (Kd.R_far (p := ⟨gb220, 1, none⟩) (Kd.R_far (p := ⟨gb220, 0, none⟩) (Kd.R_mono HO_4.out (fun k_ hk => (⟨hk, hk⟩ : _ ∧ k_ ≠ gb220))) (fun _ hk => hk.2) (.int .u64 t225)) (fun _ hk => hk.2) (.int .u64 t226)) (fun _ h_ => h_.1))) hb); have n1_ := Aside0.mk (blk_below (g := gb212) (o := .cells #[.slice (some ad216) l0_0.length c0_0, .int .u64 a0_1, .int .u64 a0_2, .int .i64 a0_3, .int .i64 a0_4] 36 (0, 0)) (by (with_reducible repeat (first | refine blk_drewN ?_ _ | refine blk_drew ?_ | refine blk_alloc ?_ _)); refine blk_far ?_ NB212_220.out _; (with_reducible repeat (first | refine blk_drewN ?_ _ | refine blk_drew ?_ | refine blk_alloc ?_ _)); refine blk_far ?_ NB212_220.out _; (with_reducible repeat (first | refine blk_drewN ?_ _ | refine blk_drew ?_ | refine blk_alloc ?_ _)); exact BK212.out) hb); have n2_ := Aside0.mk (blk_below (g := gb220) (o := .cells #[.int .u64 t225, .int .u64 t226] 60 (0, 0)) (by (with_reducible repeat (first | refine blk_drewN ?_ _ | refine blk_drew ?_ | refine blk_alloc ?_ _)); refine blk_put (cs := #[.int .u64 t225, .int .u64 t218]) ?_ 1 _ rfl; (with_reducible repeat (first | refine blk_drewN ?_ _ | refine blk_drew ?_ | refine blk_alloc ?_ _)); refine blk_put (cs := #[.int .u64 t217, .int .u64 t218]) ?_ 0 _ rfl; (with_reducible repeat (first | refine blk_drewN ?_ _ | refine blk_drew ?_ | refine blk_alloc ?_ _)); exact BK220.out) hb); have n3_ := Aside0.mk (below_step (by repeat (first | (with_reducible first | exact HB.out | apply below_alloc | apply pw_below_drewN | apply below_drew1 | refine below_set ?_ GE212.out | refine below_set ?_ GE220.out) | exact HB.out)) hb); clear HO_4; clear BK212; clear BK220; clear HB; have HO_4 := n0_; have BK212 := n1_; have BK220 := n2_; have HB := n3_; clear n0_ n1_ n2_ n3_; (try clear hb); (try clear hb2); (try clear hk); (try clear hi)) | ((with_reducible refine gate_dst (N := 8) rfl ?_); (try (refine gate_guard (by rfl) ?_; dsimp only)); refine box_event ?hg (N := 8) ?hd (cs := #[.int .u64 0, .int .u64 0]) (t := 60) ?hr ?_; (case hd => rfl); (case hg => rfl); (case hr => first | (go_simp; done) | (go_simp; rfl)); intro gb231 hg w96 hbox hb; have n0_ := Aside0.mk (Kd.R_below (Kd.R_elderB (by (with_reducible repeat (first | apply Kd.R_alloc | apply Kd.R_drewN | apply Kd.R_drew)); exact HO_4.out) gb231 (Nat.le_of_eq hg.symm)) hb); have n1_ := Aside0.mk (blk_below (g := gb212) (o := .cells #[.slice (some ad216) l0_0.length c0_0, .int .u64 a0_1, .int .u64 a0_2, .int .i64 a0_3, .int .i64 a0_4] 36 (0, 0)) (by (with_reducible repeat (first | refine blk_drewN ?_ _ | refine blk_drew ?_ | refine blk_alloc ?_ _)); exact BK212.out) hb); have n2_ := Aside0.mk (blk_below (g := gb220) (o := .cells #[.int .u64 t225, .int .u64 t226] 60 (0, 0)) (by (with_reducible repeat (first | refine blk_drewN ?_ _ | refine blk_drew ?_ | refine blk_alloc ?_ _)); exact BK220.out) hb); have n3_ := Aside0.mk (below_step (by repeat (first | (with_reducible first | exact HB.out | apply below_alloc | apply pw_below_drewN | apply below_drew1 | refine below_set ?_ GE212.out | refine below_set ?_ GE220.out) | exact HB.out)) hb); have n4_ := Aside0.mk (hbox); have n5_ := Aside0.mk ((by rw [hg]; exact (below_size (by repeat (first | (with_reducible first | exact HB.out | apply below_alloc | apply pw_below_drewN | apply below_drew1 | refine below_set ?_ GE212.out | refine below_set ?_ GE220.out) | exact HB.out))) : w.heap.size ≤ gb231)); have n6_ := Aside0.mk ((by rw [hg]; exact (below_size (by repeat (first | (with_reducible first | exact HB.out | apply below_alloc | apply pw_below_drewN | apply below_drew1 | refine below_set ?_ GE212.out | refine below_set ?_ GE220.out) | exact HB.out))) : w.heap.size ≤ gb231)); have n7_ := Aside0.mk ((by rw [hg]; exact Nat.ne_of_lt (blk_lt (g := gb212) (o := .cells #[.slice (some ad216) l0_0.length c0_0, .int .u64 a0_1, .int .u64 a0_2, .int .i64 a0_3, .int .i64 a0_4] 36 (0, 0)) (by (with_reducible repeat (first | refine blk_drewN ?_ _ | refine blk_drew ?_ | refine blk_alloc ?_ _)); exact BK212.out)) : gb212 ≠ gb231)); have n8_ := Aside0.mk ((by rw [hg]; exact Nat.ne_of_gt (blk_lt (g := gb212) (o := .cells #[.slice (some ad216) l0_0.length c0_0, .int .u64 a0_1, .int .u64 a0_2, .int .i64 a0_3, .int .i64 a0_4] 36 (0, 0)) (by (with_reducible repeat (first | refine blk_drewN ?_ _ | refine blk_drew ?_ | refine blk_alloc ?_ _)); exact BK212.out)) : gb231 ≠ gb212)); have n9_ := Aside0.mk ((by rw [hg]; exact Nat.ne_of_lt (blk_lt (g := gb220) (o := .cells #[.int .u64 t225, .int .u64 t226] 60 (0, 0)) (by (with_reducible repeat (first | refine blk_drewN ?_ _ | refine blk_drew ?_ | refine blk_alloc ?_ _)); exact BK220.out)) : gb220 ≠ gb231)); have n10_ := Aside0.mk ((by rw [hg]; exact Nat.ne_of_gt (blk_lt (g := gb220) (o := .cells #[.int .u64 t225, .int .u64 t226] 60 (0, 0)) (by (with_reducible repeat (first | refine blk_drewN ?_ _ | refine blk_drew ?_ | refine blk_alloc ?_ _)); exact BK220.out)) : gb231 ≠ gb220)); clear HO_4; clear BK212; clear BK220; clear HB; have HO_4 := n0_; have BK212 := n1_; have BK220 := n2_; have HB := n3_; have BK231 := n4_; have GW231 := n5_; have GE231 := n6_; have NB212_231 := n7_; have NB231_212 := n8_; have NB220_231 := n9_; have NB231_220 := n10_; clear n0_ n1_ n2_ n3_ n4_ n5_ n6_ n7_ n8_ n9_ n10_; clear hb hbox hg; have hnb97 := NB231_212.out; have hnc97 := NB212_231.out; have hnb98 := NB231_220.out; have hnc98 := NB220_231.out; have hcz99_0 : w96.cell? ⟨gb231, 0, none⟩ = some (.int .u64 0) := (blk_cell BK231.out 0).trans rfl; have hcz99_1 : w96.cell? ⟨gb231, 1, none⟩ = some (.int .u64 0) := (blk_cell BK231.out 1).trans rfl; have hfz99_0 := blk_frozen BK231.out 0; have hfz99_1 := blk_frozen BK231.out 1; have hcz100_0 : w96.cell? ⟨gb212, 0, none⟩ = some (.slice (some ad216) l0_0.length c0_0) := (blk_cell BK212.out 0).trans rfl; have hcz100_1 : w96.cell? ⟨gb212, 1, none⟩ = some (.int .u64 a0_1) := (blk_cell BK212.out 1).trans rfl; have hcz100_2 : w96.cell? ⟨gb212, 2, none⟩ = some (.int .u64 a0_2) := (blk_cell BK212.out 2).trans rfl; have hcz100_3 : w96.cell? ⟨gb212, 3, none⟩ = some (.int .i64 a0_3) := (blk_cell BK212.out 3).trans rfl; have hcz100_4 : w96.cell? ⟨gb212, 4, none⟩ = some (.int .i64 a0_4) := (blk_cell BK212.out 4).trans rfl; have hfz100_0 := blk_frozen BK212.out 0; have hfz100_1 := blk_frozen BK212.out 1; have hfz100_2 := blk_frozen BK212.out 2; have hfz100_3 := blk_frozen BK212.out 3; have hfz100_4 := blk_frozen BK212.out 4))
                              go_ret2
                              exact ⟨_, by first | rfl | (simp [errW_none, errW_some] <;> rfl) | (simp [*, errW_none, errW_some] <;> rfl), by first | exact Kd.R_nil _ _ _ _ _ | exact Kd.N_nil _ _ _ _ _ | exact Kd.V_nil _ _ _ _ _ | exact Kd.Q_nil _ _ _ _ _ | exact Kd.S_nil _ _ _ _ _, by repeat (first | (with_reducible first | exact HB.out | apply below_alloc | apply pw_below_drewN | apply below_drew1 | refine below_set ?_ GE212.out | refine below_set ?_ GE220.out | refine below_set ?_ GE231.out) | exact HB.out)⟩
                          · rw [if_neg c29] at H
                            exact absurd H (by simp)
                        · rw [if_neg c28] at H
                          exact absurd H (by simp)
                      · rw [if_neg c27] at H
                        exact absurd H (by simp)
                    · replace c26 := Bool.eq_false_iff.mpr c26
                      subst c26
                      have H1 : (if t219 = true then (if x4_2.length < 8796093022208 then (spec_Planned.l0 kj14 (x4_2 ++ [(⟨t217, t218⟩ : S60)]) (wrap64 (x5_2 + 1)) l0_0 a0_1 a0_2 a0_3 a0_4) else (none)) else (some (([] : List (S60)), false))) = some (r1, r2) := by rw [if_neg (show ¬ (false = true) by decide)] at H; exact H
                      clear H
                      have H := H1
                      clear H1
                      by_cases c101 : t219 = true
                      · subst c101
                        have H1 : (if x4_2.length < 8796093022208 then (spec_Planned.l0 kj14 (x4_2 ++ [(⟨t217, t218⟩ : S60)]) (wrap64 (x5_2 + 1)) l0_0 a0_1 a0_2 a0_3 a0_4) else (none)) = some (r1, r2) := by rw [if_pos rfl] at H; exact H
                        clear H
                        have H := H1
                        clear H1
                        by_cases c102 : x4_2.length < 8796093022208
                        · rw [if_pos c102] at H
                          have LMc102 := Aside0.mk c102
                          clear c102
                          obtain ⟨y235, hy235⟩ : ∃ y_ : List (S60), y_ = (x4_2 ++ [(⟨t217, t218⟩ : S60)]) := ⟨_, rfl⟩
                          replace H : (spec_Planned.l0 kj14 y235 (wrap64 (x5_2 + 1)) l0_0 a0_1 a0_2 a0_3 a0_4) = some (r1, r2) := by first | (rw [hy235]; with_reducible exact H) | (have H2_ := (Option.bind_some _ _).symm.trans H; rw [hy235]; with_reducible exact H2_) | (have H2_ := (Option.bind_some _ _).symm.trans H; with_reducible exact H2_) | with_reducible exact H | (rw [hy235]; exact H) | exact H
                          have Ny235 := Aside0.mk hy235
                          clear hy235
                          have H' := Aside0.mk H
                          clear H
                          have hnb103 := NB220_212.out
                          have hnc103 := NB212_220.out
                          have hcz104_0 : wc.cell? ⟨gb220, 0, none⟩ = some (.int .u64 t217) := (blk_cell BK220.out 0).trans rfl
                          have hcz104_1 : wc.cell? ⟨gb220, 1, none⟩ = some (.int .u64 t218) := (blk_cell BK220.out 1).trans rfl
                          have hfz104_0 := blk_frozen BK220.out 0
                          have hfz104_1 := blk_frozen BK220.out 1
                          go_wp2_with (first | ((with_reducible refine gate_builtin (b := .append) (xs := #[.tmp 96, .tmp 98]) rfl ?_); (try (refine gate_guard (by rfl) ?_; dsimp only)); at_builtin; refine Kd.R_append k60 (w0 := w) w.heap.size rfl (.tmp 96) (.tmp 98) 39 60 (.agg #[(.int .u64 0), (.int .u64 0)]) 16 rfl Tryf.underlying39 info60 rfl (by decide) (by omega) u4 x4_2 (⟨t217, t218⟩ : S60) [.int .u64 t217, .int .u64 t218] (fun k_ => k_ ≠ gb220) (fun _ => False) rfl rfl ?aP (fun _ hk => hk.elim) ?aF ?aO ?aB ?aS ?aL ?_; (case aP => exact k60_mkM _ _ _ (⟨t217, t218⟩ : S60)); (case aB => exact (by repeat (first | (with_reducible first | exact HB.out | apply below_alloc | apply pw_below_drewN | apply below_drew1 | refine below_set ?_ GE212.out | refine below_set ?_ GE220.out) | exact HB.out))); (case aF => exact (fun k_ hk => Kd.freshB (g := gb220) (o := .cells #[.int .u64 t217, .int .u64 t218] 60 (0, 0)) (by (with_reducible repeat (first | refine blk_drewN ?_ _ | refine blk_drew ?_ | refine blk_alloc ?_ _)); exact BK220.out) k_ hk)); (case aO => exact (by (with_reducible repeat (first | apply Kd.R_alloc | apply Kd.R_drewN | apply Kd.R_drew)); exact HO_4.out)); (case aS => exact (below_size (by repeat (first | (with_reducible first | exact HB.out | apply below_alloc | apply pw_below_drewN | apply below_drew1 | refine below_set ?_ GE212.out | refine below_set ?_ GE220.out) | exact HB.out)))); (case aL => have := LMc102.out; omega); intro v236 w105 ho hb hg hat; rw [← Ny235.out] at ho; have n0_ := Aside0.mk (blk_grown (g := gb212) (o := .cells #[.slice (some ad216) l0_0.length c0_0, .int .u64 a0_1, .int .u64 a0_2, .int .i64 a0_3, .int .i64 a0_4] 36 (0, 0)) (by (with_reducible repeat (first | refine blk_drewN ?_ _ | refine blk_drew ?_ | refine blk_alloc ?_ _)); exact BK212.out) hg (Kd.R_ne HO_4.out BK212.out (by decide))); have n1_ := Aside0.mk (blk_grown (g := gb220) (o := .cells #[.int .u64 t217, .int .u64 t218] 60 (0, 0)) (by (with_reducible repeat (first | refine blk_drewN ?_ _ | refine blk_drew ?_ | refine blk_alloc ?_ _)); exact BK220.out) hg (Kd.R_away HO_4.out (fun _ hk => hk))); have n2_ := Aside0.mk (hb); have n3_ := Aside0.mk (ho); clear BK212; clear BK220; clear HB; clear HO_4; have BK212 := n0_; have BK220 := n1_; have HB := n2_; have HO237 := n3_; clear n0_ n1_ n2_ n3_; clear ho hb hg hat))
                          go_roundg kj14
                          case measure => have := HJ1.out; have := HK2.out; have := HJ14.out; omega
                          case rel => exact ⟨(y235), (wrap64 (x5_2 + 1)), (by first | rfl | (simp; done) | (simp [*]; done)), H', ⟨by have := HJ1.out; have := HK2.out; have := HJ14.out; omega⟩, ⟨by (with_reducible repeat (first | apply Kd.R_alloc | apply Kd.R_drewN | apply Kd.R_drew)); exact Kd.R_mono HO237.out (fun _ hk => trivial)⟩, ⟨by (with_reducible repeat (first | refine blk_drewN ?_ _ | refine blk_drew ?_ | refine blk_alloc ?_ _)); exact BK212.out⟩, ⟨by repeat (first | (with_reducible first | exact HB.out | apply below_alloc | apply pw_below_drewN | apply below_drew1 | refine below_set ?_ GE212.out | refine below_set ?_ GE220.out) | exact HB.out)⟩⟩
                        · rw [if_neg c102] at H
                          exact absurd H (by simp)
                      · replace c101 := Bool.eq_false_iff.mpr c101
                        subst c101
                        have H1 : (some (([] : List (S60)), false)) = some (r1, r2) := by rw [if_neg (show ¬ (false = true) by decide)] at H; exact H
                        clear H
                        have H := H1
                        clear H1
                        simp only [Option.some.injEq, Prod.mk.injEq] at H
                        obtain ⟨rfl, rfl⟩ := H
                        go_wp2
                        go_ret2
                        exact ⟨_, by first | rfl | (simp [errW_none, errW_some] <;> rfl) | (simp [*, errW_none, errW_some] <;> rfl), by first | exact Kd.R_nil _ _ _ _ _ | exact Kd.N_nil _ _ _ _ _ | exact Kd.V_nil _ _ _ _ _ | exact Kd.Q_nil _ _ _ _ _ | exact Kd.S_nil _ _ _ _ _, by repeat (first | (with_reducible first | exact HB.out | apply below_alloc | apply pw_below_drewN | apply below_drew1 | refine below_set ?_ GE212.out | refine below_set ?_ GE220.out) | exact HB.out)⟩
              · rw [if_neg c13] at H
                exact absurd H (by simp)
            · rw [if_neg c12] at H
              have c12b0 : decide (x5_2 < (l0_0.length : Int)) = false := decide_eq_false c12
              clear c12
              simp only [Option.some.injEq, Prod.mk.injEq] at H
              obtain ⟨rfl, rfl⟩ := H
              have hcz106_0 : wr.cell? ⟨gb212, 0, none⟩ = some (.slice A0_0 l0_0.length c0_0) := (blk_cell BK212.out 0).trans rfl
              have hcz106_1 : wr.cell? ⟨gb212, 1, none⟩ = some (.int .u64 a0_1) := (blk_cell BK212.out 1).trans rfl
              have hcz106_2 : wr.cell? ⟨gb212, 2, none⟩ = some (.int .u64 a0_2) := (blk_cell BK212.out 2).trans rfl
              have hcz106_3 : wr.cell? ⟨gb212, 3, none⟩ = some (.int .i64 a0_3) := (blk_cell BK212.out 3).trans rfl
              have hcz106_4 : wr.cell? ⟨gb212, 4, none⟩ = some (.int .i64 a0_4) := (blk_cell BK212.out 4).trans rfl
              have hfz106_0 := blk_frozen BK212.out 0
              have hfz106_1 := blk_frozen BK212.out 1
              have hfz106_2 := blk_frozen BK212.out 2
              have hfz106_3 := blk_frozen BK212.out 3
              have hfz106_4 := blk_frozen BK212.out 4
              go_wp2
              go_ret2
              exact ⟨_, by first | rfl | (simp [errW_none, errW_some] <;> rfl) | (simp [*, errW_none, errW_some] <;> rfl), by (with_reducible repeat (first | apply Kd.R_alloc | apply Kd.R_drewN | apply Kd.R_drew)); exact HO_4.out, by repeat (first | (with_reducible first | exact HB.out | apply below_alloc | apply pw_below_drewN | apply below_drew1 | refine below_set ?_ GE212.out) | exact HB.out)⟩
def spec_Split.l0 : Nat → Int → Int → Option (Int)
  | 0, _, _ => none
  | k + 1, x0, x3 => if x3 < (IntKind.u64.wrap (x0 - x3)) then (spec_Split.l0 k x0 (IntKind.u64.wrap (x3 * 2))) else (some x3)
def spec_Split.f (k : Nat) (a0 : Int) : Option (Int) := spec_Split.l0 k a0 1
theorem spec_Split.mono_l : ∀ k, (∀ y0 y1, LeO (spec_Split.l0 k y0 y1) (spec_Split.l0 (k + 1) y0 y1))
  | 0 => fun _ _ r h => by simp [spec_Split.l0] at h
  | k + 1 => by
    have ih0 := spec_Split.mono_l k
    · intro y0 y1
      unfold spec_Split.l0
      repeat' first
      | (with_reducible exact ih0 _ _)
      | (with_reducible exact LeO.refl _)
      | (with_reducible exact LeO.none _)
      | (with_reducible refine LeO.ite ?_ ?_)
      | (with_reducible refine LeO.bind ?_ (fun _ => ?_))
      | exact ih0 _ _
      | exact LeO.none _
      | refine LeO.ite ?_ ?_
      | refine LeO.bind ?_ (fun _ => ?_)
theorem spec_Split.mono : ∀ a0 k, LeO (spec_Split.f k a0) (spec_Split.f (k + 1) a0) := by
  intro a0 k
  have ih0 := spec_Split.mono_l k
  unfold spec_Split.f
  repeat' first
      | (with_reducible exact ih0 _ _)
      | (with_reducible exact LeO.refl _)
      | (with_reducible exact LeO.none _)
      | (with_reducible refine LeO.ite ?_ ?_)
      | (with_reducible refine LeO.bind ?_ (fun _ => ?_))
      | exact ih0 _ _
      | exact LeO.none _
      | refine LeO.ite ?_ ?_
      | refine LeO.bind ?_ (fun _ => ?_)
set_option maxHeartbeats 8000000 in
set_option maxRecDepth 100000 in
theorem spec_Split.calls (k : Nat) (a0 : Int) (r : Int) (w : World) (h : spec_Split.f k a0 = some r) :
    Calls Tryf.prog 34 #[.int .u64 a0] w fun e w' => e = .returned (.int .u64 r) ∧ Drawn0 w w' := by
  have H : (spec_Split.l0 k a0 1) = some r := h
  clear h
  have H' := Aside0.mk H
  clear H
  go_enter Tryf.func34, Tryf.ntmps34
  go_wp2
  go_loopg [3] k (fun kq v3 w' => ∃ (x3_1 : Int), v3 = .int .u64 x3_1 ∧ Aside0 (spec_Split.l0 kq a0 x3_1 = some r) ∧ Aside0 (kq ≤ k) ∧ Drawn0 w w')
  case atStart => exact ⟨(1), (by first | rfl | (simp; done) | (simp [*]; done)), H', ⟨Nat.le_refl _⟩, by repeat (first | exact Drawn0.refl _ | apply Drawn0.step)⟩
  case round =>
    clear H'
    obtain ⟨x3_1, rfl, HA, HK1, ⟨m1, rfl⟩⟩ := hrel
    cases gk with
    | zero => exact absurd HA.out (by simp [spec_Split.l0])
    | succ k1 =>
      have H := HA.out
      clear HA
      simp only [spec_Split.l0] at H
      by_cases c2 : x3_1 < (IntKind.u64.wrap (a0 - x3_1))
      · rw [if_pos c2] at H
        have c2b0 : decide (x3_1 < (IntKind.u64.wrap (a0 - x3_1))) = true := decide_eq_true c2
        clear c2
        have H' := Aside0.mk H
        clear H
        go_wp2
        go_roundg k1
        case measure => have := HK1.out; omega
        case rel => exact ⟨(IntKind.u64.wrap (x3_1 * 2)), (by first | rfl | (simp; done) | (simp [*]; done)), H', ⟨by have := HK1.out; omega⟩, by repeat (first | exact Drawn0.refl _ | apply Drawn0.step)⟩
      · rw [if_neg c2] at H
        have c2b0 : decide (x3_1 < (IntKind.u64.wrap (a0 - x3_1))) = false := decide_eq_false c2
        clear c2
        obtain rfl := Option.some.inj H
        go_wp2
        go_ret
        exact ⟨by first | rfl | (simp; done) | (simp [*]; done), by repeat (first | exact Drawn0.refl _ | apply Drawn0.step)⟩
end Go.Proofs.YtdjfagknffknjaaFmt.Q
