/- Contracts of this program's functions, as a turned copy of the kit's printer wrote them; conditions: as each theorem states. -/
import Derived.Test.YtdjfagknffknjaaFmtXQ0
import Derived.Test.YtdjfagknffknjaaFmtXQ3

namespace Go.Proofs.YtdjfagknffknjaaFmt.Q
open Go.RowKit Go.Proofs.YtdjfagknffknjaaFmtW.PrintWords Go.Proofs.YtdjfagknffknjaaFmtW.PrintLast Go.Proofs.YtdjfagknffknjaaFmtW.PrintMore
attribute [local go_sem] max2_int min2_int max_two min_two max_three min_three max_four min_four   -- for this text's walks alone
set_option linter.unusedVariables false
set_option linter.unusedSimpArgs false
mutual
def spec_Joined.l0 : Nat → List (S34) → List (S34) → Int → Int → Int → Int → Option (Int × Int × Bool)
  | 0, _, _, _, _, _, _ => none
  | k + 1, x0, x15, x16, x17, x200000, x200001 => if x17 < x16 then (if 0 ≤ x17 then (if x17 < (x15.length : Int) then ((spec_SpanOf.f ((rd_T34 x15 x17).f0) ((rd_T34 x15 x17).f1)).bind fun bt202 => (if bt202.2.2 = true then (spec_Joined.l0 k x0 x15 x16 (wrap64 (x17 + 1)) (mn x200000 bt202.1) x200001) else (some (0, 0, false)))) else (none)) else (none)) else (spec_Joined.l1 k x0 (x0.length : Int) 0 x200000 x200000)
def spec_Joined.l1 : Nat → List (S34) → Int → Int → Int → Int → Option (Int × Int × Bool)
  | 0, _, _, _, _, _ => none
  | k + 1, x0, x40, x41, x200000, x200001 => if x41 < x40 then (spec_Joined.l2 k x0 x200001 x40 x41 x0 (x0.length : Int) 0 x200000 x200001) else (some (x200000, x200001, true))
def spec_Joined.l2 : Nat → List (S34) → Int → Int → Int → List (S34) → Int → Int → Int → Int → Option (Int × Int × Bool)
  | 0, _, _, _, _, _, _, _, _, _ => none
  | k + 1, x0, x9, x40, x41, x45, x46, x47, x200000, x200001 => if x47 < x46 then (if 0 ≤ x47 then (if x47 < (x45.length : Int) then ((spec_SpanOf.f ((rd_T34 x45 x47).f0) ((rd_T34 x45 x47).f1)).bind fun bt208 => (if bt208.1 = x9 then (spec_Joined.l2 k x0 x9 x40 x41 x45 x46 (wrap64 (x47 + 1)) x200000 bt208.2.1) else (spec_Joined.l2 k x0 x9 x40 x41 x45 x46 (wrap64 (x47 + 1)) x200000 x200001))) else (none)) else (none)) else (if x200001 = x9 then (some (0, 0, false)) else (spec_Joined.l1 k x0 x40 (wrap64 (x41 + 1)) x200000 x200001))
end
def spec_Joined.f (k : Nat) (l0 : List (S34)) : Option (Int × Int × Bool) := spec_Joined.l0 k l0 l0 (l0.length : Int) 0 9223372036854775808 9223372036854775808
theorem spec_Joined.mono_l : ∀ k, (∀ y0 y1 y2 y3 y4 y5, LeO (spec_Joined.l0 k y0 y1 y2 y3 y4 y5) (spec_Joined.l0 (k + 1) y0 y1 y2 y3 y4 y5)) ∧ (∀ y0 y1 y2 y3 y4, LeO (spec_Joined.l1 k y0 y1 y2 y3 y4) (spec_Joined.l1 (k + 1) y0 y1 y2 y3 y4)) ∧ (∀ y0 y1 y2 y3 y4 y5 y6 y7 y8, LeO (spec_Joined.l2 k y0 y1 y2 y3 y4 y5 y6 y7 y8) (spec_Joined.l2 (k + 1) y0 y1 y2 y3 y4 y5 y6 y7 y8))
  | 0 => ⟨fun _ _ _ _ _ _ r h => by simp [spec_Joined.l0] at h, fun _ _ _ _ _ r h => by simp [spec_Joined.l1] at h, fun _ _ _ _ _ _ _ _ _ r h => by simp [spec_Joined.l2] at h⟩
  | k + 1 => by
    obtain ⟨ih0, ih1, ih2⟩ := spec_Joined.mono_l k
    refine ⟨?_, ?_, ?_⟩
    · intro y0 y1 y2 y3 y4 y5
      unfold spec_Joined.l0
      repeat' first
      | (with_reducible exact ih0 _ _ _ _ _ _)
      | (with_reducible exact ih1 _ _ _ _ _)
      | (with_reducible exact ih2 _ _ _ _ _ _ _ _ _)
      | (with_reducible exact LeO.refl _)
      | (with_reducible exact LeO.none _)
      | (with_reducible refine LeO.ite ?_ ?_)
      | (with_reducible refine LeO.bind ?_ (fun _ => ?_))
      | exact ih0 _ _ _ _ _ _
      | exact ih1 _ _ _ _ _
      | exact ih2 _ _ _ _ _ _ _ _ _
      | exact LeO.none _
      | refine LeO.ite ?_ ?_
      | refine LeO.bind ?_ (fun _ => ?_)
    · intro y0 y1 y2 y3 y4
      unfold spec_Joined.l1
      repeat' first
      | (with_reducible exact ih0 _ _ _ _ _ _)
      | (with_reducible exact ih1 _ _ _ _ _)
      | (with_reducible exact ih2 _ _ _ _ _ _ _ _ _)
      | (with_reducible exact LeO.refl _)
      | (with_reducible exact LeO.none _)
      | (with_reducible refine LeO.ite ?_ ?_)
      | (with_reducible refine LeO.bind ?_ (fun _ => ?_))
      | exact ih0 _ _ _ _ _ _
      | exact ih1 _ _ _ _ _
      | exact ih2 _ _ _ _ _ _ _ _ _
      | exact LeO.none _
      | refine LeO.ite ?_ ?_
      | refine LeO.bind ?_ (fun _ => ?_)
    · intro y0 y1 y2 y3 y4 y5 y6 y7 y8
      unfold spec_Joined.l2
      repeat' first
      | (with_reducible exact ih0 _ _ _ _ _ _)
      | (with_reducible exact ih1 _ _ _ _ _)
      | (with_reducible exact ih2 _ _ _ _ _ _ _ _ _)
      | (with_reducible exact LeO.refl _)
      | (with_reducible exact LeO.none _)
      | (with_reducible refine LeO.ite ?_ ?_)
      | (with_reducible refine LeO.bind ?_ (fun _ => ?_))
      | exact ih0 _ _ _ _ _ _
      | exact ih1 _ _ _ _ _
      | exact ih2 _ _ _ _ _ _ _ _ _
      | exact LeO.none _
      | refine LeO.ite ?_ ?_
      | refine LeO.bind ?_ (fun _ => ?_)
theorem spec_Joined.mono : ∀ a0 k, LeO (spec_Joined.f k a0) (spec_Joined.f (k + 1) a0) := by
  intro a0 k
  obtain ⟨ih0, ih1, ih2⟩ := spec_Joined.mono_l k
  unfold spec_Joined.f
  repeat' first
      | (with_reducible exact ih0 _ _ _ _ _ _)
      | (with_reducible exact ih1 _ _ _ _ _)
      | (with_reducible exact ih2 _ _ _ _ _ _ _ _ _)
      | (with_reducible exact LeO.refl _)
      | (with_reducible exact LeO.none _)
      | (with_reducible refine LeO.ite ?_ ?_)
      | (with_reducible refine LeO.bind ?_ (fun _ => ?_))
      | exact ih0 _ _ _ _ _ _
      | exact ih1 _ _ _ _ _
      | exact ih2 _ _ _ _ _ _ _ _ _
      | exact LeO.none _
      | refine LeO.ite ?_ ?_
      | refine LeO.bind ?_ (fun _ => ?_)
set_option maxHeartbeats 8000000 in
set_option maxRecDepth 100000 in
theorem spec_Joined.calls (k : Nat) (A0 : Option Addr) (c0 : Nat) (l0 : List (S34)) (r1 : Int) (r2 : Int) (r3 : Bool) (w : World) (hr0 : Kd.C k34 w A0 l0.length l0) (hc0 : l0.length ≤ c0) (h : spec_Joined.f k l0 = some (r1, r2, r3)) :
    Calls Tryf.prog 33 #[.slice A0 l0.length c0] w fun e w' => e = .returned (.tuple #[.agg #[.int .u64 r1, .int .u64 r2], .bool r3]) ∧ Below w.heap.size w w' := by
  have hu60 := Tryf.underlying60
  have hu34 := Tryf.underlying34
  have HR0 := Aside0.mk hr0
  have HC0 := Aside0.mk hc0
  clear hr0 hc0
  have HB := Aside0.mk (Below.refl w.heap.size w)
  have H : (spec_Joined.l0 k l0 l0 (l0.length : Int) 0 9223372036854775808 9223372036854775808) = some (r1, r2, r3) := h
  clear h
  have H' := Aside0.mk H
  clear H
  go_enter Tryf.func33, Tryf.ntmps33
  go_wp2_with (first | ((with_reducible refine gate_dst (N := 2) rfl ?_); refine box_event ?hg (N := 2) ?hd (cs := #[.int .u64 0, .int .u64 0]) (t := 60) ?hr ?_; (case hd => rfl); (case hg => rfl); (case hr => first | (go_simp; done) | (go_simp; rfl)); intro gb198 hg w2 hbox hb; have n0_ := Aside0.mk (below_step (by repeat (first | (with_reducible first | exact HB.out | apply below_alloc | apply pw_below_drewN | apply below_drew1) | exact HB.out)) hb); have n1_ := Aside0.mk (hbox); have n2_ := Aside0.mk ((by rw [hg]; exact (below_size (by repeat (first | (with_reducible first | exact HB.out | apply below_alloc | apply pw_below_drewN | apply below_drew1) | exact HB.out))) : w.heap.size ≤ gb198)); have n3_ := Aside0.mk ((by rw [hg]; exact (below_size (by repeat (first | (with_reducible first | exact HB.out | apply below_alloc | apply pw_below_drewN | apply below_drew1) | exact HB.out))) : w.heap.size ≤ gb198)); clear HB; have HB := n0_; have BK198 := n1_; have GW198 := n2_; have GE198 := n3_; clear n0_ n1_ n2_ n3_; clear hb hbox hg) | ((with_reducible refine gate_dst (N := 4) rfl ?_); refine box_event ?hg (N := 4) ?hd (cs := #[.int .u64 0, .int .u64 0]) (t := 60) ?hr ?_; (case hd => rfl); (case hg => rfl); (case hr => first | (go_simp; done) | (go_simp; rfl)); intro gb199 hg w3 hbox hb; have n0_ := Aside0.mk (blk_below (g := gb198) (o := .cells #[.int .u64 0, .int .u64 0] 60 (0, 0)) (by (with_reducible repeat (first | refine blk_drewN ?_ _ | refine blk_drew ?_ | refine blk_alloc ?_ _)); exact BK198.out) hb); have n1_ := Aside0.mk (below_step (by repeat (first | (with_reducible first | exact HB.out | apply below_alloc | apply pw_below_drewN | apply below_drew1 | refine below_set ?_ GE198.out) | exact HB.out)) hb); have n2_ := Aside0.mk (hbox); have n3_ := Aside0.mk ((by rw [hg]; exact (below_size (by repeat (first | (with_reducible first | exact HB.out | apply below_alloc | apply pw_below_drewN | apply below_drew1 | refine below_set ?_ GE198.out) | exact HB.out))) : w.heap.size ≤ gb199)); have n4_ := Aside0.mk ((by rw [hg]; exact (below_size (by repeat (first | (with_reducible first | exact HB.out | apply below_alloc | apply pw_below_drewN | apply below_drew1 | refine below_set ?_ GE198.out) | exact HB.out))) : w.heap.size ≤ gb199)); have n5_ := Aside0.mk ((by rw [hg]; exact Nat.ne_of_lt (blk_lt (g := gb198) (o := .cells #[.int .u64 0, .int .u64 0] 60 (0, 0)) (by (with_reducible repeat (first | refine blk_drewN ?_ _ | refine blk_drew ?_ | refine blk_alloc ?_ _)); exact BK198.out)) : gb198 ≠ gb199)); have n6_ := Aside0.mk ((by rw [hg]; exact Nat.ne_of_gt (blk_lt (g := gb198) (o := .cells #[.int .u64 0, .int .u64 0] 60 (0, 0)) (by (with_reducible repeat (first | refine blk_drewN ?_ _ | refine blk_drew ?_ | refine blk_alloc ?_ _)); exact BK198.out)) : gb199 ≠ gb198)); clear BK198; clear HB; have BK198 := n0_; have HB := n1_; have BK199 := n2_; have GW199 := n3_; have GE199 := n4_; have NB198_199 := n5_; have NB199_198 := n6_; clear n0_ n1_ n2_ n3_ n4_ n5_ n6_; clear hb hbox hg; have hnb4 := NB199_198.out; have hnc4 := NB198_199.out; have hcz5_0 : w3.cell? ⟨gb199, 0, none⟩ = some (.int .u64 0) := (blk_cell BK199.out 0).trans rfl; have hcz5_1 : w3.cell? ⟨gb199, 1, none⟩ = some (.int .u64 0) := (blk_cell BK199.out 1).trans rfl; have hfz5_0 := blk_frozen BK199.out 0; have hfz5_1 := blk_frozen BK199.out 1))
  go_loopg [17] k (fun kq v17 w' => ∃ (x17_1 : Int) (x199000_1 : Int) (x199001_1 : Int) (x200000_1 : Int), v17 = .int .i64 x17_1 ∧ Aside0 (spec_Joined.l0 kq l0 l0 (l0.length : Int) x17_1 x200000_1 9223372036854775808 = some (r1, r2, r3)) ∧ Aside0 (kq ≤ k) ∧ Aside0 (w'.heap[gb198]? = some (.cells #[.int .u64 x199000_1, .int .u64 x199001_1] 60 (0, 0))) ∧ Aside0 (w'.heap[gb199]? = some (.cells #[.int .u64 x200000_1, .int .u64 9223372036854775808] 60 (0, 0))) ∧ Aside0 (Below w.heap.size w w'))
  case atStart => exact ⟨(0), (0), (0), (9223372036854775808), (by first | rfl | (simp; done) | (simp [*]; done)), H', ⟨Nat.le_refl _⟩, ⟨by (with_reducible repeat (first | refine blk_drewN ?_ _ | refine blk_drew ?_ | refine blk_alloc ?_ _)); refine blk_far ?_ NB198_199.out _; (with_reducible repeat (first | refine blk_drewN ?_ _ | refine blk_drew ?_ | refine blk_alloc ?_ _)); refine blk_far ?_ NB198_199.out _; (with_reducible repeat (first | refine blk_drewN ?_ _ | refine blk_drew ?_ | refine blk_alloc ?_ _)); exact BK198.out⟩, ⟨by (with_reducible repeat (first | refine blk_drewN ?_ _ | refine blk_drew ?_ | refine blk_alloc ?_ _)); refine blk_put (cs := #[.int .u64 9223372036854775808, .int .u64 0]) ?_ 1 _ rfl; (with_reducible repeat (first | refine blk_drewN ?_ _ | refine blk_drew ?_ | refine blk_alloc ?_ _)); refine blk_put (cs := #[.int .u64 0, .int .u64 0]) ?_ 0 _ rfl; (with_reducible repeat (first | refine blk_drewN ?_ _ | refine blk_drew ?_ | refine blk_alloc ?_ _)); exact BK199.out⟩, ⟨by repeat (first | (with_reducible first | exact HB.out | apply below_alloc | apply pw_below_drewN | apply below_drew1 | refine below_set ?_ GE198.out | refine below_set ?_ GE199.out) | exact HB.out)⟩⟩
  case round =>
    clear H'
    try clear p2
    try clear c3
    try clear c4
    try clear hcz5_0
    try clear hcz5_1
    try clear hfz5_0
    try clear hfz5_1
    obtain ⟨x17_1, x199000_1, x199001_1, x200000_1, rfl, HA, HK1, BK198, BK199, HB⟩ := hrel
    cases gk with
    | zero => exact absurd HA.out (by simp [spec_Joined.l0])
    | succ k1 =>
      have H := HA.out
      clear HA
      simp only [spec_Joined.l0] at H
      by_cases c6 : x17_1 < (l0.length : Int)
      · rw [if_pos c6] at H
        have c6b0 : decide (x17_1 < (l0.length : Int)) = true := decide_eq_true c6
        clear c6
        by_cases c7 : 0 ≤ x17_1
        · rw [if_pos c7] at H
          have c7b0 : decide (0 ≤ x17_1) = true := decide_eq_true c7
          clear c7
          by_cases c8 : x17_1 < (l0.length : Int)
          · rw [if_pos c8] at H
            have c8b0 : decide (x17_1 < (l0.length : Int)) = true := decide_eq_true c8
            clear c8
            replace H := Option.bind_eq_some_iff.mp H
            obtain ⟨⟨t202, t203, t204⟩, A90, H⟩ := H
            replace H : (if t204 = true then (spec_Joined.l0 k1 l0 l0 (l0.length : Int) (wrap64 (x17_1 + 1)) (mn x200000_1 t202) 9223372036854775808) else (some (0, 0, false))) = some (r1, r2, r3) := H
            have A9 := Aside0.mk A90
            clear A90
            by_cases c10 : t204 = true
            · subst c10
              have H1 : (spec_Joined.l0 k1 l0 l0 (l0.length : Int) (wrap64 (x17_1 + 1)) (mn x200000_1 t202) 9223372036854775808) = some (r1, r2, r3) := by rw [if_pos rfl] at H; exact H
              clear H
              have H := H1
              clear H1
              obtain ⟨ji11, hji11⟩ : ∃ j_ : Int, (mn x200000_1 t202) = j_ := ⟨_, rfl⟩
              replace H : (spec_Joined.l0 k1 l0 l0 (l0.length : Int) (wrap64 (x17_1 + 1)) ji11 9223372036854775808) = some (r1, r2, r3) := by first | (rw [hji11] at H; exact H) | (simp only [hji11] at H ⊢; exact H)
              (try rw [hji11] at A9)
              have hji11_ : (if t202 < x200000_1 then t202 else x200000_1) = ji11 := hji11
              have H' := Aside0.mk H
              clear H
              have p200 : 0 ≤ (x17_1 : Int) := of_decide_eq_true (by first | (with_reducible assumption) | assumption)
              have q200 : x17_1 < (l0.length : Int) := of_decide_eq_true (by first | (with_reducible assumption) | assumption)
              obtain ⟨ad200, e200, hx200_0, hx200_1⟩ := at_T34 HR0.out x17_1 p200 q200
              cases e200
              replace hx200_0 := (HB.out.cell (World.block_lt_of_cell? w _ hx200_0)).trans hx200_0
              replace hx200_1 := (HB.out.cell (World.block_lt_of_cell? w _ hx200_1)).trans hx200_1
              replace p200 := eq_true p200
              replace q200 := eq_true q200
              go_wp2_with (first | ((with_reducible refine gate_dst (N := 6) rfl ?_); refine box_event ?hg (N := 6) ?hd (cs := #[.int .u64 0, .int .u64 0]) (t := 34) ?hr ?_; (case hd => rfl); (case hg => rfl); (case hr => first | (go_simp; done) | (go_simp; rfl)); intro gb201 hg w12 hbox hb; have n0_ := Aside0.mk (blk_below (g := gb198) (o := .cells #[.int .u64 x199000_1, .int .u64 x199001_1] 60 (0, 0)) (by (with_reducible repeat (first | refine blk_drewN ?_ _ | refine blk_drew ?_ | refine blk_alloc ?_ _)); exact BK198.out) hb); have n1_ := Aside0.mk (blk_below (g := gb199) (o := .cells #[.int .u64 x200000_1, .int .u64 9223372036854775808] 60 (0, 0)) (by (with_reducible repeat (first | refine blk_drewN ?_ _ | refine blk_drew ?_ | refine blk_alloc ?_ _)); exact BK199.out) hb); have n2_ := Aside0.mk (below_step (by repeat (first | (with_reducible first | exact HB.out | apply below_alloc | apply pw_below_drewN | apply below_drew1 | refine below_set ?_ GE198.out | refine below_set ?_ GE199.out) | exact HB.out)) hb); have n3_ := Aside0.mk (hbox); have n4_ := Aside0.mk ((by rw [hg]; exact (below_size (by repeat (first | (with_reducible first | exact HB.out | apply below_alloc | apply pw_below_drewN | apply below_drew1 | refine below_set ?_ GE198.out | refine below_set ?_ GE199.out) | exact HB.out))) : w.heap.size ≤ gb201)); have n5_ := Aside0.mk ((by rw [hg]; exact (below_size (by repeat (first | (with_reducible first | exact HB.out | apply below_alloc | apply pw_below_drewN | apply below_drew1 | refine below_set ?_ GE198.out | refine below_set ?_ GE199.out) | exact HB.out))) : w.heap.size ≤ gb201)); have n6_ := Aside0.mk ((by rw [hg]; exact Nat.ne_of_lt (blk_lt (g := gb198) (o := .cells #[.int .u64 x199000_1, .int .u64 x199001_1] 60 (0, 0)) (by (with_reducible repeat (first | refine blk_drewN ?_ _ | refine blk_drew ?_ | refine blk_alloc ?_ _)); exact BK198.out)) : gb198 ≠ gb201)); have n7_ := Aside0.mk ((by rw [hg]; exact Nat.ne_of_gt (blk_lt (g := gb198) (o := .cells #[.int .u64 x199000_1, .int .u64 x199001_1] 60 (0, 0)) (by (with_reducible repeat (first | refine blk_drewN ?_ _ | refine blk_drew ?_ | refine blk_alloc ?_ _)); exact BK198.out)) : gb201 ≠ gb198)); have n8_ := Aside0.mk ((by rw [hg]; exact Nat.ne_of_lt (blk_lt (g := gb199) (o := .cells #[.int .u64 x200000_1, .int .u64 9223372036854775808] 60 (0, 0)) (by (with_reducible repeat (first | refine blk_drewN ?_ _ | refine blk_drew ?_ | refine blk_alloc ?_ _)); exact BK199.out)) : gb199 ≠ gb201)); have n9_ := Aside0.mk ((by rw [hg]; exact Nat.ne_of_gt (blk_lt (g := gb199) (o := .cells #[.int .u64 x200000_1, .int .u64 9223372036854775808] 60 (0, 0)) (by (with_reducible repeat (first | refine blk_drewN ?_ _ | refine blk_drew ?_ | refine blk_alloc ?_ _)); exact BK199.out)) : gb201 ≠ gb199)); clear BK198; clear BK199; clear HB; have BK198 := n0_; have BK199 := n1_; have HB := n2_; have BK201 := n3_; have GW201 := n4_; have GE201 := n5_; have NB198_201 := n6_; have NB201_198 := n7_; have NB199_201 := n8_; have NB201_199 := n9_; clear n0_ n1_ n2_ n3_ n4_ n5_ n6_ n7_ n8_ n9_; clear hb hbox hg; have hnb13 := NB201_198.out; have hnc13 := NB198_201.out; have hnb14 := NB201_199.out; have hnc14 := NB199_201.out; have hcz15_0 : w12.cell? ⟨gb201, 0, none⟩ = some (.int .u64 0) := (blk_cell BK201.out 0).trans rfl; have hcz15_1 : w12.cell? ⟨gb201, 1, none⟩ = some (.int .u64 0) := (blk_cell BK201.out 1).trans rfl; have hfz15_0 := blk_frozen BK201.out 0; have hfz15_1 := blk_frozen BK201.out 1) | ((with_reducible refine gate_callee (f := 32) rfl ?_); refine goesL_ (some 23) rfl rfl Tryf.func32 (by kernel_rfl) rfl #[.agg #[.int .u64 ((rd_T34 l0 x17_1).f0), .int .u64 ((rd_T34 l0 x17_1).f1)]] rfl (by (try simp only [List.map_toArray, List.map_cons, List.map_nil]); first | done | rfl | (simp only [List.length_drop, List.length_take]; rfl)) ?_; (with_reducible refine (spec_SpanOf.calls ((rd_T34 l0 x17_1).f0) ((rd_T34 l0 x17_1).f1) t202 t203 true _ A9.out).mono ?_); rintro e w16 ⟨rfl, hb⟩; refine ⟨_, rfl, ?_⟩; have n0_ := Aside0.mk (blk_below (g := gb198) (o := .cells #[.int .u64 x199000_1, .int .u64 x199001_1] 60 (0, 0)) (by (with_reducible repeat (first | refine blk_drewN ?_ _ | refine blk_drew ?_ | refine blk_alloc ?_ _)); refine blk_far ?_ NB198_201.out _; (with_reducible repeat (first | refine blk_drewN ?_ _ | refine blk_drew ?_ | refine blk_alloc ?_ _)); refine blk_far ?_ NB198_201.out _; (with_reducible repeat (first | refine blk_drewN ?_ _ | refine blk_drew ?_ | refine blk_alloc ?_ _)); exact BK198.out) hb); have n1_ := Aside0.mk (blk_below (g := gb199) (o := .cells #[.int .u64 x200000_1, .int .u64 9223372036854775808] 60 (0, 0)) (by (with_reducible repeat (first | refine blk_drewN ?_ _ | refine blk_drew ?_ | refine blk_alloc ?_ _)); refine blk_far ?_ NB199_201.out _; (with_reducible repeat (first | refine blk_drewN ?_ _ | refine blk_drew ?_ | refine blk_alloc ?_ _)); refine blk_far ?_ NB199_201.out _; (with_reducible repeat (first | refine blk_drewN ?_ _ | refine blk_drew ?_ | refine blk_alloc ?_ _)); exact BK199.out) hb); have n2_ := Aside0.mk (blk_below (g := gb201) (o := .cells #[.int .u64 ((rd_T34 l0 x17_1).f0), .int .u64 ((rd_T34 l0 x17_1).f1)] 34 (0, 0)) (by (with_reducible repeat (first | refine blk_drewN ?_ _ | refine blk_drew ?_ | refine blk_alloc ?_ _)); refine blk_put (cs := #[.int .u64 ((rd_T34 l0 x17_1).f0), .int .u64 0]) ?_ 1 _ rfl; (with_reducible repeat (first | refine blk_drewN ?_ _ | refine blk_drew ?_ | refine blk_alloc ?_ _)); refine blk_put (cs := #[.int .u64 0, .int .u64 0]) ?_ 0 _ rfl; (with_reducible repeat (first | refine blk_drewN ?_ _ | refine blk_drew ?_ | refine blk_alloc ?_ _)); exact BK201.out) hb); have n3_ := Aside0.mk (below_step (by repeat (first | (with_reducible first | exact HB.out | apply below_alloc | apply pw_below_drewN | apply below_drew1 | refine below_set ?_ GE198.out | refine below_set ?_ GE199.out | refine below_set ?_ GE201.out) | exact HB.out)) hb); clear BK198; clear BK199; clear BK201; clear HB; have BK198 := n0_; have BK199 := n1_; have BK201 := n2_; have HB := n3_; clear n0_ n1_ n2_ n3_; (try clear hb); (try clear hb2); (try clear hk); (try clear hi)) | ((with_reducible refine gate_dst (N := 7) rfl ?_); refine box_event ?hg (N := 7) ?hd (cs := #[.int .u64 0, .int .u64 0]) (t := 60) ?hr ?_; (case hd => rfl); (case hg => rfl); (case hr => first | (go_simp; done) | (go_simp; rfl)); intro gb205 hg w17 hbox hb; have n0_ := Aside0.mk (blk_below (g := gb198) (o := .cells #[.int .u64 x199000_1, .int .u64 x199001_1] 60 (0, 0)) (by (with_reducible repeat (first | refine blk_drewN ?_ _ | refine blk_drew ?_ | refine blk_alloc ?_ _)); exact BK198.out) hb); have n1_ := Aside0.mk (blk_below (g := gb199) (o := .cells #[.int .u64 x200000_1, .int .u64 9223372036854775808] 60 (0, 0)) (by (with_reducible repeat (first | refine blk_drewN ?_ _ | refine blk_drew ?_ | refine blk_alloc ?_ _)); exact BK199.out) hb); have n2_ := Aside0.mk (blk_below (g := gb201) (o := .cells #[.int .u64 ((rd_T34 l0 x17_1).f0), .int .u64 ((rd_T34 l0 x17_1).f1)] 34 (0, 0)) (by (with_reducible repeat (first | refine blk_drewN ?_ _ | refine blk_drew ?_ | refine blk_alloc ?_ _)); exact BK201.out) hb); have n3_ := Aside0.mk (below_step (by repeat (first | (with_reducible first | exact HB.out | apply below_alloc | apply pw_below_drewN | apply below_drew1 | refine below_set ?_ GE198.out | refine below_set ?_ GE199.out | refine below_set ?_ GE201.out) | exact HB.out)) hb); have n4_ := Aside0.mk (hbox); have n5_ := Aside0.mk ((by rw [hg]; exact (below_size (by repeat (first | (with_reducible first | exact HB.out | apply below_alloc | apply pw_below_drewN | apply below_drew1 | refine below_set ?_ GE198.out | refine below_set ?_ GE199.out | refine below_set ?_ GE201.out) | exact HB.out))) : w.heap.size ≤ gb205)); have n6_ := Aside0.mk ((by rw [hg]; exact (below_size (by repeat (first | (with_reducible first | exact HB.out | apply below_alloc | apply pw_below_drewN | apply below_drew1 | refine below_set ?_ GE198.out | refine below_set ?_ GE199.out | refine below_set ?_ GE201.out) | exact HB.out))) : w.heap.size ≤ gb205)); have n7_ := Aside0.mk ((by rw [hg]; exact Nat.ne_of_lt (blk_lt (g := gb198) (o := .cells #[.int .u64 x199000_1, .int .u64 x199001_1] 60 (0, 0)) (by (with_reducible repeat (first | refine blk_drewN ?_ _ | refine blk_drew ?_ | refine blk_alloc ?_ _)); exact BK198.out)) : gb198 ≠ gb205)); have n8_ := Aside0.mk ((by rw [hg]; exact Nat.ne_of_gt (blk_lt (g := gb198) (o := .cells #[.int .u64 x199000_1, .int .u64 x199001_1] 60 (0, 0)) (by (with_reducible repeat (first | refine blk_drewN ?_ _ | refine blk_drew ?_ | refine blk_alloc ?_ _)); exact BK198.out)) : gb205 ≠ gb198)); have n9_ := Aside0.mk ((by rw [hg]; exact Nat.ne_of_lt (blk_lt (g := gb199) (o := .cells #[.int .u64 x200000_1, .int .u64 9223372036854775808] 60 (0, 0)) (by (with_reducible repeat (first | refine blk_drewN ?_ _ | refine blk_drew ?_ | refine blk_alloc ?_ _)); exact BK199.out)) : gb199 ≠ gb205)); have n10_ := Aside0.mk ((by rw [hg]; exact Nat.ne_of_gt (blk_lt (g := gb199) (o := .cells #[.int .u64 x200000_1, .int .u64 9223372036854775808] 60 (0, 0)) (by (with_reducible repeat (first | refine blk_drewN ?_ _ | refine blk_drew ?_ | refine blk_alloc ?_ _)); exact BK199.out)) : gb205 ≠ gb199)); have n11_ := Aside0.mk ((by rw [hg]; exact Nat.ne_of_lt (blk_lt (g := gb201) (o := .cells #[.int .u64 ((rd_T34 l0 x17_1).f0), .int .u64 ((rd_T34 l0 x17_1).f1)] 34 (0, 0)) (by (with_reducible repeat (first | refine blk_drewN ?_ _ | refine blk_drew ?_ | refine blk_alloc ?_ _)); exact BK201.out)) : gb201 ≠ gb205)); have n12_ := Aside0.mk ((by rw [hg]; exact Nat.ne_of_gt (blk_lt (g := gb201) (o := .cells #[.int .u64 ((rd_T34 l0 x17_1).f0), .int .u64 ((rd_T34 l0 x17_1).f1)] 34 (0, 0)) (by (with_reducible repeat (first | refine blk_drewN ?_ _ | refine blk_drew ?_ | refine blk_alloc ?_ _)); exact BK201.out)) : gb205 ≠ gb201)); clear BK198; clear BK199; clear BK201; clear HB; have BK198 := n0_; have BK199 := n1_; have BK201 := n2_; have HB := n3_; have BK205 := n4_; have GW205 := n5_; have GE205 := n6_; have NB198_205 := n7_; have NB205_198 := n8_; have NB199_205 := n9_; have NB205_199 := n10_; have NB201_205 := n11_; have NB205_201 := n12_; clear n0_ n1_ n2_ n3_ n4_ n5_ n6_ n7_ n8_ n9_ n10_ n11_ n12_; clear hb hbox hg; have hnb18 := NB205_198.out; have hnc18 := NB198_205.out; have hnb19 := NB205_199.out; have hnc19 := NB199_205.out; have hnb20 := NB205_201.out; have hnc20 := NB201_205.out; have hcz21_0 : w17.cell? ⟨gb205, 0, none⟩ = some (.int .u64 0) := (blk_cell BK205.out 0).trans rfl; have hcz21_1 : w17.cell? ⟨gb205, 1, none⟩ = some (.int .u64 0) := (blk_cell BK205.out 1).trans rfl; have hfz21_0 := blk_frozen BK205.out 0; have hfz21_1 := blk_frozen BK205.out 1; have hnb22 := NB199_198.out; have hnc22 := NB198_199.out; have hcz23_0 : w17.cell? ⟨gb199, 0, none⟩ = some (.int .u64 x200000_1) := (blk_cell BK199.out 0).trans rfl; have hcz23_1 : w17.cell? ⟨gb199, 1, none⟩ = some (.int .u64 9223372036854775808) := (blk_cell BK199.out 1).trans rfl; have hfz23_0 := blk_frozen BK199.out 0; have hfz23_1 := blk_frozen BK199.out 1))
              go_roundg k1
              case measure => have := HK1.out; omega
              case rel => exact ⟨(wrap64 (x17_1 + 1)), (x199000_1), (x199001_1), (ji11), (by first | rfl | (simp; done) | (simp [*]; done)), H', ⟨by have := HK1.out; omega⟩, ⟨by (with_reducible repeat (first | refine blk_drewN ?_ _ | refine blk_drew ?_ | refine blk_alloc ?_ _)); refine blk_far ?_ NB198_199.out _; (with_reducible repeat (first | refine blk_drewN ?_ _ | refine blk_drew ?_ | refine blk_alloc ?_ _)); refine blk_far ?_ NB198_205.out _; (with_reducible repeat (first | refine blk_drewN ?_ _ | refine blk_drew ?_ | refine blk_alloc ?_ _)); refine blk_far ?_ NB198_205.out _; (with_reducible repeat (first | refine blk_drewN ?_ _ | refine blk_drew ?_ | refine blk_alloc ?_ _)); exact BK198.out⟩, ⟨by (with_reducible repeat (first | refine blk_drewN ?_ _ | refine blk_drew ?_ | refine blk_alloc ?_ _)); refine blk_put (cs := #[.int .u64 x200000_1, .int .u64 9223372036854775808]) ?_ 0 _ rfl; (with_reducible repeat (first | refine blk_drewN ?_ _ | refine blk_drew ?_ | refine blk_alloc ?_ _)); refine blk_far ?_ NB199_205.out _; (with_reducible repeat (first | refine blk_drewN ?_ _ | refine blk_drew ?_ | refine blk_alloc ?_ _)); refine blk_far ?_ NB199_205.out _; (with_reducible repeat (first | refine blk_drewN ?_ _ | refine blk_drew ?_ | refine blk_alloc ?_ _)); exact BK199.out⟩, ⟨by repeat (first | (with_reducible first | exact HB.out | apply below_alloc | apply pw_below_drewN | apply below_drew1 | refine below_set ?_ GE198.out | refine below_set ?_ GE199.out | refine below_set ?_ GE201.out | refine below_set ?_ GE205.out) | exact HB.out)⟩⟩
            · replace c10 := Bool.eq_false_iff.mpr c10
              subst c10
              have H1 : (some (0, 0, false)) = some (r1, r2, r3) := by rw [if_neg (show ¬ (false = true) by decide)] at H; exact H
              clear H
              have H := H1
              clear H1
              simp only [Option.some.injEq, Prod.mk.injEq] at H
              obtain ⟨rfl, rfl, rfl⟩ := H
              have p200 : 0 ≤ (x17_1 : Int) := of_decide_eq_true (by first | (with_reducible assumption) | assumption)
              have q200 : x17_1 < (l0.length : Int) := of_decide_eq_true (by first | (with_reducible assumption) | assumption)
              obtain ⟨ad200, e200, hx200_0, hx200_1⟩ := at_T34 HR0.out x17_1 p200 q200
              cases e200
              replace hx200_0 := (HB.out.cell (World.block_lt_of_cell? w _ hx200_0)).trans hx200_0
              replace hx200_1 := (HB.out.cell (World.block_lt_of_cell? w _ hx200_1)).trans hx200_1
              replace p200 := eq_true p200
              replace q200 := eq_true q200
              go_wp2_with (first | ((with_reducible refine gate_dst (N := 6) rfl ?_); refine box_event ?hg (N := 6) ?hd (cs := #[.int .u64 0, .int .u64 0]) (t := 34) ?hr ?_; (case hd => rfl); (case hg => rfl); (case hr => first | (go_simp; done) | (go_simp; rfl)); intro gb201 hg w24 hbox hb; have n0_ := Aside0.mk (blk_below (g := gb198) (o := .cells #[.int .u64 x199000_1, .int .u64 x199001_1] 60 (0, 0)) (by (with_reducible repeat (first | refine blk_drewN ?_ _ | refine blk_drew ?_ | refine blk_alloc ?_ _)); exact BK198.out) hb); have n1_ := Aside0.mk (blk_below (g := gb199) (o := .cells #[.int .u64 x200000_1, .int .u64 9223372036854775808] 60 (0, 0)) (by (with_reducible repeat (first | refine blk_drewN ?_ _ | refine blk_drew ?_ | refine blk_alloc ?_ _)); exact BK199.out) hb); have n2_ := Aside0.mk (below_step (by repeat (first | (with_reducible first | exact HB.out | apply below_alloc | apply pw_below_drewN | apply below_drew1 | refine below_set ?_ GE198.out | refine below_set ?_ GE199.out) | exact HB.out)) hb); have n3_ := Aside0.mk (hbox); have n4_ := Aside0.mk ((by rw [hg]; exact (below_size (by repeat (first | (with_reducible first | exact HB.out | apply below_alloc | apply pw_below_drewN | apply below_drew1 | refine below_set ?_ GE198.out | refine below_set ?_ GE199.out) | exact HB.out))) : w.heap.size ≤ gb201)); have n5_ := Aside0.mk ((by rw [hg]; exact (below_size (by repeat (first | (with_reducible first | exact HB.out | apply below_alloc | apply pw_below_drewN | apply below_drew1 | refine below_set ?_ GE198.out | refine below_set ?_ GE199.out) | exact HB.out))) : w.heap.size ≤ gb201)); have n6_ := Aside0.mk ((by rw [hg]; exact Nat.ne_of_lt (blk_lt (g := gb198) (o := .cells #[.int .u64 x199000_1, .int .u64 x199001_1] 60 (0, 0)) (by (with_reducible repeat (first | refine blk_drewN ?_ _ | refine blk_drew ?_ | refine blk_alloc ?_ _)); exact BK198.out)) : gb198 ≠ gb201)); have n7_ := Aside0.mk ((by rw [hg]; exact Nat.ne_of_gt (blk_lt (g := gb198) (o := .cells #[.int .u64 x199000_1, .int .u64 x199001_1] 60 (0, 0)) (by (with_reducible repeat (first | refine blk_drewN ?_ _ | refine blk_drew ?_ | refine blk_alloc ?_ _)); exact BK198.out)) : gb201 ≠ gb198)); have n8_ := Aside0.mk ((by rw [hg]; exact Nat.ne_of_lt (blk_lt (g := gb199) (o := .cells #[.int .u64 x200000_1, .int .u64 9223372036854775808] 60 (0, 0)) (by (with_reducible repeat (first | refine blk_drewN ?_ _ | refine blk_drew ?_ | refine blk_alloc ?_ _)); exact BK199.out)) : gb199 ≠ gb201)); have n9_ := Aside0.mk ((by rw [hg]; exact Nat.ne_of_gt (blk_lt (g := gb199) (o := .cells #[.int .u64 x200000_1, .int .u64 9223372036854775808] 60 (0, 0)) (by (with_reducible repeat (first | refine blk_drewN ?_ _ | refine blk_drew ?_ | refine blk_alloc ?_ _)); exact BK199.out)) : gb201 ≠ gb199)); clear BK198; clear BK199; clear HB; have BK198 := n0_; have BK199 := n1_; have HB := n2_; have BK201 := n3_; have GW201 := n4_; have GE201 := n5_; have NB198_201 := n6_; have NB201_198 := n7_; have NB199_201 := n8_; have NB201_199 := n9_; clear n0_ n1_ n2_ n3_ n4_ n5_ n6_ n7_ n8_ n9_; clear hb hbox hg; have hnb25 := NB201_198.out; have hnc25 := NB198_201.out; have hnb26 := NB201_199.out; have hnc26 := NB199_201.out; have hcz27_0 : w24.cell? ⟨gb201, 0, none⟩ = some (.int .u64 0) := (blk_cell BK201.out 0).trans rfl; have hcz27_1 : w24.cell? ⟨gb201, 1, none⟩ = some (.int .u64 0) := (blk_cell BK201.out 1).trans rfl; have hfz27_0 := blk_frozen BK201.out 0; have hfz27_1 := blk_frozen BK201.out 1) | ((with_reducible refine gate_callee (f := 32) rfl ?_); refine goesL_ (some 23) rfl rfl Tryf.func32 (by kernel_rfl) rfl #[.agg #[.int .u64 ((rd_T34 l0 x17_1).f0), .int .u64 ((rd_T34 l0 x17_1).f1)]] rfl (by (try simp only [List.map_toArray, List.map_cons, List.map_nil]); first | done | rfl | (simp only [List.length_drop, List.length_take]; rfl)) ?_; (with_reducible refine (spec_SpanOf.calls ((rd_T34 l0 x17_1).f0) ((rd_T34 l0 x17_1).f1) t202 t203 false _ A9.out).mono ?_); rintro e w28 ⟨rfl, hb⟩; refine ⟨_, rfl, ?_⟩; have n0_ := Aside0.mk (blk_below (g := gb198) (o := .cells #[.int .u64 x199000_1, .int .u64 x199001_1] 60 (0, 0)) (by (with_reducible repeat (first | refine blk_drewN ?_ _ | refine blk_drew ?_ | refine blk_alloc ?_ _)); refine blk_far ?_ NB198_201.out _; (with_reducible repeat (first | refine blk_drewN ?_ _ | refine blk_drew ?_ | refine blk_alloc ?_ _)); refine blk_far ?_ NB198_201.out _; (with_reducible repeat (first | refine blk_drewN ?_ _ | refine blk_drew ?_ | refine blk_alloc ?_ _)); exact BK198.out) hb); have n1_ := Aside0.mk (blk_below (g := gb199) (o := .cells #[.int .u64 x200000_1, .int .u64 9223372036854775808] 60 (0, 0)) (by (with_reducible repeat (first | refine blk_drewN ?_ _ | refine blk_drew ?_ | refine blk_alloc ?_ _)); refine blk_far ?_ NB199_201.out _; (with_reducible repeat (first | refine blk_drewN ?_ _ | refine blk_drew ?_ | refine blk_alloc ?_ _)); refine blk_far ?_ NB199_201.out _; (with_reducible repeat (first | refine blk_drewN ?_ _ | refine blk_drew ?_ | refine blk_alloc ?_ _)); exact BK199.out) hb); have n2_ := Aside0.mk (blk_below (g := gb201) (o := .cells #[.int .u64 ((rd_T34 l0 x17_1).f0), .int .u64 ((rd_T34 l0 x17_1).f1)] 34 (0, 0)) (by (with_reducible repeat (first | refine blk_drewN ?_ _ | refine blk_drew ?_ | refine blk_alloc ?_ _)); refine blk_put (cs := #[.int .u64 ((rd_T34 l0 x17_1).f0), .int .u64 0]) ?_ 1 _ rfl; (with_reducible repeat (first | refine blk_drewN ?_ _ | refine blk_drew ?_ | refine blk_alloc ?_ _)); refine blk_put (cs := #[.int .u64 0, .int .u64 0]) ?_ 0 _ rfl; (with_reducible repeat (first | refine blk_drewN ?_ _ | refine blk_drew ?_ | refine blk_alloc ?_ _)); exact BK201.out) hb); have n3_ := Aside0.mk (below_step (by repeat (first | (with_reducible first | exact HB.out | apply below_alloc | apply pw_below_drewN | apply below_drew1 | refine below_set ?_ GE198.out | refine below_set ?_ GE199.out | refine below_set ?_ GE201.out) | exact HB.out)) hb); clear BK198; clear BK199; clear BK201; clear HB; have BK198 := n0_; have BK199 := n1_; have BK201 := n2_; have HB := n3_; clear n0_ n1_ n2_ n3_; (try clear hb); (try clear hb2); (try clear hk); (try clear hi)) | ((with_reducible refine gate_dst (N := 7) rfl ?_); refine box_event ?hg (N := 7) ?hd (cs := #[.int .u64 0, .int .u64 0]) (t := 60) ?hr ?_; (case hd => rfl); (case hg => rfl); (case hr => first | (go_simp; done) | (go_simp; rfl)); intro gb205 hg w29 hbox hb; have n0_ := Aside0.mk (blk_below (g := gb198) (o := .cells #[.int .u64 x199000_1, .int .u64 x199001_1] 60 (0, 0)) (by (with_reducible repeat (first | refine blk_drewN ?_ _ | refine blk_drew ?_ | refine blk_alloc ?_ _)); exact BK198.out) hb); have n1_ := Aside0.mk (blk_below (g := gb199) (o := .cells #[.int .u64 x200000_1, .int .u64 9223372036854775808] 60 (0, 0)) (by (with_reducible repeat (first | refine blk_drewN ?_ _ | refine blk_drew ?_ | refine blk_alloc ?_ _)); exact BK199.out) hb); have n2_ := Aside0.mk (blk_below (g := gb201) (o := .cells #[.int .u64 ((rd_T34 l0 x17_1).f0), .int .u64 ((rd_T34 l0 x17_1).f1)] 34 (0, 0)) (by (with_reducible repeat (first | refine blk_drewN ?_ _ | refine blk_drew ?_ | refine blk_alloc ?_ _)); exact BK201.out) hb); have n3_ := Aside0.mk (below_step (by repeat (first | (with_reducible first | exact HB.out | apply below_alloc | apply pw_below_drewN | apply below_drew1 | refine below_set ?_ GE198.out | refine below_set ?_ GE199.out | refine below_set ?_ GE201.out) | exact HB.out)) hb); have n4_ := Aside0.mk (hbox); have n5_ := Aside0.mk ((by rw [hg]; exact (below_size (by repeat (first | (with_reducible first | exact HB.out | apply below_alloc | apply pw_below_drewN | apply below_drew1 | refine below_set ?_ GE198.out | refine below_set ?_ GE199.out | refine below_set ?_ GE201.out) | exact HB.out))) : w.heap.size ≤ gb205)); have n6_ := Aside0.mk ((by rw [hg]; exact (below_size (by repeat (first | (with_reducible first | exact HB.out | apply below_alloc | apply pw_below_drewN | apply below_drew1 | refine below_set ?_ GE198.out | refine below_set ?_ GE199.out | refine below_set ?_ GE201.out) | exact HB.out))) : w.heap.size ≤ gb205)); have n7_ := Aside0.mk ((by rw [hg]; exact Nat.ne_of_lt (blk_lt (g := gb198) (o := .cells #[.int .u64 x199000_1, .int .u64 x199001_1] 60 (0, 0)) (by (with_reducible repeat (first | refine blk_drewN ?_ _ | refine blk_drew ?_ | refine blk_alloc ?_ _)); exact BK198.out)) : gb198 ≠ gb205)); have n8_ := Aside0.mk ((by rw [hg]; exact Nat.ne_of_gt (blk_lt (g := gb198) (o := .cells #[.int .u64 x199000_1, .int .u64 x199001_1] 60 (0, 0)) (by (with_reducible repeat (first | refine blk_drewN ?_ _ | refine blk_drew ?_ | refine blk_alloc ?_ _)); exact BK198.out)) : gb205 ≠ gb198)); have n9_ := Aside0.mk ((by rw [hg]; exact Nat.ne_of_lt (blk_lt (g := gb199) (o := .cells #[.int .u64 x200000_1, .int .u64 9223372036854775808] 60 (0, 0)) (by (with_reducible repeat (first | refine blk_drewN ?_ _ | refine blk_drew ?_ | refine blk_alloc ?_ _)); exact BK199.out)) : gb199 ≠ gb205)); have n10_ := Aside0.mk ((by rw [hg]; exact Nat.ne_of_gt (blk_lt (g := gb199) (o := .cells #[.int .u64 x200000_1, .int .u64 9223372036854775808] 60 (0, 0)) (by (with_reducible repeat (first | refine blk_drewN ?_ _ | refine blk_drew ?_ | refine blk_alloc ?_ _)); exact BK199.out)) : gb205 ≠ gb199)); have n11_ := Aside0.mk ((by rw [hg]; exact Nat.ne_of_lt (blk_lt (g := gb201) (o := .cells #[.int .u64 ((rd_T34 l0 x17_1).f0), .int .u64 ((rd_T34 l0 x17_1).f1)] 34 (0, 0)) (by (with_reducible repeat (first | refine blk_drewN ?_ _ | refine blk_drew ?_ | refine blk_alloc ?_ _)); exact BK201.out)) : gb201 ≠ gb205)); have n12_ := Aside0.mk ((by rw [hg]; exact Nat.ne_of_gt (blk_lt (g := gb201) (o := .cells #[.int .u64 ((rd_T34 l0 x17_1).f0), .int .u64 ((rd_T34 l0 x17_1).f1)] 34 (0, 0)) (by (with_reducible repeat (first | refine blk_drewN ?_ _ | refine blk_drew ?_ | refine blk_alloc ?_ _)); exact BK201.out)) : gb205 ≠ gb201)); clear BK198; clear BK199; clear BK201; clear HB; have BK198 := n0_; have BK199 := n1_; have BK201 := n2_; have HB := n3_; have BK205 := n4_; have GW205 := n5_; have GE205 := n6_; have NB198_205 := n7_; have NB205_198 := n8_; have NB199_205 := n9_; have NB205_199 := n10_; have NB201_205 := n11_; have NB205_201 := n12_; clear n0_ n1_ n2_ n3_ n4_ n5_ n6_ n7_ n8_ n9_ n10_ n11_ n12_; clear hb hbox hg; have hnb30 := NB205_198.out; have hnc30 := NB198_205.out; have hnb31 := NB205_199.out; have hnc31 := NB199_205.out; have hnb32 := NB205_201.out; have hnc32 := NB201_205.out; have hcz33_0 : w29.cell? ⟨gb205, 0, none⟩ = some (.int .u64 0) := (blk_cell BK205.out 0).trans rfl; have hcz33_1 : w29.cell? ⟨gb205, 1, none⟩ = some (.int .u64 0) := (blk_cell BK205.out 1).trans rfl; have hfz33_0 := blk_frozen BK205.out 0; have hfz33_1 := blk_frozen BK205.out 1; have hnb34 := NB198_199.out; have hnc34 := NB199_198.out; have hcz35_0 : w29.cell? ⟨gb198, 0, none⟩ = some (.int .u64 x199000_1) := (blk_cell BK198.out 0).trans rfl; have hcz35_1 : w29.cell? ⟨gb198, 1, none⟩ = some (.int .u64 x199001_1) := (blk_cell BK198.out 1).trans rfl; have hfz35_0 := blk_frozen BK198.out 0; have hfz35_1 := blk_frozen BK198.out 1))
              refine bodyPost_ret (results_ct rfl _ _ gb198 60 #[.int .u64 0, .int .u64 0] (0, 0) _ rfl (by (with_reducible repeat (first | refine blk_drewN ?_ _ | refine blk_drew ?_ | refine blk_alloc ?_ _)); refine blk_put (cs := #[.int .u64 0, .int .u64 x199001_1]) ?_ 1 _ rfl; (with_reducible repeat (first | refine blk_drewN ?_ _ | refine blk_drew ?_ | refine blk_alloc ?_ _)); refine blk_put (cs := #[.int .u64 x199000_1, .int .u64 x199001_1]) ?_ 0 _ rfl; (with_reducible repeat (first | refine blk_drewN ?_ _ | refine blk_drew ?_ | refine blk_alloc ?_ _)); refine blk_far ?_ NB198_205.out _; (with_reducible repeat (first | refine blk_drewN ?_ _ | refine blk_drew ?_ | refine blk_alloc ?_ _)); refine blk_far ?_ NB198_205.out _; (with_reducible repeat (first | refine blk_drewN ?_ _ | refine blk_drew ?_ | refine blk_alloc ?_ _)); exact BK198.out) Tryf.underlying60 rfl (by kernel_rfl)) rfl ?_
              exact ⟨by first | rfl | (simp [errW_none, errW_some] <;> rfl) | (simp [*, errW_none, errW_some] <;> rfl), by repeat (first | (with_reducible first | exact HB.out | apply below_alloc | apply pw_below_drewN | apply below_drew1 | refine below_set ?_ GE198.out | refine below_set ?_ GE199.out | refine below_set ?_ GE201.out | refine below_set ?_ GE205.out) | exact HB.out)⟩
          · rw [if_neg c8] at H
            exact absurd H (by simp)
        · rw [if_neg c7] at H
          exact absurd H (by simp)
      · rw [if_neg c6] at H
        have c6b0 : decide (x17_1 < (l0.length : Int)) = false := decide_eq_false c6
        clear c6
        have H' := Aside0.mk H
        clear H
        have hnb36 := NB199_198.out
        have hnc36 := NB198_199.out
        have hcz37_0 : wr.cell? ⟨gb199, 0, none⟩ = some (.int .u64 x200000_1) := (blk_cell BK199.out 0).trans rfl
        have hcz37_1 : wr.cell? ⟨gb199, 1, none⟩ = some (.int .u64 9223372036854775808) := (blk_cell BK199.out 1).trans rfl
        have hfz37_0 := blk_frozen BK199.out 0
        have hfz37_1 := blk_frozen BK199.out 1
        go_wp2
        go_loopg [41] k1 (fun kq v41 w' => ∃ (x41_2 : Int) (x199000_2 : Int) (x199001_2 : Int) (x200001_2 : Int), v41 = .int .i64 x41_2 ∧ Aside0 (spec_Joined.l1 kq l0 (l0.length : Int) x41_2 x200000_1 x200001_2 = some (r1, r2, r3)) ∧ Aside0 (kq ≤ k1) ∧ Aside0 (w'.heap[gb198]? = some (.cells #[.int .u64 x199000_2, .int .u64 x199001_2] 60 (0, 0))) ∧ Aside0 (w'.heap[gb199]? = some (.cells #[.int .u64 x200000_1, .int .u64 x200001_2] 60 (0, 0))) ∧ Aside0 (Below w.heap.size w w'))
        case atStart => exact ⟨(0), (x199000_1), (x199001_1), (x200000_1), (by first | rfl | (simp; done) | (simp [*]; done)), H', ⟨Nat.le_refl _⟩, ⟨by (with_reducible repeat (first | refine blk_drewN ?_ _ | refine blk_drew ?_ | refine blk_alloc ?_ _)); refine blk_far ?_ NB198_199.out _; (with_reducible repeat (first | refine blk_drewN ?_ _ | refine blk_drew ?_ | refine blk_alloc ?_ _)); exact BK198.out⟩, ⟨by (with_reducible repeat (first | refine blk_drewN ?_ _ | refine blk_drew ?_ | refine blk_alloc ?_ _)); refine blk_put (cs := #[.int .u64 x200000_1, .int .u64 9223372036854775808]) ?_ 1 _ rfl; (with_reducible repeat (first | refine blk_drewN ?_ _ | refine blk_drew ?_ | refine blk_alloc ?_ _)); exact BK199.out⟩, ⟨by repeat (first | (with_reducible first | exact HB.out | apply below_alloc | apply pw_below_drewN | apply below_drew1 | refine below_set ?_ GE198.out | refine below_set ?_ GE199.out) | exact HB.out)⟩⟩
        case round =>
          clear H'
          try clear c1
          try clear c2
          try clear p2
          try clear q2
          try clear hx2
          try clear c3
          try clear c4
          try clear c6
          try clear c6b0
          try clear p6
          try clear c7
          try clear c7b0
          try clear c8
          try clear c8b0
          try clear c10
          try clear c13
          try clear c14
          try clear c18
          try clear c19
          try clear c20
          try clear p20
          try clear q20
          try clear hx20
          try clear c22
          try clear c25
          try clear c26
          try clear c30
          try clear c31
          try clear c32
          try clear c33
          try clear c34
          try clear c36
          try clear hcz15_0
          try clear hcz15_1
          try clear hcz21_0
          try clear hcz21_1
          try clear hcz23_0
          try clear hcz23_1
          try clear hcz27_0
          try clear hcz27_1
          try clear hcz33_0
          try clear hcz33_1
          try clear hcz35_0
          try clear hcz35_1
          try clear hcz37_0
          try clear hcz37_1
          try clear hcz5_0
          try clear hcz5_1
          try clear hfz15_0
          try clear hfz15_1
          try clear hfz21_0
          try clear hfz21_1
          try clear hfz23_0
          try clear hfz23_1
          try clear hfz27_0
          try clear hfz27_1
          try clear hfz33_0
          try clear hfz33_1
          try clear hfz35_0
          try clear hfz35_1
          try clear hfz37_0
          try clear hfz37_1
          try clear hfz5_0
          try clear hfz5_1
          try clear hx200_0
          try clear hx200_1
          try clear p2
          try clear p200
          try clear q200
          obtain ⟨x41_2, x199000_2, x199001_2, x200001_2, rfl, HA, HK2, BK198, BK199, HB⟩ := hrel
          cases gk with
          | zero => exact absurd HA.out (by simp [spec_Joined.l1])
          | succ k2 =>
            have H := HA.out
            clear HA
            simp only [spec_Joined.l1] at H
            by_cases c38 : x41_2 < (l0.length : Int)
            · rw [if_pos c38] at H
              have c38b0 : decide (x41_2 < (l0.length : Int)) = true := decide_eq_true c38
              clear c38
              have H' := Aside0.mk H
              clear H
              have hnb39 := NB199_198.out
              have hnc39 := NB198_199.out
              have hcz40_0 : wr.cell? ⟨gb199, 0, none⟩ = some (.int .u64 x200000_1) := (blk_cell BK199.out 0).trans rfl
              have hcz40_1 : wr.cell? ⟨gb199, 1, none⟩ = some (.int .u64 x200001_2) := (blk_cell BK199.out 1).trans rfl
              have hfz40_0 := blk_frozen BK199.out 0
              have hfz40_1 := blk_frozen BK199.out 1
              go_wp2
              go_loopg [47] k2 (fun kq v47 w' => ∃ (x47_3 : Int) (x200001_3 : Int), v47 = .int .i64 x47_3 ∧ Aside0 (spec_Joined.l2 kq l0 x200001_2 (l0.length : Int) x41_2 l0 (l0.length : Int) x47_3 x200000_1 x200001_3 = some (r1, r2, r3)) ∧ Aside0 (kq ≤ k2) ∧ Aside0 (w'.heap[gb198]? = some (.cells #[.int .u64 x199000_2, .int .u64 x199001_2] 60 (0, 0))) ∧ Aside0 (w'.heap[gb199]? = some (.cells #[.int .u64 x200000_1, .int .u64 x200001_3] 60 (0, 0))) ∧ Aside0 (Below w.heap.size w w'))
              case atStart => exact ⟨(0), (x200001_2), (by first | rfl | (simp; done) | (simp [*]; done)), H', ⟨Nat.le_refl _⟩, ⟨by (with_reducible repeat (first | refine blk_drewN ?_ _ | refine blk_drew ?_ | refine blk_alloc ?_ _)); exact BK198.out⟩, ⟨by (with_reducible repeat (first | refine blk_drewN ?_ _ | refine blk_drew ?_ | refine blk_alloc ?_ _)); exact BK199.out⟩, ⟨by repeat (first | (with_reducible first | exact HB.out | apply below_alloc | apply pw_below_drewN | apply below_drew1 | refine below_set ?_ GE198.out | refine below_set ?_ GE199.out) | exact HB.out)⟩⟩
              case round =>
                clear H'
                try clear c1
                try clear c2
                try clear p2
                try clear q2
                try clear hx2
                try clear c3
                try clear c4
                try clear c6
                try clear c6b0
                try clear p6
                try clear c7
                try clear c7b0
                try clear c8
                try clear c8b0
                try clear c10
                try clear c13
                try clear c14
                try clear c18
                try clear c19
                try clear c20
                try clear p20
                try clear q20
                try clear hx20
                try clear c22
                try clear c25
                try clear c26
                try clear c30
                try clear c31
                try clear c32
                try clear c33
                try clear c34
                try clear c36
                try clear c38
                try clear c38b0
                try clear c39
                try clear hcz15_0
                try clear hcz15_1
                try clear hcz21_0
                try clear hcz21_1
                try clear hcz23_0
                try clear hcz23_1
                try clear hcz27_0
                try clear hcz27_1
                try clear hcz33_0
                try clear hcz33_1
                try clear hcz35_0
                try clear hcz35_1
                try clear hcz37_0
                try clear hcz37_1
                try clear hcz40_0
                try clear hcz40_1
                try clear hcz5_0
                try clear hcz5_1
                try clear hfz15_0
                try clear hfz15_1
                try clear hfz21_0
                try clear hfz21_1
                try clear hfz23_0
                try clear hfz23_1
                try clear hfz27_0
                try clear hfz27_1
                try clear hfz33_0
                try clear hfz33_1
                try clear hfz35_0
                try clear hfz35_1
                try clear hfz37_0
                try clear hfz37_1
                try clear hfz40_0
                try clear hfz40_1
                try clear hfz5_0
                try clear hfz5_1
                try clear hx200_0
                try clear hx200_1
                try clear p2
                try clear p20
                try clear p200
                try clear p6
                try clear q2
                try clear q20
                try clear q200
                obtain ⟨x47_3, x200001_3, rfl, HA, HK3, BK198, BK199, HB⟩ := hrel
                cases gk with
                | zero => exact absurd HA.out (by simp [spec_Joined.l2])
                | succ k3 =>
                  have H := HA.out
                  clear HA
                  simp only [spec_Joined.l2] at H
                  by_cases c41 : x47_3 < (l0.length : Int)
                  · rw [if_pos c41] at H
                    have c41b0 : decide (x47_3 < (l0.length : Int)) = true := decide_eq_true c41
                    clear c41
                    by_cases c42 : 0 ≤ x47_3
                    · rw [if_pos c42] at H
                      have c42b0 : decide (0 ≤ x47_3) = true := decide_eq_true c42
                      clear c42
                      by_cases c43 : x47_3 < (l0.length : Int)
                      · rw [if_pos c43] at H
                        have c43b0 : decide (x47_3 < (l0.length : Int)) = true := decide_eq_true c43
                        clear c43
                        replace H := Option.bind_eq_some_iff.mp H
                        obtain ⟨⟨t208, t209, t210⟩, A440, H⟩ := H
                        replace H : (if t208 = x200001_2 then (spec_Joined.l2 k3 l0 x200001_2 (l0.length : Int) x41_2 l0 (l0.length : Int) (wrap64 (x47_3 + 1)) x200000_1 t209) else (spec_Joined.l2 k3 l0 x200001_2 (l0.length : Int) x41_2 l0 (l0.length : Int) (wrap64 (x47_3 + 1)) x200000_1 x200001_3)) = some (r1, r2, r3) := H
                        have A44 := Aside0.mk A440
                        clear A440
                        by_cases c45 : t208 = x200001_2
                        · rw [if_pos c45] at H
                          have c45b0 : (t208 == x200001_2) = true := beq_iff_eq.mpr c45
                          have c45b1 : (t208 != x200001_2) = false := bne_eq_false_iff_eq.mpr c45
                          clear c45
                          have H' := Aside0.mk H
                          clear H
                          have p206 : 0 ≤ (x47_3 : Int) := of_decide_eq_true (by first | (with_reducible assumption) | assumption)
                          have q206 : x47_3 < (l0.length : Int) := of_decide_eq_true (by first | (with_reducible assumption) | assumption)
                          obtain ⟨ad206, e206, hx206_0, hx206_1⟩ := at_T34 HR0.out x47_3 p206 q206
                          cases e206
                          replace hx206_0 := (HB.out.cell (World.block_lt_of_cell? w _ hx206_0)).trans hx206_0
                          replace hx206_1 := (HB.out.cell (World.block_lt_of_cell? w _ hx206_1)).trans hx206_1
                          replace p206 := eq_true p206
                          replace q206 := eq_true q206
                          go_wp2_with (first | ((with_reducible refine gate_dst (N := 11) rfl ?_); refine box_event ?hg (N := 11) ?hd (cs := #[.int .u64 0, .int .u64 0]) (t := 34) ?hr ?_; (case hd => rfl); (case hg => rfl); (case hr => first | (go_simp; done) | (go_simp; rfl)); intro gb207 hg w46 hbox hb; have n0_ := Aside0.mk (blk_below (g := gb198) (o := .cells #[.int .u64 x199000_2, .int .u64 x199001_2] 60 (0, 0)) (by (with_reducible repeat (first | refine blk_drewN ?_ _ | refine blk_drew ?_ | refine blk_alloc ?_ _)); exact BK198.out) hb); have n1_ := Aside0.mk (blk_below (g := gb199) (o := .cells #[.int .u64 x200000_1, .int .u64 x200001_3] 60 (0, 0)) (by (with_reducible repeat (first | refine blk_drewN ?_ _ | refine blk_drew ?_ | refine blk_alloc ?_ _)); exact BK199.out) hb); have n2_ := Aside0.mk (below_step (by repeat (first | (with_reducible first | exact HB.out | apply below_alloc | apply pw_below_drewN | apply below_drew1 | refine below_set ?_ GE198.out | refine below_set ?_ GE199.out) | exact HB.out)) hb); have n3_ := Aside0.mk (hbox); have n4_ := Aside0.mk ((by rw [hg]; exact (below_size (by repeat (first | (with_reducible first | exact HB.out | apply below_alloc | apply pw_below_drewN | apply below_drew1 | refine below_set ?_ GE198.out | refine below_set ?_ GE199.out) | exact HB.out))) : w.heap.size ≤ gb207)); have n5_ := Aside0.mk ((by rw [hg]; exact (below_size (by repeat (first | (with_reducible first | exact HB.out | apply below_alloc | apply pw_below_drewN | apply below_drew1 | refine below_set ?_ GE198.out | refine below_set ?_ GE199.out) | exact HB.out))) : w.heap.size ≤ gb207)); have n6_ := Aside0.mk ((by rw [hg]; exact Nat.ne_of_lt (blk_lt (g := gb198) (o := .cells #[.int .u64 x199000_2, .int .u64 x199001_2] 60 (0, 0)) (by (with_reducible repeat (first | refine blk_drewN ?_ _ | refine blk_drew ?_ | refine blk_alloc ?_ _)); exact BK198.out)) : gb198 ≠ gb207)); have n7_ := Aside0.mk ((by rw [hg]; exact Nat.ne_of_gt (blk_lt (g := gb198) (o := .cells #[.int .u64 x199000_2, .int .u64 x199001_2] 60 (0, 0)) (by (with_reducible repeat (first | refine blk_drewN ?_ _ | refine blk_drew ?_ | refine blk_alloc ?_ _)); exact BK198.out)) : gb207 ≠ gb198)); have n8_ := Aside0.mk ((by rw [hg]; exact Nat.ne_of_lt (blk_lt (g := gb199) (o := .cells #[.int .u64 x200000_1, .int .u64 x200001_3] 60 (0, 0)) (by (with_reducible repeat (first | refine blk_drewN ?_ _ | refine blk_drew ?_ | refine blk_alloc ?_ _)); exact BK199.out)) : gb199 ≠ gb207)); have n9_ := Aside0.mk ((by rw [hg]; exact Nat.ne_of_gt (blk_lt (g := gb199) (o := .cells #[.int .u64 x200000_1, .int .u64 x200001_3] 60 (0, 0)) (by (with_reducible repeat (first | refine blk_drewN ?_ _ | refine blk_drew ?_ | refine blk_alloc ?_ _)); exact BK199.out)) : gb207 ≠ gb199)); clear BK198; clear BK199; clear HB; have BK198 := n0_; have BK199 := n1_; have HB := n2_; have BK207 := n3_; have GW207 := n4_; have GE207 := n5_; have NB198_207 := n6_; have NB207_198 := n7_; have NB199_207 := n8_; have NB207_199 := n9_; clear n0_ n1_ n2_ n3_ n4_ n5_ n6_ n7_ n8_ n9_; clear hb hbox hg; have hnb47 := NB207_198.out; have hnc47 := NB198_207.out; have hnb48 := NB207_199.out; have hnc48 := NB199_207.out; have hcz49_0 : w46.cell? ⟨gb207, 0, none⟩ = some (.int .u64 0) := (blk_cell BK207.out 0).trans rfl; have hcz49_1 : w46.cell? ⟨gb207, 1, none⟩ = some (.int .u64 0) := (blk_cell BK207.out 1).trans rfl; have hfz49_0 := blk_frozen BK207.out 0; have hfz49_1 := blk_frozen BK207.out 1) | ((with_reducible refine gate_callee (f := 32) rfl ?_); refine goesL_ (some 53) rfl rfl Tryf.func32 (by kernel_rfl) rfl #[.agg #[.int .u64 ((rd_T34 l0 x47_3).f0), .int .u64 ((rd_T34 l0 x47_3).f1)]] rfl (by (try simp only [List.map_toArray, List.map_cons, List.map_nil]); first | done | rfl | (simp only [List.length_drop, List.length_take]; rfl)) ?_; (with_reducible refine (spec_SpanOf.calls ((rd_T34 l0 x47_3).f0) ((rd_T34 l0 x47_3).f1) t208 t209 t210 _ A44.out).mono ?_); rintro e w50 ⟨rfl, hb⟩; refine ⟨_, rfl, ?_⟩; have n0_ := Aside0.mk (blk_below (g := gb198) (o := .cells #[.int .u64 x199000_2, .int .u64 x199001_2] 60 (0, 0)) (by (with_reducible repeat (first | refine blk_drewN ?_ _ | refine blk_drew ?_ | refine blk_alloc ?_ _)); refine blk_far ?_ NB198_207.out _; (with_reducible repeat (first | refine blk_drewN ?_ _ | refine blk_drew ?_ | refine blk_alloc ?_ _)); refine blk_far ?_ NB198_207.out _; (with_reducible repeat (first | refine blk_drewN ?_ _ | refine blk_drew ?_ | refine blk_alloc ?_ _)); exact BK198.out) hb); have n1_ := Aside0.mk (blk_below (g := gb199) (o := .cells #[.int .u64 x200000_1, .int .u64 x200001_3] 60 (0, 0)) (by (with_reducible repeat (first | refine blk_drewN ?_ _ | refine blk_drew ?_ | refine blk_alloc ?_ _)); refine blk_far ?_ NB199_207.out _; (with_reducible repeat (first | refine blk_drewN ?_ _ | refine blk_drew ?_ | refine blk_alloc ?_ _)); refine blk_far ?_ NB199_207.out _; (with_reducible repeat (first | refine blk_drewN ?_ _ | refine blk_drew ?_ | refine blk_alloc ?_ _)); exact BK199.out) hb); have n2_ := Aside0.mk (blk_below (g := gb207) (o := .cells #[.int .u64 ((rd_T34 l0 x47_3).f0), .int .u64 ((rd_T34 l0 x47_3).f1)] 34 (0, 0)) (by (with_reducible repeat (first | refine blk_drewN ?_ _ | refine blk_drew ?_ | refine blk_alloc ?_ _)); refine blk_put (cs := #[.int .u64 ((rd_T34 l0 x47_3).f0), .int .u64 0]) ?_ 1 _ rfl; (with_reducible repeat (first | refine blk_drewN ?_ _ | refine blk_drew ?_ | refine blk_alloc ?_ _)); refine blk_put (cs := #[.int .u64 0, .int .u64 0]) ?_ 0 _ rfl; (with_reducible repeat (first | refine blk_drewN ?_ _ | refine blk_drew ?_ | refine blk_alloc ?_ _)); exact BK207.out) hb); have n3_ := Aside0.mk (below_step (by repeat (first | (with_reducible first | exact HB.out | apply below_alloc | apply pw_below_drewN | apply below_drew1 | refine below_set ?_ GE198.out | refine below_set ?_ GE199.out | refine below_set ?_ GE207.out) | exact HB.out)) hb); clear BK198; clear BK199; clear BK207; clear HB; have BK198 := n0_; have BK199 := n1_; have BK207 := n2_; have HB := n3_; clear n0_ n1_ n2_ n3_; (try clear hb); (try clear hb2); (try clear hk); (try clear hi)) | ((with_reducible refine gate_dst (N := 12) rfl ?_); refine box_event ?hg (N := 12) ?hd (cs := #[.int .u64 0, .int .u64 0]) (t := 60) ?hr ?_; (case hd => rfl); (case hg => rfl); (case hr => first | (go_simp; done) | (go_simp; rfl)); intro gb211 hg w51 hbox hb; have n0_ := Aside0.mk (blk_below (g := gb198) (o := .cells #[.int .u64 x199000_2, .int .u64 x199001_2] 60 (0, 0)) (by (with_reducible repeat (first | refine blk_drewN ?_ _ | refine blk_drew ?_ | refine blk_alloc ?_ _)); exact BK198.out) hb); have n1_ := Aside0.mk (blk_below (g := gb199) (o := .cells #[.int .u64 x200000_1, .int .u64 x200001_3] 60 (0, 0)) (by (with_reducible repeat (first | refine blk_drewN ?_ _ | refine blk_drew ?_ | refine blk_alloc ?_ _)); exact BK199.out) hb); have n2_ := Aside0.mk (blk_below (g := gb207) (o := .cells #[.int .u64 ((rd_T34 l0 x47_3).f0), .int .u64 ((rd_T34 l0 x47_3).f1)] 34 (0, 0)) (by (with_reducible repeat (first | refine blk_drewN ?_ _ | refine blk_drew ?_ | refine blk_alloc ?_ _)); exact BK207.out) hb); have n3_ := Aside0.mk (below_step (by repeat (first | (with_reducible first | exact HB.out | apply below_alloc | apply pw_below_drewN | apply below_drew1 | refine below_set ?_ GE198.out | refine below_set ?_ GE199.out | refine below_set ?_ GE207.out) | exact HB.out)) hb); have n4_ := Aside0.mk (hbox); have n5_ := Aside0.mk ((by rw [hg]; exact (below_size (by repeat (first | (with_reducible first | exact HB.out | apply below_alloc | apply pw_below_drewN | apply below_drew1 | refine below_set ?_ GE198.out | refine below_set ?_ GE199.out | refine below_set ?_ GE207.out) | exact HB.out))) : w.heap.size ≤ gb211)); have n6_ := Aside0.mk ((by rw [hg]; exact (below_size (by repeat (first | (with_reducible first | exact HB.out | apply below_alloc | apply pw_below_drewN | apply below_drew1 | refine below_set ?_ GE198.out | refine below_set ?_ GE199.out | refine below_set ?_ GE207.out) | exact HB.out))) : w.heap.size ≤ gb211)); have n7_ := Aside0.mk ((by rw [hg]; exact Nat.ne_of_lt (blk_lt (g := gb198) (o := .cells #[.int .u64 x199000_2, .int .u64 x199001_2] 60 (0, 0)) (by (with_reducible repeat (first | refine blk_drewN ?_ _ | refine blk_drew ?_ | refine blk_alloc ?_ _)); exact BK198.out)) : gb198 ≠ gb211)); have n8_ := Aside0.mk ((by rw [hg]; exact Nat.ne_of_gt (blk_lt (g := gb198) (o := .cells #[.int .u64 x199000_2, .int .u64 x199001_2] 60 (0, 0)) (by (with_reducible repeat (first | refine blk_drewN ?_ _ | refine blk_drew ?_ | refine blk_alloc ?_ _)); exact BK198.out)) : gb211 ≠ gb198)); have n9_ := Aside0.mk ((by rw [hg]; exact Nat.ne_of_lt (blk_lt (g := gb199) (o := .cells #[.int .u64 x200000_1, .int .u64 x200001_3] 60 (0, 0)) (by (with_reducible repeat (first | refine blk_drewN ?_ _ | refine blk_drew ?_ | refine blk_alloc ?_ _)); exact BK199.out)) : gb199 ≠ gb211)); have n10_ := Aside0.mk ((by rw [hg]; exact Nat.ne_of_gt (blk_lt (g := gb199) (o := .cells #[.int .u64 x200000_1, .int .u64 x200001_3] 60 (0, 0)) (by (with_reducible repeat (first | refine blk_drewN ?_ _ | refine blk_drew ?_ | refine blk_alloc ?_ _)); exact BK199.out)) : gb211 ≠ gb199)); have n11_ := Aside0.mk ((by rw [hg]; exact Nat.ne_of_lt (blk_lt (g := gb207) (o := .cells #[.int .u64 ((rd_T34 l0 x47_3).f0), .int .u64 ((rd_T34 l0 x47_3).f1)] 34 (0, 0)) (by (with_reducible repeat (first | refine blk_drewN ?_ _ | refine blk_drew ?_ | refine blk_alloc ?_ _)); exact BK207.out)) : gb207 ≠ gb211)); have n12_ := Aside0.mk ((by rw [hg]; exact Nat.ne_of_gt (blk_lt (g := gb207) (o := .cells #[.int .u64 ((rd_T34 l0 x47_3).f0), .int .u64 ((rd_T34 l0 x47_3).f1)] 34 (0, 0)) (by (with_reducible repeat (first | refine blk_drewN ?_ _ | refine blk_drew ?_ | refine blk_alloc ?_ _)); exact BK207.out)) : gb211 ≠ gb207)); clear BK198; clear BK199; clear BK207; clear HB; have BK198 := n0_; have BK199 := n1_; have BK207 := n2_; have HB := n3_; have BK211 := n4_; have GW211 := n5_; have GE211 := n6_; have NB198_211 := n7_; have NB211_198 := n8_; have NB199_211 := n9_; have NB211_199 := n10_; have NB207_211 := n11_; have NB211_207 := n12_; clear n0_ n1_ n2_ n3_ n4_ n5_ n6_ n7_ n8_ n9_ n10_ n11_ n12_; clear hb hbox hg; have hnb52 := NB211_198.out; have hnc52 := NB198_211.out; have hnb53 := NB211_199.out; have hnc53 := NB199_211.out; have hnb54 := NB211_207.out; have hnc54 := NB207_211.out; have hcz55_0 : w51.cell? ⟨gb211, 0, none⟩ = some (.int .u64 0) := (blk_cell BK211.out 0).trans rfl; have hcz55_1 : w51.cell? ⟨gb211, 1, none⟩ = some (.int .u64 0) := (blk_cell BK211.out 1).trans rfl; have hfz55_0 := blk_frozen BK211.out 0; have hfz55_1 := blk_frozen BK211.out 1; have hnb56 := NB199_198.out; have hnc56 := NB198_199.out; have hcz57_0 : w51.cell? ⟨gb199, 0, none⟩ = some (.int .u64 x200000_1) := (blk_cell BK199.out 0).trans rfl; have hcz57_1 : w51.cell? ⟨gb199, 1, none⟩ = some (.int .u64 x200001_3) := (blk_cell BK199.out 1).trans rfl; have hfz57_0 := blk_frozen BK199.out 0; have hfz57_1 := blk_frozen BK199.out 1))
                          go_roundg k3
                          case measure => have := HK1.out; have := HK2.out; have := HK3.out; omega
                          case rel => exact ⟨(wrap64 (x47_3 + 1)), (t209), (by first | rfl | (simp; done) | (simp [*]; done)), H', ⟨by have := HK1.out; have := HK2.out; have := HK3.out; omega⟩, ⟨by (with_reducible repeat (first | refine blk_drewN ?_ _ | refine blk_drew ?_ | refine blk_alloc ?_ _)); refine blk_far ?_ NB198_199.out _; (with_reducible repeat (first | refine blk_drewN ?_ _ | refine blk_drew ?_ | refine blk_alloc ?_ _)); refine blk_far ?_ NB198_211.out _; (with_reducible repeat (first | refine blk_drewN ?_ _ | refine blk_drew ?_ | refine blk_alloc ?_ _)); refine blk_far ?_ NB198_211.out _; (with_reducible repeat (first | refine blk_drewN ?_ _ | refine blk_drew ?_ | refine blk_alloc ?_ _)); exact BK198.out⟩, ⟨by (with_reducible repeat (first | refine blk_drewN ?_ _ | refine blk_drew ?_ | refine blk_alloc ?_ _)); refine blk_put (cs := #[.int .u64 x200000_1, .int .u64 x200001_3]) ?_ 1 _ rfl; (with_reducible repeat (first | refine blk_drewN ?_ _ | refine blk_drew ?_ | refine blk_alloc ?_ _)); refine blk_far ?_ NB199_211.out _; (with_reducible repeat (first | refine blk_drewN ?_ _ | refine blk_drew ?_ | refine blk_alloc ?_ _)); refine blk_far ?_ NB199_211.out _; (with_reducible repeat (first | refine blk_drewN ?_ _ | refine blk_drew ?_ | refine blk_alloc ?_ _)); exact BK199.out⟩, ⟨by repeat (first | (with_reducible first | exact HB.out | apply below_alloc | apply pw_below_drewN | apply below_drew1 | refine below_set ?_ GE198.out | refine below_set ?_ GE199.out | refine below_set ?_ GE207.out | refine below_set ?_ GE211.out) | exact HB.out)⟩⟩
                        · rw [if_neg c45] at H
                          have c45b0 : (t208 == x200001_2) = false := beq_eq_false_iff_ne.mpr c45
                          have c45b1 : (t208 != x200001_2) = true := bne_iff_ne.mpr c45
                          have H' := Aside0.mk H
                          clear H
                          have p206 : 0 ≤ (x47_3 : Int) := of_decide_eq_true (by first | (with_reducible assumption) | assumption)
                          have q206 : x47_3 < (l0.length : Int) := of_decide_eq_true (by first | (with_reducible assumption) | assumption)
                          obtain ⟨ad206, e206, hx206_0, hx206_1⟩ := at_T34 HR0.out x47_3 p206 q206
                          cases e206
                          replace hx206_0 := (HB.out.cell (World.block_lt_of_cell? w _ hx206_0)).trans hx206_0
                          replace hx206_1 := (HB.out.cell (World.block_lt_of_cell? w _ hx206_1)).trans hx206_1
                          replace p206 := eq_true p206
                          replace q206 := eq_true q206
                          go_wp2_with (first | ((with_reducible refine gate_dst (N := 11) rfl ?_); refine box_event ?hg (N := 11) ?hd (cs := #[.int .u64 0, .int .u64 0]) (t := 34) ?hr ?_; (case hd => rfl); (case hg => rfl); (case hr => first | (go_simp; done) | (go_simp; rfl)); intro gb207 hg w58 hbox hb; have n0_ := Aside0.mk (blk_below (g := gb198) (o := .cells #[.int .u64 x199000_2, .int .u64 x199001_2] 60 (0, 0)) (by (with_reducible repeat (first | refine blk_drewN ?_ _ | refine blk_drew ?_ | refine blk_alloc ?_ _)); exact BK198.out) hb); have n1_ := Aside0.mk (blk_below (g := gb199) (o := .cells #[.int .u64 x200000_1, .int .u64 x200001_3] 60 (0, 0)) (by (with_reducible repeat (first | refine blk_drewN ?_ _ | refine blk_drew ?_ | refine blk_alloc ?_ _)); exact BK199.out) hb); have n2_ := Aside0.mk (below_step (by repeat (first | (with_reducible first | exact HB.out | apply below_alloc | apply pw_below_drewN | apply below_drew1 | refine below_set ?_ GE198.out | refine below_set ?_ GE199.out) | exact HB.out)) hb); have n3_ := Aside0.mk (hbox); have n4_ := Aside0.mk ((by rw [hg]; exact (below_size (by repeat (first | (with_reducible first | exact HB.out | apply below_alloc | apply pw_below_drewN | apply below_drew1 | refine below_set ?_ GE198.out | refine below_set ?_ GE199.out) | exact HB.out))) : w.heap.size ≤ gb207)); have n5_ := Aside0.mk ((by rw [hg]; exact (below_size (by repeat (first | (with_reducible first | exact HB.out | apply below_alloc | apply pw_below_drewN | apply below_drew1 | refine below_set ?_ GE198.out | refine below_set ?_ GE199.out) | exact HB.out))) : w.heap.size ≤ gb207)); have n6_ := Aside0.mk ((by rw [hg]; exact Nat.ne_of_lt (blk_lt (g := gb198) (o := .cells #[.int .u64 x199000_2, .int .u64 x199001_2] 60 (0, 0)) (by (with_reducible repeat (first | refine blk_drewN ?_ _ | refine blk_drew ?_ | refine blk_alloc ?_ _)); exact BK198.out)) : gb198 ≠ gb207)); have n7_ := Aside0.mk ((by rw [hg]; exact Nat.ne_of_gt (blk_lt (g := gb198) (o := .cells #[.int .u64 x199000_2, .int .u64 x199001_2] 60 (0, 0)) (by (with_reducible repeat (first | refine blk_drewN ?_ _ | refine blk_drew ?_ | refine blk_alloc ?_ _)); exact BK198.out)) : gb207 ≠ gb198)); have n8_ := Aside0.mk ((by rw [hg]; exact Nat.ne_of_lt (blk_lt (g := gb199) (o := .cells #[.int .u64 x200000_1, .int .u64 x200001_3] 60 (0, 0)) (by (with_reducible repeat (first | refine blk_drewN ?_ _ | refine blk_drew ?_ | refine blk_alloc ?_ _)); exact BK199.out)) : gb199 ≠ gb207)); have n9_ := Aside0.mk ((by rw [hg]; exact Nat.ne_of_gt (blk_lt (g := gb199) (o := .cells #[.int .u64 x200000_1, .int .u64 x200001_3] 60 (0, 0)) (by (with_reducible repeat (first | refine blk_drewN ?_ _ | refine blk_drew ?_ | refine blk_alloc ?_ _)); exact BK199.out)) : gb207 ≠ gb199)); clear BK198; clear BK199; clear HB; have BK198 := n0_; have BK199 := n1_; have HB := n2_; have BK207 := n3_; have GW207 := n4_; have GE207 := n5_; have NB198_207 := n6_; have NB207_198 := n7_; have NB199_207 := n8_; have NB207_199 := n9_; clear n0_ n1_ n2_ n3_ n4_ n5_ n6_ n7_ n8_ n9_; clear hb hbox hg; have hnb59 := NB207_198.out; have hnc59 := NB198_207.out; have hnb60 := NB207_199.out; have hnc60 := NB199_207.out; have hcz61_0 : w58.cell? ⟨gb207, 0, none⟩ = some (.int .u64 0) := (blk_cell BK207.out 0).trans rfl; have hcz61_1 : w58.cell? ⟨gb207, 1, none⟩ = some (.int .u64 0) := (blk_cell BK207.out 1).trans rfl; have hfz61_0 := blk_frozen BK207.out 0; have hfz61_1 := blk_frozen BK207.out 1) | ((with_reducible refine gate_callee (f := 32) rfl ?_); refine goesL_ (some 53) rfl rfl Tryf.func32 (by kernel_rfl) rfl #[.agg #[.int .u64 ((rd_T34 l0 x47_3).f0), .int .u64 ((rd_T34 l0 x47_3).f1)]] rfl (by (try simp only [List.map_toArray, List.map_cons, List.map_nil]); first | done | rfl | (simp only [List.length_drop, List.length_take]; rfl)) ?_; (with_reducible refine (spec_SpanOf.calls ((rd_T34 l0 x47_3).f0) ((rd_T34 l0 x47_3).f1) t208 t209 t210 _ A44.out).mono ?_); rintro e w62 ⟨rfl, hb⟩; refine ⟨_, rfl, ?_⟩; have n0_ := Aside0.mk (blk_below (g := gb198) (o := .cells #[.int .u64 x199000_2, .int .u64 x199001_2] 60 (0, 0)) (by (with_reducible repeat (first | refine blk_drewN ?_ _ | refine blk_drew ?_ | refine blk_alloc ?_ _)); refine blk_far ?_ NB198_207.out _; (with_reducible repeat (first | refine blk_drewN ?_ _ | refine blk_drew ?_ | refine blk_alloc ?_ _)); refine blk_far ?_ NB198_207.out _; (with_reducible repeat (first | refine blk_drewN ?_ _ | refine blk_drew ?_ | refine blk_alloc ?_ _)); exact BK198.out) hb); have n1_ := Aside0.mk (blk_below (g := gb199) (o := .cells #[.int .u64 x200000_1, .int .u64 x200001_3] 60 (0, 0)) (by (with_reducible repeat (first | refine blk_drewN ?_ _ | refine blk_drew ?_ | refine blk_alloc ?_ _)); refine blk_far ?_ NB199_207.out _; (with_reducible repeat (first | refine blk_drewN ?_ _ | refine blk_drew ?_ | refine blk_alloc ?_ _)); refine blk_far ?_ NB199_207.out _; (with_reducible repeat (first | refine blk_drewN ?_ _ | refine blk_drew ?_ | refine blk_alloc ?_ _)); exact BK199.out) hb); have n2_ := Aside0.mk (blk_below (g := gb207) (o := .cells #[.int .u64 ((rd_T34 l0 x47_3).f0), .int .u64 ((rd_T34 l0 x47_3).f1)] 34 (0, 0)) (by (with_reducible repeat (first | refine blk_drewN ?_ _ | refine blk_drew ?_ | refine blk_alloc ?_ _)); refine blk_put (cs := #[.int .u64 ((rd_T34 l0 x47_3).f0), .int .u64 0]) ?_ 1 _ rfl; (with_reducible repeat (first | refine blk_drewN ?_ _ | refine blk_drew ?_ | refine blk_alloc ?_ _)); refine blk_put (cs := #[.int .u64 0, .int .u64 0]) ?_ 0 _ rfl; (with_reducible repeat (first | refine blk_drewN ?_ _ | refine blk_drew ?_ | refine blk_alloc ?_ _)); exact BK207.out) hb); have n3_ := Aside0.mk (below_step (by repeat (first | (with_reducible first | exact HB.out | apply below_alloc | apply pw_below_drewN | apply below_drew1 | refine below_set ?_ GE198.out | refine below_set ?_ GE199.out | refine below_set ?_ GE207.out) | exact HB.out)) hb); clear BK198; clear BK199; clear BK207; clear HB; have BK198 := n0_; have BK199 := n1_; have BK207 := n2_; have HB := n3_; clear n0_ n1_ n2_ n3_; (try clear hb); (try clear hb2); (try clear hk); (try clear hi)) | ((with_reducible refine gate_dst (N := 12) rfl ?_); refine box_event ?hg (N := 12) ?hd (cs := #[.int .u64 0, .int .u64 0]) (t := 60) ?hr ?_; (case hd => rfl); (case hg => rfl); (case hr => first | (go_simp; done) | (go_simp; rfl)); intro gb211 hg w63 hbox hb; have n0_ := Aside0.mk (blk_below (g := gb198) (o := .cells #[.int .u64 x199000_2, .int .u64 x199001_2] 60 (0, 0)) (by (with_reducible repeat (first | refine blk_drewN ?_ _ | refine blk_drew ?_ | refine blk_alloc ?_ _)); exact BK198.out) hb); have n1_ := Aside0.mk (blk_below (g := gb199) (o := .cells #[.int .u64 x200000_1, .int .u64 x200001_3] 60 (0, 0)) (by (with_reducible repeat (first | refine blk_drewN ?_ _ | refine blk_drew ?_ | refine blk_alloc ?_ _)); exact BK199.out) hb); have n2_ := Aside0.mk (blk_below (g := gb207) (o := .cells #[.int .u64 ((rd_T34 l0 x47_3).f0), .int .u64 ((rd_T34 l0 x47_3).f1)] 34 (0, 0)) (by (with_reducible repeat (first | refine blk_drewN ?_ _ | refine blk_drew ?_ | refine blk_alloc ?_ _)); exact BK207.out) hb); have n3_ := Aside0.mk (below_step (by repeat (first | (with_reducible first | exact HB.out | apply below_alloc | apply pw_below_drewN | apply below_drew1 | refine below_set ?_ GE198.out | refine below_set ?_ GE199.out | refine below_set ?_ GE207.out) | exact HB.out)) hb); have n4_ := Aside0.mk (hbox); have n5_ := Aside0.mk ((by rw [hg]; exact (below_size (by repeat (first | (with_reducible first | exact HB.out | apply below_alloc | apply pw_below_drewN | apply below_drew1 | refine below_set ?_ GE198.out | refine below_set ?_ GE199.out | refine below_set ?_ GE207.out) | exact HB.out))) : w.heap.size ≤ gb211)); have n6_ := Aside0.mk ((by rw [hg]; exact (below_size (by repeat (first | (with_reducible first | exact HB.out | apply below_alloc | apply pw_below_drewN | apply below_drew1 | refine below_set ?_ GE198.out | refine below_set ?_ GE199.out | refine below_set ?_ GE207.out) | exact HB.out))) : w.heap.size ≤ gb211)); have n7_ := Aside0.mk ((by rw [hg]; exact Nat.ne_of_lt (blk_lt (g := gb198) (o := .cells #[.int .u64 x199000_2, .int .u64 x199001_2] 60 (0, 0)) (by (with_reducible repeat (first | refine blk_drewN ?_ _ | refine blk_drew ?_ | refine blk_alloc ?_ _)); exact BK198.out)) : gb198 ≠ gb211)); have n8_ := Aside0.mk ((by rw [hg]; exact Nat.ne_of_gt (blk_lt (g := gb198) (o := .cells #[.int .u64 x199000_2, .int .u64 x199001_2] 60 (0, 0)) (by (with_reducible repeat (first | refine blk_drewN ?_ _ | refine blk_drew ?_ | refine blk_alloc ?_ _)); exact BK198.out)) : gb211 ≠ gb198)); have n9_ := Aside0.mk ((by rw [hg]; exact Nat.ne_of_lt (blk_lt (g := gb199) (o := .cells #[.int .u64 x200000_1, .int .u64 x200001_3] 60 (0, 0)) (by (with_reducible repeat (first | refine blk_drewN ?_ _ | refine blk_drew ?_ | refine blk_alloc ?_ _)); exact BK199.out)) : gb199 ≠ gb211)); have n10_ := Aside0.mk ((by rw [hg]; exact Nat.ne_of_gt (blk_lt (g := gb199) (o := .cells #[.int .u64 x200000_1, .int .u64 x200001_3] 60 (0, 0)) (by (with_reducible repeat (first | refine blk_drewN ?_ _ | refine blk_drew ?_ | refine blk_alloc ?_ _)); exact BK199.out)) : gb211 ≠ gb199)); have n11_ := Aside0.mk ((by rw [hg]; exact Nat.ne_of_lt (blk_lt (g := gb207) (o := .cells #[.int .u64 ((rd_T34 l0 x47_3).f0), .int .u64 ((rd_T34 l0 x47_3).f1)] 34 (0, 0)) (by (with_reducible repeat (first | refine blk_drewN ?_ _ | refine blk_drew ?_ | refine blk_alloc ?_ _)); exact BK207.out)) : gb207 ≠ gb211)); have n12_ := Aside0.mk ((by rw [hg]; exact Nat.ne_of_gt (blk_lt (g := gb207) (o := .cells #[.int .u64 ((rd_T34 l0 x47_3).f0), .int .u64 ((rd_T34 l0 x47_3).f1)] 34 (0, 0)) (by (with_reducible repeat (first | refine blk_drewN ?_ _ | refine blk_drew ?_ | refine blk_alloc ?_ _)); exact BK207.out)) : gb211 ≠ gb207)); clear BK198; clear BK199; clear BK207; clear HB; have BK198 := n0_; have BK199 := n1_; have BK207 := n2_; have HB := n3_; have BK211 := n4_; have GW211 := n5_; have GE211 := n6_; have NB198_211 := n7_; have NB211_198 := n8_; have NB199_211 := n9_; have NB211_199 := n10_; have NB207_211 := n11_; have NB211_207 := n12_; clear n0_ n1_ n2_ n3_ n4_ n5_ n6_ n7_ n8_ n9_ n10_ n11_ n12_; clear hb hbox hg; have hnb64 := NB211_198.out; have hnc64 := NB198_211.out; have hnb65 := NB211_199.out; have hnc65 := NB199_211.out; have hnb66 := NB211_207.out; have hnc66 := NB207_211.out; have hcz67_0 : w63.cell? ⟨gb211, 0, none⟩ = some (.int .u64 0) := (blk_cell BK211.out 0).trans rfl; have hcz67_1 : w63.cell? ⟨gb211, 1, none⟩ = some (.int .u64 0) := (blk_cell BK211.out 1).trans rfl; have hfz67_0 := blk_frozen BK211.out 0; have hfz67_1 := blk_frozen BK211.out 1))
                          go_roundg k3
                          case measure => have := HK1.out; have := HK2.out; have := HK3.out; omega
                          case rel => exact ⟨(wrap64 (x47_3 + 1)), (x200001_3), (by first | rfl | (simp; done) | (simp [*]; done)), H', ⟨by have := HK1.out; have := HK2.out; have := HK3.out; omega⟩, ⟨by (with_reducible repeat (first | refine blk_drewN ?_ _ | refine blk_drew ?_ | refine blk_alloc ?_ _)); refine blk_far ?_ NB198_211.out _; (with_reducible repeat (first | refine blk_drewN ?_ _ | refine blk_drew ?_ | refine blk_alloc ?_ _)); refine blk_far ?_ NB198_211.out _; (with_reducible repeat (first | refine blk_drewN ?_ _ | refine blk_drew ?_ | refine blk_alloc ?_ _)); exact BK198.out⟩, ⟨by (with_reducible repeat (first | refine blk_drewN ?_ _ | refine blk_drew ?_ | refine blk_alloc ?_ _)); refine blk_far ?_ NB199_211.out _; (with_reducible repeat (first | refine blk_drewN ?_ _ | refine blk_drew ?_ | refine blk_alloc ?_ _)); refine blk_far ?_ NB199_211.out _; (with_reducible repeat (first | refine blk_drewN ?_ _ | refine blk_drew ?_ | refine blk_alloc ?_ _)); exact BK199.out⟩, ⟨by repeat (first | (with_reducible first | exact HB.out | apply below_alloc | apply pw_below_drewN | apply below_drew1 | refine below_set ?_ GE198.out | refine below_set ?_ GE199.out | refine below_set ?_ GE207.out | refine below_set ?_ GE211.out) | exact HB.out)⟩⟩
                      · rw [if_neg c43] at H
                        exact absurd H (by simp)
                    · rw [if_neg c42] at H
                      exact absurd H (by simp)
                  · rw [if_neg c41] at H
                    have c41b0 : decide (x47_3 < (l0.length : Int)) = false := decide_eq_false c41
                    clear c41
                    by_cases c68 : x200001_3 = x200001_2
                    · rw [if_pos c68] at H
                      have c68b0 : (x200001_3 == x200001_2) = true := beq_iff_eq.mpr c68
                      have c68b1 : (x200001_3 != x200001_2) = false := bne_eq_false_iff_eq.mpr c68
                      clear c68
                      simp only [Option.some.injEq, Prod.mk.injEq] at H
                      obtain ⟨rfl, rfl, rfl⟩ := H
                      have hnb69 := NB199_198.out
                      have hnc69 := NB198_199.out
                      have hcz70_0 : wr.cell? ⟨gb199, 0, none⟩ = some (.int .u64 x200000_1) := (blk_cell BK199.out 0).trans rfl
                      have hcz70_1 : wr.cell? ⟨gb199, 1, none⟩ = some (.int .u64 x200001_3) := (blk_cell BK199.out 1).trans rfl
                      have hfz70_0 := blk_frozen BK199.out 0
                      have hfz70_1 := blk_frozen BK199.out 1
                      have hcz71_0 : wr.cell? ⟨gb198, 0, none⟩ = some (.int .u64 x199000_2) := (blk_cell BK198.out 0).trans rfl
                      have hcz71_1 : wr.cell? ⟨gb198, 1, none⟩ = some (.int .u64 x199001_2) := (blk_cell BK198.out 1).trans rfl
                      have hfz71_0 := blk_frozen BK198.out 0
                      have hfz71_1 := blk_frozen BK198.out 1
                      go_wp2
                      refine bodyPost_ret (results_ct rfl _ _ gb198 60 #[.int .u64 0, .int .u64 0] (0, 0) _ rfl (by (with_reducible repeat (first | refine blk_drewN ?_ _ | refine blk_drew ?_ | refine blk_alloc ?_ _)); refine blk_put (cs := #[.int .u64 0, .int .u64 x199001_2]) ?_ 1 _ rfl; (with_reducible repeat (first | refine blk_drewN ?_ _ | refine blk_drew ?_ | refine blk_alloc ?_ _)); refine blk_put (cs := #[.int .u64 x199000_2, .int .u64 x199001_2]) ?_ 0 _ rfl; (with_reducible repeat (first | refine blk_drewN ?_ _ | refine blk_drew ?_ | refine blk_alloc ?_ _)); exact BK198.out) Tryf.underlying60 rfl (by kernel_rfl)) rfl ?_
                      exact ⟨by first | rfl | (simp [errW_none, errW_some] <;> rfl) | (simp [*, errW_none, errW_some] <;> rfl), by repeat (first | (with_reducible first | exact HB.out | apply below_alloc | apply pw_below_drewN | apply below_drew1 | refine below_set ?_ GE198.out | refine below_set ?_ GE199.out) | exact HB.out)⟩
                    · rw [if_neg c68] at H
                      have c68b0 : (x200001_3 == x200001_2) = false := beq_eq_false_iff_ne.mpr c68
                      have c68b1 : (x200001_3 != x200001_2) = true := bne_iff_ne.mpr c68
                      have H' := Aside0.mk H
                      clear H
                      have hnb72 := NB199_198.out
                      have hnc72 := NB198_199.out
                      have hcz73_0 : wr.cell? ⟨gb199, 0, none⟩ = some (.int .u64 x200000_1) := (blk_cell BK199.out 0).trans rfl
                      have hcz73_1 : wr.cell? ⟨gb199, 1, none⟩ = some (.int .u64 x200001_3) := (blk_cell BK199.out 1).trans rfl
                      have hfz73_0 := blk_frozen BK199.out 0
                      have hfz73_1 := blk_frozen BK199.out 1
                      go_wp2
                      go_roundg k3
                      case measure => have := HK1.out; have := HK2.out; have := HK3.out; omega
                      case rel => exact ⟨(wrap64 (x41_2 + 1)), (x199000_2), (x199001_2), (x200001_3), (by first | rfl | (simp; done) | (simp [*]; done)), H', ⟨by have := HK1.out; have := HK2.out; have := HK3.out; omega⟩, ⟨by (with_reducible repeat (first | refine blk_drewN ?_ _ | refine blk_drew ?_ | refine blk_alloc ?_ _)); exact BK198.out⟩, ⟨by (with_reducible repeat (first | refine blk_drewN ?_ _ | refine blk_drew ?_ | refine blk_alloc ?_ _)); exact BK199.out⟩, ⟨by repeat (first | (with_reducible first | exact HB.out | apply below_alloc | apply pw_below_drewN | apply below_drew1 | refine below_set ?_ GE198.out | refine below_set ?_ GE199.out) | exact HB.out)⟩⟩
            · rw [if_neg c38] at H
              have c38b0 : decide (x41_2 < (l0.length : Int)) = false := decide_eq_false c38
              clear c38
              simp only [Option.some.injEq, Prod.mk.injEq] at H
              obtain ⟨rfl, rfl, rfl⟩ := H
              have hnb74 := NB199_198.out
              have hnc74 := NB198_199.out
              have hcz75_0 : wr.cell? ⟨gb199, 0, none⟩ = some (.int .u64 x200000_1) := (blk_cell BK199.out 0).trans rfl
              have hcz75_1 : wr.cell? ⟨gb199, 1, none⟩ = some (.int .u64 x200001_2) := (blk_cell BK199.out 1).trans rfl
              have hfz75_0 := blk_frozen BK199.out 0
              have hfz75_1 := blk_frozen BK199.out 1
              have hcz76_0 : wr.cell? ⟨gb198, 0, none⟩ = some (.int .u64 x199000_2) := (blk_cell BK198.out 0).trans rfl
              have hcz76_1 : wr.cell? ⟨gb198, 1, none⟩ = some (.int .u64 x199001_2) := (blk_cell BK198.out 1).trans rfl
              have hfz76_0 := blk_frozen BK198.out 0
              have hfz76_1 := blk_frozen BK198.out 1
              go_wp2
              refine bodyPost_ret (results_ct rfl _ _ gb198 60 #[.int .u64 x200000_1, .int .u64 x200001_2] (0, 0) _ rfl (by (with_reducible repeat (first | refine blk_drewN ?_ _ | refine blk_drew ?_ | refine blk_alloc ?_ _)); refine blk_put (cs := #[.int .u64 x200000_1, .int .u64 x199001_2]) ?_ 1 _ rfl; (with_reducible repeat (first | refine blk_drewN ?_ _ | refine blk_drew ?_ | refine blk_alloc ?_ _)); refine blk_put (cs := #[.int .u64 x199000_2, .int .u64 x199001_2]) ?_ 0 _ rfl; (with_reducible repeat (first | refine blk_drewN ?_ _ | refine blk_drew ?_ | refine blk_alloc ?_ _)); exact BK198.out) Tryf.underlying60 rfl (by kernel_rfl)) rfl ?_
              exact ⟨by first | rfl | (simp [errW_none, errW_some] <;> rfl) | (simp [*, errW_none, errW_some] <;> rfl), by repeat (first | (with_reducible first | exact HB.out | apply below_alloc | apply pw_below_drewN | apply below_drew1 | refine below_set ?_ GE198.out | refine below_set ?_ GE199.out) | exact HB.out)⟩
end Go.Proofs.YtdjfagknffknjaaFmt.Q
