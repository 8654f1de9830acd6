/- Contracts of this program's functions, as a turned copy of the kit's printer wrote them; conditions: as each theorem states. -/
import Derived.Test.YtdjfagknffknjaaFmtXQ0
import Derived.Test.YtdjfagknffknjaaFmtXQ5
import Derived.Test.YtdjfagknffknjaaFmtXQ6

namespace Go.Proofs.YtdjfagknffknjaaFmt.Q
open Go.RowKit Go.Proofs.YtdjfagknffknjaaFmtW.PrintWords Go.Proofs.YtdjfagknffknjaaFmtW.PrintLast Go.Proofs.YtdjfagknffknjaaFmtW.PrintMore
attribute [local go_sem] max2_int min2_int max_two min_two max_three min_three max_four min_four   -- for this text's walks alone
set_option linter.unusedVariables false
set_option linter.unusedSimpArgs false
def laws_sameHashes.l0 : Nat → List (List Int) → List (List Int) → Int → Int → Option (Bool)
  | 0, _, _, _, _ => none
  | k + 1, x0, x1, x12, x13 => if x13 < x12 then (if 0 ≤ x13 then (if x13 < (x0.length : Int) then (if x13 < (x1.length : Int) then (if (strOfNums (rd_L1 x0 x13)).toList = (strOfNums (rd_L1 x1 x13)).toList then (laws_sameHashes.l0 k x0 x1 x12 (wrap64 (x13 + 1))) else (some false)) else (none)) else (none)) else (none)) else (some true)
def laws_sameHashes.f (k : Nat) (l0 : List (List Int)) (l1 : List (List Int)) : Option (Bool) := if (l0.length : Int) = (l1.length : Int) then (laws_sameHashes.l0 k l0 l1 (l0.length : Int) 0) else (some false)
theorem laws_sameHashes.mono_l : ∀ k, (∀ y0 y1 y2 y3, LeO (laws_sameHashes.l0 k y0 y1 y2 y3) (laws_sameHashes.l0 (k + 1) y0 y1 y2 y3))
  | 0 => fun _ _ _ _ r h => by simp [laws_sameHashes.l0] at h
  | k + 1 => by
    have ih0 := laws_sameHashes.mono_l k
    · intro y0 y1 y2 y3
      unfold laws_sameHashes.l0
      repeat' first
      | (with_reducible exact ih0 _ _ _ _)
      | (with_reducible exact LeO.refl _)
      | (with_reducible exact LeO.none _)
      | (with_reducible refine LeO.ite ?_ ?_)
      | (with_reducible refine LeO.bind ?_ (fun _ => ?_))
      | exact ih0 _ _ _ _
      | exact LeO.none _
      | refine LeO.ite ?_ ?_
      | refine LeO.bind ?_ (fun _ => ?_)
theorem laws_sameHashes.mono : ∀ a0 a1 k, LeO (laws_sameHashes.f k a0 a1) (laws_sameHashes.f (k + 1) a0 a1) := by
  intro a0 a1 k
  have ih0 := laws_sameHashes.mono_l k
  unfold laws_sameHashes.f
  repeat' first
      | (with_reducible exact ih0 _ _ _ _)
      | (with_reducible exact LeO.refl _)
      | (with_reducible exact LeO.none _)
      | (with_reducible refine LeO.ite ?_ ?_)
      | (with_reducible refine LeO.bind ?_ (fun _ => ?_))
      | exact ih0 _ _ _ _
      | exact LeO.none _
      | refine LeO.ite ?_ ?_
      | refine LeO.bind ?_ (fun _ => ?_)
set_option maxHeartbeats 8000000 in
set_option maxRecDepth 100000 in
theorem laws_sameHashes.calls (k : Nat) (A0 : Option Addr) (c0 : Nat) (l0 : List (List Int)) (A1 : Option Addr) (c1 : Nat) (l1 : List (List Int)) (r : Bool) (w : World) (hr0 : Kd.C (Kd.slice 5 (Kd.int .u8)) w A0 l0.length l0) (hc0 : l0.length ≤ c0) (hr1 : Kd.C (Kd.slice 5 (Kd.int .u8)) w A1 l1.length l1) (hc1 : l1.length ≤ c1) (h : laws_sameHashes.f k l0 l1 = some r) :
    Calls Tryf.prog 14 #[.slice A0 l0.length c0, .slice A1 l1.length c1] w fun e w' => e = .returned (.bool r) ∧ Drawn0 w w' := by
  have HR0 := Aside0.mk hr0
  have HC0 := Aside0.mk hc0
  clear hr0 hc0
  have HR1 := Aside0.mk hr1
  have HC1 := Aside0.mk hc1
  clear hr1 hc1
  have H : (if (l0.length : Int) = (l1.length : Int) then (laws_sameHashes.l0 k l0 l1 (l0.length : Int) 0) else (some false)) = some r := h
  clear h
  by_cases c3 : (l0.length : Int) = (l1.length : Int)
  · rw [if_pos c3] at H
    have c3b0 : ((l0.length : Int) == (l1.length : Int)) = true := beq_iff_eq.mpr c3
    have c3b1 : ((l0.length : Int) != (l1.length : Int)) = false := bne_eq_false_iff_eq.mpr c3
    have c3b2 : (l0.length == l1.length) = true := by first | simpa using c3 | (simp at c3 ⊢; omega)
    clear c3
    have H' := Aside0.mk H
    clear H
    go_enter Tryf.func14, Tryf.ntmps14
    go_wp2
    repeat (go_quiet (fail); try go_wp2)
    go_loopg [13] k (fun kq v13 w' => ∃ (x13_1 : Int), v13 = .int .i64 x13_1 ∧ Aside0 (laws_sameHashes.l0 kq l0 l1 (l0.length : Int) x13_1 = some r) ∧ Aside0 (kq ≤ k) ∧ Drawn0 w w')
    case atStart => exact ⟨(0), (by first | rfl | (simp; done) | (simp [*]; done)), H', ⟨Nat.le_refl _⟩, by repeat (first | exact Drawn0.refl _ | apply Drawn0.step)⟩
    case round =>
      clear H'
      try clear c1
      try clear p2
      try clear c3
      try clear c3b0
      try clear c3b1
      try clear c3b2
      obtain ⟨x13_1, rfl, HA, HK1, ⟨m1, rfl⟩⟩ := hrel
      cases gk with
      | zero => exact absurd HA.out (by simp [laws_sameHashes.l0])
      | succ k1 =>
        have H := HA.out
        clear HA
        simp only [laws_sameHashes.l0] at H
        by_cases c4 : x13_1 < (l0.length : Int)
        · rw [if_pos c4] at H
          have c4b0 : decide (x13_1 < (l0.length : Int)) = true := decide_eq_true c4
          clear c4
          by_cases c5 : 0 ≤ x13_1
          · rw [if_pos c5] at H
            have c5b0 : decide (0 ≤ x13_1) = true := decide_eq_true c5
            clear c5
            by_cases c6 : x13_1 < (l0.length : Int)
            · rw [if_pos c6] at H
              have c6b0 : decide (x13_1 < (l0.length : Int)) = true := decide_eq_true c6
              clear c6
              by_cases c7 : x13_1 < (l1.length : Int)
              · rw [if_pos c7] at H
                have c7b0 : decide (x13_1 < (l1.length : Int)) = true := decide_eq_true c7
                clear c7
                by_cases c8 : (strOfNums (rd_L1 l0 x13_1)).toList = (strOfNums (rd_L1 l1 x13_1)).toList
                · rw [if_pos c8] at H
                  have c8b0 : ((strOfNums (rd_L1 l0 x13_1)).toList == (strOfNums (rd_L1 l1 x13_1)).toList) = true := beq_iff_eq.mpr c8
                  have c8b1 : ((strOfNums (rd_L1 l0 x13_1)).toList != (strOfNums (rd_L1 l1 x13_1)).toList) = false := bne_eq_false_iff_eq.mpr c8
                  clear c8
                  have H' := Aside0.mk H
                  clear H
                  have p284 : 0 ≤ (x13_1 : Int) := of_decide_eq_true (by first | (with_reducible assumption) | assumption)
                  have q284 : x13_1 < (l0.length : Int) := of_decide_eq_true (by first | (with_reducible assumption) | assumption)
                  obtain ⟨ad284, A284_0, c284_0, e284, hx284_0, hl284_0, hi284_0⟩ := at_L1 HR0.out x13_1 p284 q284
                  cases e284
                  have HR284_0 := Aside0.mk hi284_0
                  have HC284_0 := Aside0.mk hl284_0
                  clear hi284_0 hl284_0
                  replace p284 := eq_true p284
                  replace q284 := eq_true q284
                  have hcv9 := fun (nn_ : Nat) => Kd.C_string (P := Tryf.prog) (A := A284_0) (c := c284_0) Tryf.underlying26 Tryf.underlying5 Tryf.underlying9 (Kd.C_drewN HR284_0.out nn_)
                  have p285 : 0 ≤ (x13_1 : Int) := of_decide_eq_true (by first | (with_reducible assumption) | assumption)
                  have q285 : x13_1 < (l1.length : Int) := of_decide_eq_true (by first | (with_reducible assumption) | assumption)
                  obtain ⟨ad285, A285_0, c285_0, e285, hx285_0, hl285_0, hi285_0⟩ := at_L1 HR1.out x13_1 p285 q285
                  cases e285
                  have HR285_0 := Aside0.mk hi285_0
                  have HC285_0 := Aside0.mk hl285_0
                  clear hi285_0 hl285_0
                  replace p285 := eq_true p285
                  replace q285 := eq_true q285
                  have hcv10 := fun (nn_ : Nat) => Kd.C_string (P := Tryf.prog) (A := A285_0) (c := c285_0) Tryf.underlying26 Tryf.underlying5 Tryf.underlying9 (Kd.C_drewN HR285_0.out nn_)
                  go_wp2
                  repeat (go_quiet (fail); try go_wp2)
                  go_roundg k1
                  case measure => have := HK1.out; omega
                  case rel => exact ⟨(wrap64 (x13_1 + 1)), (by first | rfl | (simp; done) | (simp [*]; done)), H', ⟨by have := HK1.out; omega⟩, by repeat (first | exact Drawn0.refl _ | apply Drawn0.step)⟩
                · rw [if_neg c8] at H
                  have c8b0 : ((strOfNums (rd_L1 l0 x13_1)).toList == (strOfNums (rd_L1 l1 x13_1)).toList) = false := beq_eq_false_iff_ne.mpr c8
                  have c8b1 : ((strOfNums (rd_L1 l0 x13_1)).toList != (strOfNums (rd_L1 l1 x13_1)).toList) = true := bne_iff_ne.mpr c8
                  obtain rfl := Option.some.inj H
                  have p284 : 0 ≤ (x13_1 : Int) := of_decide_eq_true (by first | (with_reducible assumption) | assumption)
                  have q284 : x13_1 < (l0.length : Int) := of_decide_eq_true (by first | (with_reducible assumption) | assumption)
                  obtain ⟨ad284, A284_0, c284_0, e284, hx284_0, hl284_0, hi284_0⟩ := at_L1 HR0.out x13_1 p284 q284
                  cases e284
                  have HR284_0 := Aside0.mk hi284_0
                  have HC284_0 := Aside0.mk hl284_0
                  clear hi284_0 hl284_0
                  replace p284 := eq_true p284
                  replace q284 := eq_true q284
                  have hcv11 := fun (nn_ : Nat) => Kd.C_string (P := Tryf.prog) (A := A284_0) (c := c284_0) Tryf.underlying26 Tryf.underlying5 Tryf.underlying9 (Kd.C_drewN HR284_0.out nn_)
                  have p285 : 0 ≤ (x13_1 : Int) := of_decide_eq_true (by first | (with_reducible assumption) | assumption)
                  have q285 : x13_1 < (l1.length : Int) := of_decide_eq_true (by first | (with_reducible assumption) | assumption)
                  obtain ⟨ad285, A285_0, c285_0, e285, hx285_0, hl285_0, hi285_0⟩ := at_L1 HR1.out x13_1 p285 q285
                  cases e285
                  have HR285_0 := Aside0.mk hi285_0
                  have HC285_0 := Aside0.mk hl285_0
                  clear hi285_0 hl285_0
                  replace p285 := eq_true p285
                  replace q285 := eq_true q285
                  have hcv12 := fun (nn_ : Nat) => Kd.C_string (P := Tryf.prog) (A := A285_0) (c := c285_0) Tryf.underlying26 Tryf.underlying5 Tryf.underlying9 (Kd.C_drewN HR285_0.out nn_)
                  go_wp2
                  repeat (go_quiet (fail); try go_wp2)
                  go_ret
                  exact ⟨by first | rfl | (simp; done) | (simp [*]; done), by repeat (first | exact Drawn0.refl _ | apply Drawn0.step)⟩
              · rw [if_neg c7] at H
                exact absurd H (by simp)
            · rw [if_neg c6] at H
              exact absurd H (by simp)
          · rw [if_neg c5] at H
            exact absurd H (by simp)
        · rw [if_neg c4] at H
          have c4b0 : decide (x13_1 < (l0.length : Int)) = false := decide_eq_false c4
          clear c4
          obtain rfl := Option.some.inj H
          go_wp2
          repeat (go_quiet (fail); try go_wp2)
          go_ret
          exact ⟨by first | rfl | (simp; done) | (simp [*]; done), by repeat (first | exact Drawn0.refl _ | apply Drawn0.step)⟩
  · rw [if_neg c3] at H
    have c3b0 : ((l0.length : Int) == (l1.length : Int)) = false := beq_eq_false_iff_ne.mpr c3
    have c3b1 : ((l0.length : Int) != (l1.length : Int)) = true := bne_iff_ne.mpr c3
    have c3b2 : (l0.length == l1.length) = false := by first | simpa using c3 | (simp at c3 ⊢; omega)
    obtain rfl := Option.some.inj H
    go_enter Tryf.func14, Tryf.ntmps14
    go_wp2
    repeat (go_quiet (fail); try go_wp2)
    go_ret
    exact ⟨by first | rfl | (simp; done) | (simp [*]; done), by repeat (first | exact Drawn0.refl _ | apply Drawn0.step)⟩
mutual
def spec_SpanHash.l0 : Nat → Int → Int → Int → Int → Int → Int → Int → Int → Int → Int → Option (List Int)
  | 0, _, _, _, _, _, _, _, _, _, _ => none
  | k + 1, x7, x8, x287000, x287001, x287002, x288000, x288001, x288002, x289000, x289001 => if x8 < 64 then (if 0 ≤ x8 then (if x7 = (shl .u64 1 x8) then ((spec_NodeHash.f x288000 x288001 x288002 x8 (shr .u64 x289000 x8)).bind fun t289 => (some t289)) else (spec_SpanHash.l0 k x7 (IntKind.u64.wrap (x8 + 1)) x287000 x287001 x287002 x288000 x288001 x288002 x289000 x289001)) else (none)) else ((spec_Split.f k x7).bind fun t292 => ((spec_SpanHash.f k x287000 x287001 x287002 x288000 x288001 x288002 x289000 (IntKind.u64.wrap (x289000 + t292))).bind fun t293 => ((spec_SpanHash.f k x287000 x287001 x287002 x288000 x288001 x288002 (IntKind.u64.wrap (x289000 + t292)) x289001).bind fun t296 => ((impl_Hash_HashChildren.f k x287000 x287001 x287002 t293 t296).bind fun t299 => (some t299)))))
def spec_SpanHash.f : Nat → Int → Int → Int → Int → Int → Int → Int → Int → Option (List Int)
  | 0, _, _, _, _, _, _, _, _ => none
  | k + 1, a0_0, a0_1, a0_2, a1_0, a1_1, a1_2, a2_0, a2_1 => spec_SpanHash.l0 k (IntKind.u64.wrap (a2_1 - a2_0)) 0 a0_0 a0_1 a0_2 a1_0 a1_1 a1_2 a2_0 a2_1
end
theorem spec_SpanHash.mono_l : ∀ k, (∀ y0 y1 y2 y3 y4 y5 y6 y7, LeO (spec_SpanHash.f k y0 y1 y2 y3 y4 y5 y6 y7) (spec_SpanHash.f (k + 1) y0 y1 y2 y3 y4 y5 y6 y7)) ∧ (∀ y0 y1 y2 y3 y4 y5 y6 y7 y8 y9, LeO (spec_SpanHash.l0 k y0 y1 y2 y3 y4 y5 y6 y7 y8 y9) (spec_SpanHash.l0 (k + 1) y0 y1 y2 y3 y4 y5 y6 y7 y8 y9))
  | 0 => ⟨fun _ _ _ _ _ _ _ _ r h => by simp [spec_SpanHash.f] at h, fun _ _ _ _ _ _ _ _ _ _ r h => by simp [spec_SpanHash.l0] at h⟩
  | k + 1 => by
    obtain ⟨ih0, ih1⟩ := spec_SpanHash.mono_l k
    refine ⟨?_, ?_⟩
    · intro y0 y1 y2 y3 y4 y5 y6 y7
      unfold spec_SpanHash.f
      repeat' first
      | (with_reducible exact ih0 _ _ _ _ _ _ _ _)
      | (with_reducible exact ih1 _ _ _ _ _ _ _ _ _ _)
      | (with_reducible exact impl_Hash_HashChildren.mono _ _ _ _ _ _)
      | (with_reducible exact spec_Split.mono _ _)
      | (with_reducible exact LeO.refl _)
      | (with_reducible exact LeO.none _)
      | (with_reducible refine LeO.ite ?_ ?_)
      | (with_reducible refine LeO.bind ?_ (fun _ => ?_))
      | exact ih0 _ _ _ _ _ _ _ _
      | exact ih1 _ _ _ _ _ _ _ _ _ _
      | exact impl_Hash_HashChildren.mono _ _ _ _ _ _
      | exact spec_Split.mono _ _
      | exact LeO.none _
      | refine LeO.ite ?_ ?_
      | refine LeO.bind ?_ (fun _ => ?_)
    · intro y0 y1 y2 y3 y4 y5 y6 y7 y8 y9
      unfold spec_SpanHash.l0
      repeat' first
      | (with_reducible exact ih0 _ _ _ _ _ _ _ _)
      | (with_reducible exact ih1 _ _ _ _ _ _ _ _ _ _)
      | (with_reducible exact impl_Hash_HashChildren.mono _ _ _ _ _ _)
      | (with_reducible exact spec_Split.mono _ _)
      | (with_reducible exact LeO.refl _)
      | (with_reducible exact LeO.none _)
      | (with_reducible refine LeO.ite ?_ ?_)
      | (with_reducible refine LeO.bind ?_ (fun _ => ?_))
      | exact ih0 _ _ _ _ _ _ _ _
      | exact ih1 _ _ _ _ _ _ _ _ _ _
      | exact impl_Hash_HashChildren.mono _ _ _ _ _ _
      | exact spec_Split.mono _ _
      | exact LeO.none _
      | refine LeO.ite ?_ ?_
      | refine LeO.bind ?_ (fun _ => ?_)
theorem spec_SpanHash.mono : ∀ a0 a1 a2 a3 a4 a5 a6 a7 k, LeO (spec_SpanHash.f k a0 a1 a2 a3 a4 a5 a6 a7) (spec_SpanHash.f (k + 1) a0 a1 a2 a3 a4 a5 a6 a7) := by
  intro a0 a1 a2 a3 a4 a5 a6 a7 k
  obtain ⟨ih0, ih1⟩ := spec_SpanHash.mono_l k
  exact ih0 a0 a1 a2 a3 a4 a5 a6 a7
def spec_SpanHash.T8 : Bool × List (List Nat × List Nat) := (true, [([], []), ([], []), ([], []), ([], []), ([3], [3]), ([], []), ([5], [5]), ([], []), ([6, 7], [6, 7]), ([4, 8], [4, 8]), ([1, 2, 9], [1, 2, 9]), ([], []), ([], []), ([], []), ([13], [13]), ([], []), ([14, 15], [14, 15]), ([], []), ([17], [17]), ([16, 18], [16, 18]), ([11, 12, 19, 10], [11, 12, 19]), ([0, 10, 20, 20], [0, 10, 20]), ([21, 21, 0, 1, 2, 3, 4, 5, 6, 7, 8, 9, 10, 11, 12, 13, 14, 15, 16, 17, 18, 19, 20, 21], [21])])
def spec_SpanHash.B8 : List Nat := [0, 0, 0, 0, 8, 0, 32, 0, 224, 504, 1022, 0, 0, 0, 8192, 0, 57344, 0, 131072, 516096, 1048574, 2097151, 4194303]
theorem spec_SpanHash.tab8 : rtab .any (opsOf Tryf.f24 8) = spec_SpanHash.T8 := by kernel_rfl
theorem spec_SpanHash.bits8 : waitsOk spec_SpanHash.T8.2 spec_SpanHash.B8 = true := by kernel_rfl
set_option maxHeartbeats 8000000 in
set_option maxRecDepth 100000 in
theorem spec_SpanHash.calls (k : Nat) : ∀ (a0_0 : Int) (a0_1 : Int) (a0_2 : Int) (a1_0 : Int) (a1_1 : Int) (a1_2 : Int) (a2_0 : Int) (a2_1 : Int) (r : List Int) (w : World) (h : spec_SpanHash.f k a0_0 a0_1 a0_2 a1_0 a1_1 a1_2 a2_0 a2_1 = some r),
    Calls Tryf.prog 24 #[.agg #[.int .u32 a0_0, .int .u32 a0_1, .int .u32 a0_2], .agg #[.int .u32 a1_0, .int .u32 a1_1, .int .u32 a1_2], .agg #[.int .u64 a2_0, .int .u64 a2_1]] w fun e w' => ∃ v0_ : Value, e = .returned (v0_) ∧ Kd.R (Kd.int .u8) 5 w' w.heap.size (fun _ => True) v0_ r ∧ Below w.heap.size w w' := by
  induction k using Nat.strongRecOn with
  | _ k ih =>
  intro a0_0 a0_1 a0_2 a1_0 a1_1 a1_2 a2_0 a2_1 r w h
  cases k with
  | zero => exact absurd h (by simp [spec_SpanHash.f])
  | succ k =>
  simp only [spec_SpanHash.f] at h
  have hu24 := Tryf.underlying24
  have hu60 := Tryf.underlying60
  have hu34 := Tryf.underlying34
  have HB := Aside0.mk (Below.refl w.heap.size w)
  have H : (spec_SpanHash.l0 k (IntKind.u64.wrap (a2_1 - a2_0)) 0 a0_0 a0_1 a0_2 a1_0 a1_1 a1_2 a2_0 a2_1) = some r := h
  clear h
  have H' := Aside0.mk H
  clear H
  go_enter Tryf.func24, Tryf.ntmps24
  go_wp2_with (first | ((with_reducible refine gate_dst (N := 3) rfl ?_); refine box_event ?hg (N := 3) ?hd (cs := #[.int .u32 a0_0, .int .u32 a0_1, .int .u32 a0_2]) (t := 24) ?hr ?_; (case hd => rfl); (case hg => rfl); (case hr => first | (go_simp; done) | (go_simp; rfl)); intro gb286 hg w4 hbox hb; have n0_ := Aside0.mk (below_step (by repeat (first | (with_reducible first | exact HB.out | apply below_alloc | apply pw_below_drewN | apply below_drew1) | exact HB.out)) hb); have n1_ := Aside0.mk (hbox); have n2_ := Aside0.mk ((by rw [hg]; exact (below_size (by repeat (first | (with_reducible first | exact HB.out | apply below_alloc | apply pw_below_drewN | apply below_drew1) | exact HB.out))) : w.heap.size ≤ gb286)); have n3_ := Aside0.mk ((by rw [hg]; exact (below_size (by repeat (first | (with_reducible first | exact HB.out | apply below_alloc | apply pw_below_drewN | apply below_drew1) | exact HB.out))) : w.heap.size ≤ gb286)); clear HB; have HB := n0_; have BK286 := n1_; have GW286 := n2_; have GE286 := n3_; clear n0_ n1_ n2_ n3_; clear hb hbox hg) | ((with_reducible refine gate_dst (N := 4) rfl ?_); refine box_event ?hg (N := 4) ?hd (cs := #[.int .u32 a1_0, .int .u32 a1_1, .int .u32 a1_2]) (t := 24) ?hr ?_; (case hd => rfl); (case hg => rfl); (case hr => first | (go_simp; done) | (go_simp; rfl)); intro gb287 hg w5 hbox hb; have n0_ := Aside0.mk (blk_below (g := gb286) (o := .cells #[.int .u32 a0_0, .int .u32 a0_1, .int .u32 a0_2] 24 (0, 0)) (by (with_reducible repeat (first | refine blk_drewN ?_ _ | refine blk_drew ?_ | refine blk_alloc ?_ _)); exact BK286.out) hb); have n1_ := Aside0.mk (below_step (by repeat (first | (with_reducible first | exact HB.out | apply below_alloc | apply pw_below_drewN | apply below_drew1 | refine below_set ?_ GE286.out) | exact HB.out)) hb); have n2_ := Aside0.mk (hbox); have n3_ := Aside0.mk ((by rw [hg]; exact (below_size (by repeat (first | (with_reducible first | exact HB.out | apply below_alloc | apply pw_below_drewN | apply below_drew1 | refine below_set ?_ GE286.out) | exact HB.out))) : w.heap.size ≤ gb287)); have n4_ := Aside0.mk ((by rw [hg]; exact (below_size (by repeat (first | (with_reducible first | exact HB.out | apply below_alloc | apply pw_below_drewN | apply below_drew1 | refine below_set ?_ GE286.out) | exact HB.out))) : w.heap.size ≤ gb287)); have n5_ := Aside0.mk ((by rw [hg]; exact Nat.ne_of_lt (blk_lt (g := gb286) (o := .cells #[.int .u32 a0_0, .int .u32 a0_1, .int .u32 a0_2] 24 (0, 0)) (by (with_reducible repeat (first | refine blk_drewN ?_ _ | refine blk_drew ?_ | refine blk_alloc ?_ _)); exact BK286.out)) : gb286 ≠ gb287)); have n6_ := Aside0.mk ((by rw [hg]; exact Nat.ne_of_gt (blk_lt (g := gb286) (o := .cells #[.int .u32 a0_0, .int .u32 a0_1, .int .u32 a0_2] 24 (0, 0)) (by (with_reducible repeat (first | refine blk_drewN ?_ _ | refine blk_drew ?_ | refine blk_alloc ?_ _)); exact BK286.out)) : gb287 ≠ gb286)); clear BK286; clear HB; have BK286 := n0_; have HB := n1_; have BK287 := n2_; have GW287 := n3_; have GE287 := n4_; have NB286_287 := n5_; have NB287_286 := n6_; clear n0_ n1_ n2_ n3_ n4_ n5_ n6_; clear hb hbox hg) | ((with_reducible refine gate_dst (N := 5) rfl ?_); refine box_event ?hg (N := 5) ?hd (cs := #[.int .u64 a2_0, .int .u64 a2_1]) (t := 60) ?hr ?_; (case hd => rfl); (case hg => rfl); (case hr => first | (go_simp; done) | (go_simp; rfl)); intro gb288 hg w6 hbox hb; have n0_ := Aside0.mk (blk_below (g := gb286) (o := .cells #[.int .u32 a0_0, .int .u32 a0_1, .int .u32 a0_2] 24 (0, 0)) (by (with_reducible repeat (first | refine blk_drewN ?_ _ | refine blk_drew ?_ | refine blk_alloc ?_ _)); exact BK286.out) hb); have n1_ := Aside0.mk (blk_below (g := gb287) (o := .cells #[.int .u32 a1_0, .int .u32 a1_1, .int .u32 a1_2] 24 (0, 0)) (by (with_reducible repeat (first | refine blk_drewN ?_ _ | refine blk_drew ?_ | refine blk_alloc ?_ _)); exact BK287.out) hb); have n2_ := Aside0.mk (below_step (by repeat (first | (with_reducible first | exact HB.out | apply below_alloc | apply pw_below_drewN | apply below_drew1 | refine below_set ?_ GE286.out | refine below_set ?_ GE287.out) | exact HB.out)) hb); have n3_ := Aside0.mk (hbox); have n4_ := Aside0.mk ((by rw [hg]; exact (below_size (by repeat (first | (with_reducible first | exact HB.out | apply below_alloc | apply pw_below_drewN | apply below_drew1 | refine below_set ?_ GE286.out | refine below_set ?_ GE287.out) | exact HB.out))) : w.heap.size ≤ gb288)); have n5_ := Aside0.mk ((by rw [hg]; exact (below_size (by repeat (first | (with_reducible first | exact HB.out | apply below_alloc | apply pw_below_drewN | apply below_drew1 | refine below_set ?_ GE286.out | refine below_set ?_ GE287.out) | exact HB.out))) : w.heap.size ≤ gb288)); have n6_ := Aside0.mk ((by rw [hg]; exact Nat.ne_of_lt (blk_lt (g := gb286) (o := .cells #[.int .u32 a0_0, .int .u32 a0_1, .int .u32 a0_2] 24 (0, 0)) (by (with_reducible repeat (first | refine blk_drewN ?_ _ | refine blk_drew ?_ | refine blk_alloc ?_ _)); exact BK286.out)) : gb286 ≠ gb288)); have n7_ := Aside0.mk ((by rw [hg]; exact Nat.ne_of_gt (blk_lt (g := gb286) (o := .cells #[.int .u32 a0_0, .int .u32 a0_1, .int .u32 a0_2] 24 (0, 0)) (by (with_reducible repeat (first | refine blk_drewN ?_ _ | refine blk_drew ?_ | refine blk_alloc ?_ _)); exact BK286.out)) : gb288 ≠ gb286)); have n8_ := Aside0.mk ((by rw [hg]; exact Nat.ne_of_lt (blk_lt (g := gb287) (o := .cells #[.int .u32 a1_0, .int .u32 a1_1, .int .u32 a1_2] 24 (0, 0)) (by (with_reducible repeat (first | refine blk_drewN ?_ _ | refine blk_drew ?_ | refine blk_alloc ?_ _)); exact BK287.out)) : gb287 ≠ gb288)); have n9_ := Aside0.mk ((by rw [hg]; exact Nat.ne_of_gt (blk_lt (g := gb287) (o := .cells #[.int .u32 a1_0, .int .u32 a1_1, .int .u32 a1_2] 24 (0, 0)) (by (with_reducible repeat (first | refine blk_drewN ?_ _ | refine blk_drew ?_ | refine blk_alloc ?_ _)); exact BK287.out)) : gb288 ≠ gb287)); clear BK286; clear BK287; clear HB; have BK286 := n0_; have BK287 := n1_; have HB := n2_; have BK288 := n3_; have GW288 := n4_; have GE288 := n5_; have NB286_288 := n6_; have NB288_286 := n7_; have NB287_288 := n8_; have NB288_287 := n9_; clear n0_ n1_ n2_ n3_ n4_ n5_ n6_ n7_ n8_ n9_; clear hb hbox hg; have hnb7 := NB288_286.out; have hnc7 := NB286_288.out; have hnb8 := NB288_287.out; have hnc8 := NB287_288.out; have hcz9_0 : w6.cell? ⟨gb288, 0, none⟩ = some (.int .u64 a2_0) := (blk_cell BK288.out 0).trans rfl; have hcz9_1 : w6.cell? ⟨gb288, 1, none⟩ = some (.int .u64 a2_1) := (blk_cell BK288.out 1).trans rfl; have hfz9_0 := blk_frozen BK288.out 0; have hfz9_1 := blk_frozen BK288.out 1))
  go_loopg [8] k (fun kq v8 w' => ∃ (x8_1 : Int), v8 = .int .u64 x8_1 ∧ Aside0 (spec_SpanHash.l0 kq (IntKind.u64.wrap (a2_1 - a2_0)) x8_1 a0_0 a0_1 a0_2 a1_0 a1_1 a1_2 a2_0 a2_1 = some r) ∧ Aside0 (kq ≤ k) ∧ Aside0 (w'.heap[gb286]? = some (.cells #[.int .u32 a0_0, .int .u32 a0_1, .int .u32 a0_2] 24 (0, 0))) ∧ Aside0 (w'.heap[gb287]? = some (.cells #[.int .u32 a1_0, .int .u32 a1_1, .int .u32 a1_2] 24 (0, 0))) ∧ Aside0 (w'.heap[gb288]? = some (.cells #[.int .u64 a2_0, .int .u64 a2_1] 60 (0, 0))) ∧ Aside0 (Below w.heap.size w w'))
  case atStart => exact ⟨(0), (by first | rfl | (simp; done) | (simp [*]; done)), H', ⟨Nat.le_refl _⟩, ⟨by (with_reducible repeat (first | refine blk_drewN ?_ _ | refine blk_drew ?_ | refine blk_alloc ?_ _)); exact BK286.out⟩, ⟨by (with_reducible repeat (first | refine blk_drewN ?_ _ | refine blk_drew ?_ | refine blk_alloc ?_ _)); exact BK287.out⟩, ⟨by (with_reducible repeat (first | refine blk_drewN ?_ _ | refine blk_drew ?_ | refine blk_alloc ?_ _)); exact BK288.out⟩, ⟨by repeat (first | (with_reducible first | exact HB.out | apply below_alloc | apply pw_below_drewN | apply below_drew1 | refine below_set ?_ GE286.out | refine below_set ?_ GE287.out | refine below_set ?_ GE288.out) | exact HB.out)⟩⟩
  case round =>
    clear H'
    try clear c2
    try clear p2
    try clear c7
    try clear c8
    try clear hcz9_0
    try clear hcz9_1
    try clear hfz9_0
    try clear hfz9_1
    obtain ⟨x8_1, rfl, HA, HK1, BK286, BK287, BK288, HB⟩ := hrel
    cases gk with
    | zero => exact absurd HA.out (by simp [spec_SpanHash.l0])
    | succ k1 =>
      have H := HA.out
      clear HA
      simp only [spec_SpanHash.l0] at H
      by_cases c10 : x8_1 < 64
      · rw [if_pos c10] at H
        have c10b0 : decide (x8_1 < 64) = true := decide_eq_true c10
        clear c10
        by_cases c11 : 0 ≤ x8_1
        · rw [if_pos c11] at H
          have c11b0 := eq_true c11
          have c11b1 : decide (0 ≤ x8_1) = true := decide_eq_true c11
          clear c11
          obtain ⟨ji12, hji12⟩ : ∃ j_ : Int, (shl .u64 1 x8_1) = j_ := ⟨_, rfl⟩
          replace H : (if (IntKind.u64.wrap (a2_1 - a2_0)) = (ji12) then ((spec_NodeHash.f a1_0 a1_1 a1_2 x8_1 (shr .u64 a2_0 x8_1)).bind fun t289 => (some t289)) else (spec_SpanHash.l0 k1 (IntKind.u64.wrap (a2_1 - a2_0)) (IntKind.u64.wrap (x8_1 + 1)) a0_0 a0_1 a0_2 a1_0 a1_1 a1_2 a2_0 a2_1)) = some r := by first | (rw [hji12] at H; exact H) | (simp only [hji12] at H ⊢; exact H)
          have hji12_ : (IntKind.u64.wrap (1 * 2 ^ min x8_1.toNat 64)) = ji12 := hji12
          have hji12z : x8_1 ≤ 64 → (IntKind.u64.wrap (1 * 2 ^ x8_1.toNat)) = ji12 := shl_small hji12
          have hji12u : (IntKind.u64.wrap (2 ^ min x8_1.toNat 64)) = ji12 := by have h_ := hji12_; rw [Int.one_mul] at h_; exact h_
          have hji12v : x8_1 ≤ 64 → (IntKind.u64.wrap (2 ^ x8_1.toNat)) = ji12 := fun hle_ => by have h_ := hji12z hle_; rw [Int.one_mul] at h_; exact h_
          by_cases c13 : (IntKind.u64.wrap (a2_1 - a2_0)) = (ji12)
          · rw [if_pos c13] at H
            have c13b0 : ((IntKind.u64.wrap (a2_1 - a2_0)) == (ji12)) = true := beq_iff_eq.mpr c13
            have c13b1 : ((IntKind.u64.wrap (a2_1 - a2_0)) != (ji12)) = false := bne_eq_false_iff_eq.mpr c13
            clear c13
            have c14b0 := eq_true (of_decide_eq_true (by first | (with_reducible assumption) | assumption) : 0 ≤ x8_1)
            obtain ⟨ji15, hji15⟩ : ∃ j_ : Int, (shr .u64 a2_0 x8_1) = j_ := ⟨_, rfl⟩
            replace H : ((spec_NodeHash.f a1_0 a1_1 a1_2 x8_1 (ji15)).bind fun t289 => (some t289)) = some r := by first | (rw [hji15] at H; exact H) | (simp only [hji15] at H ⊢; exact H)
            have hji15_ : (a2_0 / 2 ^ min x8_1.toNat 64) = ji15 := hji15
            have hji15z : x8_1 ≤ 64 → (a2_0 / 2 ^ x8_1.toNat) = ji15 := shr_small hji15
            replace H := Option.bind_eq_some_iff.mp H
            obtain ⟨t289, A160, H⟩ := H
            replace H : (some t289) = some r := H
            have A16 := Aside0.mk A160
            clear A160
            obtain rfl := Option.some.inj H
            have hnb17 := NB287_286.out
            have hnc17 := NB286_287.out
            have hnb18 := NB287_288.out
            have hnc18 := NB288_287.out
            have hcz19_0 : wr.cell? ⟨gb287, 0, none⟩ = some (.int .u32 a1_0) := (blk_cell BK287.out 0).trans rfl
            have hcz19_1 : wr.cell? ⟨gb287, 1, none⟩ = some (.int .u32 a1_1) := (blk_cell BK287.out 1).trans rfl
            have hcz19_2 : wr.cell? ⟨gb287, 2, none⟩ = some (.int .u32 a1_2) := (blk_cell BK287.out 2).trans rfl
            have hfz19_0 := blk_frozen BK287.out 0
            have hfz19_1 := blk_frozen BK287.out 1
            have hfz19_2 := blk_frozen BK287.out 2
            have hnb20 := NB288_286.out
            have hnc20 := NB286_288.out
            have hcz21_0 : wr.cell? ⟨gb288, 0, none⟩ = some (.int .u64 a2_0) := (blk_cell BK288.out 0).trans rfl
            have hcz21_1 : wr.cell? ⟨gb288, 1, none⟩ = some (.int .u64 a2_1) := (blk_cell BK288.out 1).trans rfl
            have hfz21_0 := blk_frozen BK288.out 0
            have hfz21_1 := blk_frozen BK288.out 1
            go_wp2_with (first | ((with_reducible refine gate_callee (f := 16) rfl ?_); refine goesL_ (some 30) rfl rfl Tryf.func16 (by kernel_rfl) rfl #[.agg #[.int .u32 a1_0, .int .u32 a1_1, .int .u32 a1_2], .agg #[.int .u64 x8_1, .int .u64 ji15]] rfl (by (try simp only [List.map_toArray, List.map_cons, List.map_nil]); first | done | (simp only [hji15]; rfl) | rfl | (simp only [List.length_drop, List.length_take]; rfl)) ?_; (with_reducible refine (spec_NodeHash.calls a1_0 a1_1 a1_2 x8_1 ji15 t289 _ A16.out).mono ?_); rintro e w22 ⟨v290, rfl, ho0, hb⟩; refine ⟨_, rfl, ?_⟩; have n0_ := Aside0.mk (Kd.R_lower ho0 (below_size (by repeat (first | (with_reducible first | exact HB.out | apply below_alloc | apply pw_below_drewN | apply below_drew1 | refine below_set ?_ GE286.out | refine below_set ?_ GE287.out | refine below_set ?_ GE288.out) | exact HB.out)))); have n1_ := Aside0.mk (blk_below (g := gb286) (o := .cells #[.int .u32 a0_0, .int .u32 a0_1, .int .u32 a0_2] 24 (0, 0)) (by (with_reducible repeat (first | refine blk_drewN ?_ _ | refine blk_drew ?_ | refine blk_alloc ?_ _)); exact BK286.out) hb); have n2_ := Aside0.mk (blk_below (g := gb287) (o := .cells #[.int .u32 a1_0, .int .u32 a1_1, .int .u32 a1_2] 24 (0, 0)) (by (with_reducible repeat (first | refine blk_drewN ?_ _ | refine blk_drew ?_ | refine blk_alloc ?_ _)); exact BK287.out) hb); have n3_ := Aside0.mk (blk_below (g := gb288) (o := .cells #[.int .u64 a2_0, .int .u64 a2_1] 60 (0, 0)) (by (with_reducible repeat (first | refine blk_drewN ?_ _ | refine blk_drew ?_ | refine blk_alloc ?_ _)); exact BK288.out) hb); have n4_ := Aside0.mk (below_step (by repeat (first | (with_reducible first | exact HB.out | apply below_alloc | apply pw_below_drewN | apply below_drew1 | refine below_set ?_ GE286.out | refine below_set ?_ GE287.out | refine below_set ?_ GE288.out) | exact HB.out)) hb); clear BK286; clear BK287; clear BK288; clear HB; have HO291 := n0_; have BK286 := n1_; have BK287 := n2_; have BK288 := n3_; have HB := n4_; clear n0_ n1_ n2_ n3_ n4_; (try clear hb); (try clear hb2); (try clear hk); (try clear hi); (try clear ho0)))
            go_ret
            exact ⟨_, by first | rfl | (simp [errW_none, errW_some] <;> rfl) | (simp only [← hji12, ← hji15]; first | rfl | (simp [errW_none, errW_some] <;> rfl)) | (simp [*, errW_none, errW_some] <;> rfl), by (with_reducible repeat (first | apply Kd.R_alloc | apply Kd.R_drewN | apply Kd.R_drew)); exact HO291.out, by repeat (first | (with_reducible first | exact HB.out | apply below_alloc | apply pw_below_drewN | apply below_drew1 | refine below_set ?_ GE286.out | refine below_set ?_ GE287.out | refine below_set ?_ GE288.out) | exact HB.out)⟩
          · rw [if_neg c13] at H
            have c13b0 : ((IntKind.u64.wrap (a2_1 - a2_0)) == (ji12)) = false := beq_eq_false_iff_ne.mpr c13
            have c13b1 : ((IntKind.u64.wrap (a2_1 - a2_0)) != (ji12)) = true := bne_iff_ne.mpr c13
            have H' := Aside0.mk H
            clear H
            go_wp2
            go_roundg k1
            case measure => have := HK1.out; omega
            case rel => exact ⟨(IntKind.u64.wrap (x8_1 + 1)), (by first | rfl | (simp; done) | (simp [*]; done)), H', ⟨by have := HK1.out; omega⟩, ⟨by (with_reducible repeat (first | refine blk_drewN ?_ _ | refine blk_drew ?_ | refine blk_alloc ?_ _)); exact BK286.out⟩, ⟨by (with_reducible repeat (first | refine blk_drewN ?_ _ | refine blk_drew ?_ | refine blk_alloc ?_ _)); exact BK287.out⟩, ⟨by (with_reducible repeat (first | refine blk_drewN ?_ _ | refine blk_drew ?_ | refine blk_alloc ?_ _)); exact BK288.out⟩, ⟨by repeat (first | (with_reducible first | exact HB.out | apply below_alloc | apply pw_below_drewN | apply below_drew1 | refine below_set ?_ GE286.out | refine below_set ?_ GE287.out | refine below_set ?_ GE288.out) | exact HB.out)⟩⟩
        · rw [if_neg c11] at H
          exact absurd H (by simp)
      · rw [if_neg c10] at H
        have c10b0 : decide (x8_1 < 64) = false := decide_eq_false c10
        clear c10
        replace H := Option.bind_eq_some_iff.mp H
        obtain ⟨t292, A230, H⟩ := H
        replace H : ((spec_SpanHash.f k1 a0_0 a0_1 a0_2 a1_0 a1_1 a1_2 a2_0 (IntKind.u64.wrap (a2_0 + t292))).bind fun t293 => ((spec_SpanHash.f k1 a0_0 a0_1 a0_2 a1_0 a1_1 a1_2 (IntKind.u64.wrap (a2_0 + t292)) a2_1).bind fun t296 => ((impl_Hash_HashChildren.f k1 a0_0 a0_1 a0_2 t293 t296).bind fun t299 => (some t299)))) = some r := H
        have A23 := Aside0.mk A230
        clear A230
        replace H := Option.bind_eq_some_iff.mp H
        obtain ⟨t293, A240, H⟩ := H
        replace H : ((spec_SpanHash.f k1 a0_0 a0_1 a0_2 a1_0 a1_1 a1_2 (IntKind.u64.wrap (a2_0 + t292)) a2_1).bind fun t296 => ((impl_Hash_HashChildren.f k1 a0_0 a0_1 a0_2 t293 t296).bind fun t299 => (some t299))) = some r := H
        have A24 := Aside0.mk A240
        clear A240
        replace H := Option.bind_eq_some_iff.mp H
        obtain ⟨t296, A250, H⟩ := H
        replace H : ((impl_Hash_HashChildren.f k1 a0_0 a0_1 a0_2 t293 t296).bind fun t299 => (some t299)) = some r := H
        have A25 := Aside0.mk A250
        clear A250
        replace H := Option.bind_eq_some_iff.mp H
        obtain ⟨t299, A260, H⟩ := H
        replace H : (some t299) = some r := H
        have A26 := Aside0.mk A260
        clear A260
        obtain rfl := Option.some.inj H
        try go_wp2_with (first | ((with_reducible refine gate_callee (f := 34) rfl ?_); refine goesL_ (some 32) rfl rfl Tryf.func34 (by kernel_rfl) rfl #[.int .u64 (IntKind.u64.wrap (a2_1 - a2_0))] rfl (by (try simp only [List.map_toArray, List.map_cons, List.map_nil]); first | done | rfl | (simp only [List.length_drop, List.length_take]; rfl)) ?_; (with_reducible refine (spec_Split.calls k1 (IntKind.u64.wrap (a2_1 - a2_0)) t292 _ A23.out).mono ?_); rintro e w' ⟨rfl, ⟨nd, rfl⟩⟩; refine ⟨_, rfl, ?_⟩))
        (try (rw [drewN_self wr]; generalize hq_ : World.drewN wr _ = wr; have n0_ : Aside0 (wr.heap[gb286]? = some (.cells #[.int .u32 a0_0, .int .u32 a0_1, .int .u32 a0_2] 24 (0, 0))) := ⟨by rw [← hq_]; exact (by (with_reducible repeat (first | refine blk_drewN ?_ _ | refine blk_drew ?_ | refine blk_alloc ?_ _)); exact BK286.out)⟩; have n1_ : Aside0 (wr.heap[gb287]? = some (.cells #[.int .u32 a1_0, .int .u32 a1_1, .int .u32 a1_2] 24 (0, 0))) := ⟨by rw [← hq_]; exact (by (with_reducible repeat (first | refine blk_drewN ?_ _ | refine blk_drew ?_ | refine blk_alloc ?_ _)); exact BK287.out)⟩; have n2_ : Aside0 (wr.heap[gb288]? = some (.cells #[.int .u64 a2_0, .int .u64 a2_1] 60 (0, 0))) := ⟨by rw [← hq_]; exact (by (with_reducible repeat (first | refine blk_drewN ?_ _ | refine blk_drew ?_ | refine blk_alloc ?_ _)); exact BK288.out)⟩; have n3_ : Aside0 (Below w.heap.size w wr) := ⟨by rw [← hq_]; exact (by repeat (first | (with_reducible first | exact HB.out | apply below_alloc | apply pw_below_drewN | apply below_drew1 | refine below_set ?_ GE286.out | refine below_set ?_ GE287.out | refine below_set ?_ GE288.out) | exact HB.out))⟩; clear BK286 BK287 BK288 HB hq_; have BK286 := n0_; have BK287 := n1_; have BK288 := n2_; have HB := n3_; clear n0_ n1_ n2_ n3_))
        have n0_ := Aside0.mk (blk_drew BK286.out)
        have n1_ := Aside0.mk (blk_drew BK287.out)
        have n2_ := Aside0.mk (blk_drew BK288.out)
        have n3_ := Aside0.mk (below_drew1 HB.out)
        clear BK286
        clear BK287
        clear BK288
        clear HB
        have BK286 := n0_
        have BK287 := n1_
        have BK288 := n2_
        have HB := n3_
        clear n0_ n1_ n2_ n3_
        refine start_ (n := 23) (S := fun w' => w'.cell? ⟨gb286, 0, none⟩ = some (.int .u32 a0_0) ∧ w'.cell? ⟨gb286, 1, none⟩ = some (.int .u32 a0_1) ∧ w'.cell? ⟨gb286, 2, none⟩ = some (.int .u32 a0_2) ∧ w'.cell? ⟨gb287, 0, none⟩ = some (.int .u32 a1_0) ∧ w'.cell? ⟨gb287, 1, none⟩ = some (.int .u32 a1_1) ∧ w'.cell? ⟨gb287, 2, none⟩ = some (.int .u32 a1_2) ∧ w'.cell? ⟨gb288, 0, none⟩ = some (.int .u64 a2_0) ∧ w'.cell? ⟨gb288, 1, none⟩ = some (.int .u64 a2_1)) (ds := []) #[false, false, false, false, false, false, false, false, false, false, false, false, false, false, false, false, false, false, false, false, false, false, false] (by kernel_rfl) rfl rfl ⟨(blk_cell BK286.out 0).trans rfl, (blk_cell BK286.out 1).trans rfl, (blk_cell BK286.out 2).trans rfl, (blk_cell BK287.out 0).trans rfl, (blk_cell BK287.out 1).trans rfl, (blk_cell BK287.out 2).trans rfl, (blk_cell BK288.out 0).trans rfl, (blk_cell BK288.out 1).trans rfl⟩ (fun hHeld => ?_); refine with_tabW spec_SpanHash.tab8 spec_SpanHash.bits8 (fun HT_ HW_ => ?_)
        generalize wr.drew = w27 at BK286 BK287 BK288 HB hHeld ⊢
        refine pure_ (i := 3) (N := some 36) (v := ?_) (a' := ?_) #[false, false, false, true, false, false, false, false, false, false, false, false, false, false, false, false, false, false, false, false, false, false, false] rfl rfl (any_of HT_.out (by kernel_rfl)) (fun _ _ _ h => h) (Or.inl ⟨by rfl, ?_⟩) ?_ ?_
        rotate_left
        · intro w'
          go_simp
          with_reducible rfl
        rotate_left
        · simp only [Act.put, List.setIfInBounds_toArray, List.set_cons_zero, List.set_cons_succ, i64_w, i32_w]
          rfl
        refine pure_ (i := 5) (N := some 38) (v := ?_) (a' := ?_) #[false, false, false, true, false, true, false, false, false, false, false, false, false, false, false, false, false, false, false, false, false, false, false] rfl rfl (any_of HT_.out (by kernel_rfl)) (fun _ _ _ h => h) (Or.inl ⟨by rfl, ?_⟩) ?_ ?_
        rotate_left
        · intro w'
          go_simp
          with_reducible rfl
        rotate_left
        · simp only [Act.put, List.setIfInBounds_toArray, List.set_cons_zero, List.set_cons_succ, i64_w, i32_w]
          rfl
        refine pure_ (i := 7) (N := some 40) (v := ?_) (a' := ?_) #[false, false, false, true, false, true, false, true, false, false, false, false, false, false, false, false, false, false, false, false, false, false, false] rfl rfl (any_of HT_.out (by kernel_rfl)) (fun _ _ _ h => h) (Or.inl ⟨by rfl, ?_⟩) ?_ ?_
        rotate_left
        · intro w'
          go_simp
          with_reducible rfl
        rotate_left
        · simp only [Act.put, List.setIfInBounds_toArray, List.set_cons_zero, List.set_cons_succ, i64_w, i32_w]
          rfl
        refine pure_ (i := 13) (N := some 46) (v := ?_) (a' := ?_) #[false, false, false, true, false, true, false, true, false, false, false, false, false, true, false, false, false, false, false, false, false, false, false] rfl rfl (any_of HT_.out (by kernel_rfl)) (fun _ _ _ h => h) (Or.inl ⟨by rfl, ?_⟩) ?_ ?_
        rotate_left
        · intro w'
          go_simp
          with_reducible rfl
        rotate_left
        · simp only [Act.put, List.setIfInBounds_toArray, List.set_cons_zero, List.set_cons_succ, i64_w, i32_w]
          rfl
        refine pure_ (i := 15) (N := some 48) (v := ?_) (a' := ?_) #[false, false, false, true, false, true, false, true, false, false, false, false, false, true, false, true, false, false, false, false, false, false, false] rfl rfl (any_of HT_.out (by kernel_rfl)) (fun _ _ _ h => h) (Or.inl ⟨by rfl, ?_⟩) ?_ ?_
        rotate_left
        · intro w'
          go_simp
          with_reducible rfl
        rotate_left
        · simp only [Act.put, List.setIfInBounds_toArray, List.set_cons_zero, List.set_cons_succ, i64_w, i32_w]
          rfl
        refine pure_ (i := 17) (N := some 50) (v := ?_) (a' := ?_) #[false, false, false, true, false, true, false, true, false, false, false, false, false, true, false, true, false, true, false, false, false, false, false] rfl rfl (any_of HT_.out (by kernel_rfl)) (fun _ _ _ h => h) (Or.inl ⟨by rfl, ?_⟩) ?_ ?_
        rotate_left
        · intro w'
          go_simp
          with_reducible rfl
        rotate_left
        · simp only [Act.put, List.setIfInBounds_toArray, List.set_cons_zero, List.set_cons_succ, i64_w, i32_w]
          rfl
        refine take_ (i := 0) (N := some 33) (v := ?_) (a' := ?_) #[true, false, false, true, false, true, false, true, false, false, false, false, false, true, false, true, false, true, false, false, false, false, false] rfl rfl (take_ofW HT_.out HW_.out (by kernel_rfl)) (fun _ _ _ h => h) (Or.inl ⟨by rfl, ?_⟩) hHeld ?_ ?_
        rotate_left
        · rintro w' ⟨s0, s1, s2, s3, s4, s5, s6, s7⟩
          go_simp
          with_reducible rfl
        rotate_left
        · simp only [Act.put, List.setIfInBounds_toArray, List.set_cons_zero, List.set_cons_succ, i64_w, i32_w]
          rfl
        refine take_ (i := 1) (N := some 34) (v := ?_) (a' := ?_) #[true, true, false, true, false, true, false, true, false, false, false, false, false, true, false, true, false, true, false, false, false, false, false] rfl rfl (take_ofW HT_.out HW_.out (by kernel_rfl)) (fun _ _ _ h => h) (Or.inl ⟨by rfl, ?_⟩) hHeld ?_ ?_
        rotate_left
        · rintro w' ⟨s0, s1, s2, s3, s4, s5, s6, s7⟩
          go_simp
          with_reducible rfl
        rotate_left
        · simp only [Act.put, List.setIfInBounds_toArray, List.set_cons_zero, List.set_cons_succ, i64_w, i32_w]
          rfl
        refine take_ (i := 2) (N := some 35) (v := ?_) (a' := ?_) #[true, true, true, true, false, true, false, true, false, false, false, false, false, true, false, true, false, true, false, false, false, false, false] rfl rfl (take_ofW HT_.out HW_.out (by kernel_rfl)) (fun _ _ _ h => h) (Or.inl ⟨by rfl, ?_⟩) hHeld ?_ ?_
        rotate_left
        · rintro w' ⟨s0, s1, s2, s3, s4, s5, s6, s7⟩
          go_simp
          with_reducible rfl
        rotate_left
        · simp only [Act.put, List.setIfInBounds_toArray, List.set_cons_zero, List.set_cons_succ, i64_w, i32_w]
          rfl
        refine take_ (i := 4) (N := some 37) (v := ?_) (a' := ?_) #[true, true, true, true, true, true, false, true, false, false, false, false, false, true, false, true, false, true, false, false, false, false, false] rfl rfl (take_ofW HT_.out HW_.out (by kernel_rfl)) (fun _ _ _ h => h) (Or.inl ⟨by rfl, ?_⟩) hHeld ?_ ?_
        rotate_left
        · rintro w' ⟨s0, s1, s2, s3, s4, s5, s6, s7⟩
          go_simp
          with_reducible rfl
        rotate_left
        · simp only [Act.put, List.setIfInBounds_toArray, List.set_cons_zero, List.set_cons_succ, i64_w, i32_w]
          rfl
        refine take_ (i := 6) (N := some 39) (v := ?_) (a' := ?_) #[true, true, true, true, true, true, true, true, false, false, false, false, false, true, false, true, false, true, false, false, false, false, false] rfl rfl (take_ofW HT_.out HW_.out (by kernel_rfl)) (fun _ _ _ h => h) (Or.inl ⟨by rfl, ?_⟩) hHeld ?_ ?_
        rotate_left
        · rintro w' ⟨s0, s1, s2, s3, s4, s5, s6, s7⟩
          go_simp
          with_reducible rfl
        rotate_left
        · simp only [Act.put, List.setIfInBounds_toArray, List.set_cons_zero, List.set_cons_succ, i64_w, i32_w]
          rfl
        refine pure_ (i := 8) (N := some 41) (v := ?_) (a' := ?_) #[true, true, true, true, true, true, true, true, true, false, false, false, false, true, false, true, false, true, false, false, false, false, false] rfl rfl (any_of HT_.out (by kernel_rfl)) (fun _ _ _ h => h) (Or.inl ⟨by rfl, ?_⟩) ?_ ?_
        rotate_left
        · intro w'
          go_simp
          with_reducible rfl
        rotate_left
        · simp only [Act.put, List.setIfInBounds_toArray, List.set_cons_zero, List.set_cons_succ, i64_w, i32_w]
          rfl
        refine pure_ (i := 9) (N := some 42) (v := ?_) (a' := ?_) #[true, true, true, true, true, true, true, true, true, true, false, false, false, true, false, true, false, true, false, false, false, false, false] rfl rfl (any_of HT_.out (by kernel_rfl)) (fun _ _ _ h => h) (Or.inl ⟨by rfl, ?_⟩) ?_ ?_
        rotate_left
        · intro w'
          go_simp
          with_reducible rfl
        rotate_left
        · simp only [Act.put, List.setIfInBounds_toArray, List.set_cons_zero, List.set_cons_succ, i64_w, i32_w]
          rfl
        refine take_ (i := 11) (N := some 44) (v := ?_) (a' := ?_) #[true, true, true, true, true, true, true, true, true, true, false, true, false, true, false, true, false, true, false, false, false, false, false] rfl rfl (take_ofW HT_.out HW_.out (by kernel_rfl)) (fun _ _ _ h => h) (Or.inl ⟨by rfl, ?_⟩) hHeld ?_ ?_
        rotate_left
        · rintro w' ⟨s0, s1, s2, s3, s4, s5, s6, s7⟩
          go_simp
          with_reducible rfl
        rotate_left
        · simp only [Act.put, List.setIfInBounds_toArray, List.set_cons_zero, List.set_cons_succ, i64_w, i32_w]
          rfl
        refine take_ (i := 12) (N := some 45) (v := ?_) (a' := ?_) #[true, true, true, true, true, true, true, true, true, true, false, true, true, true, false, true, false, true, false, false, false, false, false] rfl rfl (take_ofW HT_.out HW_.out (by kernel_rfl)) (fun _ _ _ h => h) (Or.inl ⟨by rfl, ?_⟩) hHeld ?_ ?_
        rotate_left
        · rintro w' ⟨s0, s1, s2, s3, s4, s5, s6, s7⟩
          go_simp
          with_reducible rfl
        rotate_left
        · simp only [Act.put, List.setIfInBounds_toArray, List.set_cons_zero, List.set_cons_succ, i64_w, i32_w]
          rfl
        refine take_ (i := 14) (N := some 47) (v := ?_) (a' := ?_) #[true, true, true, true, true, true, true, true, true, true, false, true, true, true, true, true, false, true, false, false, false, false, false] rfl rfl (take_ofW HT_.out HW_.out (by kernel_rfl)) (fun _ _ _ h => h) (Or.inl ⟨by rfl, ?_⟩) hHeld ?_ ?_
        rotate_left
        · rintro w' ⟨s0, s1, s2, s3, s4, s5, s6, s7⟩
          go_simp
          with_reducible rfl
        rotate_left
        · simp only [Act.put, List.setIfInBounds_toArray, List.set_cons_zero, List.set_cons_succ, i64_w, i32_w]
          rfl
        refine pure_ (i := 16) (N := some 49) (v := ?_) (a' := ?_) #[true, true, true, true, true, true, true, true, true, true, false, true, true, true, true, true, true, true, false, false, false, false, false] rfl rfl (any_of HT_.out (by kernel_rfl)) (fun _ _ _ h => h) (Or.inl ⟨by rfl, ?_⟩) ?_ ?_
        rotate_left
        · intro w'
          go_simp
          with_reducible rfl
        rotate_left
        · simp only [Act.put, List.setIfInBounds_toArray, List.set_cons_zero, List.set_cons_succ, i64_w, i32_w]
          rfl
        refine take_ (i := 18) (N := some 51) (v := ?_) (a' := ?_) #[true, true, true, true, true, true, true, true, true, true, false, true, true, true, true, true, true, true, true, false, false, false, false] rfl rfl (take_ofW HT_.out HW_.out (by kernel_rfl)) (fun _ _ _ h => h) (Or.inl ⟨by rfl, ?_⟩) hHeld ?_ ?_
        rotate_left
        · rintro w' ⟨s0, s1, s2, s3, s4, s5, s6, s7⟩
          go_simp
          with_reducible rfl
        rotate_left
        · simp only [Act.put, List.setIfInBounds_toArray, List.set_cons_zero, List.set_cons_succ, i64_w, i32_w]
          rfl
        refine pure_ (i := 19) (N := some 52) (v := ?_) (a' := ?_) #[true, true, true, true, true, true, true, true, true, true, false, true, true, true, true, true, true, true, true, true, false, false, false] rfl rfl (any_of HT_.out (by kernel_rfl)) (fun _ _ _ h => h) (Or.inl ⟨by rfl, ?_⟩) ?_ ?_
        rotate_left
        · intro w'
          go_simp
          with_reducible rfl
        rotate_left
        · simp only [Act.put, List.setIfInBounds_toArray, List.set_cons_zero, List.set_cons_succ, i64_w, i32_w]
          rfl
        refine one_ (i := 10) (N := some 43) #[true, true, true, true, true, true, true, true, true, true, true, true, true, true, true, true, true, true, true, true, false, false, false] rfl rfl (one_of HT_.out (by kernel_rfl)) (by decide) (fun K hK => ?_)
        refine goes_ Tryf.func24 (by kernel_rfl) rfl #[.agg #[.int .u32 a0_0, .int .u32 a0_1, .int .u32 a0_2], .agg #[.int .u32 a1_0, .int .u32 a1_1, .int .u32 a1_2], .agg #[.int .u64 a2_0, .int .u64 (IntKind.u64.wrap (a2_0 + t292))]] (by rfl) rfl rfl (by (try simp only [List.map_toArray, List.map_cons, List.map_nil]); first | done | rfl | (simp only [List.length_drop, List.length_take]; rfl)) ?_
        with_reducible refine (ih k1 (by have := HK1.out; omega) a0_0 a0_1 a0_2 a1_0 a1_1 a1_2 a2_0 (IntKind.u64.wrap (a2_0 + t292)) t293 _ A24.out).mono ?_
        rintro e w28 ⟨v294, rfl, ho0, hb⟩
        refine ⟨_, rfl, ?_⟩
        have n0_ := Aside0.mk (Kd.R_lower ho0 (below_size (by repeat (first | (with_reducible first | exact HB.out | apply below_alloc | apply pw_below_drewN | apply below_drew1 | refine below_set ?_ GE286.out | refine below_set ?_ GE287.out | refine below_set ?_ GE288.out) | exact HB.out))))
        have n1_ := Aside0.mk (blk_below (g := gb286) (o := .cells #[.int .u32 a0_0, .int .u32 a0_1, .int .u32 a0_2] 24 (0, 0)) (by (with_reducible repeat (first | refine blk_drewN ?_ _ | refine blk_drew ?_ | refine blk_alloc ?_ _)); exact BK286.out) hb)
        have n2_ := Aside0.mk (blk_below (g := gb287) (o := .cells #[.int .u32 a1_0, .int .u32 a1_1, .int .u32 a1_2] 24 (0, 0)) (by (with_reducible repeat (first | refine blk_drewN ?_ _ | refine blk_drew ?_ | refine blk_alloc ?_ _)); exact BK287.out) hb)
        have n3_ := Aside0.mk (blk_below (g := gb288) (o := .cells #[.int .u64 a2_0, .int .u64 a2_1] 60 (0, 0)) (by (with_reducible repeat (first | refine blk_drewN ?_ _ | refine blk_drew ?_ | refine blk_alloc ?_ _)); exact BK288.out) hb)
        have n4_ := Aside0.mk (below_step (by repeat (first | (with_reducible first | exact HB.out | apply below_alloc | apply pw_below_drewN | apply below_drew1 | refine below_set ?_ GE286.out | refine below_set ?_ GE287.out | refine below_set ?_ GE288.out) | exact HB.out)) hb)
        clear BK286
        clear BK287
        clear BK288
        clear HB
        have HO295 := n0_
        have BK286 := n1_
        have BK287 := n2_
        have BK288 := n3_
        have HB := n4_
        clear n0_ n1_ n2_ n3_ n4_
        (try clear hb)
        (try clear hb2)
        (try clear hk)
        (try clear hi)
        (try clear ho0)
        refine hK.out _ _ ⟨(blk_cell BK286.out 0).trans rfl, (blk_cell BK286.out 1).trans rfl, (blk_cell BK286.out 2).trans rfl, (blk_cell BK287.out 0).trans rfl, (blk_cell BK287.out 1).trans rfl, (blk_cell BK287.out 2).trans rfl, (blk_cell BK288.out 0).trans rfl, (blk_cell BK288.out 1).trans rfl⟩ (fun hHeld => ?_)
        clear hK K
        refine norm_ (a' := ?_) ?_ ?_
        rotate_left
        · show Act.put _ (some 43) _ = _
          simp only [Act.put, List.setIfInBounds_toArray, List.set_cons_zero, List.set_cons_succ, i64_w, i32_w]
          rfl
        refine one_ (i := 20) (N := some 53) #[true, true, true, true, true, true, true, true, true, true, true, true, true, true, true, true, true, true, true, true, true, false, false] rfl rfl (one_of HT_.out (by kernel_rfl)) (by decide) (fun K hK => ?_)
        refine goes_ Tryf.func24 (by kernel_rfl) rfl #[.agg #[.int .u32 a0_0, .int .u32 a0_1, .int .u32 a0_2], .agg #[.int .u32 a1_0, .int .u32 a1_1, .int .u32 a1_2], .agg #[.int .u64 (IntKind.u64.wrap (a2_0 + t292)), .int .u64 a2_1]] (by rfl) rfl rfl (by (try simp only [List.map_toArray, List.map_cons, List.map_nil]); first | done | rfl | (simp only [List.length_drop, List.length_take]; rfl)) ?_
        with_reducible refine (ih k1 (by have := HK1.out; omega) a0_0 a0_1 a0_2 a1_0 a1_1 a1_2 (IntKind.u64.wrap (a2_0 + t292)) a2_1 t296 _ A25.out).mono ?_
        rintro e w29 ⟨v297, rfl, ho0, hb⟩
        refine ⟨_, rfl, ?_⟩
        have n0_ := Aside0.mk (Kd.R_elder' (by (with_reducible repeat (first | apply Kd.R_alloc | apply Kd.R_drewN | apply Kd.R_drew)); exact HO295.out) (Kd.R_base ho0) hb)
        have n1_ := Aside0.mk (Kd.R_lower (Kd.R_new' ho0 (Kd.R_lt (by (with_reducible repeat (first | apply Kd.R_alloc | apply Kd.R_drewN | apply Kd.R_drew)); exact HO295.out))) (below_size (by repeat (first | (with_reducible first | exact HB.out | apply below_alloc | apply pw_below_drewN | apply below_drew1 | refine below_set ?_ GE286.out | refine below_set ?_ GE287.out | refine below_set ?_ GE288.out) | exact HB.out))))
        have n2_ := Aside0.mk (blk_below (g := gb286) (o := .cells #[.int .u32 a0_0, .int .u32 a0_1, .int .u32 a0_2] 24 (0, 0)) (by (with_reducible repeat (first | refine blk_drewN ?_ _ | refine blk_drew ?_ | refine blk_alloc ?_ _)); exact BK286.out) hb)
        have n3_ := Aside0.mk (blk_below (g := gb287) (o := .cells #[.int .u32 a1_0, .int .u32 a1_1, .int .u32 a1_2] 24 (0, 0)) (by (with_reducible repeat (first | refine blk_drewN ?_ _ | refine blk_drew ?_ | refine blk_alloc ?_ _)); exact BK287.out) hb)
        have n4_ := Aside0.mk (blk_below (g := gb288) (o := .cells #[.int .u64 a2_0, .int .u64 a2_1] 60 (0, 0)) (by (with_reducible repeat (first | refine blk_drewN ?_ _ | refine blk_drew ?_ | refine blk_alloc ?_ _)); exact BK288.out) hb)
        have n5_ := Aside0.mk (below_step (by repeat (first | (with_reducible first | exact HB.out | apply below_alloc | apply pw_below_drewN | apply below_drew1 | refine below_set ?_ GE286.out | refine below_set ?_ GE287.out | refine below_set ?_ GE288.out) | exact HB.out)) hb)
        clear HO295
        clear BK286
        clear BK287
        clear BK288
        clear HB
        have HO295 := n0_
        have HO298 := n1_
        have BK286 := n2_
        have BK287 := n3_
        have BK288 := n4_
        have HB := n5_
        clear n0_ n1_ n2_ n3_ n4_ n5_
        (try clear hb)
        (try clear hb2)
        (try clear hk)
        (try clear hi)
        (try clear ho0)
        obtain ⟨Ao30, co30, eo30⟩ := Kd.R_slice HO295.out
        (first | subst eo30 | (injection eo30 with f1_ f2_ f3_; have f4_ := f1_.symm; have f5_ := f3_.symm; clear f1_ f2_ f3_; subst f4_; subst f5_))
        obtain ⟨Ao31, co31, eo31⟩ := Kd.R_slice HO298.out
        (first | subst eo31 | (injection eo31 with f1_ f2_ f3_; have f4_ := f1_.symm; have f5_ := f3_.symm; clear f1_ f2_ f3_; subst f4_; subst f5_))
        refine hK.out _ _ ⟨(blk_cell BK286.out 0).trans rfl, (blk_cell BK286.out 1).trans rfl, (blk_cell BK286.out 2).trans rfl, (blk_cell BK287.out 0).trans rfl, (blk_cell BK287.out 1).trans rfl, (blk_cell BK287.out 2).trans rfl, (blk_cell BK288.out 0).trans rfl, (blk_cell BK288.out 1).trans rfl⟩ (fun hHeld => ?_)
        clear hK K
        refine norm_ (a' := ?_) ?_ ?_
        rotate_left
        · show Act.put _ (some 53) _ = _
          simp only [Act.put, List.setIfInBounds_toArray, List.set_cons_zero, List.set_cons_succ, i64_w, i32_w]
          rfl
        refine one_ (i := 21) (N := some 54) #[true, true, true, true, true, true, true, true, true, true, true, true, true, true, true, true, true, true, true, true, true, true, false] rfl rfl (one_of HT_.out (by kernel_rfl)) (by decide) (fun K hK => ?_)
        refine goes_ Tryf.func36 (by kernel_rfl) rfl #[.agg #[.int .u32 a0_0, .int .u32 a0_1, .int .u32 a0_2], .slice Ao30 t293.length co30, .slice Ao31 t296.length co31] (by rfl) rfl rfl (by (try simp only [List.map_toArray, List.map_cons, List.map_nil]); first | done | rfl | (simp only [List.length_drop, List.length_take]; rfl)) ?_
        with_reducible refine (impl_Hash_HashChildren.calls k1 a0_0 a0_1 a0_2 _ _ t293 _ _ t296 t299 _ ?side1 ?side2 ?side3 ?side4 A26.out).mono ?_
        (case side1 => repeat (first | exact (Kd.R_reads' HO295.out).2.2 | (with_reducible refine Kd.C_alloc ?_ _) | (with_reducible refine Kd.C_drewN ?_ _) | (with_reducible refine Kd.C_drew ?_)))
        (case side2 => exact (Kd.R_reads' HO295.out).2.1)
        (case side3 => repeat (first | exact (Kd.R_reads' HO298.out).2.2 | (with_reducible refine Kd.C_alloc ?_ _) | (with_reducible refine Kd.C_drewN ?_ _) | (with_reducible refine Kd.C_drew ?_)))
        (case side4 => exact (Kd.R_reads' HO298.out).2.1)
        rintro e w32 ⟨v300, rfl, ho0, hb⟩
        refine ⟨_, rfl, ?_⟩
        have n0_ := Aside0.mk (Kd.R_elder' (by (with_reducible repeat (first | apply Kd.R_alloc | apply Kd.R_drewN | apply Kd.R_drew)); exact HO295.out) (Kd.R_base ho0) hb)
        have n1_ := Aside0.mk (Kd.R_elder' (by (with_reducible repeat (first | apply Kd.R_alloc | apply Kd.R_drewN | apply Kd.R_drew)); exact HO298.out) (Kd.R_base ho0) hb)
        have n2_ := Aside0.mk (Kd.R_lower (Kd.R_new' (Kd.R_new' ho0 (Kd.R_lt (by (with_reducible repeat (first | apply Kd.R_alloc | apply Kd.R_drewN | apply Kd.R_drew)); exact HO295.out))) (Kd.R_lt (by (with_reducible repeat (first | apply Kd.R_alloc | apply Kd.R_drewN | apply Kd.R_drew)); exact HO298.out))) (below_size (by repeat (first | (with_reducible first | exact HB.out | apply below_alloc | apply pw_below_drewN | apply below_drew1 | refine below_set ?_ GE286.out | refine below_set ?_ GE287.out | refine below_set ?_ GE288.out) | exact HB.out))))
        have n3_ := Aside0.mk (blk_below (g := gb286) (o := .cells #[.int .u32 a0_0, .int .u32 a0_1, .int .u32 a0_2] 24 (0, 0)) (by (with_reducible repeat (first | refine blk_drewN ?_ _ | refine blk_drew ?_ | refine blk_alloc ?_ _)); exact BK286.out) hb)
        have n4_ := Aside0.mk (blk_below (g := gb287) (o := .cells #[.int .u32 a1_0, .int .u32 a1_1, .int .u32 a1_2] 24 (0, 0)) (by (with_reducible repeat (first | refine blk_drewN ?_ _ | refine blk_drew ?_ | refine blk_alloc ?_ _)); exact BK287.out) hb)
        have n5_ := Aside0.mk (blk_below (g := gb288) (o := .cells #[.int .u64 a2_0, .int .u64 a2_1] 60 (0, 0)) (by (with_reducible repeat (first | refine blk_drewN ?_ _ | refine blk_drew ?_ | refine blk_alloc ?_ _)); exact BK288.out) hb)
        have n6_ := Aside0.mk (below_step (by repeat (first | (with_reducible first | exact HB.out | apply below_alloc | apply pw_below_drewN | apply below_drew1 | refine below_set ?_ GE286.out | refine below_set ?_ GE287.out | refine below_set ?_ GE288.out) | exact HB.out)) hb)
        clear HO295
        clear HO298
        clear BK286
        clear BK287
        clear BK288
        clear HB
        have HO295 := n0_
        have HO298 := n1_
        have HO301 := n2_
        have BK286 := n3_
        have BK287 := n4_
        have BK288 := n5_
        have HB := n6_
        clear n0_ n1_ n2_ n3_ n4_ n5_ n6_
        (try clear hb)
        (try clear hb2)
        (try clear hk)
        (try clear hi)
        (try clear ho0)
        refine hK.out _ _ ⟨(blk_cell BK286.out 0).trans rfl, (blk_cell BK286.out 1).trans rfl, (blk_cell BK286.out 2).trans rfl, (blk_cell BK287.out 0).trans rfl, (blk_cell BK287.out 1).trans rfl, (blk_cell BK287.out 2).trans rfl, (blk_cell BK288.out 0).trans rfl, (blk_cell BK288.out 1).trans rfl⟩ (fun hHeld => ?_)
        clear hK K
        refine norm_ (a' := ?_) ?_ ?_
        rotate_left
        · show Act.put _ (some 54) _ = _
          simp only [Act.put, List.setIfInBounds_toArray, List.set_cons_zero, List.set_cons_succ, i64_w, i32_w]
          rfl
        refine pure_ (i := 22) (N := some 6) (v := ?_) (a' := ?_) #[true, true, true, true, true, true, true, true, true, true, true, true, true, true, true, true, true, true, true, true, true, true, true] rfl rfl (any_of HT_.out (by kernel_rfl)) (fun _ _ _ h => h) (Or.inl ⟨by rfl, ?_⟩) ?_ ?_
        rotate_left
        · intro w'
          go_simp
          with_reducible rfl
        rotate_left
        · simp only [Act.put, List.setIfInBounds_toArray, List.set_cons_zero, List.set_cons_succ, i64_w, i32_w]
          rfl
        refine done_ (done_of HT_.out (by kernel_rfl)) ?_
        try go_wp2
        go_ret
        exact ⟨_, by first | rfl | (simp [errW_none, errW_some] <;> rfl) | (simp [*, errW_none, errW_some] <;> rfl), by (with_reducible repeat (first | apply Kd.R_alloc | apply Kd.R_drewN | apply Kd.R_drew)); exact Kd.R_mono HO301.out (fun _ hk => trivial), by repeat (first | (with_reducible first | exact HB.out | apply below_alloc | apply pw_below_drewN | apply below_drew1 | refine below_set ?_ GE286.out | refine below_set ?_ GE287.out | refine below_set ?_ GE288.out) | exact HB.out)⟩
def spec_SpanHashes.l0 : Nat → List (List Int) → List (S60) → Int → Int → Int → Int → Int → Int → Int → Int → Option ((List (List Int)))
  | 0, _, _, _, _, _, _, _, _, _, _ => none
  | k + 1, x7, x11, x12, x13, x303000, x303001, x303002, x304000, x304001, x304002 => if x13 < x12 then (if 0 ≤ x13 then (if x13 < (x11.length : Int) then ((spec_SpanHash.f k x303000 x303001 x303002 x304000 x304001 x304002 ((rd_T60 x11 x13).f0) ((rd_T60 x11 x13).f1)).bind fun t309 => (if x7.length < 5864062014805 then (spec_SpanHashes.l0 k (x7 ++ [t309]) x11 x12 (wrap64 (x13 + 1)) x303000 x303001 x303002 x304000 x304001 x304002) else (none))) else (none)) else (none)) else (some x7)
def spec_SpanHashes.f (k : Nat) (a0_0 : Int) (a0_1 : Int) (a0_2 : Int) (a1_0 : Int) (a1_1 : Int) (a1_2 : Int) (l2 : List (S60)) : Option ((List (List Int))) := spec_SpanHashes.l0 k (([] : List (List Int))) l2 (l2.length : Int) 0 a0_0 a0_1 a0_2 a1_0 a1_1 a1_2
theorem spec_SpanHashes.mono_l : ∀ k, (∀ y0 y1 y2 y3 y4 y5 y6 y7 y8 y9, LeO (spec_SpanHashes.l0 k y0 y1 y2 y3 y4 y5 y6 y7 y8 y9) (spec_SpanHashes.l0 (k + 1) y0 y1 y2 y3 y4 y5 y6 y7 y8 y9))
  | 0 => fun _ _ _ _ _ _ _ _ _ _ r h => by simp [spec_SpanHashes.l0] at h
  | k + 1 => by
    have ih0 := spec_SpanHashes.mono_l k
    · intro y0 y1 y2 y3 y4 y5 y6 y7 y8 y9
      unfold spec_SpanHashes.l0
      repeat' first
      | (with_reducible exact ih0 _ _ _ _ _ _ _ _ _ _)
      | (with_reducible exact spec_SpanHash.mono _ _ _ _ _ _ _ _ _)
      | (with_reducible exact LeO.refl _)
      | (with_reducible exact LeO.none _)
      | (with_reducible refine LeO.ite ?_ ?_)
      | (with_reducible refine LeO.bind ?_ (fun _ => ?_))
      | exact ih0 _ _ _ _ _ _ _ _ _ _
      | exact spec_SpanHash.mono _ _ _ _ _ _ _ _ _
      | exact LeO.none _
      | refine LeO.ite ?_ ?_
      | refine LeO.bind ?_ (fun _ => ?_)
theorem spec_SpanHashes.mono : ∀ a0 a1 a2 a3 a4 a5 a6 k, LeO (spec_SpanHashes.f k a0 a1 a2 a3 a4 a5 a6) (spec_SpanHashes.f (k + 1) a0 a1 a2 a3 a4 a5 a6) := by
  intro a0 a1 a2 a3 a4 a5 a6 k
  have ih0 := spec_SpanHashes.mono_l k
  unfold spec_SpanHashes.f
  repeat' first
      | (with_reducible exact ih0 _ _ _ _ _ _ _ _ _ _)
      | (with_reducible exact spec_SpanHash.mono _ _ _ _ _ _ _ _ _)
      | (with_reducible exact LeO.refl _)
      | (with_reducible exact LeO.none _)
      | (with_reducible refine LeO.ite ?_ ?_)
      | (with_reducible refine LeO.bind ?_ (fun _ => ?_))
      | exact ih0 _ _ _ _ _ _ _ _ _ _
      | exact spec_SpanHash.mono _ _ _ _ _ _ _ _ _
      | exact LeO.none _
      | refine LeO.ite ?_ ?_
      | refine LeO.bind ?_ (fun _ => ?_)
set_option maxHeartbeats 8000000 in
set_option maxRecDepth 100000 in
theorem spec_SpanHashes.calls (k : Nat) (a0_0 : Int) (a0_1 : Int) (a0_2 : Int) (a1_0 : Int) (a1_1 : Int) (a1_2 : Int) (A2 : Option Addr) (c2 : Nat) (l2 : List (S60)) (r : List (List Int)) (w : World) (hr2 : Kd.C k60 w A2 l2.length l2) (hc2 : l2.length ≤ c2) (h : spec_SpanHashes.f k a0_0 a0_1 a0_2 a1_0 a1_1 a1_2 l2 = some r) :
    Calls Tryf.prog 15 #[.agg #[.int .u32 a0_0, .int .u32 a0_1, .int .u32 a0_2], .agg #[.int .u32 a1_0, .int .u32 a1_1, .int .u32 a1_2], .slice A2 l2.length c2] w fun e w' => ∃ v0_ : Value, e = .returned (v0_) ∧ Kd.S (Kd.slice 5 (Kd.int .u8)) 26 w' w.heap.size (fun _ => True) v0_ r ∧ Below w.heap.size w w' := by
  have hu24 := Tryf.underlying24
  have hu60 := Tryf.underlying60
  have HR2 := Aside0.mk hr2
  have HC2 := Aside0.mk hc2
  clear hr2 hc2
  have HB := Aside0.mk (Below.refl w.heap.size w)
  have H : (spec_SpanHashes.l0 k (([] : List (List Int))) l2 (l2.length : Int) 0 a0_0 a0_1 a0_2 a1_0 a1_1 a1_2) = some r := h
  clear h
  obtain ⟨y304, hy304⟩ : ∃ y_ : List (List Int), y_ = (([] : List (List Int))) := ⟨_, rfl⟩
  replace H : (spec_SpanHashes.l0 k y304 l2 (l2.length : Int) 0 a0_0 a0_1 a0_2 a1_0 a1_1 a1_2) = some r := by first | (rw [hy304]; with_reducible exact H) | (have H2_ := (Option.bind_some _ _).symm.trans H; rw [hy304]; with_reducible exact H2_) | (have H2_ := (Option.bind_some _ _).symm.trans H; with_reducible exact H2_) | with_reducible exact H | (rw [hy304]; exact H) | exact H
  have Ny304 := Aside0.mk hy304
  clear hy304
  have H' := Aside0.mk H
  clear H
  go_enter Tryf.func15, Tryf.ntmps15
  go_wp2_with (first | ((with_reducible refine gate_dst (N := 3) rfl ?_); refine box_event ?hg (N := 3) ?hd (cs := #[.int .u32 a0_0, .int .u32 a0_1, .int .u32 a0_2]) (t := 24) ?hr ?_; (case hd => rfl); (case hg => rfl); (case hr => first | (go_simp; done) | (go_simp; rfl)); intro gb302 hg w4 hbox hb; have n0_ := Aside0.mk (below_step (by repeat (first | (with_reducible first | exact HB.out | apply below_alloc | apply pw_below_drewN | apply below_drew1) | exact HB.out)) hb); have n1_ := Aside0.mk (hbox); have n2_ := Aside0.mk ((by rw [hg]; exact (below_size (by repeat (first | (with_reducible first | exact HB.out | apply below_alloc | apply pw_below_drewN | apply below_drew1) | exact HB.out))) : w.heap.size ≤ gb302)); have n3_ := Aside0.mk ((by rw [hg]; exact (below_size (by repeat (first | (with_reducible first | exact HB.out | apply below_alloc | apply pw_below_drewN | apply below_drew1) | exact HB.out))) : w.heap.size ≤ gb302)); clear HB; have HB := n0_; have BK302 := n1_; have GW302 := n2_; have GE302 := n3_; clear n0_ n1_ n2_ n3_; clear hb hbox hg) | ((with_reducible refine gate_dst (N := 4) rfl ?_); refine box_event ?hg (N := 4) ?hd (cs := #[.int .u32 a1_0, .int .u32 a1_1, .int .u32 a1_2]) (t := 24) ?hr ?_; (case hd => rfl); (case hg => rfl); (case hr => first | (go_simp; done) | (go_simp; rfl)); intro gb303 hg w5 hbox hb; have n0_ := Aside0.mk (blk_below (g := gb302) (o := .cells #[.int .u32 a0_0, .int .u32 a0_1, .int .u32 a0_2] 24 (0, 0)) (by (with_reducible repeat (first | refine blk_drewN ?_ _ | refine blk_drew ?_ | refine blk_alloc ?_ _)); exact BK302.out) hb); have n1_ := Aside0.mk (below_step (by repeat (first | (with_reducible first | exact HB.out | apply below_alloc | apply pw_below_drewN | apply below_drew1 | refine below_set ?_ GE302.out) | exact HB.out)) hb); have n2_ := Aside0.mk (hbox); have n3_ := Aside0.mk ((by rw [hg]; exact (below_size (by repeat (first | (with_reducible first | exact HB.out | apply below_alloc | apply pw_below_drewN | apply below_drew1 | refine below_set ?_ GE302.out) | exact HB.out))) : w.heap.size ≤ gb303)); have n4_ := Aside0.mk ((by rw [hg]; exact (below_size (by repeat (first | (with_reducible first | exact HB.out | apply below_alloc | apply pw_below_drewN | apply below_drew1 | refine below_set ?_ GE302.out) | exact HB.out))) : w.heap.size ≤ gb303)); have n5_ := Aside0.mk ((by rw [hg]; exact Nat.ne_of_lt (blk_lt (g := gb302) (o := .cells #[.int .u32 a0_0, .int .u32 a0_1, .int .u32 a0_2] 24 (0, 0)) (by (with_reducible repeat (first | refine blk_drewN ?_ _ | refine blk_drew ?_ | refine blk_alloc ?_ _)); exact BK302.out)) : gb302 ≠ gb303)); have n6_ := Aside0.mk ((by rw [hg]; exact Nat.ne_of_gt (blk_lt (g := gb302) (o := .cells #[.int .u32 a0_0, .int .u32 a0_1, .int .u32 a0_2] 24 (0, 0)) (by (with_reducible repeat (first | refine blk_drewN ?_ _ | refine blk_drew ?_ | refine blk_alloc ?_ _)); exact BK302.out)) : gb303 ≠ gb302)); clear BK302; clear HB; have BK302 := n0_; have HB := n1_; have BK303 := n2_; have GW303 := n3_; have GE303 := n4_; have NB302_303 := n5_; have NB303_302 := n6_; clear n0_ n1_ n2_ n3_ n4_ n5_ n6_; clear hb hbox hg) | ((with_reducible refine gate_dst (N := 10) rfl ?_); refine Kd.S_lit (Kd.slice 5 (Kd.int .u8)) _ 26 ?hg (N := 10) ?hd (xs := ([] : List (List Int))) (inner := []) (ok := fun _ => True) (okp := fun _ => True) ?hr ?hp (fun _ hk => hk) trivial (Below.refl _ _) (Nat.le_refl _) (by simp) ?_; (case hd => rfl); (case hg => rfl); (case hr => first | (go_simp; done) | (go_simp; rfl)); (case hp => exact (Reps.none _ _)); intro v305 w6 ho7 hb hg_ hnew_; clear hg_ hnew_; (first | rw [← Ny304.out] at ho7 | (simp only [Int.reduceToNat] at ho7; rw [← Ny304.out] at ho7)); have n0_ := Aside0.mk (Kd.S_lower ho7 (below_size (by repeat (first | (with_reducible first | exact HB.out | apply below_alloc | apply pw_below_drewN | apply below_drew1 | refine below_set ?_ GE302.out | refine below_set ?_ GE303.out) | exact HB.out)))); have n1_ := Aside0.mk (blk_below (g := gb302) (o := .cells #[.int .u32 a0_0, .int .u32 a0_1, .int .u32 a0_2] 24 (0, 0)) (by (with_reducible repeat (first | refine blk_drewN ?_ _ | refine blk_drew ?_ | refine blk_alloc ?_ _)); exact BK302.out) hb); have n2_ := Aside0.mk (blk_below (g := gb303) (o := .cells #[.int .u32 a1_0, .int .u32 a1_1, .int .u32 a1_2] 24 (0, 0)) (by (with_reducible repeat (first | refine blk_drewN ?_ _ | refine blk_drew ?_ | refine blk_alloc ?_ _)); exact BK303.out) hb); have n3_ := Aside0.mk (below_step (by repeat (first | (with_reducible first | exact HB.out | apply below_alloc | apply pw_below_drewN | apply below_drew1 | refine below_set ?_ GE302.out | refine below_set ?_ GE303.out) | exact HB.out)) hb); clear BK302; clear BK303; clear HB; have HO306 := n0_; have BK302 := n1_; have BK303 := n2_; have HB := n3_; clear n0_ n1_ n2_ n3_; clear hb ho7))
  go_loopg [7, 13] k (fun kq v7 v13 w' => ∃ (x7_1 : List (List Int)) (x13_1 : Int), v13 = .int .i64 x13_1 ∧ Aside0 (spec_SpanHashes.l0 kq x7_1 l2 (l2.length : Int) x13_1 a0_0 a0_1 a0_2 a1_0 a1_1 a1_2 = some r) ∧ Aside0 (kq ≤ k) ∧ Aside0 (Kd.S (Kd.slice 5 (Kd.int .u8)) 26 w' w.heap.size (fun _ => True) v7 x7_1) ∧ Aside0 (w'.heap[gb302]? = some (.cells #[.int .u32 a0_0, .int .u32 a0_1, .int .u32 a0_2] 24 (0, 0))) ∧ Aside0 (w'.heap[gb303]? = some (.cells #[.int .u32 a1_0, .int .u32 a1_1, .int .u32 a1_2] 24 (0, 0))) ∧ Aside0 (Below w.heap.size w w'))
  case atStart => exact ⟨(y304), (0), (by first | rfl | (simp; done) | (simp [*]; done)), H', ⟨Nat.le_refl _⟩, ⟨by (with_reducible repeat (first | apply Kd.S_alloc | apply Kd.S_drewN | apply Kd.S_drew)); exact HO306.out⟩, ⟨by (with_reducible repeat (first | refine blk_drewN ?_ _ | refine blk_drew ?_ | refine blk_alloc ?_ _)); exact BK302.out⟩, ⟨by (with_reducible repeat (first | refine blk_drewN ?_ _ | refine blk_drew ?_ | refine blk_alloc ?_ _)); exact BK303.out⟩, ⟨by repeat (first | (with_reducible first | exact HB.out | apply below_alloc | apply pw_below_drewN | apply below_drew1 | refine below_set ?_ GE302.out | refine below_set ?_ GE303.out) | exact HB.out)⟩⟩
  case round =>
    clear H'
    try clear c1
    try clear c2
    try clear p2
    obtain ⟨x7_1, x13_1, rfl, HA, HK1, HO_7, BK302, BK303, HB⟩ := hrel
    cases gk with
    | zero => exact absurd HA.out (by simp [spec_SpanHashes.l0])
    | succ k1 =>
      have H := HA.out
      clear HA
      simp only [spec_SpanHashes.l0] at H
      by_cases c8 : x13_1 < (l2.length : Int)
      · rw [if_pos c8] at H
        have c8b0 : decide (x13_1 < (l2.length : Int)) = true := decide_eq_true c8
        clear c8
        by_cases c9 : 0 ≤ x13_1
        · rw [if_pos c9] at H
          have c9b0 : decide (0 ≤ x13_1) = true := decide_eq_true c9
          clear c9
          by_cases c10 : x13_1 < (l2.length : Int)
          · rw [if_pos c10] at H
            have c10b0 : decide (x13_1 < (l2.length : Int)) = true := decide_eq_true c10
            clear c10
            replace H := Option.bind_eq_some_iff.mp H
            obtain ⟨t309, A110, H⟩ := H
            replace H : (if x7_1.length < 5864062014805 then (spec_SpanHashes.l0 k1 (x7_1 ++ [t309]) l2 (l2.length : Int) (wrap64 (x13_1 + 1)) a0_0 a0_1 a0_2 a1_0 a1_1 a1_2) else (none)) = some r := H
            have A11 := Aside0.mk A110
            clear A110
            by_cases c12 : x7_1.length < 5864062014805
            · rw [if_pos c12] at H
              have LMc12 := Aside0.mk c12
              clear c12
              obtain ⟨y312, hy312⟩ : ∃ y_ : List (List Int), y_ = (x7_1 ++ [t309]) := ⟨_, rfl⟩
              replace H : (spec_SpanHashes.l0 k1 y312 l2 (l2.length : Int) (wrap64 (x13_1 + 1)) a0_0 a0_1 a0_2 a1_0 a1_1 a1_2) = some r := by first | (rw [hy312]; with_reducible exact H) | (have H2_ := (Option.bind_some _ _).symm.trans H; rw [hy312]; with_reducible exact H2_) | (have H2_ := (Option.bind_some _ _).symm.trans H; with_reducible exact H2_) | with_reducible exact H | (rw [hy312]; exact H) | exact H
              have Ny312 := Aside0.mk hy312
              clear hy312
              have H' := Aside0.mk H
              clear H
              have p307 : 0 ≤ (x13_1 : Int) := of_decide_eq_true (by first | (with_reducible assumption) | assumption)
              have q307 : x13_1 < (l2.length : Int) := of_decide_eq_true (by first | (with_reducible assumption) | assumption)
              obtain ⟨ad307, e307, hx307_0, hx307_1⟩ := at_T60 HR2.out x13_1 p307 q307
              cases e307
              replace hx307_0 := (HB.out.cell (World.block_lt_of_cell? w _ hx307_0)).trans hx307_0
              replace hx307_1 := (HB.out.cell (World.block_lt_of_cell? w _ hx307_1)).trans hx307_1
              replace p307 := eq_true p307
              replace q307 := eq_true q307
              go_wp2_with (first | ((with_reducible refine gate_dst (N := 9) rfl ?_); refine box_event ?hg (N := 9) ?hd (cs := #[.int .u64 0, .int .u64 0]) (t := 60) ?hr ?_; (case hd => rfl); (case hg => rfl); (case hr => first | (go_simp; done) | (go_simp; rfl)); intro gb308 hg w13 hbox hb; have n0_ := Aside0.mk (Kd.S_below (by (with_reducible repeat (first | apply Kd.S_alloc | apply Kd.S_drewN | apply Kd.S_drew)); exact HO_7.out) hb); have n1_ := Aside0.mk (blk_below (g := gb302) (o := .cells #[.int .u32 a0_0, .int .u32 a0_1, .int .u32 a0_2] 24 (0, 0)) (by (with_reducible repeat (first | refine blk_drewN ?_ _ | refine blk_drew ?_ | refine blk_alloc ?_ _)); exact BK302.out) hb); have n2_ := Aside0.mk (blk_below (g := gb303) (o := .cells #[.int .u32 a1_0, .int .u32 a1_1, .int .u32 a1_2] 24 (0, 0)) (by (with_reducible repeat (first | refine blk_drewN ?_ _ | refine blk_drew ?_ | refine blk_alloc ?_ _)); exact BK303.out) hb); have n3_ := Aside0.mk (below_step (by repeat (first | (with_reducible first | exact HB.out | apply below_alloc | apply pw_below_drewN | apply below_drew1 | refine below_set ?_ GE302.out | refine below_set ?_ GE303.out) | exact HB.out)) hb); have n4_ := Aside0.mk (hbox); have n5_ := Aside0.mk ((by rw [hg]; exact (below_size (by repeat (first | (with_reducible first | exact HB.out | apply below_alloc | apply pw_below_drewN | apply below_drew1 | refine below_set ?_ GE302.out | refine below_set ?_ GE303.out) | exact HB.out))) : w.heap.size ≤ gb308)); have n6_ := Aside0.mk ((by rw [hg]; exact (below_size (by repeat (first | (with_reducible first | exact HB.out | apply below_alloc | apply pw_below_drewN | apply below_drew1 | refine below_set ?_ GE302.out | refine below_set ?_ GE303.out) | exact HB.out))) : w.heap.size ≤ gb308)); have n7_ := Aside0.mk ((by rw [hg]; exact Nat.ne_of_lt (blk_lt (g := gb302) (o := .cells #[.int .u32 a0_0, .int .u32 a0_1, .int .u32 a0_2] 24 (0, 0)) (by (with_reducible repeat (first | refine blk_drewN ?_ _ | refine blk_drew ?_ | refine blk_alloc ?_ _)); exact BK302.out)) : gb302 ≠ gb308)); have n8_ := Aside0.mk ((by rw [hg]; exact Nat.ne_of_gt (blk_lt (g := gb302) (o := .cells #[.int .u32 a0_0, .int .u32 a0_1, .int .u32 a0_2] 24 (0, 0)) (by (with_reducible repeat (first | refine blk_drewN ?_ _ | refine blk_drew ?_ | refine blk_alloc ?_ _)); exact BK302.out)) : gb308 ≠ gb302)); have n9_ := Aside0.mk ((by rw [hg]; exact Nat.ne_of_lt (blk_lt (g := gb303) (o := .cells #[.int .u32 a1_0, .int .u32 a1_1, .int .u32 a1_2] 24 (0, 0)) (by (with_reducible repeat (first | refine blk_drewN ?_ _ | refine blk_drew ?_ | refine blk_alloc ?_ _)); exact BK303.out)) : gb303 ≠ gb308)); have n10_ := Aside0.mk ((by rw [hg]; exact Nat.ne_of_gt (blk_lt (g := gb303) (o := .cells #[.int .u32 a1_0, .int .u32 a1_1, .int .u32 a1_2] 24 (0, 0)) (by (with_reducible repeat (first | refine blk_drewN ?_ _ | refine blk_drew ?_ | refine blk_alloc ?_ _)); exact BK303.out)) : gb308 ≠ gb303)); clear HO_7; clear BK302; clear BK303; clear HB; have HO_7 := n0_; have BK302 := n1_; have BK303 := n2_; have HB := n3_; have BK308 := n4_; have GW308 := n5_; have GE308 := n6_; have NB302_308 := n7_; have NB308_302 := n8_; have NB303_308 := n9_; have NB308_303 := n10_; clear n0_ n1_ n2_ n3_ n4_ n5_ n6_ n7_ n8_ n9_ n10_; clear hb hbox hg; have hnb14 := NB308_302.out; have hnc14 := NB302_308.out; have hnb15 := NB308_303.out; have hnc15 := NB303_308.out; have hcz16_0 : w13.cell? ⟨gb308, 0, none⟩ = some (.int .u64 0) := (blk_cell BK308.out 0).trans rfl; have hcz16_1 : w13.cell? ⟨gb308, 1, none⟩ = some (.int .u64 0) := (blk_cell BK308.out 1).trans rfl; have hfz16_0 := blk_frozen BK308.out 0; have hfz16_1 := blk_frozen BK308.out 1; have hnb17 := NB302_303.out; have hnc17 := NB303_302.out; have hcz18_0 : w13.cell? ⟨gb302, 0, none⟩ = some (.int .u32 a0_0) := (blk_cell BK302.out 0).trans rfl; have hcz18_1 : w13.cell? ⟨gb302, 1, none⟩ = some (.int .u32 a0_1) := (blk_cell BK302.out 1).trans rfl; have hcz18_2 : w13.cell? ⟨gb302, 2, none⟩ = some (.int .u32 a0_2) := (blk_cell BK302.out 2).trans rfl; have hfz18_0 := blk_frozen BK302.out 0; have hfz18_1 := blk_frozen BK302.out 1; have hfz18_2 := blk_frozen BK302.out 2; have hcz19_0 : w13.cell? ⟨gb303, 0, none⟩ = some (.int .u32 a1_0) := (blk_cell BK303.out 0).trans rfl; have hcz19_1 : w13.cell? ⟨gb303, 1, none⟩ = some (.int .u32 a1_1) := (blk_cell BK303.out 1).trans rfl; have hcz19_2 : w13.cell? ⟨gb303, 2, none⟩ = some (.int .u32 a1_2) := (blk_cell BK303.out 2).trans rfl; have hfz19_0 := blk_frozen BK303.out 0; have hfz19_1 := blk_frozen BK303.out 1; have hfz19_2 := blk_frozen BK303.out 2) | ((with_reducible refine gate_callee (f := 24) rfl ?_); refine goesL_ (some 21) rfl rfl Tryf.func24 (by kernel_rfl) rfl #[.agg #[.int .u32 a0_0, .int .u32 a0_1, .int .u32 a0_2], .agg #[.int .u32 a1_0, .int .u32 a1_1, .int .u32 a1_2], .agg #[.int .u64 ((rd_T60 l2 x13_1).f0), .int .u64 ((rd_T60 l2 x13_1).f1)]] rfl (by (try simp only [List.map_toArray, List.map_cons, List.map_nil]); first | done | rfl | (simp only [List.length_drop, List.length_take]; rfl)) ?_; (with_reducible refine (spec_SpanHash.calls k1 a0_0 a0_1 a0_2 a1_0 a1_1 a1_2 ((rd_T60 l2 x13_1).f0) ((rd_T60 l2 x13_1).f1) t309 _ A11.out).mono ?_); rintro e w20 ⟨v310, rfl, ho0, hb⟩; refine ⟨_, rfl, ?_⟩; have n0_ := Aside0.mk (Kd.S_elder' (by (with_reducible repeat (first | apply Kd.S_alloc | apply Kd.S_drewN | apply Kd.S_drew)); exact (Kd.S_mono (Kd.S_far (p := ⟨gb308, 1, none⟩) (Kd.S_far (p := ⟨gb308, 0, none⟩) (Kd.S_types HO_7.out BK308.out (by decide)) (fun _ hk => hk.2) (.int .u64 ((rd_T60 l2 x13_1).f0))) (fun _ hk => hk.2) (.int .u64 ((rd_T60 l2 x13_1).f1))) (fun _ h_ => h_.1))) (Kd.R_base ho0) hb); have n1_ := Aside0.mk (Kd.R_lower ho0 (below_size (by repeat (first | (with_reducible first | exact HB.out | apply below_alloc | apply pw_below_drewN | apply below_drew1 | refine below_set ?_ GE302.out | refine below_set ?_ GE303.out | refine below_set ?_ GE308.out) | exact HB.out)))); have n2_ := Aside0.mk (blk_below (g := gb302) (o := .cells #[.int .u32 a0_0, .int .u32 a0_1, .int .u32 a0_2] 24 (0, 0)) (by (with_reducible repeat (first | refine blk_drewN ?_ _ | refine blk_drew ?_ | refine blk_alloc ?_ _)); refine blk_far ?_ NB302_308.out _; (with_reducible repeat (first | refine blk_drewN ?_ _ | refine blk_drew ?_ | refine blk_alloc ?_ _)); refine blk_far ?_ NB302_308.out _; (with_reducible repeat (first | refine blk_drewN ?_ _ | refine blk_drew ?_ | refine blk_alloc ?_ _)); exact BK302.out) hb); have n3_ := Aside0.mk (blk_below (g := gb303) (o := .cells #[.int .u32 a1_0, .int .u32 a1_1, .int .u32 a1_2] 24 (0, 0)) (by (with_reducible repeat (first | refine blk_drewN ?_ _ | refine blk_drew ?_ | refine blk_alloc ?_ _)); refine blk_far ?_ NB303_308.out _; (with_reducible repeat (first | refine blk_drewN ?_ _ | refine blk_drew ?_ | refine blk_alloc ?_ _)); refine blk_far ?_ NB303_308.out _; (with_reducible repeat (first | refine blk_drewN ?_ _ | refine blk_drew ?_ | refine blk_alloc ?_ _)); exact BK303.out) hb); have n4_ := Aside0.mk (blk_below (g := gb308) (o := .cells #[.int .u64 ((rd_T60 l2 x13_1).f0), .int .u64 ((rd_T60 l2 x13_1).f1)] 60 (0, 0)) (by (with_reducible repeat (first | refine blk_drewN ?_ _ | refine blk_drew ?_ | refine blk_alloc ?_ _)); refine blk_put (cs := #[.int .u64 ((rd_T60 l2 x13_1).f0), .int .u64 0]) ?_ 1 _ rfl; (with_reducible repeat (first | refine blk_drewN ?_ _ | refine blk_drew ?_ | refine blk_alloc ?_ _)); refine blk_put (cs := #[.int .u64 0, .int .u64 0]) ?_ 0 _ rfl; (with_reducible repeat (first | refine blk_drewN ?_ _ | refine blk_drew ?_ | refine blk_alloc ?_ _)); exact BK308.out) hb); have n5_ := Aside0.mk (below_step (by repeat (first | (with_reducible first | exact HB.out | apply below_alloc | apply pw_below_drewN | apply below_drew1 | refine below_set ?_ GE302.out | refine below_set ?_ GE303.out | refine below_set ?_ GE308.out) | exact HB.out)) hb); clear HO_7; clear BK302; clear BK303; clear BK308; clear HB; have HO_7 := n0_; have HO311 := n1_; have BK302 := n2_; have BK303 := n3_; have BK308 := n4_; have HB := n5_; clear n0_ n1_ n2_ n3_ n4_ n5_; (try clear hb); (try clear hb2); (try clear hk); (try clear hi); (try clear ho0); obtain ⟨Ao22, co22, eo22⟩ := Kd.R_slice HO311.out; subst eo22) | ((with_reducible refine gate_builtin (b := .append) (xs := #[.tmp 17, .tmp 22]) rfl ?_); at_builtin; refine Kd.S_append (Kd.slice 5 (Kd.int .u8)) (w0 := w) w.heap.size rfl (.tmp 17) (.tmp 22) 44 26 (.slice none 0 0) 24 rfl Tryf.underlying44 info26 rfl (by decide) (by omega) u7 x7_1 t309 [.slice Ao22 t309.length co22] (fun _ => True) (fun k_ => some k_ = (.slice Ao22 t309.length co22 : Value).ownBlock) rfl rfl ?aP (fun k_ hk_ => ((Kd.R_mono (ok' := fun k_ => ((fun _ => True)) k_ ∧ some k_ ≠ (u7 : Value).ownBlock) (Kd.R_apart' (HO311.out) (Kd.S_typed HO_7.out) (by decide)) (fun k_ hk => ⟨trivial, hk.2⟩))).1 k_ hk_.symm) ?aF ?aO ?aB ?aS ?aL ?_; (case aP => exact Kd.M_row (Kd.R_mono (Kd.R_tight rfl (Kd.R_mono (ok' := fun k_ => ((fun _ => True)) k_ ∧ some k_ ≠ (u7 : Value).ownBlock) (Kd.R_apart' (HO311.out) (Kd.S_typed HO_7.out) (by decide)) (fun k_ hk => ⟨trivial, hk.2⟩))) (fun _ h_ => h_))); (case aB => exact (by repeat (first | (with_reducible first | exact HB.out | apply below_alloc | apply pw_below_drewN | apply below_drew1 | refine below_set ?_ GE302.out | refine below_set ?_ GE303.out | refine below_set ?_ GE308.out) | exact HB.out))); (case aF => exact (fun _ _ => trivial)); (case aO => exact (by (with_reducible repeat (first | apply Kd.S_alloc | apply Kd.S_drewN | apply Kd.S_drew)); exact Kd.S_mono HO_7.out (fun k_ hk => ⟨trivial, fun e_ => hk.2 e_⟩))); (case aS => exact (below_size (by repeat (first | (with_reducible first | exact HB.out | apply below_alloc | apply pw_below_drewN | apply below_drew1 | refine below_set ?_ GE302.out | refine below_set ?_ GE303.out | refine below_set ?_ GE308.out) | exact HB.out)))); (case aL => have := LMc12.out; omega); intro v313 w21 ho hb hg hat; rw [← Ny312.out] at ho; have n0_ := Aside0.mk (blk_grown (g := gb302) (o := .cells #[.int .u32 a0_0, .int .u32 a0_1, .int .u32 a0_2] 24 (0, 0)) (by (with_reducible repeat (first | refine blk_drewN ?_ _ | refine blk_drew ?_ | refine blk_alloc ?_ _)); exact BK302.out) hg (Kd.S_ne HO_7.out BK302.out (by decide))); have n1_ := Aside0.mk (blk_grown (g := gb303) (o := .cells #[.int .u32 a1_0, .int .u32 a1_1, .int .u32 a1_2] 24 (0, 0)) (by (with_reducible repeat (first | refine blk_drewN ?_ _ | refine blk_drew ?_ | refine blk_alloc ?_ _)); exact BK303.out) hg (Kd.S_ne HO_7.out BK303.out (by decide))); have n2_ := Aside0.mk (blk_grown (g := gb308) (o := .cells #[.int .u64 ((rd_T60 l2 x13_1).f0), .int .u64 ((rd_T60 l2 x13_1).f1)] 60 (0, 0)) (by (with_reducible repeat (first | refine blk_drewN ?_ _ | refine blk_drew ?_ | refine blk_alloc ?_ _)); exact BK308.out) hg (Kd.S_ne HO_7.out BK308.out (by decide))); have n3_ := Aside0.mk (hb); have n4_ := Aside0.mk (ho); clear BK302; clear BK303; clear BK308; clear HB; clear HO_7; clear HO311; have BK302 := n0_; have BK303 := n1_; have BK308 := n2_; have HB := n3_; have HO314 := n4_; clear n0_ n1_ n2_ n3_ n4_; clear ho hb hg hat))
              go_roundg k1
              case measure => have := HK1.out; omega
              case rel => exact ⟨(y312), (wrap64 (x13_1 + 1)), (by first | rfl | (simp; done) | (simp [*]; done)), H', ⟨by have := HK1.out; omega⟩, ⟨by (with_reducible repeat (first | apply Kd.S_alloc | apply Kd.S_drewN | apply Kd.S_drew)); exact HO314.out⟩, ⟨by (with_reducible repeat (first | refine blk_drewN ?_ _ | refine blk_drew ?_ | refine blk_alloc ?_ _)); exact BK302.out⟩, ⟨by (with_reducible repeat (first | refine blk_drewN ?_ _ | refine blk_drew ?_ | refine blk_alloc ?_ _)); exact BK303.out⟩, ⟨by repeat (first | (with_reducible first | exact HB.out | apply below_alloc | apply pw_below_drewN | apply below_drew1 | refine below_set ?_ GE302.out | refine below_set ?_ GE303.out | refine below_set ?_ GE308.out) | exact HB.out)⟩⟩
            · rw [if_neg c12] at H
              exact absurd H (by simp)
          · rw [if_neg c10] at H
            exact absurd H (by simp)
        · rw [if_neg c9] at H
          exact absurd H (by simp)
      · rw [if_neg c8] at H
        have c8b0 : decide (x13_1 < (l2.length : Int)) = false := decide_eq_false c8
        clear c8
        obtain rfl := Option.some.inj H
        go_wp2
        go_ret
        exact ⟨_, by first | rfl | (simp [errW_none, errW_some] <;> rfl) | (simp [*, errW_none, errW_some] <;> rfl), by (with_reducible repeat (first | apply Kd.S_alloc | apply Kd.S_drewN | apply Kd.S_drew)); exact HO_7.out, by repeat (first | (with_reducible first | exact HB.out | apply below_alloc | apply pw_below_drewN | apply below_drew1 | refine below_set ?_ GE302.out | refine below_set ?_ GE303.out) | exact HB.out)⟩
end Go.Proofs.YtdjfagknffknjaaFmt.Q
