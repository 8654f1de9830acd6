/- The law's judgement of bent consistency proofs; conditions: what the verdicts are asked. -/
import Derived.Test.YtdjfagknffknjaaFmtXVc
import Derived.Test.YtdjfagknffknjaaFmtXJ

namespace Go.Proofs.YtdjfagknffknjaaFmt.H
open Go.RowKit Go.Extern.Stop Go.Stop Go.Extern Go.Proofs.YtdjfagknffknjaaFmtW.PrintWords Go.Proofs.YtdjfagknffknjaaFmtW.PrintLast Go.Proofs.YtdjfagknffknjaaFmtW.PrintMore Go.Proofs.YtdjfagknffknjaaFmt.Q
/-- What judgedBoth is asked: the verdicts. -/
structure Both (A B C : Int) (i b s1 s2 : Nat) (ps : List (List Int)) (a r : List Int) (at_ : Nat) (x : List Int) : Prop where
  first : (consFault A B C i b s1 s2 ps x r = 0) ↔ (eqB (rootsOf A B C s1 s2 ps x true).1 x && eqB (rootsOf A B C s1 s2 ps x true).2 r) = true
  second : (consFault A B C i b s1 s2 ps a x = 0) ↔ eqB x r = true
  more : consFault A B C i b s1 s2 (ps ++ [x]) a r ≠ 0
  bent : 0 < ps.length → ((consFault A B C i b s1 s2 (ps.set (at_ % ps.length) x) a r = 0) ↔ (eqB (rootsOf A B C s1 s2 (ps.set (at_ % ps.length) x) a true).1 a && eqB (rootsOf A B C s1 s2 (ps.set (at_ % ps.length) x) a true).2 r) = true)
  less : 0 < ps.length → consFault A B C i b s1 s2 ps.dropLast a r ≠ 0
theorem beq_zero_iff {f : Nat} {b : Bool} (h : f = 0 ↔ b = true) : ((f : Int) == 0) = b := by
  cases b with
  | true => exact beq_iff_eq.2 (by have := h.2 rfl; omega)
  | false =>
    refine beq_eq_false_iff_ne.2 fun hf => ?_
    have h0 : f = 0 := by omega
    exact absurd (h.1 h0) (by decide)
set_option maxRecDepth 100000 in
set_option maxHeartbeats 8000000 in
theorem both_any (F : Interp) (A B C : Int) (k s1 s2 i b : Nat) (hP : Parts k s1 s2 i b) (hs2 : s2 ≤ 9223372036854775808) (pv av rv xv : Value) (ps : List (List Int)) (a r x : List Int) (at_ : Nat) (w : World) (hG : Glob F w)
    (hs : Small ps) (hps : ps.length ≤ 999) (hx2 : x.length = 2) (hat : at_ < 256) (hp : Rd KBB w pv ps) (ha : Rd KB w av a) (hr : Rd KB w rv r) (hx : Rd KB w xv x)
    (hJ : Both A B C i b s1 s2 ps a r at_ x) :
    Calls Tryf.prog 26 #[.agg #[.int .u32 A, .int .u32 B, .int .u32 C], .int .u64 s1, .int .u64 s2, pv, av, rv, .int .u8 at_, xv] w fun e w' => e = .returned (.bool true) ∧ Below w.heap.size w w' := by
  have hu24 := Tryf.underlying24
  have hx1 := rd_one hx
  have HA := Aside0.mk ha
  have HP := Aside0.mk hp
  have HR := Aside0.mk hr
  have HX := Aside0.mk hx
  have HG := Aside0.mk hG
  have HPA := Aside0.mk hP
  have HS := Aside0.mk hs
  have HJ := Aside0.mk hJ
  have HX2 := Aside0.mk hx2
  have H12 := Aside0.mk (show 1 ≤ s1 ∧ s1 ≤ s2 ∧ s2 ≤ 9223372036854775808 from ⟨hP.one, hP.le, hs2⟩)
  obtain ⟨RA, rc, rfl, hrl, hrC⟩ := id hr
  obtain ⟨XA, xc, rfl, hxl, hxC⟩ := id hx
  obtain ⟨PA, pc, rfl, hpl, hpC⟩ := id hp
  obtain ⟨AA, ac, rfl, hal, haC⟩ := id ha
  have HCVX := Aside0.mk (fun W (hb : Below w.heap.size w W) => Kd.C_string (P := Tryf.prog) (src := 26) (dst := 9) (c := xc) Tryf.underlying26 Tryf.underlying5 Tryf.underlying9 (Kd.C_below hxC hb))
  have HCVR := Aside0.mk (fun W (hb : Below w.heap.size w W) => Kd.C_string (P := Tryf.prog) (src := 26) (dst := 9) (c := rc) Tryf.underlying26 Tryf.underlying5 Tryf.underlying9 (Kd.C_below hrC hb))
  have HCVA := Aside0.mk (fun W (hb : Below w.heap.size w W) => Kd.C_string (P := Tryf.prog) (src := 26) (dst := 9) (c := ac) Tryf.underlying26 Tryf.underlying5 Tryf.underlying9 (Kd.C_below haC hb))
  have HST := Aside0.mk (held_start w (.int .u32 A) (.int .u32 B) (.int .u32 C))
  have HB0 := Aside0.mk (below_alloc (Below.refl w.heap.size w) (.cells #[.int .u32 A, .int .u32 B, .int .u32 C] 24))
  have HBX := Aside0.mk (heap_alloc_new w (.cells #[.int .u32 A, .int .u32 B, .int .u32 C] 24))
  clear hp hr hx hG hP hs hJ hrC hxC hpC hx2 ha haC hs2
  obtain ⟨f1, hf1⟩ : ∃ f, f = consFault A B C i b s1 s2 ps x r := ⟨_, rfl⟩
  obtain ⟨f2, hf2⟩ : ∃ f, f = consFault A B C i b s1 s2 ps a x := ⟨_, rfl⟩
  obtain ⟨f0, hf0⟩ : ∃ f, f = consFault A B C i b s1 s2 (ps ++ [x]) a r := ⟨_, rfl⟩
  obtain ⟨O1, hO1⟩ : ∃ o, o = (rootsOf A B C s1 s2 ps x true).1 := ⟨_, rfl⟩
  obtain ⟨O2, hO2⟩ : ∃ o, o = (rootsOf A B C s1 s2 ps x true).2 := ⟨_, rfl⟩
  obtain ⟨e1, he1⟩ : ∃ s, s = eqB O1 x := ⟨_, rfl⟩
  obtain ⟨e2, he2⟩ : ∃ s, s = eqB O2 r := ⟨_, rfl⟩
  obtain ⟨fst_, hfst⟩ : ∃ s, s = (e1 && e2) := ⟨_, rfl⟩
  obtain ⟨snd_, hsnd⟩ : ∃ s, s = eqB x r := ⟨_, rfl⟩
  have t1 : ((f1 : Int) == 0) = fst_ := by
    have := HJ.out.first
    rw [← hf1, ← hO1, ← hO2, ← he1, ← he2, ← hfst] at this
    exact beq_zero_iff this
  have t2 : ((f2 : Int) == 0) = snd_ := by
    have := HJ.out.second
    rw [← hf2, ← hsnd] at this
    exact beq_zero_iff this
  have t0 : ((f0 : Int) == 0) = false := by
    have := HJ.out.more
    rw [← hf0] at this
    exact beq_eq_false_iff_ne.2 (by omega)
  have tb1 : (fst_ != fst_) = false := by cases fst_ <;> rfl
  have tb2 : (snd_ != snd_) = false := by cases snd_ <;> rfl
  have he1' : ((strOfNums O1).toList == (strOfNums x).toList) = e1 := he1.symm
  have he2' : ((strOfNums O2).toList == (strOfNums r).toList) = e2 := he2.symm
  have hsnd' : ((strOfNums x).toList == (strOfNums r).toList) = snd_ := hsnd.symm
  have HF1 := Aside0.mk hf1
  have HF2 := Aside0.mk hf2
  have HF0 := Aside0.mk hf0
  have HO := Aside0.mk (show (O1, O2) = rootsOf A B C s1 s2 ps x true by rw [hO1, hO2])
  have HFS := Aside0.mk hfst
  clear hf1 hf2 hf0 hO1 hO2 he1 he2 hsnd hfst
  have C7 : ∀ (pv' av' rv' : Value) (ps' : List (List Int)) (a' r' : List Int) (f : Nat) (W : World) (_ : f = consFault A B C i b s1 s2 ps' a' r') (_ : Below w.heap.size w W) (_ : Small ps') (_ : Rd KBB W pv' ps') (_ : Rd KB W av' a') (_ : Rd KB W rv' r'),
    Calls Tryf.prog 25 #[.agg #[.int .u32 A, .int .u32 B, .int .u32 C], .int .u64 s1, .int .u64 s2, pv', av', rv'] W fun e w' => e = .returned (.int .i64 f) ∧ Below W.heap.size W w' := by
    intro pv' av' rv' ps' a' r' f W hf hB hs hp ha hr
    subst hf
    exact cons_any F A B C k s1 s2 i b HPA.out pv' av' rv' ps' a' r' W (HG.out.below hB) hs hp ha hr
  have HC7 := Aside0.mk C7
  clear C7
  obtain ⟨rows, HH, hrows⟩ := HP.out.heads
  have HH := Aside0.mk HH
  have HROWS := Aside0.mk hrows
  have HRL := Aside0.mk (show rows.length = ps.length from HH.out.1)
  have HLEN := Aside0.mk (show (([] : List (List Value)).length + ps.length) * 24 ≤ 140737488355328 by simp only [List.length_nil]; omega)
  have HLEN2 := Aside0.mk (show (([] ++ rows : List (List Value)).length + 1) * 24 ≤ 140737488355328 by rw [List.nil_append, HRL.out]; omega)
  have HSS := Aside0.mk (small_snoc (x := x) hps HS.out (by rw [HX2.out]; decide))
  clear hrows
  go_enter Tryf.func26, Tryf.ntmps26
  go_upto_region 2 with (go_at_call 23; ((with_reducible refine (rootsOf_any A B C s2 H12.out.2.2 s1 H12.out.1 H12.out.2.1 _ _ ps x true _ (HP.out.below HB0.out) (HX.out.below HB0.out)).mono ?_); rintro e w1 ⟨va, vb, b1, rfl, hVa, hVb, hB1⟩; rw [← HO.out] at hVa hVb; have HBX1 := Aside0.mk (blk_below HBX.out hB1); have HB1 := Aside0.mk (below_next HB0.out hB1); have HVa := Aside0.mk hVa; have HVb := Aside0.mk hVb; clear hB1 hVa hVb))
  obtain ⟨OA, oc, rfl, hol, hoC⟩ := HVa.out
  obtain ⟨TA, tc, rfl, htl, htC⟩ := HVb.out
  have cvo := fun nn : Nat => Kd.C_string (P := Tryf.prog) (src := 26) (dst := 9) (c := oc) Tryf.underlying26 Tryf.underlying5 Tryf.underlying9 (Kd.C_drewN hoC nn)
  have cvt := fun nn : Nat => Kd.C_string (P := Tryf.prog) (src := 26) (dst := 9) (c := tc) Tryf.underlying26 Tryf.underlying5 Tryf.underlying9 (Kd.C_drewN htC nn)
  have cvx := fun nn : Nat => HCVX.out _ (pw_below_drewN HB1.out nn)
  have cvr := fun nn : Nat => HCVR.out _ (pw_below_drewN HB1.out nn)
  go_cut [20, 21] (fun v20 v21 W => v20 = .bool fst_ ∧ v21 = .bool snd_ ∧ Aside0 (W.cell? ⟨w.heap.size, 0, none⟩ = some (.int .u32 A) ∧ W.cell? ⟨w.heap.size, 1, none⟩ = some (.int .u32 B) ∧ W.cell? ⟨w.heap.size, 2, none⟩ = some (.int .u32 C) ∧ Aside0 (Below w.heap.size w W)))
  case first =>
    have HK := Aside0.mk (show ∀ W, Below w1.heap.size w1 W → W.cell? ⟨w.heap.size, 0, none⟩ = some (.int .u32 A) ∧ W.cell? ⟨w.heap.size, 1, none⟩ = some (.int .u32 B) ∧ W.cell? ⟨w.heap.size, 2, none⟩ = some (.int .u32 C) ∧ Aside0 (Below w.heap.size w W) from fun W hb => ⟨blk_cell (blk_below HBX1.out hb) 0, blk_cell (blk_below HBX1.out hb) 1, blk_cell (blk_below HBX1.out hb) 2, ⟨below_next HB1.out hb⟩⟩)
    cases e1
    · have hf : fst_ = false := HFS.out
      subst hf
      go_quiet (fail)
      go_wp2
      go_meet
      case rel => exact ⟨rfl, rfl, ⟨HK.out _ (pw_below_drewN (Below.refl _ _) _)⟩⟩
    · have hf : fst_ = e2 := by rw [HFS.out]; cases e2 <;> rfl
      subst hf
      go_quiet (fail)
      go_wp2
      go_meet
      case rel => exact ⟨rfl, rfl, ⟨HK.out _ (pw_below_drewN (Below.refl _ _) _)⟩⟩
  case rest =>
    obtain ⟨rfl, rfl, HC1⟩ := hcut
    clear cvo cvt cvx cvr HVa HVb hol htl hoC htC HBX HBX1 HB0 HB1
    go_upto_region 3 with fail
    go_cut [87] (fun v87 W => v87 = .bool false ∧ Aside0 (W.cell? ⟨w.heap.size, 0, none⟩ = some (.int .u32 A) ∧ W.cell? ⟨w.heap.size, 1, none⟩ = some (.int .u32 B) ∧ W.cell? ⟨w.heap.size, 2, none⟩ = some (.int .u32 C) ∧ Aside0 (Below w.heap.size w W)))
    case first =>
      go_region_held3 (fun W => W.cell? ⟨w.heap.size, 0, none⟩ = some (.int .u32 A) ∧ W.cell? ⟨w.heap.size, 1, none⟩ = some (.int .u32 B) ∧ W.cell? ⟨w.heap.size, 2, none⟩ = some (.int .u32 C) ∧ Aside0 (Below w.heap.size w W))
        (first | exact held_next HC1.out (Below.refl _ _).drew | exact held_next HS1.out HBn.out | exact held_next (by assumption) (below_alloc (Below.refl _ _) _) | exact held_next (by assumption) HBn.out)
        (first
          | (go_at_call 25; (with_reducible refine (HC7.out _ _ _ ps x r f1 _ HF1.out (held_below (by assumption)) HS.out (HP.out.below (held_below (by assumption))) (HX.out.below (held_below (by assumption))) (HR.out.below (held_below (by assumption)))).mono ?_); rintro e wa ⟨rfl, hBa⟩; have HBn := Aside0.mk hBa; clear hBa)
          | (go_at_call 25; (with_reducible refine (HC7.out _ _ _ ps a x f2 _ HF2.out (held_below (by assumption)) HS.out (HP.out.below (held_below (by assumption))) (HA.out.below (held_below (by assumption))) (HX.out.below (held_below (by assumption)))).mono ?_); rintro e wb ⟨rfl, hB1⟩; have HBn := Aside0.mk hB1; have HS1 := Aside0.mk (held_next (by assumption) hB1); have HRW1 := Aside0.mk (readsRow_below HROWS.out (held_below HS1.out)); clear hB1)
          | (refine Kd.R_append_rows_step (P := Tryf.prog) (Kd.raw 1) (Rr := (Kd.raw 1).K wb) (w0 := wb) wb.heap.size (by rfl) (.tmp 77) (.tmp 78) 44 26 (.slice none 0 0) 24 rfl Tryf.underlying44 info26r rfl (by decide) (by decide) _ [] rows PA ps.length pc (fun _ => True) (fun _ => False) rfl rfl (lit0_R wb wb.heap.size (Nat.le_refl _)) (readsRow_below HRW1.out (below_alloc (Below.refl _ _) _)) (fun _ _ h => h) (fun _ h => h.elim) (fun _ _ => trivial) (below_alloc (Below.refl _ _) _) (by simp) HLEN.out ?_; intro v8 w8 hR8 hB8 hg8 _; have HR8 := Aside0.mk hR8; have HB8 := Aside0.mk hB8; have HBn := HB8; clear hR8 hB8 hg8)
          | (refine Kd.R_append_rows_step (P := Tryf.prog) (Kd.raw 1) (Rr := (Kd.raw 1).K wb) (w0 := wb) wb.heap.size (by rfl) (.tmp 77) (.tmp 78) 44 26 (.slice none 0 0) 24 rfl Tryf.underlying44 info26r rfl (by decide) (by decide) _ [] rows PA ps.length pc (fun _ => True) (fun _ => False) rfl rfl (Kd.R_alloc (lit0_R wb wb.heap.size (Nat.le_refl _)) _) (readsRow_below HRW1.out (below_alloc (below_alloc (Below.refl _ _) _) _)) (fun _ _ h => h) (fun _ h => h.elim) (fun _ _ => trivial) (below_alloc (below_alloc (Below.refl _ _) _) _) (two_le _ _ _) HLEN.out ?_; intro v8 w8 hR8 hB8 hg8 _; have HR8 := Aside0.mk hR8; have HB8 := Aside0.mk hB8; have HBn := HB8; have HT8 := Aside0.mk (row_grown (lit1_C2 wb (.cells #[] 26) (.slice XA x.length xc) hx1) hg8 (two_lt1 _ _ _) (own_ne1 _)); clear hR8 hB8 hg8)
          | (refine Kd.R_append_rows_step (P := Tryf.prog) (Kd.raw 1) (Rr := (Kd.raw 1).K wb) (w0 := wb) wb.heap.size (by rfl) (.tmp 77) (.tmp 78) 44 26 (.slice none 0 0) 24 rfl Tryf.underlying44 info26r rfl (by decide) (by decide) _ [] rows PA ps.length pc (fun _ => True) (fun _ => False) rfl rfl (lit0_R2 wb _) (readsRow_below HRW1.out (below_alloc (below_alloc (Below.refl _ _) _) _)) (fun _ _ h => h) (fun _ h => h.elim) (fun _ _ => trivial) (below_alloc (below_alloc (Below.refl _ _) _) _) (two_le _ _ _) HLEN.out ?_; intro v8 w8 hR8 hB8 hg8 _; have HR8 := Aside0.mk hR8; have HB8 := Aside0.mk hB8; have HBn := HB8; have HT8 := Aside0.mk (row_grown (readsRow_below (lit1_C wb (.slice XA x.length xc) hx1) (below_alloc (Below.refl _ _) _)) hg8 (two_lt0 _ _ _) (own_ne0 _)); clear hR8 hB8 hg8)
          | (refine Kd.R_append_rows_step (P := Tryf.prog) (Kd.raw 1) (Rr := (Kd.raw 1).K wb) (w0 := wb) wb.heap.size (by rfl) (.tmp 79) (.tmp 81) 44 26 (.slice none 0 0) 24 rfl Tryf.underlying44 info26r rfl (by decide) (by decide) _ ([] ++ rows) [[(.slice XA x.length xc)]] (some ⟨w8.heap.size, 0, none⟩) 1 1 (fun _ => True) (fun _ => False) rfl rfl (Kd.R_alloc HR8.out _) (lit1_C w8 (.slice XA x.length xc) hx1) (fun _ _ h => h) (fun _ h => h.elim) (fun _ _ => trivial) (below_alloc HB8.out _) (Nat.le_trans HB8.out.size (by simp)) HLEN2.out ?_; intro v9 w9 hR9 hB9 _ _; have HB9 := Aside0.mk hB9; have HBn := HB9; have HBW := Aside0.mk (below_next (held_below HS1.out) hB9); have HRd := Aside0.mk (Rd.ofHeads hR9 (((HH.out.below (held_below HS1.out)).below hB9).snoc (HX.out.below HBW.out))); clear hR9 hB9)
          | (refine Kd.R_append_rows_step (P := Tryf.prog) (Kd.raw 1) (Rr := (Kd.raw 1).K wb) (w0 := wb) wb.heap.size (by rfl) (.tmp 79) (.tmp 81) 44 26 (.slice none 0 0) 24 rfl Tryf.underlying44 info26r rfl (by decide) (by decide) _ ([] ++ rows) [[(.slice XA x.length xc)]] (some ⟨wb.heap.size + 1, 0, none⟩) 1 1 (fun _ => True) (fun _ => False) rfl rfl HR8.out HT8.out (fun _ _ h => h) (fun _ h => h.elim) (fun _ _ => trivial) HB8.out (Nat.le_trans HB8.out.size (by simp)) HLEN2.out ?_; intro v9 w9 hR9 hB9 _ _; have HB9 := Aside0.mk hB9; have HBn := HB9; have HBW := Aside0.mk (below_next (held_below HS1.out) hB9); have HRd := Aside0.mk (Rd.ofHeads hR9 (((HH.out.below (held_below HS1.out)).below hB9).snoc (HX.out.below HBW.out))); clear hR9 hB9)
          | (refine Kd.R_append_rows_step (P := Tryf.prog) (Kd.raw 1) (Rr := (Kd.raw 1).K wb) (w0 := wb) wb.heap.size (by rfl) (.tmp 79) (.tmp 81) 44 26 (.slice none 0 0) 24 rfl Tryf.underlying44 info26r rfl (by decide) (by decide) _ ([] ++ rows) [[(.slice XA x.length xc)]] (some ⟨wb.heap.size, 0, none⟩) 1 1 (fun _ => True) (fun _ => False) rfl rfl HR8.out HT8.out (fun _ _ h => h) (fun _ h => h.elim) (fun _ _ => trivial) HB8.out (Nat.le_trans HB8.out.size (by simp)) HLEN2.out ?_; intro v9 w9 hR9 hB9 _ _; have HB9 := Aside0.mk hB9; have HBn := HB9; have HBW := Aside0.mk (below_next (held_below HS1.out) hB9); have HRd := Aside0.mk (Rd.ofHeads hR9 (((HH.out.below (held_below HS1.out)).below hB9).snoc (HX.out.below HBW.out))); clear hR9 hB9)
          | (go_at_call 25; (with_reducible refine (HC7.out _ _ _ (ps ++ [x]) a r f0 _ HF0.out (held_below (by assumption)) HSS.out HRd.out (HA.out.below (held_below (by assumption))) (HR.out.below (held_below (by assumption)))).mono ?_); rintro e w10 ⟨rfl, hB10⟩; have HBn := Aside0.mk hB10; clear hB10))
      all_goals
        go_wp2
        go_meet
        case rel => exact ⟨rfl, ⟨by assumption⟩⟩
    case rest =>
      obtain ⟨rfl, HC2⟩ := hcut
      by_cases h0 : ps.length = 0
      · have t3 : ((ps.length : Int) == 0) = true := beq_iff_eq.2 (by omega)
        go_wp2
        go_ret
        exact ⟨rfl, held_below HC2.out⟩
      · have t3 : ((ps.length : Int) == 0) = false := beq_eq_false_iff_ne.2 (by omega)
        have HB2 := Aside0.mk (held_below HC2.out)
        have HRW2 := Aside0.mk (readsRow_below HROWS.out HB2.out)
        have HH2 := Aside0.mk (HH.out.below HB2.out)
        go_upto_region 8 with (refine Kd.R_append_rows (P := Tryf.prog) (Kd.raw 1) (Rr := (Kd.raw 1).K wc) (w0 := wc) wc.heap.size (by rfl) (.tmp 91) (.tmp 92) 44 26 (.slice none 0 0) 24 rfl Tryf.underlying44 info26r rfl (by decide) (by decide) _ [] rows PA ps.length pc (fun _ => True) (fun _ => False) rfl rfl (lit0_R wc wc.heap.size (Nat.le_refl _)) (readsRow_below HRW2.out (below_alloc (Below.refl _ _) _)) (fun _ _ h => h) (fun _ h => h.elim) (fun _ _ => trivial) (below_alloc (Below.refl _ _) _) (by simp) HLEN.out ?_; intro v3 w3 hR3 hB3 _ _; have HR3 := Aside0.mk (show (Kd.raw 1).R 26 w3 wc.heap.size (fun _ => True) v3 rows from hR3); have HB3 := Aside0.mk hB3; clear hR3 hB3)
        obtain ⟨g, cap, cur, rfl, hg, hh, hc1, hc2⟩ := raw_own HR3.out (by rw [HRL.out]; omega)
        have HR3' := HR3.out
        rw [HRL.out] at HR3' hc1 ⊢
        obtain ⟨q, hq⟩ : ∃ q : Nat, q = at_ % ps.length := ⟨_, rfl⟩
        have hqlt : q < ps.length := by rw [hq]; exact Nat.mod_lt _ (by omega)
        have hqc : q < cur.size := by omega
        have m1 : Int.tmod (at_ : Int) (ps.length : Int) = (q : Int) := by rw [hq]; rfl
        have hcell : w3.cell? ⟨g, q, none⟩ = some cur[q] := by rw [cell_of_row w3 g _ cur 26 (0, 0) hh]; exact Array.getElem?_eq_getElem hqc
        have hfroz : w3.frozen? ⟨g, q, none⟩ = false := blk_frozen hh _
        have HQ := Aside0.mk hq
        have HR3 := Aside0.mk HR3'
        have HG3 := Aside0.mk hg
        clear hq hg HR3'
        go_upto_region 9 with fail
        obtain ⟨w4, hw4⟩ : ∃ w4, w4 = w3.setCell ⟨g, q, none⟩ (.slice XA x.length xc) := ⟨_, rfl⟩
        rw [← hw4]
        obtain ⟨hR4, hg4⟩ := raw_store HR3.out q hqlt hx1
        rw [← hw4] at hR4 hg4
        have HB4 := Aside0.mk (HB3.out.grown hg4 HB3.out.size (fun k hk => by injection hk with hk; rw [← hk]; exact HG3.out))
        have HC4 := Aside0.mk (held_next HC2.out HB4.out)
        have HRd4 := Aside0.mk (Rd.ofHeads hR4 ((HH2.out.below HB4.out).set q (HX.out.below (held_below HC4.out))))
        clear hR4 hg4 hw4 hcell hfroz hh HG3 HB3 HR3 HRW2 HH2 HC2
        obtain ⟨bent, hbent⟩ : ∃ bent, bent = ps.set q x := ⟨_, rfl⟩
        obtain ⟨N1, hN1⟩ : ∃ R, R = (rootsOf A B C s1 s2 bent a true).1 := ⟨_, rfl⟩
        obtain ⟨N2, hN2⟩ : ∃ R, R = (rootsOf A B C s1 s2 bent a true).2 := ⟨_, rfl⟩
        obtain ⟨f3, hf3⟩ : ∃ f, f = consFault A B C i b s1 s2 bent a r := ⟨_, rfl⟩
        obtain ⟨f4, hf4⟩ : ∃ f, f = consFault A B C i b s1 s2 ps.dropLast a r := ⟨_, rfl⟩
        obtain ⟨e3, he3⟩ : ∃ s, s = eqB N1 a := ⟨_, rfl⟩
        obtain ⟨e4, he4⟩ : ∃ s, s = eqB N2 r := ⟨_, rfl⟩
        obtain ⟨due, hdue⟩ : ∃ s, s = (e3 && e4) := ⟨_, rfl⟩
        have t4 : ((f3 : Int) == 0) = due := by
          have := HJ.out.bent (by omega)
          rw [← HQ.out, ← hbent, ← hf3, ← hN1, ← hN2, ← he3, ← he4, ← hdue] at this
          exact beq_zero_iff this
        have t5 : ((f4 : Int) != 0) = true := by
          have := HJ.out.less (by omega)
          rw [← hf4] at this
          exact bne_iff_ne.2 (by omega)
        have tb3 : (due == due) = true := by cases due <;> rfl
        have he3' : ((strOfNums N1).toList == (strOfNums a).toList) = e3 := he3.symm
        have he4' : ((strOfNums N2).toList == (strOfNums r).toList) = e4 := he4.symm
        have HSB := Aside0.mk (show Small bent by rw [hbent]; exact small_set q HS.out (by rw [HX2.out]; decide))
        have HST4 := Aside0.mk (small_take HS.out)
        have HROOT := Aside0.mk (show (N1, N2) = rootsOf A B C s1 s2 bent a true by rw [hN1, hN2])
        have HF3 := Aside0.mk hf3
        have HF4 := Aside0.mk hf4
        have HDUE := Aside0.mk hdue
        rw [← hbent] at HRd4
        clear hbent hN1 hN2 hf3 hf4 he3 he4 hdue HQ
        obtain ⟨pm, hpm⟩ : ∃ pm : Nat, ps.length = pm + 1 := ⟨ps.length - 1, by omega⟩
        obtain ⟨vt, htake, hT⟩ := HP.out.take pm (by omega)
        have hdl : ps.take pm = ps.dropLast := by rw [List.dropLast_eq_take, hpm]; rfl
        rw [hdl] at hT
        have HT := Aside0.mk hT
        have s1_ : IntKind.i64.wrap ((ps.length : Int) - 1) = (pm : Int) := by rw [IntKind.wrap_i64]; omega
        clear hT hdl hpm
        obtain ⟨c0, c1, c2, c3⟩ := HC4.out
        clear c3
        go_upto_region 10 with (go_at_call 23; ((with_reducible refine (rootsOf_any A B C s2 H12.out.2.2 s1 H12.out.1 H12.out.2.1 _ _ bent a true w4 HRd4.out (HA.out.below (held_below HC4.out))).mono ?_); rintro e w5 ⟨v5, v6, b5, rfl, hV5, hV6, hB5⟩; rw [← HROOT.out] at hV5 hV6; obtain ⟨OA, oc, rfl, hol, hoC⟩ := hV5; obtain ⟨TA, tc, rfl, htl, htC⟩ := hV6; have HC5 := Aside0.mk (held_next HC4.out hB5); have HRd5 := Aside0.mk (HRd4.out.below hB5); have cvo := Kd.C_string (P := Tryf.prog) (src := 26) (dst := 9) (c := oc) Tryf.underlying26 Tryf.underlying5 Tryf.underlying9 hoC; have cvt := Kd.C_string (P := Tryf.prog) (src := 26) (dst := 9) (c := tc) Tryf.underlying26 Tryf.underlying5 Tryf.underlying9 htC; have cvr := HCVR.out _ (held_below HC5.out); have cva := HCVA.out _ (held_below HC5.out); clear hB5 hoC htC))
        go_cut [23] (fun v23 W => v23 = .bool due ∧ W = w5)
        case first =>
          cases e3
          · have hf : due = false := HDUE.out
            subst hf
            go_wp2
            go_meet
            case rel => exact ⟨rfl, rfl⟩
          · have hf : due = e4 := by rw [HDUE.out]; cases e4 <;> rfl
            subst hf
            go_wp2
            go_meet
            case rel => exact ⟨rfl, rfl⟩
        case rest =>
          obtain ⟨rfl, rfl⟩ := hcut
          go_upto_region 11 with fail
          go_region_held3 (fun W => W.cell? ⟨w.heap.size, 0, none⟩ = some (.int .u32 A) ∧ W.cell? ⟨w.heap.size, 1, none⟩ = some (.int .u32 B) ∧ W.cell? ⟨w.heap.size, 2, none⟩ = some (.int .u32 C) ∧ Aside0 (Below w.heap.size w W))
            (first | exact held_next HC5.out (Below.refl _ _).drew | exact held_next (by assumption) HBn.out)
            (first
              | (go_at_call 25; (with_reducible refine (HC7.out _ _ _ bent a r f3 _ HF3.out (held_below (by assumption)) HSB.out (HRd5.out.below (Below.refl _ _).drew) (HA.out.below (held_below (by assumption))) (HR.out.below (held_below (by assumption)))).mono ?_); rintro e w6 ⟨rfl, hB6⟩; have HBn := Aside0.mk hB6; clear hB6)
              | (go_at_call 25; (with_reducible refine (HC7.out _ _ _ ps.dropLast a r f4 _ HF4.out (held_below (by assumption)) HST4.out (HT.out.below (held_below (by assumption))) (HA.out.below (held_below (by assumption))) (HR.out.below (held_below (by assumption)))).mono ?_); rintro e w7 ⟨rfl, hB7⟩; have HBn := Aside0.mk hB7; clear hB7))
          all_goals
            go_wp2
            go_ret
            exact ⟨rfl, held_below (by assumption)⟩
end Go.Proofs.YtdjfagknffknjaaFmt.H
