/- The nodes of inclusion and of consistency proofs, by their contracts; conditions: what a fork of two numbers is asked. -/
import Derived.Test.YtdjfagknffknjaaFmtXVc
import Derived.Test.YtdjfagknffknjaaFmtXR
import Derived.Deep.RegionHeld3
import Derived.Deep.DeepCutAuto
import Derived.Deep.CutBlock

section
namespace Go.Proofs.YtdjfagknffknjaaFmt.H
open Go.RowKit Go.Extern.Stop Go.Stop Go.Extern Go.Proofs.YtdjfagknffknjaaFmtW.PrintWords Go.Proofs.YtdjfagknffknjaaFmtW.PrintLast Go.Proofs.YtdjfagknffknjaaFmtW.PrintMore Go.Proofs.YtdjfagknffknjaaFmt.Q
/-- What the parts of proof.nodes tell: inn: how many levels up to the fork; fi: the fork's index; b, e: its leaves; R, L: the nodes to its right and to its left, as RangeNodes tells them. -/
structure Fork (k lv ix sz inn fi b e : Nat) (R L : List S69) : Prop where
  lv63 : lv ≤ 63
  inn64 : inn ≤ 63
  sum63 : lv + inn ≤ 63
  ix64 : ix < 18446744073709551616
  sz64 : sz < 18446744073709551616
  len : ∃ x : Int, Go.bits .xor .u64 (ix : Int) ((sz : Int) / 2 ^ lv) = x ∧ bits_Len64.f k x = some ((inn : Int) + 1)
  fidx : ix / 2 ^ inn = fi
  cov : compact_NodeID_Coverage.f ((lv : Int) + (inn : Int)) (fi : Int) = some ((b : Int), (e : Int))
  left : compact_RangeSize.f k 0 (b : Int) = some (L.length : Int)
  right : compact_RangeSize.f k (e : Int) (sz : Int) = some (R.length : Int)
  rn1 : ∀ l, l.length ≤ 1000 → compact_RangeNodes.f k (e : Int) (sz : Int) l = some (l ++ R)
  rn2 : ∀ l, l.length ≤ 1000 → compact_RangeNodes.f k 0 (b : Int) l = some (l ++ L)
  R64 : R.length ≤ 64
  L64 : L.length ≤ 64
/-- How a node's cells read. -/
def NodeCells (x : S69) (cs : List Value) : Prop := cs = [.int .u64 x.f0, .int .u64 x.f1]
theorem nodeCells_M (W : World) (base : Nat) (okp : Nat → Prop) : ∀ x cs, NodeCells x cs → k69.M W base okp x cs := fun x cs h => by
  unfold NodeCells at h
  subst h
  exact k69_mkM W base okp x
theorem made_R (W : World) (base cap : Nat) (ok : Nat → Prop) (hb : base ≤ W.heap.size) (hok : ok W.heap.size) (hc : cap ≤ 1000) :
    Kd.R k69 69 (W.alloc (.cells (madeCells (Value.cells (.agg #[.int .u64 0, .int .u64 0])) (cap * 2)) 69)) base ok (.slice (some ⟨W.heap.size, 0, none⟩) 0 cap) [] := by
  refine ⟨fun k hk => ?_, [], ⟨rfl, .inr ⟨W.heap.size, cap, _, rfl, hb, heap_alloc_new W _, Nat.zero_le _, by simp only [maxLen]; omega, ?_, rfl⟩⟩, Reps.none _ _⟩
  · simp [Value.ownBlock] at hk; subst hk; exact hok
  · rw [size_madeCells]; rfl
theorem lit_C (W : World) (x : S69) : ReadsRow NodeCells k69.sz (W.alloc (.cells #[.int .u64 x.f0, .int .u64 x.f1] 69)) (some ⟨W.heap.size, 0, none⟩) 1 [x] := by
  have hk : k69.C (W.alloc (.cells #[.int .u64 x.f0, .int .u64 x.f1] 69)) (some ⟨W.heap.size, 0, none⟩) 1 [x] := by
    have hr : Kd.R k69 69 (W.alloc (.cells (encN [x] ++ []).toArray 69)) 0 (fun _ => True) (.slice (some ⟨W.heap.size, 0, none⟩) [x].length 1) [x] :=
      row_R (Nat.zero_le _) trivial (Nat.le_refl _) (by decide) (heap_alloc_new W _) rfl
    exact (Kd.R_reads' hr).2.2
  exact ⟨hk.1, hk.2.1, fun h0 => by
    obtain ⟨ad, h1, h2⟩ := hk.2.2 h0
    exact ⟨ad, h1, fun j p hj => by
      obtain ⟨c, hl, hc, hq⟩ := h2 j p hj
      exact ⟨c, hl, k69_open hc, hq⟩⟩⟩
/-- The sibling of the node t levels up. -/
def sibN (lv ix t : Nat) : S69 := ⟨(lv : Int) + (t : Int), Go.bits .xor .u64 ((ix / 2 ^ t : Nat) : Int) 1⟩
def sibs (lv ix : Nat) (t : Nat) : List S69 := (List.range t).map (sibN lv ix)
theorem sibs_succ (lv ix t : Nat) : sibs lv ix (t + 1) = sibs lv ix t ++ [sibN lv ix t] := by simp [sibs, List.range_succ]
theorem blk_kept' {W W2 : World} {S : Nat → Prop} {g : Nat} {o : Obj} (hb : W.heap[g]? = some o) (hk : Kept W W2 S) (hne : ¬ S g) : W2.heap[g]? = some o := blk_kept hb hk hne
theorem blk_row {W W2 : World} {base gn g : Nat} {o : Obj} (hb : W.heap[g]? = some o) (hr : ∃ row, W.grownBy W2 row ∧ ∀ k, row = some k → base ≤ k ∧ gn < k) (hg : g ≤ gn) : W2.heap[g]? = some o := by
  obtain ⟨row, h1, h2⟩ := hr
  exact blk_grown hb h1 (fun e => by have := (h2 g e.symm).2; omega)
theorem row_of {W W2 : World} {base gn e : Nat} {v : Value} {l : List S69} (hg : W.grownBy W2 v.ownBlock) (hR : Kd.R k69 e W base (fun k => gn < k) v l) : ∃ row, W.grownBy W2 row ∧ ∀ k, row = some k → base ≤ k ∧ gn < k :=
  ⟨_, hg, fun k hk => ⟨Kd.R_base hR k hk, hR.1 k hk⟩⟩
theorem below_row {w W W2 : World} {gn : Nat} (hb : Below w.heap.size w W) (hr : ∃ row, W.grownBy W2 row ∧ ∀ k, row = some k → w.heap.size ≤ k ∧ gn < k) : Below w.heap.size w W2 := by
  obtain ⟨row, h1, h2⟩ := hr
  exact hb.grown h1 hb.size (fun k hk => (h2 k hk).1)
/-- What proof.nodes hands back: the nodes, where those begin and end that make the ephemeral one, and that one. -/
def NodesPost (lv ix inn fi : Nat) (R L : List S69) (w : World) (e : Ending) (w' : World) : Prop :=
  ∃ v, e = .returned (.agg #[v, .int .i64 (if R.length = 0 then 0 else ((1 + inn : Nat) : Int)), .int .i64 (if R.length = 0 then 0 else ((1 + inn + R.length : Nat) : Int)), .int .u64 ((lv : Int) + (inn : Int)), .int .u64 (Go.bits .xor .u64 (fi : Int) 1)]) ∧
    Kd.R k69 69 w' w.heap.size (fun _ => True) v ([⟨lv, ix⟩] ++ sibs lv ix inn ++ R.reverse ++ L.reverse) ∧ Below w.heap.size w w'
set_option maxRecDepth 100000 in
set_option maxHeartbeats 4000000 in
theorem nodes_any (k lv ix sz inn fi b e : Nat) (R L : List S69) (hF : Fork k lv ix sz inn fi b e R L) (w : World) :
    Calls Tryf.prog 43 #[.int .u64 ix, .int .u64 lv, .int .u64 sz] w (NodesPost lv ix inn fi R L w) := by
  have hu71 := Tryf.underlying71
  have hu69 := Tryf.underlying69
  have hlv := hF.lv63
  have hinn := hF.inn64
  have hsum := hF.sum63
  have hix := hF.ix64
  have hsz := hF.sz64
  have hR := hF.R64
  have hL := hF.L64
  obtain ⟨x, hx, hx2⟩ := hF.len
  have m1 : min lv 64 = lv := Nat.min_eq_left (by omega)
  have m2 : min inn 64 = inn := Nat.min_eq_left (by omega)
  have f1 : (ix : Int) / 2 ^ inn = (fi : Int) := by rw [← hF.fidx]; simp
  have HX2 := Aside0.mk hx2
  have HF := Aside0.mk hF
  clear hF hx2
  go_enter Tryf.func43, Tryf.ntmps43
  go_upto_region 7 with (first
    | (go_at_call 61; ((refine (bits_Len64.calls k _ _ _ HX2.out).mono ?_); rintro e w1 ⟨rfl, hB1⟩; have HB1 := Aside0.mk (below_next (below_alloc (Below.refl w.heap.size w) _) hB1.below); have HG6 := Aside0.mk (blk_below (heap_alloc_new w _) hB1.below); clear hB1))
    | (have tok1 := HB1; go_at_call 62; ((refine (compact_NewNodeID.calls _ _ _ _ _ rfl).mono ?_); rintro e w2 ⟨rfl, hB2⟩; have HB2 := Aside0.mk (below_next HB1.out hB2); have HG6 := Aside0.mk (blk_below HG6.out hB2); clear hB2 HB1 tok1))
    | (go_at_call 63; ((refine (compact_NodeID_Coverage.calls _ _ _ _ _ HF.out.cov).mono ?_); rintro e w3 ⟨rfl, hB3⟩; have HGf := Aside0.mk (blk_below (heap_alloc_new w2 _) hB3); have HG6 := Aside0.mk (blk_below (blk_alloc HG6.out _) hB3); have HB3 := Aside0.mk (below_next (below_alloc HB2.out _) hB3); clear hB3))
    | (go_at_call 64; ((with_reducible refine (compact_RangeSize.calls _ _ _ _ _ HF.out.left).mono ?_); rintro e w4 ⟨rfl, hB4⟩; have HB4 := Aside0.mk (below_next HB3.out hB4.below); have HG6 := Aside0.mk (blk_below HG6.out hB4.below); have HGf := Aside0.mk (blk_below HGf.out hB4.below); clear hB4))
    | (go_at_call 64; ((with_reducible refine (compact_RangeSize.calls _ _ _ _ _ HF.out.right).mono ?_); rintro e w5 ⟨rfl, hB5⟩; have HB5 := Aside0.mk (below_next HB4.out hB5.below); have HG6 := Aside0.mk (blk_below HG6.out hB5.below); have HGf := Aside0.mk (blk_below HGf.out hB5.below); clear hB5))
    | (have tok2 := HB5; go_at_call 62; ((refine (compact_NewNodeID.calls _ _ _ _ _ rfl).mono ?_); rintro e w6 ⟨rfl, hB6⟩; have HB6 := Aside0.mk (below_next HB5.out hB6); have HG6 := Aside0.mk (blk_below HG6.out hB6); have HGf := Aside0.mk (blk_below HGf.out hB6); clear hB6 tok2)))
  obtain ⟨gn, hgn⟩ : ∃ gn, gn = w6.heap.size := ⟨_, rfl⟩
  rw [← hgn]
  obtain ⟨w7, hw7⟩ : ∃ w7, w7 = w6.alloc (.cells #[.int .u64 lv, .int .u64 ix] 69) := ⟨_, rfl⟩
  rw [← hw7]
  have HGn := Aside0.mk (show w7.heap[gn]? = some (.cells #[.int .u64 lv, .int .u64 ix] 69 (0, 0)) by rw [hw7, hgn]; exact heap_alloc_new w6 _)
  have HB7 := Aside0.mk (show Below w.heap.size w w7 by rw [hw7]; exact below_alloc HB6.out _)
  have HG6 := Aside0.mk (show w7.heap[w.heap.size]? = _ by rw [hw7, blk_alloc HG6.out _])
  have HGf := Aside0.mk (show w7.heap[w2.heap.size]? = _ by rw [hw7, blk_alloc HGf.out _])
  have HS7 := Aside0.mk (show w7.heap.size = gn + 1 by rw [hw7, hgn]; simp)
  have HNf := Aside0.mk (show w2.heap.size < gn by rw [hgn]; exact blk_lt (by assumption : Aside0 (w6.heap[w2.heap.size]? = _)).out)
  have HN6 := Aside0.mk (show w.heap.size < gn by rw [hgn]; exact blk_lt (by assumption : Aside0 (w6.heap[w.heap.size]? = _)).out)
  obtain ⟨gf, hgf⟩ : ∃ gf, gf = w2.heap.size := ⟨_, rfl⟩
  rw [← hgf] at HNf HGf ⊢
  clear hgn hw7 HB6 hgf
  go_cut [14] (fun v14 W => Aside0 (Kd.R k69 69 W w.heap.size (fun k => gn < k) v14 [⟨lv, ix⟩]) ∧ Aside0 (Below w7.heap.size w7 W))
  case first =>
    obtain ⟨c1, hc1, s1⟩ : ∃ c1 : Nat, c1 ≤ 100 ∧ IntKind.i64.wrap (1 + (inn : Int)) = (c1 : Int) := ⟨1 + inn, by omega, by rw [IntKind.wrap_i64]; omega⟩
    obtain ⟨c2, hc2, s2⟩ : ∃ c2 : Nat, c2 ≤ 200 ∧ IntKind.i64.wrap ((c1 : Int) + (R.length : Int)) = (c2 : Int) := ⟨c1 + R.length, by omega, by rw [IntKind.wrap_i64]; omega⟩
    obtain ⟨cap, hcap, s3⟩ : ∃ cap : Nat, cap ≤ 300 ∧ IntKind.i64.wrap ((c2 : Int) + (L.length : Int)) = (cap : Int) := ⟨c2 + L.length, by omega, by rw [IntKind.wrap_i64]; omega⟩
    obtain ⟨i0, hi, hz0, hz1, hz2⟩ := info_parts info69r
    have hmk := fun W : World => run_make (P := Tryf.prog) W 68 69 i0 _ Tryf.underlying68 hi hz0 .i64 .i64 0 (cap : Int) (by omega) (by omega) (by rw [hz2]; omega) (by omega)
    have HCAP := Aside0.mk (show cap ≤ 1000 by omega)
    rw [hz1] at hmk
    simp only [Int.toNat_natCast, Int.toNat_zero] at hmk
    have HKP := Aside0.mk (show ∀ W, Below w7.heap.size w7 W → W.cell? ⟨gn, 0, none⟩ = some (.int .u64 lv) ∧ W.cell? ⟨gn, 1, none⟩ = some (.int .u64 ix) ∧ Aside0 (Below w7.heap.size w7 W) from fun W hb =>
      ⟨blk_cell (blk_below HGn.out hb) 0, blk_cell (blk_below HGn.out hb) 1, ⟨hb⟩⟩)
    have hsz := HS7.out
    obtain ⟨M, hM⟩ : ∃ M : Obj, M = .cells (madeCells #[.int .u64 0, .int .u64 0] (cap * 2)) 69 := ⟨_, rfl⟩
    obtain ⟨T, hT⟩ : ∃ T : Obj, T = .cells #[.int .u64 lv, .int .u64 ix] 69 := ⟨_, rfl⟩
    have hwle : w.heap.size ≤ w7.heap.size := HB7.out.size
    have HOA := Aside0.mk (show Kd.R k69 69 ((w7.alloc M).alloc T).drew w.heap.size (fun k => gn < k) (.slice (some ⟨w7.heap.size, 0, none⟩) 0 cap) [] from by
      rw [hM]; exact Kd.R_drew (Kd.R_alloc (made_R w7 w.heap.size cap _ hwle (by omega) (by omega)) _))
    have HRA := Aside0.mk (show ReadsRow NodeCells k69.sz ((w7.alloc M).alloc T).drew (some ⟨w7.heap.size + 1, 0, none⟩) 1 [⟨lv, ix⟩] from by
      have := lit_C (w7.alloc M) ⟨lv, ix⟩
      rw [show (w7.alloc M).heap.size = w7.heap.size + 1 by simp] at this
      rw [hT]; exact this)
    have HOB := Aside0.mk (show Kd.R k69 69 ((w7.alloc T).alloc M).drew w.heap.size (fun k => gn < k) (.slice (some ⟨w7.heap.size + 1, 0, none⟩) 0 cap) [] from by
      have := made_R (w7.alloc T) w.heap.size cap (fun k => gn < k) (by simp; omega) (by simp; omega) (by omega)
      rw [show (w7.alloc T).heap.size = w7.heap.size + 1 by simp] at this
      rw [hM]; exact Kd.R_drew this)
    have HRB := Aside0.mk (show ReadsRow NodeCells k69.sz ((w7.alloc T).alloc M).drew (some ⟨w7.heap.size, 0, none⟩) 1 [⟨lv, ix⟩] from by
      have h1 := lit_C w7 ⟨lv, ix⟩
      rw [hT]
      exact h1.imp_ (below_alloc (Below.refl _ _) _).drew (fun _ _ h => h))
    have HFA := Aside0.mk (show ∀ k, ((w7.alloc M).alloc T).drew.heap.size ≤ k → gn < k from fun k hk => by have : ((w7.alloc M).alloc T).drew.heap.size = w7.heap.size + 1 + 1 := by simp
                                                                                                            omega)
    have HFB := Aside0.mk (show ∀ k, ((w7.alloc T).alloc M).drew.heap.size ≤ k → gn < k from fun k hk => by have : ((w7.alloc T).alloc M).drew.heap.size = w7.heap.size + 1 + 1 := by simp
                                                                                                            omega)
    have HBA := Aside0.mk (show Below w7.heap.size w7 ((w7.alloc M).alloc T).drew from (below_alloc (below_alloc (Below.refl _ _) _) _).drew)
    have HBB := Aside0.mk (show Below w7.heap.size w7 ((w7.alloc T).alloc M).drew from (below_alloc (below_alloc (Below.refl _ _) _) _).drew)
    have HRW := Aside0.mk (show ∀ (a c : Nat) (W w8 : World) (k : Nat), w7.heap.size ≤ k → Below w7.heap.size w7 W → W.grownBy w8 (Value.slice (some ⟨k, 0, none⟩) a c).ownBlock → Below w7.heap.size w7 w8 from fun a c W w8 k hk hb hg =>
      hb.grown hg hb.size (fun q hq => by simp [Value.ownBlock] at hq; omega))
    have hM2 := hM
    rw [hM] at HOA HRA HOB HRB HFA HFB HBA HBB
    rw [hT] at HOA HRA HOB HRB HFA HFB HBA HBB
    clear hsz hwle hM hM2 hT M T
    go_region_held3 (fun W => W.cell? ⟨gn, 0, none⟩ = some (.int .u64 lv) ∧ W.cell? ⟨gn, 1, none⟩ = some (.int .u64 ix) ∧ Aside0 (Below w7.heap.size w7 W))
      (first | exact HKP.out _ (Below.refl _ _).drew | exact HKP.out _ (below_alloc (Below.refl _ _) _).drew | exact HKP.out _ (below_alloc (below_alloc (Below.refl _ _) _) _).drew | exact HKP.out _ HBn.out)
      (first
        | (refine Kd.R_append_rows_step (P := Tryf.prog) k69 (Rr := NodeCells) (w0 := w7) w.heap.size (by rfl) (.tmp 51) (.tmp 53) 68 69 (.agg #[.int .u64 0, .int .u64 0]) 16 rfl Tryf.underlying68 info69r rfl (by decide) (by decide) _ [] [⟨lv, ix⟩] _ 1 1 (fun k => gn < k) (fun _ => False) rfl rfl HOA.out HRA.out (nodeCells_M _ _ _) (fun _ h => h.elim) HFA.out (HBA.out.mono HB7.out.size) (Nat.le_trans HB7.out.size HBA.out.size) (by decide) ?_; intro v8 w8 hR8 hB8 hg8 _; have HV8 := Aside0.mk hR8; have HBn := Aside0.mk (HRW.out _ _ _ _ _ (Nat.le_refl _) HBA.out hg8); clear hR8 hB8 hg8)
        | (refine Kd.R_append_rows_step (P := Tryf.prog) k69 (Rr := NodeCells) (w0 := w7) w.heap.size (by rfl) (.tmp 51) (.tmp 53) 68 69 (.agg #[.int .u64 0, .int .u64 0]) 16 rfl Tryf.underlying68 info69r rfl (by decide) (by decide) _ [] [⟨lv, ix⟩] _ 1 1 (fun k => gn < k) (fun _ => False) rfl rfl HOB.out HRB.out (nodeCells_M _ _ _) (fun _ h => h.elim) HFB.out (HBB.out.mono HB7.out.size) (Nat.le_trans HB7.out.size HBB.out.size) (by decide) ?_; intro v8 w8 hR8 hB8 hg8 _; have HV8 := Aside0.mk hR8; have HBn := Aside0.mk (HRW.out _ _ _ _ _ (Nat.le_succ _) HBB.out hg8); clear hR8 hB8 hg8))
    all_goals
      go_wp2
      go_meet
      case rel => exact ⟨HV8, HBn⟩
  case rest =>
    obtain ⟨HV, HB⟩ := hcut
    have HB0 := Aside0.mk (below_next HB7.out HB.out)
    have HGn := Aside0.mk (blk_below HGn.out HB.out)
    have HGf := Aside0.mk (blk_below HGf.out HB.out)
    have HG6 := Aside0.mk (blk_below HG6.out HB.out)
    have HR0 := Aside0.mk (show Kd.R k69 69 wc w.heap.size (fun k => gn < k) u14 ([⟨lv, ix⟩] ++ sibs lv ix 0) from HV.out)
    clear HV HB HB7 HS7
    go_wp2
    go_loopg [14] inn (fun kq v14 W => ∃ t q : Nat, t ≤ inn ∧ Aside0 (kq + t = inn) ∧ Aside0 (q = ix / 2 ^ t) ∧ Aside0 (Kd.R k69 69 W w.heap.size (fun k => gn < k) v14 ([⟨lv, ix⟩] ++ sibs lv ix t)) ∧
      Aside0 (W.heap[gn]? = some (.cells #[.int .u64 ((lv : Int) + (t : Int)), .int .u64 q] 69 (0, 0))) ∧ Aside0 (W.heap[gf]? = some (.cells #[.int .u64 ((lv : Int) + (inn : Int)), .int .u64 fi] 69 (0, 0))) ∧
      Aside0 (W.heap[w.heap.size]? = some (.cells #[.slice none 0 0, .int .i64 0, .int .i64 0, .int .u64 0, .int .u64 0] 71 (0, 0))) ∧ Aside0 (Below w.heap.size w W))
    case atStart => exact ⟨0, ix, Nat.zero_le _, ⟨rfl⟩, ⟨by simp⟩, HR0, by simpa using HGn, HGf, HG6, HB0⟩
    case round =>
      obtain ⟨t, q, ht, HK, HQ, HV, HGn, HGf, HG6, HB⟩ := hrel
      by_cases hlt : t < inn
      · have cn0 := blk_cell HGn.out 0
        have cn1 := blk_cell HGn.out 1
        have cf0 := blk_cell HGf.out 0
        simp only [Array.getElem?_eq_getElem, List.size_toArray, List.length_cons, List.length_nil, Nat.lt_add_one, Nat.zero_lt_succ, List.getElem_toArray, List.getElem_cons_zero, List.getElem_cons_succ] at cn0 cn1 cf0
        obtain ⟨a1, ha1⟩ : ∃ a1 : Int, a1 = (lv : Int) + ((t + 1 : Nat) : Int) := ⟨_, rfl⟩
        obtain ⟨q2, hq2⟩ : ∃ q2 : Nat, q2 = q / 2 := ⟨_, rfl⟩
        have HPAR := Aside0.mk (show compact_NodeID_Parent.f ((lv : Int) + (t : Int)) (q : Int) = some (a1, (q2 : Int)) by
          have e1 : IntKind.u64.wrap ((lv : Int) + (t : Int) + 1) = a1 := by rw [IntKind.wrap_u64, ha1]; omega
          have e2 : (q : Int) / 2 = (q2 : Int) := by rw [hq2]; omega
          simp only [compact_NodeID_Parent.f, compact_NewNodeID.f, Option.bind_some, e1, e2])
        have HA1 := Aside0.mk ha1
        have HQ2 := Aside0.mk hq2
        have hlen : ([(⟨lv, ix⟩ : S69)] ++ sibs lv ix t).length ≤ 100 := by simp [sibs]; omega
        have HLEN := Aside0.mk hlen
        clear ha1 hq2 hlen
        go_wp2_with (first
          | (go_at_call 66; (refine (compact_NodeID_Sibling.calls _ _ _ _ _ rfl).mono ?_); rintro e w8 ⟨rfl, hB8⟩; have HV8 := Aside0.mk (Kd.R_below HV.out hB8); have HGn8 := Aside0.mk (blk_below HGn.out hB8); have HGf8 := Aside0.mk (blk_below HGf.out hB8); have HG68 := Aside0.mk (blk_below HG6.out hB8); have HB8 := Aside0.mk (below_next HB.out hB8); clear hB8)
          | (refine Kd.R_append (P := Tryf.prog) k69 (w0 := w) w.heap.size rfl (.tmp 62) (.tmp 65) 68 69 (.agg #[.int .u64 0, .int .u64 0]) 16 rfl Tryf.underlying68 info69r rfl (by decide) (by decide) _ _ (⟨(lv : Int) + (t : Int), Go.bits .xor .u64 (q : Int) 1⟩ : S69) [.int .u64 ((lv : Int) + (t : Int)), .int .u64 (Go.bits .xor .u64 (q : Int) 1)] (fun k => gn < k) (fun _ => False) rfl rfl (k69_mkM _ _ _ _) (fun _ h => h.elim) (fun k hk => by have := blk_lt HGn8.out; omega) HV8.out HB8.out HB8.out.size (by have := HLEN.out; omega) ?_
             intro v9 w9 hR9 hB9 hg9 _
             have hrow := row_of hg9 HV8.out
             have HV9 := Aside0.mk hR9
             have HB9 := Aside0.mk hB9
             have HGn9 := Aside0.mk (blk_row HGn8.out hrow (Nat.le_refl _))
             have HGf9 := Aside0.mk (blk_row HGf8.out hrow (Nat.le_of_lt HNf.out))
             have HG69 := Aside0.mk (blk_row HG68.out hrow (Nat.le_of_lt HN6.out))
             have dn0 := blk_cell HGn9.out 0
             have dn1 := blk_cell HGn9.out 1
             simp only [Array.getElem?_eq_getElem, List.size_toArray, List.length_cons, List.length_nil, Nat.lt_add_one, Nat.zero_lt_succ, List.getElem_toArray, List.getElem_cons_zero, List.getElem_cons_succ] at dn0 dn1
             clear hR9 hB9 hg9 hrow)
          | (go_at_call 65; (refine (compact_NodeID_Parent.calls _ _ _ _ _ HPAR.out).mono ?_); rintro e w10 ⟨rfl, hB10⟩
             have HV10 := Aside0.mk (Kd.R_below HV9.out hB10)
             have HGn10 := Aside0.mk (blk_below HGn9.out hB10)
             have HGf10 := Aside0.mk (blk_below HGf9.out hB10)
             have HG610 := Aside0.mk (blk_below HG69.out hB10)
             have HB10 := Aside0.mk (below_next HB9.out hB10)
             have dn2 := blk_cell HGn10.out 0
             have dn3 := blk_cell HGn10.out 1
             have fz0 := blk_frozen HGn10.out 0
             have fz1 := blk_frozen HGn10.out 1
             simp only [Array.getElem?_eq_getElem, List.size_toArray, List.length_cons, List.length_nil, Nat.lt_add_one, Nat.zero_lt_succ, List.getElem_toArray, List.getElem_cons_zero, List.getElem_cons_succ] at dn2 dn3
             clear hB10))
        go_roundg (inn - (t + 1))
        case measure => have := HK.out; omega
        case rel =>
          refine ⟨t + 1, q2, by omega, ⟨by omega⟩, ⟨?_⟩, ⟨?_⟩, ⟨?_⟩, ⟨?_⟩, ⟨?_⟩, ⟨?_⟩⟩
          · rw [HQ2.out, HQ.out, Nat.div_div_eq_div_mul, Nat.pow_succ]
          · rw [sibs_succ, ← List.append_assoc]
            have h1 : (⟨(lv : Int) + (t : Int), Go.bits .xor .u64 (q : Int) 1⟩ : S69) = sibN lv ix t := by rw [sibN, HQ.out]
            rw [← h1]
            exact Kd.R_far (p := ⟨gn, 1, none⟩) (Kd.R_far (p := ⟨gn, 0, none⟩) HV10.out (fun k hk => Nat.ne_of_gt hk) _) (fun k hk => Nat.ne_of_gt hk) _
          · have := blk_set (blk_set HGn10.out 0 (.int .u64 a1)) 1 (.int .u64 (q2 : Int))
            rw [← HA1.out]
            simpa using this
          · exact blk_far (blk_far HGf10.out (Nat.ne_of_lt HNf.out) _) (Nat.ne_of_lt HNf.out) _
          · exact blk_far (blk_far HG610.out (Nat.ne_of_lt HN6.out) _) (Nat.ne_of_lt HN6.out) _
          · exact (HB10.out.setCell (p := ⟨gn, 0, none⟩) (Nat.le_of_lt HN6.out) _).setCell (p := ⟨gn, 1, none⟩) (Nat.le_of_lt HN6.out) _
      · obtain rfl : t = inn := by omega
        obtain ⟨l1, hl1⟩ : ∃ l1 : List S69, l1 = [⟨lv, ix⟩] ++ sibs lv ix t := ⟨_, rfl⟩
        have hl1n : l1.length = 1 + t := by rw [hl1]; simp [sibs]; omega
        obtain ⟨l2, hl2⟩ : ∃ l2, l2 = l1 ++ R := ⟨_, rfl⟩
        have hl2n : l2.length = 1 + t + R.length := by rw [hl2, List.length_append, hl1n]
        obtain ⟨l3, hl3⟩ : ∃ l3, l3 = l1 ++ R.reverse := ⟨_, rfl⟩
        have hl3n : l3.length = 1 + t + R.length := by rw [hl3, List.length_append, List.length_reverse, hl1n]
        obtain ⟨l4, hl4⟩ : ∃ l4, l4 = l3 ++ L := ⟨_, rfl⟩
        have hl4n : l4.length = 1 + t + R.length + L.length := by rw [hl4, List.length_append, hl3n]
        have HV1 := Aside0.mk (show Kd.R k69 69 wr w.heap.size (fun k => gn < k) u14 l1 by rw [hl1]; exact HV.out)
        have HRN1 := Aside0.mk (show compact_RangeNodes.f k (e : Int) (sz : Int) l1 = some l2 by rw [hl2]; exact HF.out.rn1 l1 (by omega))
        have HRN2 := Aside0.mk (show compact_RangeNodes.f k 0 (b : Int) l3 = some l4 by rw [hl4]; exact HF.out.rn2 l3 (by omega))
        obtain ⟨lo1, hlo1⟩ : ∃ lo1 : Nat, lo1 = l1.length := ⟨_, rfl⟩
        obtain ⟨lo2, hlo2⟩ : ∃ lo2 : Nat, lo2 = l3.length := ⟨_, rfl⟩
        have hs1 : (l2.length : Int) - (R.length : Int) = (lo1 : Int) := by omega
        have hs2 : (l4.length : Int) - (L.length : Int) = (lo2 : Int) := by omega
        have hb2 : l2.length ≤ 200 := by omega
        have hb4 : l4.length ≤ 300 := by omega
        have hcut1 := fun (A : Option Addr) (c : Nat) (W : World) => run_cut69' A l2.length c lo1 (by omega) W
        have hcut2 := fun (A : Option Addr) (c : Nat) (W : World) => run_cut69' A l4.length c lo2 (by omega) W
        have HR1 := Aside0.mk (fun (A : Option Addr) (c : Nat) (W : World) (h : Kd.R k69 69 W w.heap.size (fun k => gn < k) (.slice A l2.length c) l2) => reverse_R' l2 lo1 (by omega) (by omega) _ _ A c W h)
        have HR2 := Aside0.mk (fun (A : Option Addr) (c : Nat) (W : World) (h : Kd.R k69 69 W w.heap.size (fun k => gn < k) (.slice A l4.length c) l4) => reverse_R' l4 lo2 (by omega) (by omega) _ _ A c W h)
        have ht3 : l2.take lo1 ++ (l2.drop lo1).reverse = l3 := by rw [hl2, hl3, hlo1, List.take_left, List.drop_left]
        have ht5 : l4.take lo2 ++ (l4.drop lo2).reverse = [⟨lv, ix⟩] ++ sibs lv ix t ++ R.reverse ++ L.reverse := by rw [hl4, hlo2, List.take_left, List.drop_left, hl3, hl1]
        rw [ht3] at HR1
        rw [ht5] at HR2
        have hc1 : (l1.length : Int) = ((1 + t : Nat) : Int) := by omega
        have hc2 : (l2.length : Int) = ((1 + t + R.length : Nat) : Int) := by omega
        have HC1 := Aside0.mk hc1
        have HC2 := Aside0.mk hc2
        have HLR := Aside0.mk (show l2.length = l1.length + R.length by omega)
        obtain ⟨A1, c1, rfl⟩ := Kd.R_slice HV1.out
        have HNW := Aside0.mk (show gn < wr.heap.size from blk_lt HGn.out)
        have cn0 := blk_cell HGn.out 0
        have cf0 := blk_cell HGf.out 0
        simp only [Array.getElem?_eq_getElem, List.size_toArray, List.length_cons, List.length_nil, Nat.zero_lt_succ, List.getElem_toArray, List.getElem_cons_zero] at cn0 cf0
        have hsib : compact_NodeID_Sibling.f ((lv : Int) + (t : Int)) (fi : Int) = some ((lv : Int) + (t : Int), Go.bits .xor .u64 (fi : Int) 1) := rfl
        have HSIB := Aside0.mk hsib
        clear hl1 hl2 hl3 hl4 hl1n hl2n hl3n hl4n hlo1 hlo2 ht3 ht5 HV HGn hc1 hc2 hsib
        by_cases hR0 : R.length = 0
        all_goals
          have HR0 := Aside0.mk hR0
          first
            | (have hge : decide (l2.length ≤ l1.length) = true := by have := HLR.out; simp; omega
               have HRES1 := Aside0.mk (show (if R.length = 0 then (0 : Int) else ((1 + t : Nat) : Int)) = 0 by simp [hR0])
               have HRES2 := Aside0.mk (show (if R.length = 0 then (0 : Int) else ((1 + t + R.length : Nat) : Int)) = 0 by simp [hR0]))
            | (have hge : decide (l2.length ≤ l1.length) = false := by have := HLR.out; simp; omega
               have HRES1 := Aside0.mk (show (if R.length = 0 then (0 : Int) else ((1 + t : Nat) : Int)) = (l1.length : Int) by rw [HC1.out, if_neg hR0])
               have HRES2 := Aside0.mk (show (if R.length = 0 then (0 : Int) else ((1 + t + R.length : Nat) : Int)) = (l2.length : Int) by rw [HC2.out, if_neg hR0]))
          clear hR0
          go_wp2_with (first
            | (go_at_call 67; (with_reducible refine (compact_RangeNodes.calls k _ _ (fun k => gn < k) _ _ _ w _ HB.out HV1.out HRN1.out).mono ?_)
               rintro e w12 ⟨v12, rfl, hR12, hB12, hK12⟩
               obtain ⟨A12, c12, rfl⟩ := Kd.R_slice hR12
               have HV12 := Aside0.mk (Kd.R_mono hR12 (ok' := fun k => gn < k) (fun k hk => by have := HNW.out; rcases hk with hk | hk <;> omega))
               have HGf12 := Aside0.mk (blk_kept' HGf.out hK12 (by have := HNf.out; omega))
               have HG612 := Aside0.mk (blk_kept' HG6.out hK12 (by have := HN6.out; omega))
               have HB12 := Aside0.mk hB12
               have HNW12 := Aside0.mk (Nat.lt_of_lt_of_le HNW.out hK12.1)
               clear hR12 hB12 hK12)
            | (go_at_call 68; (with_reducible refine (HR1.out _ _ _ HV12.out).mono ?_)
               rintro e w13 ⟨rfl, hR13, hrow⟩
               have HV13 := Aside0.mk hR13
               have HGf13 := Aside0.mk (blk_row HGf12.out hrow (Nat.le_of_lt HNf.out))
               have HG613 := Aside0.mk (blk_row HG612.out hrow (Nat.le_of_lt HN6.out))
               have HB13 := Aside0.mk (below_row HB12.out hrow)
               have HNW13 := Aside0.mk (Nat.lt_of_lt_of_le HNW12.out (by obtain ⟨r, h1, _⟩ := hrow; exact h1.size))
               clear hR13 hrow)
            | (go_at_call 67; (with_reducible refine (compact_RangeNodes.calls k _ _ (fun k => gn < k) _ _ _ w _ HB13.out HV13.out HRN2.out).mono ?_)
               rintro e w14 ⟨v14, rfl, hR14, hB14, hK14⟩
               obtain ⟨A14, c14, rfl⟩ := Kd.R_slice hR14
               have HV14 := Aside0.mk (Kd.R_mono hR14 (ok' := fun k => gn < k) (fun k hk => by have := HNW13.out; rcases hk with hk | hk <;> omega))
               have HGf14 := Aside0.mk (blk_kept' HGf13.out hK14 (by have := HNf.out; omega))
               have HG614 := Aside0.mk (blk_kept' HG613.out hK14 (by have := HN6.out; omega))
               have HB14 := Aside0.mk hB14
               clear hR14 hB14 hK14)
            | (go_at_call 68; (with_reducible refine (HR2.out _ _ _ HV14.out).mono ?_)
               rintro e w15 ⟨rfl, hR15, hrow⟩
               have HV15 := Aside0.mk hR15
               have HGf15 := Aside0.mk (blk_row HGf14.out hrow (Nat.le_of_lt HNf.out))
               have HG615 := Aside0.mk (blk_row HG614.out hrow (Nat.le_of_lt HN6.out))
               have HB15 := Aside0.mk (below_row HB14.out hrow)
               have kf0 := blk_cell HGf15.out 0
               have kf1 := blk_cell HGf15.out 1
               simp only [Array.getElem?_eq_getElem, List.size_toArray, List.length_cons, List.length_nil, Nat.lt_add_one, Nat.zero_lt_succ, List.getElem_toArray, List.getElem_cons_zero, List.getElem_cons_succ] at kf0 kf1
               clear hR15 hrow)
            | (go_at_call 66; (refine (compact_NodeID_Sibling.calls _ _ _ _ _ HSIB.out).mono ?_); rintro e w16 ⟨rfl, hB16⟩
               have HV16 := Aside0.mk (Kd.R_below HV15.out hB16)
               have HG616 := Aside0.mk (blk_below HG615.out hB16)
               have HB16 := Aside0.mk (below_next HB15.out hB16)
               have z0 := blk_cell HG616.out 0
               have z1 := blk_cell HG616.out 1
               have z2 := blk_cell HG616.out 2
               have z3 := blk_cell HG616.out 3
               have z4 := blk_cell HG616.out 4
               have y0 := blk_frozen HG616.out 0
               have y1 := blk_frozen HG616.out 1
               have y2 := blk_frozen HG616.out 2
               have y3 := blk_frozen HG616.out 3
               have y4 := blk_frozen HG616.out 4
               simp only [Array.getElem?_eq_getElem, List.size_toArray, List.length_cons, List.length_nil, Nat.reduceAdd, Nat.reduceLT, List.getElem_toArray, List.getElem_cons_zero, List.getElem_cons_succ] at z0 z1 z2 z3 z4
               clear hB16))
          have hblk := blk_set (blk_set (blk_set (blk_set (blk_set HG616.out 0 (.slice A14 l4.length c14)) 1 (.int .i64 (if R.length = 0 then (0 : Int) else ((1 + t : Nat) : Int)))) 2 (.int .i64 (if R.length = 0 then (0 : Int) else ((1 + t + R.length : Nat) : Int)))) 3 (.int .u64 ((lv : Int) + (t : Int)))) 4 (.int .u64 (Go.bits .xor .u64 (fi : Int) 1))
          rw [HRES1.out, HRES2.out] at hblk
          refine bodyPost_ret (results_cell_row rfl _ _ w.heap.size 71 _ (0, 0) _ rfl hblk Tryf.underlying71 rfl (by kernel_rfl)) rfl ?_
          refine ⟨_, by rw [HRES1.out, HRES2.out]; rfl, ?_, ?_⟩
          · exact Kd.R_mono (Kd.R_far (p := ⟨w.heap.size, 4, none⟩) (Kd.R_far (p := ⟨w.heap.size, 3, none⟩) (Kd.R_far (p := ⟨w.heap.size, 2, none⟩) (Kd.R_far (p := ⟨w.heap.size, 1, none⟩) (Kd.R_far (p := ⟨w.heap.size, 0, none⟩) HV16.out
              (fun k hk => by have := HN6.out; show k ≠ w.heap.size; omega) _) (fun k hk => by have := HN6.out; show k ≠ w.heap.size; omega) _) (fun k hk => by have := HN6.out; show k ≠ w.heap.size; omega) _) (fun k hk => by have := HN6.out; show k ≠ w.heap.size; omega) _) (fun k hk => by have := HN6.out; show k ≠ w.heap.size; omega) _) (fun _ _ => trivial)
          · exact ((((HB16.out.setCell (p := ⟨w.heap.size, 0, none⟩) (Nat.le_refl _) _).setCell (p := ⟨w.heap.size, 1, none⟩) (Nat.le_refl _) _).setCell (p := ⟨w.heap.size, 2, none⟩) (Nat.le_refl _) _).setCell (p := ⟨w.heap.size, 3, none⟩) (Nat.le_refl _) _).setCell (p := ⟨w.heap.size, 4, none⟩) (Nat.le_refl _) _
end Go.Proofs.YtdjfagknffknjaaFmt.H
end

section
namespace Go.Proofs.YtdjfagknffknjaaFmt.H
open Go.RowKit Go.Extern.Stop Go.Stop Go.Extern Go.Proofs.YtdjfagknffknjaaFmtW.PrintWords Go.Proofs.YtdjfagknffknjaaFmtW.PrintLast Go.Proofs.YtdjfagknffknjaaFmtW.PrintMore Go.Proofs.YtdjfagknffknjaaFmt.Q
/-- What proof.Nodes tells: its nodes, begin and end, the ephemeral node. -/
structure NodesV where
  ids : List S69
  bg : Int
  en : Int
  e0 : Int
  e1 : Int
/-- The value of a proof.Nodes. -/
def NodesVal (w : World) (v : Value) (n : NodesV) : Prop := ∃ A c, v = .agg #[.slice A n.ids.length c, .int .i64 n.bg, .int .i64 n.en, .int .u64 n.e0, .int .u64 n.e1] ∧ n.ids.length ≤ c ∧ k69.C w A n.ids.length n.ids
/-- What Inclusion and Consistency hand back. -/
def NodesOut (n : NodesV) (w : World) (e : Ending) (w' : World) : Prop := ∃ v, e = .returned (.tuple #[v, .nilIface]) ∧ NodesVal w' v n ∧ Below w.heap.size w w'
/-- The plan of nodes, and that less its first node. -/
def planOfFork (lv ix inn fi : Nat) (R L : List S69) : NodesV :=
  ⟨[⟨lv, ix⟩] ++ sibs lv ix inn ++ R.reverse ++ L.reverse, (if R.length = 0 then 0 else ((1 + inn : Nat) : Int)), (if R.length = 0 then 0 else ((1 + inn + R.length : Nat) : Int)), (lv : Int) + (inn : Int), Go.bits .xor .u64 (fi : Int) 1⟩
def skipOfFork (lv ix inn fi : Nat) (R L : List S69) : NodesV :=
  ⟨sibs lv ix inn ++ R.reverse ++ L.reverse, (if R.length = 0 then 0 else (inn : Int)), (if R.length = 0 then 0 else ((inn + R.length : Nat) : Int)), (lv : Int) + (inn : Int), Go.bits .xor .u64 (fi : Int) 1⟩
theorem skip_eq (lv ix inn fi : Nat) (R L : List S69) (h : inn ≤ 1000) (hR : R.length ≤ 1000) :
    proof_Nodes_skipFirst.f (planOfFork lv ix inn fi R L).ids (planOfFork lv ix inn fi R L).bg (planOfFork lv ix inn fi R L).en (planOfFork lv ix inn fi R L).e0 (planOfFork lv ix inn fi R L).e1 =
      some ((skipOfFork lv ix inn fi R L).ids, (skipOfFork lv ix inn fi R L).bg, (skipOfFork lv ix inn fi R L).en, (skipOfFork lv ix inn fi R L).e0, (skipOfFork lv ix inn fi R L).e1) := by
  have hl : 1 ≤ ((planOfFork lv ix inn fi R L).ids.length : Int) := by simp [planOfFork]; omega
  have hd : (planOfFork lv ix inn fi R L).ids.drop (1 : Int).toNat = (skipOfFork lv ix inn fi R L).ids := by simp [planOfFork, skipOfFork]
  simp only [proof_Nodes_skipFirst.f]
  rw [if_pos hl]
  simp only [Option.bind_some, hd]
  by_cases h0 : R.length = 0
  · have h1 : (planOfFork lv ix inn fi R L).bg = 0 := by simp [planOfFork, h0]
    have h2 : (planOfFork lv ix inn fi R L).en = 0 := by simp [planOfFork, h0]
    have h3 : (skipOfFork lv ix inn fi R L).bg = 0 := by simp [skipOfFork, h0]
    have h4 : (skipOfFork lv ix inn fi R L).en = 0 := by simp [skipOfFork, h0]
    rw [h1, h2, h3, h4, if_neg (by omega)]; rfl
  · have h1 : (planOfFork lv ix inn fi R L).bg = ((1 + inn : Nat) : Int) := by simp only [planOfFork]; rw [if_neg h0]
    have h2 : (planOfFork lv ix inn fi R L).en = ((1 + inn + R.length : Nat) : Int) := by simp only [planOfFork]; rw [if_neg h0]
    have h3 : (skipOfFork lv ix inn fi R L).bg = (inn : Int) := by simp only [skipOfFork]; rw [if_neg h0]
    have h4 : (skipOfFork lv ix inn fi R L).en = ((inn + R.length : Nat) : Int) := by simp only [skipOfFork]; rw [if_neg h0]
    have w1 : wrap64 (((1 + inn : Nat) : Int) - 1) = (inn : Int) := by unfold wrap64; omega
    have w2 : wrap64 (((1 + inn + R.length : Nat) : Int) - 1) = ((inn + R.length : Nat) : Int) := by unfold wrap64; omega
    rw [h1, h2, h3, h4, if_pos (by omega), w1, w2]; rfl
theorem nodes_out (k lv ix sz inn fi b e : Nat) (R L : List S69) (hF : Fork k lv ix sz inn fi b e R L) (w : World) :
    Calls Tryf.prog 43 #[.int .u64 ix, .int .u64 lv, .int .u64 sz] w fun e w' => ∃ v, e = .returned (.agg #[v, .int .i64 (planOfFork lv ix inn fi R L).bg, .int .i64 (planOfFork lv ix inn fi R L).en, .int .u64 (planOfFork lv ix inn fi R L).e0, .int .u64 (planOfFork lv ix inn fi R L).e1]) ∧
      Kd.R k69 69 w' w.heap.size (fun _ => True) v (planOfFork lv ix inn fi R L).ids ∧ Below w.heap.size w w' := nodes_any k lv ix sz inn fi b e R L hF w
/-- Five stores into a box of one's own. -/
theorem q_set5 {w : World} {base g : Nat} {v : Value} {l : List S69} (h : Kd.Q k69 69 w base (fun k => g < k) v l) (a b c d e : Value) :
    Kd.Q k69 69 (((((w.setCell ⟨g, 0, none⟩ a).setCell ⟨g, 1, none⟩ b).setCell ⟨g, 2, none⟩ c).setCell ⟨g, 3, none⟩ d).setCell ⟨g, 4, none⟩ e) base (fun k => g < k) v l :=
  Kd.Q_far (Kd.Q_far (Kd.Q_far (Kd.Q_far (Kd.Q_far h (fun _ hk => Nat.ne_of_gt hk) _) (fun _ hk => Nat.ne_of_gt hk) _) (fun _ hk => Nat.ne_of_gt hk) _) (fun _ hk => Nat.ne_of_gt hk) _) (fun _ hk => Nat.ne_of_gt hk) _
theorem below_set5 {B : Nat} {w0 w : World} {g : Nat} (h : Below B w0 w) (hg : B ≤ g) (a b c d e : Value) :
    Below B w0 (((((w.setCell ⟨g, 0, none⟩ a).setCell ⟨g, 1, none⟩ b).setCell ⟨g, 2, none⟩ c).setCell ⟨g, 3, none⟩ d).setCell ⟨g, 4, none⟩ e) :=
  ((((h.setCell (p := ⟨g, 0, none⟩) hg _).setCell (p := ⟨g, 1, none⟩) hg _).setCell (p := ⟨g, 2, none⟩) hg _).setCell (p := ⟨g, 3, none⟩) hg _).setCell (p := ⟨g, 4, none⟩) hg _
theorem blk_set5 {w : World} {g : Nat} {t : TypeId} {x0 x1 x2 x3 x4 : Value} (h : w.heap[g]? = some (.cells #[x0, x1, x2, x3, x4] t (0, 0))) (a b c d e : Value) :
    (((((w.setCell ⟨g, 0, none⟩ a).setCell ⟨g, 1, none⟩ b).setCell ⟨g, 2, none⟩ c).setCell ⟨g, 3, none⟩ d).setCell ⟨g, 4, none⟩ e).heap[g]? = some (.cells #[a, b, c, d, e] t (0, 0)) :=
  blk_set (blk_set (blk_set (blk_set (blk_set h 0 a) 1 b) 2 c) 3 d) 4 e
set_option maxRecDepth 100000 in
set_option maxHeartbeats 4000000 in
theorem inclusion_any (k ix sz inn fi b e : Nat) (R L : List S69) (hlt : ix < sz) (hF : Fork k 0 ix sz inn fi b e R L) (w : World) :
    Calls Tryf.prog 30 #[.int .u64 ix, .int .u64 sz] w (NodesOut (skipOfFork 0 ix inn fi R L) w) := by
  have hu71 := Tryf.underlying71
  have c0 : decide (sz ≤ ix) = false := by simp; omega
  have HC := Aside0.mk (fun W => nodes_out k 0 ix sz inn fi b e R L hF W)
  obtain ⟨p, hp⟩ : ∃ p, p = planOfFork 0 ix inn fi R L := ⟨_, rfl⟩
  obtain ⟨s, hs⟩ : ∃ s, s = skipOfFork 0 ix inn fi R L := ⟨_, rfl⟩
  have hsk := skip_eq 0 ix inn fi R L (by have := hF.inn64; omega) (by have := hF.R64; omega)
  rw [← hp, ← hs] at hsk
  rw [← hp] at HC
  rw [← hs]
  have HSK := Aside0.mk hsk
  clear hF hsk hp hs
  obtain ⟨pi, pb, pe, p0, p1⟩ := p
  obtain ⟨si, sb, se, s0, s1⟩ := s
  go_enter Tryf.func30, Tryf.ntmps30
  go_wp2_with (first
    | (go_at_call 43; ((refine (HC.out _).mono ?_); rintro e w1 ⟨v1, rfl, hR1, hB1⟩
                       have HV1 := Aside0.mk (Kd.R_mono (Kd.R_lower (Kd.R_bound hR1) (base' := w.heap.size) (by simp)) (ok' := fun k => w.heap.size < k) (fun k hk => by have := hk.2.1; simp at this; omega))
                       have HG1 := Aside0.mk (blk_below (heap_alloc_new w _) hB1)
                       have HB1 := Aside0.mk (below_next (below_alloc (Below.refl w.heap.size w) _) hB1); clear hR1 hB1))
    | (go_at_call 44; ((refine (proof_Nodes_skipFirst.calls (fun k => w.heap.size < k) _ _ _ _ _ _ _ _ _ _ _ w _ HB1.out HV1.out HSK.out).mono ?_); rintro e w2 ⟨v2, rfl, hQ2, hB2, hK2⟩
                       obtain ⟨A2, c2, rfl, hl2, hC2⟩ := Kd.Q_reads hQ2
                       have HV2 := Aside0.mk (Kd.Q_mono hQ2 (ok' := fun k => w.heap.size < k) (fun k hk => by have := blk_lt HG1.out; rcases hk with hk | hk <;> omega))
                       have HG2 := Aside0.mk (blk_kept' HG1.out hK2 (by omega))
                       have HB2 := Aside0.mk hB2
                       have z0 := blk_cell HG2.out 0
                       have z1 := blk_cell HG2.out 1
                       have z2 := blk_cell HG2.out 2
                       have z3 := blk_cell HG2.out 3
                       have z4 := blk_cell HG2.out 4
                       have y0 := blk_frozen HG2.out 0
                       have y1 := blk_frozen HG2.out 1
                       have y2 := blk_frozen HG2.out 2
                       have y3 := blk_frozen HG2.out 3
                       have y4 := blk_frozen HG2.out 4
                       simp only [Array.getElem?_eq_getElem, List.size_toArray, List.length_cons, List.length_nil, Nat.reduceAdd, Nat.reduceLT, List.getElem_toArray, List.getElem_cons_zero, List.getElem_cons_succ] at z0 z1 z2 z3 z4
                       clear hQ2 hl2 hC2 hB2 hK2)))
  have hblk := blk_set5 HG2.out (.slice A2 si.length c2) (.int .i64 sb) (.int .i64 se) (.int .u64 s0) (.int .u64 s1)
  refine bodyPost_ret (results_ct rfl _ _ w.heap.size 71 _ (0, 0) _ rfl hblk Tryf.underlying71 rfl (by kernel_rfl)) rfl ?_
  have hq := Kd.Q_reads' (q_set5 HV2.out (.slice A2 si.length c2) (.int .i64 sb) (.int .i64 se) (.int .u64 s0) (.int .u64 s1))
  exact ⟨_, rfl, ⟨A2, c2, rfl, hq.2.1, hq.2.2⟩, below_set5 HB2.out (Nat.le_refl _) _ _ _ _ _⟩
set_option maxRecDepth 100000 in
theorem consistency_same (s : Nat) (w : World) : Calls Tryf.prog 37 #[.int .u64 s, .int .u64 s] w (NodesOut ⟨[], 0, 0, 0, 0⟩ w) := by
  have hu71 := Tryf.underlying71
  go_enter Tryf.func37, Tryf.ntmps37
  go_wp2
  have hblk := blk_alloc (heap_alloc_new w (.cells #[.slice (some ⟨w.heap.size + 1, 0, none⟩) 0 0, .int .i64 0, .int .i64 0, .int .u64 0, .int .u64 0] 71)) (.cells #[] 69)
  refine bodyPost_ret (results_ct rfl _ _ w.heap.size 71 _ (0, 0) _ rfl hblk Tryf.underlying71 rfl (by kernel_rfl)) rfl ?_
  exact ⟨_, rfl, ⟨_, 0, rfl, Nat.le_refl _, rfl, by simp, fun h => absurd h (Nat.lt_irrefl 0)⟩, below_alloc (below_alloc (Below.refl _ _) _) _⟩
set_option maxRecDepth 100000 in
set_option maxHeartbeats 4000000 in
theorem consistency_odd (F : Interp) (k s1 sz m lv ix inn fi b e : Nat) (R L : List S69) (h1 : m + 1 = s1) (hlt : s1 < sz) (hlv : Lib.ctz 64 s1 = lv) (hix : m / 2 ^ lv = ix) (hF : Fork k lv ix sz inn fi b e R L) (h0 : 0 < ix) (w : World) (hG : Glob F w) :
    Calls Tryf.prog 37 #[.int .u64 s1, .int .u64 sz] w (NodesOut (planOfFork lv ix inn fi R L) w) := by
  have hu71 := Tryf.underlying71
  have t1 : decide (sz < s1) = false := by simp; omega
  have t2 : ((s1 : Int) == (sz : Int)) = false := by simp; omega
  have t3 : ((s1 : Int) == 0) = false := by simp; omega
  have t4 : ((ix : Int) == 0) = false := by simp; omega
  have hsz64 := hF.sz64
  have hlv63 := hF.lv63
  have m1 : (s1 : Int) - 1 = (m : Int) := by omega
  have m2 : IntKind.u64.wrap ((s1 : Int) - 1) = (m : Int) := by rw [IntKind.wrap_u64]; omega
  have m3 : (m : Int) / 2 ^ lv = (ix : Int) := by rw [← hix]; simp
  have hmin : min lv 64 = lv := Nat.min_eq_left (by omega)
  have hs1 : s1 < 18446744073709551616 := by omega
  have C49 := fun (W : World) (g : Glob F W) => tz_below F s1 hs1 (by omega) W g
  rw [hlv] at C49
  have HC49 := Aside0.mk C49
  have HG := Aside0.mk hG
  have HC := Aside0.mk (fun W => nodes_out k lv ix sz inn fi b e R L hF W)
  obtain ⟨p, hp⟩ : ∃ p, p = planOfFork lv ix inn fi R L := ⟨_, rfl⟩
  rw [← hp] at HC ⊢
  clear hF hp C49 hG h1 hix hlv
  obtain ⟨pi, pb, pe, p0, p1⟩ := p
  go_enter Tryf.func37, Tryf.ntmps37
  go_wp2_with (first
    | (go_at_call 49; ((refine (HC49.out _ (HG.out.below (below_alloc (Below.refl w.heap.size w) _))).mono ?_); rintro e w1 ⟨rfl, hB1⟩
                       have HG1 := Aside0.mk (blk_below (heap_alloc_new w _) hB1)
                       have HB1 := Aside0.mk (below_next (below_alloc (Below.refl w.heap.size w) _) hB1); clear hB1))
    | (go_at_call 43; ((refine (HC.out _).mono ?_); rintro e w2 ⟨v2, rfl, hR2, hB2⟩
                       have hlt1 := blk_lt HG1.out
                       obtain ⟨A2, c2, rfl⟩ := Kd.R_slice hR2
                       have HV2 := Aside0.mk (Kd.R_mono (Kd.R_lower (Kd.R_bound hR2) (base' := w.heap.size) HB1.out.size) (ok' := fun k => w.heap.size < k) (fun k hk => by have := hk.2.1; omega))
                       have HG2 := Aside0.mk (blk_below HG1.out hB2)
                       have HB2 := Aside0.mk (below_next HB1.out hB2)
                       have hz := blk_lt HG2.out
                       have z0 := blk_cell HG2.out 0
                       have z1 := blk_cell HG2.out 1
                       have z2 := blk_cell HG2.out 2
                       have z3 := blk_cell HG2.out 3
                       have z4 := blk_cell HG2.out 4
                       have y0 := blk_frozen HG2.out 0
                       have y1 := blk_frozen HG2.out 1
                       have y2 := blk_frozen HG2.out 2
                       have y3 := blk_frozen HG2.out 3
                       have y4 := blk_frozen HG2.out 4
                       simp only [Array.getElem?_eq_getElem, List.size_toArray, List.length_cons, List.length_nil, Nat.reduceAdd, Nat.reduceLT, List.getElem_toArray, List.getElem_cons_zero, List.getElem_cons_succ] at z0 z1 z2 z3 z4
                       clear hR2 hB2 hlt1)))
  have hblk := blk_alloc (blk_set5 HG2.out (.slice A2 pi.length c2) (.int .i64 pb) (.int .i64 pe) (.int .u64 p0) (.int .u64 p1)) (.cells #[.slice A2 pi.length c2, .int .i64 pb, .int .i64 pe, .int .u64 p0, .int .u64 p1] 71)
  refine bodyPost_ret (results_ct rfl _ _ w.heap.size 71 _ (0, 0) _ rfl hblk Tryf.underlying71 rfl (by kernel_rfl)) rfl ?_
  have hq := Kd.Q_reads' (Kd.Q_alloc (q_set5 (Kd.Q_of_R HV2.out) (.slice A2 pi.length c2) (.int .i64 pb) (.int .i64 pe) (.int .u64 p0) (.int .u64 p1)) (.cells #[.slice A2 pi.length c2, .int .i64 pb, .int .i64 pe, .int .u64 p0, .int .u64 p1] 71))
  exact ⟨_, rfl, ⟨A2, c2, rfl, hq.2.1, hq.2.2⟩, below_alloc (below_set5 HB2.out (Nat.le_refl _) _ _ _ _ _) _⟩
set_option maxRecDepth 100000 in
set_option maxHeartbeats 4000000 in
theorem consistency_pow (F : Interp) (k s1 sz m lv ix inn fi b e : Nat) (R L : List S69) (h1 : m + 1 = s1) (hlt : s1 < sz) (hlv : Lib.ctz 64 s1 = lv) (hix : m / 2 ^ lv = ix) (hF : Fork k lv ix sz inn fi b e R L) (h0 : ix = 0) (w : World) (hG : Glob F w) :
    Calls Tryf.prog 37 #[.int .u64 s1, .int .u64 sz] w (NodesOut (skipOfFork lv ix inn fi R L) w) := by
  have hu71 := Tryf.underlying71
  have t1 : decide (sz < s1) = false := by simp; omega
  have t2 : ((s1 : Int) == (sz : Int)) = false := by simp; omega
  have t3 : ((s1 : Int) == 0) = false := by simp; omega
  have t4 : ((ix : Int) == 0) = true := by simp; omega
  have hsz64 := hF.sz64
  have hlv63 := hF.lv63
  have m1 : (s1 : Int) - 1 = (m : Int) := by omega
  have m2 : IntKind.u64.wrap ((s1 : Int) - 1) = (m : Int) := by rw [IntKind.wrap_u64]; omega
  have m3 : (m : Int) / 2 ^ lv = (ix : Int) := by rw [← hix]; simp
  have hmin : min lv 64 = lv := Nat.min_eq_left (by omega)
  have hs1 : s1 < 18446744073709551616 := by omega
  have C49 := fun (W : World) (g : Glob F W) => tz_below F s1 hs1 (by omega) W g
  rw [hlv] at C49
  have HC49 := Aside0.mk C49
  have HG := Aside0.mk hG
  have HC := Aside0.mk (fun W => nodes_out k lv ix sz inn fi b e R L hF W)
  have hsk := skip_eq lv ix inn fi R L (by have := hF.inn64; omega) (by have := hF.R64; omega)
  obtain ⟨s, hs⟩ : ∃ s, s = skipOfFork lv ix inn fi R L := ⟨_, rfl⟩
  obtain ⟨p, hp⟩ : ∃ p, p = planOfFork lv ix inn fi R L := ⟨_, rfl⟩
  rw [← hp, ← hs] at hsk
  rw [← hp] at HC
  rw [← hs]
  have HSK := Aside0.mk hsk
  clear hsk hs h0
  clear hF hp C49 hG h1 hix hlv
  obtain ⟨pi, pb, pe, p0, p1⟩ := p
  obtain ⟨si, sb, se, s0, s1⟩ := s
  go_enter Tryf.func37, Tryf.ntmps37
  go_wp2_with (first
    | (go_at_call 49; ((refine (HC49.out _ (HG.out.below (below_alloc (Below.refl w.heap.size w) _))).mono ?_); rintro e w1 ⟨rfl, hB1⟩
                       have HG1 := Aside0.mk (blk_below (heap_alloc_new w _) hB1)
                       have HB1 := Aside0.mk (below_next (below_alloc (Below.refl w.heap.size w) _) hB1); clear hB1))
    | (go_at_call 43; ((refine (HC.out _).mono ?_); rintro e w2 ⟨v2, rfl, hR2, hB2⟩
                       have hlt1 := blk_lt HG1.out
                       obtain ⟨A2, c2, rfl⟩ := Kd.R_slice hR2
                       have HV2 := Aside0.mk (Kd.R_mono (Kd.R_lower (Kd.R_bound hR2) (base' := w.heap.size) HB1.out.size) (ok' := fun k => w.heap.size < k) (fun k hk => by have := hk.2.1; omega))
                       have HG2 := Aside0.mk (blk_below HG1.out hB2)
                       have HB2 := Aside0.mk (below_next HB1.out hB2)
                       have hz := blk_lt HG2.out
                       have z0 := blk_cell HG2.out 0
                       have z1 := blk_cell HG2.out 1
                       have z2 := blk_cell HG2.out 2
                       have z3 := blk_cell HG2.out 3
                       have z4 := blk_cell HG2.out 4
                       have y0 := blk_frozen HG2.out 0
                       have y1 := blk_frozen HG2.out 1
                       have y2 := blk_frozen HG2.out 2
                       have y3 := blk_frozen HG2.out 3
                       have y4 := blk_frozen HG2.out 4
                       simp only [Array.getElem?_eq_getElem, List.size_toArray, List.length_cons, List.length_nil, Nat.reduceAdd, Nat.reduceLT, List.getElem_toArray, List.getElem_cons_zero, List.getElem_cons_succ] at z0 z1 z2 z3 z4
                       clear hR2 hB2 hlt1))
    | (go_at_call 44; ((refine (proof_Nodes_skipFirst.calls (fun k => w.heap.size < k) _ _ _ _ _ _ _ _ _ _ _ w _ (below_alloc HB2.out _) (Kd.R_alloc HV2.out _) HSK.out).mono ?_); rintro e w3 ⟨v3, rfl, hQ3, hB3, hK3⟩
                       obtain ⟨A3, c3, rfl, hl3, hC3⟩ := Kd.Q_reads hQ3
                       have HV3 := Aside0.mk (Kd.Q_mono hQ3 (ok' := fun k => w.heap.size < k) (fun k hk => by have := blk_lt HG2.out; rcases hk with hk | hk <;> first | omega | (simp at hk; omega)))
                       have HG3 := Aside0.mk (blk_kept' (blk_alloc HG2.out _) hK3 (by omega))
                       have HB3 := Aside0.mk hB3
                       have z0 := blk_cell HG3.out 0
                       have z1 := blk_cell HG3.out 1
                       have z2 := blk_cell HG3.out 2
                       have z3 := blk_cell HG3.out 3
                       have z4 := blk_cell HG3.out 4
                       have y0 := blk_frozen HG3.out 0
                       have y1 := blk_frozen HG3.out 1
                       have y2 := blk_frozen HG3.out 2
                       have y3 := blk_frozen HG3.out 3
                       have y4 := blk_frozen HG3.out 4
                       simp only [Array.getElem?_eq_getElem, List.size_toArray, List.length_cons, List.length_nil, Nat.reduceAdd, Nat.reduceLT, List.getElem_toArray, List.getElem_cons_zero, List.getElem_cons_succ] at z0 z1 z2 z3 z4
                       clear hQ3 hl3 hC3 hB3 hK3)))
  have hblk := blk_set5 HG3.out (.slice A3 si.length c3) (.int .i64 sb) (.int .i64 se) (.int .u64 s0) (.int .u64 s1)
  refine bodyPost_ret (results_ct rfl _ _ w.heap.size 71 _ (0, 0) _ rfl hblk Tryf.underlying71 rfl (by kernel_rfl)) rfl ?_
  have hq := Kd.Q_reads' (q_set5 HV3.out (.slice A3 si.length c3) (.int .i64 sb) (.int .i64 se) (.int .u64 s0) (.int .u64 s1))
  exact ⟨_, rfl, ⟨A3, c3, rfl, hq.2.1, hq.2.2⟩, below_set5 HB3.out (Nat.le_refl _) _ _ _ _ _⟩
end Go.Proofs.YtdjfagknffknjaaFmt.H
end
