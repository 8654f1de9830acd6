/- laws.consists by its contract; conditions: what the plain law says of the numbers, in one structure. -/
import Derived.Test.YtdjfagknffknjaaFmtXP
import Derived.Test.YtdjfagknffknjaaFmtXJb

namespace Go.Proofs.YtdjfagknffknjaaFmt.H
open Go.RowKit Go.Extern.Stop Go.Stop Go.Extern Go.Proofs.YtdjfagknffknjaaFmtW.PrintWords Go.Proofs.YtdjfagknffknjaaFmtW.PrintLast Go.Proofs.YtdjfagknffknjaaFmtW.PrintMore Go.Proofs.YtdjfagknffknjaaFmt.Q
/-- What consists is asked. -/
structure ConsAsk (F : Interp) (k : Nat) (A B C A2 B2 C2 : Int) (s1 s2 i b at_ : Nat) (x : List Int) (ids : List S69) (bg en : Nat) (e0 e1 : Int) (spans want : List S60) (ps0 ps1 ps2 : List (List Int)) (seed a r oth : List Int) : Prop where
  nodes : ∀ W, Glob F W → Calls Tryf.prog 37 #[.int .u64 s1, .int .u64 s2] W (NodesOut ⟨ids, bg, en, e0, e1⟩ W)
  small0 : Small ps0
  len0 : ids.length = ps0.length
  en_le : en ≤ ps0.length
  bg_le : bg ≤ en
  planned : spec_Planned.f k (ids.map conv) e0 e1 bg en = some (spans, true)
  wanted : spec_ProofSpans.f k s1 0 s2 true = some want
  same : laws_sameSpans.f k spans want = some true
  hashes : spec_NodeHashes.f k A2 B2 C2 (ids.map conv) = some ps0
  ps1_eq : ps1 = resAt (foldN A B C ps0 bg (en - bg - 1)) ps0 bg en ps0.length
  spanh : spec_SpanHashes.f k A B C A2 B2 C2 want = some ps2
  sameh : laws_sameHashes.f k ps1 ps2 = some true
  seed_eq : spec_SpanHash.f k A B C A2 B2 C2 0 s1 = some seed
  roots_eq : (a, r) = rootsOf A B C s1 s2 ps1 seed true
  zero : consFault A B C i b s1 s2 ps1 a r = 0
  other : spec_Other.f r = some oth
  one : consFault A B C i b s1 s2 ps1 a oth = 1
  both : Both A B C i b s1 s2 ps1 a r at_ x
  parts : Parts k s1 s2 i b
  size_le : s2 ≤ 9223372036854775808
  small1 : Small ps1
  len1 : ps1.length ≤ 999
set_option maxRecDepth 100000 in
set_option maxHeartbeats 8000000 in
theorem consists_any (F : Interp) (k : Nat) (A B C A2 B2 C2 : Int) (s1 s2 i b at_ : Nat) (x : List Int) (ids : List S69) (bg en : Nat) (e0 e1 : Int) (spans want : List S60) (ps0 ps1 ps2 : List (List Int)) (seed a r oth : List Int)
    (hQ : ConsAsk F k A B C A2 B2 C2 s1 s2 i b at_ x ids bg en e0 e1 spans want ps0 ps1 ps2 seed a r oth) (xv : Value) (w : World) (hG : Glob F w) (hx2 : x.length = 2) (hat : at_ < 256) (hx : Rd KB w xv x) :
    Calls Tryf.prog 6 #[.agg #[.int .u32 A, .int .u32 B, .int .u32 C], .agg #[.int .u32 A2, .int .u32 B2, .int .u32 C2], .int .u64 s1, .int .u64 s2, .int .u8 at_, xv] w fun e w' => e = .returned (.bool true) ∧ Below w.heap.size w w' := by
  have hu24 := Tryf.underlying24
  have hu36 := Tryf.underlying36
  have hu60 := Tryf.underlying60
  have HX := Aside0.mk hx
  have HX2 := Aside0.mk hx2
  have HG := Aside0.mk hG
  have HAT := Aside0.mk hat
  have HN := Aside0.mk hQ.nodes
  have HQ := Aside0.mk hQ
  obtain ⟨l34, hl34⟩ : ∃ l, l = ids.map conv := ⟨_, rfl⟩
  have HL34 := Aside0.mk hl34
  have HPLN := Aside0.mk hQ.planned
  have HNH := Aside0.mk hQ.hashes
  rw [← hl34] at HPLN HNH
  have HIL := Aside0.mk (show ids.length ≤ 1000 by rw [hQ.len0]; exact hQ.small0.len)
  obtain ⟨f0, hf0⟩ : ∃ f, f = consFault A B C i b s1 s2 ps1 a r := ⟨_, rfl⟩
  obtain ⟨f1, hf1⟩ : ∃ f, f = consFault A B C i b s1 s2 ps1 a oth := ⟨_, rfl⟩
  have t0 : ((f0 : Int) == 0) = true := by rw [hf0, hQ.zero]; rfl
  have t1 : ((f1 : Int) == 1) = true := by rw [hf1, hQ.one]; rfl
  have HF0 := Aside0.mk hf0
  have HF1 := Aside0.mk hf1
  have C7 : ∀ (pv' av' rv' : Value) (root' : List Int) (f : Nat) (W : World) (_ : f = consFault A B C i b s1 s2 ps1 a root') (_ : Below w.heap.size w W) (_ : Rd KBB W pv' ps1) (_ : Rd KB W av' a) (_ : Rd KB W rv' root'),
    Calls Tryf.prog 25 #[.agg #[.int .u32 A, .int .u32 B, .int .u32 C], .int .u64 s1, .int .u64 s2, pv', av', rv'] W fun e w' => e = .returned (.int .i64 f) ∧ Below W.heap.size W w' := by
    intro pv' av' rv' root' f W hf hB hp ha hr
    subst hf
    exact cons_any F A B C k s1 s2 i b HQ.out.parts pv' av' rv' ps1 a root' W (HG.out.below hB) HQ.out.small1 hp ha hr
  have HC7 := Aside0.mk C7
  have C12 : ∀ (pv' : Value) (W : World) (_ : Below w.heap.size w W) (_ : Rd KBB W pv' ps0), Calls Tryf.prog 22 #[.agg #[.int .u32 A, .int .u32 B, .int .u32 C], .int .u64 s1, .int .u64 s2, pv'] W fun e w' => ∃ v, e = .returned (.tuple #[v, .bool true]) ∧ Rd KBB w' v ps1 ∧ Below W.heap.size W w' := by
    intro pv' W hB hp
    rw [HQ.out.ps1_eq]
    exact rehashCons_any A B C s1 s2 ids bg en e0 e1 pv' ps0 W (fun W' hb => HN.out W' (HG.out.below (below_next hB hb))) HQ.out.len0 HQ.out.en_le HQ.out.bg_le HQ.out.small0 hp
  have HC12 := Aside0.mk C12
  clear C7 C12 hf0 hf1 hl34 hQ hG hx hx2 hat
  go_enter Tryf.func6, Tryf.ntmps6
  go_upto_region 2 with (go_at_call 20; ((with_reducible refine (implCons_any s1 s2 ⟨ids, bg, en, e0, e1⟩ HIL.out _ (fun W hb => HN.out W (HG.out.below (below_next (below_alloc (below_alloc (Below.refl w.heap.size w) _) _) hb)))).mono ?_); rintro e w1 ⟨v1, rfl, hV1, hB1⟩; have HV1 := Aside0.mk hV1; have HBX1 := Aside0.mk (blk_below (blk_alloc (heap_alloc_new w (.cells #[.int .u32 A, .int .u32 B, .int .u32 C] 24)) (.cells #[.int .u32 A2, .int .u32 B2, .int .u32 C2] 24)) hB1); have HBX2 := Aside0.mk (show w1.heap[w.heap.size + 1]? = some (.cells #[.int .u32 A2, .int .u32 B2, .int .u32 C2] 24 (0, 0)) by have := blk_below (heap_alloc_new (w.alloc (.cells #[.int .u32 A, .int .u32 B, .int .u32 C] 24)) (.cells #[.int .u32 A2, .int .u32 B2, .int .u32 C2] 24)) hB1; rwa [show (w.alloc (.cells #[.int .u32 A, .int .u32 B, .int .u32 C] 24)).heap.size = w.heap.size + 1 by simp] at this); have HB1 := Aside0.mk (below_next (below_alloc (below_alloc (Below.refl w.heap.size w) _) _) hB1); obtain ⟨PA, pc, rfl, hpl, hpC⟩ := HV1.out; clear hB1 hV1))
  have hll : ids.length = l34.length := by rw [HL34.out, List.length_map]
  rw [hll]
  rw [show ({ ids := ids, bg := (bg : Int), en := (en : Int), e0 := e0, e1 := e1 } : NodesV).ids.map conv = l34 from HL34.out.symm] at hpl hpC
  have HPL := Aside0.mk hpl
  have HPC := Aside0.mk hpC
  obtain ⟨w2, hw2⟩ : ∃ w2, w2 = w1.alloc (.cells #[.slice PA l34.length pc, .int .u64 e0, .int .u64 e1, .int .i64 bg, .int .i64 en] 36) := ⟨_, rfl⟩
  rw [← hw2]
  obtain ⟨gp, hgp⟩ : ∃ gp, gp = w1.heap.size := ⟨_, rfl⟩
  rw [← hgp]
  have HG1 := Aside0.mk (show w2.heap[w.heap.size]? = some (.cells #[.int .u32 A, .int .u32 B, .int .u32 C] 24 (0, 0)) by rw [hw2]; exact blk_alloc HBX1.out _)
  have HG2 := Aside0.mk (show w2.heap[w.heap.size + 1]? = some (.cells #[.int .u32 A2, .int .u32 B2, .int .u32 C2] 24 (0, 0)) by rw [hw2]; exact blk_alloc HBX2.out _)
  have HG3 := Aside0.mk (show w2.heap[gp]? = some (.cells #[.slice PA l34.length pc, .int .u64 e0, .int .u64 e1, .int .i64 bg, .int .i64 en] 36 (0, 0)) by rw [hw2, hgp]; exact heap_alloc_new w1 _)
  have HB2 := Aside0.mk (show Below w.heap.size w w2 by rw [hw2]; exact below_alloc HB1.out _)
  have HPC2 := Aside0.mk (show k34.C w2 PA l34.length l34 by rw [hw2]; exact Kd.C_alloc HPC.out _)
  clear hw2 hgp HBX1 HBX2 HB1 HPC hpC hpl hll
  have HKP := Aside0.mk (show ∀ W, Below w2.heap.size w2 W → W.cell? ⟨w.heap.size, 0, none⟩ = some (.int .u32 A) ∧ W.cell? ⟨w.heap.size, 1, none⟩ = some (.int .u32 B) ∧ W.cell? ⟨w.heap.size, 2, none⟩ = some (.int .u32 C) ∧ W.cell? ⟨w.heap.size + 1, 0, none⟩ = some (.int .u32 A2) ∧ W.cell? ⟨w.heap.size + 1, 1, none⟩ = some (.int .u32 B2) ∧ W.cell? ⟨w.heap.size + 1, 2, none⟩ = some (.int .u32 C2) ∧ W.cell? ⟨gp, 0, none⟩ = some (.slice PA l34.length pc) ∧ W.cell? ⟨gp, 1, none⟩ = some (.int .u64 e0) ∧ W.cell? ⟨gp, 2, none⟩ = some (.int .u64 e1) ∧ W.cell? ⟨gp, 3, none⟩ = some (.int .i64 bg) ∧ W.cell? ⟨gp, 4, none⟩ = some (.int .i64 en) ∧ Aside0 (Below w2.heap.size w2 W) from fun W hb =>
    ⟨blk_cell (blk_below HG1.out hb) 0, blk_cell (blk_below HG1.out hb) 1, blk_cell (blk_below HG1.out hb) 2, blk_cell (blk_below HG2.out hb) 0, blk_cell (blk_below HG2.out hb) 1, blk_cell (blk_below HG2.out hb) 2,
      blk_cell (blk_below HG3.out hb) 0, blk_cell (blk_below HG3.out hb) 1, blk_cell (blk_below HG3.out hb) 2, blk_cell (blk_below HG3.out hb) 3, blk_cell (blk_below HG3.out hb) 4, ⟨hb⟩⟩)
  have HBr := Aside0.mk (Below.refl w2.heap.size w2)
  obtain ⟨x0, x1, x2, y0, y1, y2, z0, z1, z2, z3, z4, _⟩ := HKP.out _ HBr.out; 
  go_upto_region 6 with (first
    | (go_at_call 9; ((with_reducible refine (spec_Planned.calls k PA pc l34 e0 e1 bg en spans true w2 HPC2.out HPL.out HPLN.out).mono ?_); rintro e w3 ⟨v3, rfl, hR3, hB3⟩; have HB3 := Aside0.mk hB3; obtain ⟨SA, sc, rfl, hsl, hsC⟩ := Rd.ofR hR3; have HSL := Aside0.mk hsl; have HSC := Aside0.mk hsC; obtain ⟨x0, x1, x2, y0, y1, y2, z0, z1, z2, z3, z4, _⟩ := HKP.out _ HB3.out; clear hB3 hR3 hsl hsC))
    | (go_at_call 21; ((with_reducible refine (spec_ProofSpans.calls k _ _ _ _ want _ HQ.out.wanted).mono ?_); rintro e w4 ⟨v4, rfl, hR4, hB4⟩; have HB4 := Aside0.mk (below_next HB3.out hB4); obtain ⟨WA, wc, rfl, hwl, hwC⟩ := Rd.ofR hR4; have HWL := Aside0.mk hwl; have HWC := Aside0.mk hwC; have HSC4 := Aside0.mk (Kd.C_below HSC.out hB4); obtain ⟨x0, x1, x2, y0, y1, y2, z0, z1, z2, z3, z4, _⟩ := HKP.out _ HB4.out; clear hB4 hR4 hwl hwC))
    | (go_at_call 11; ((with_reducible refine (laws_sameSpans.calls k SA sc spans WA wc want true _ HSC4.out HSL.out HWC.out HWL.out HQ.out.same).mono ?_); rintro e w5 ⟨rfl, hD5⟩; have HB5 := Aside0.mk (below_next HB4.out hD5.below); have HWC5 := Aside0.mk (Kd.C_below HWC.out hD5.below); obtain ⟨x0, x1, x2, y0, y1, y2, z0, z1, z2, z3, z4, _⟩ := HKP.out _ HB5.out; clear hD5)))
  go_region_held3 (fun W => W.cell? ⟨w.heap.size, 0, none⟩ = some (.int .u32 A) ∧ W.cell? ⟨w.heap.size, 1, none⟩ = some (.int .u32 B) ∧ W.cell? ⟨w.heap.size, 2, none⟩ = some (.int .u32 C) ∧ W.cell? ⟨w.heap.size + 1, 0, none⟩ = some (.int .u32 A2) ∧ W.cell? ⟨w.heap.size + 1, 1, none⟩ = some (.int .u32 B2) ∧ W.cell? ⟨w.heap.size + 1, 2, none⟩ = some (.int .u32 C2) ∧ W.cell? ⟨gp, 0, none⟩ = some (.slice PA l34.length pc) ∧ W.cell? ⟨gp, 1, none⟩ = some (.int .u64 e0) ∧ W.cell? ⟨gp, 2, none⟩ = some (.int .u64 e1) ∧ W.cell? ⟨gp, 3, none⟩ = some (.int .i64 bg) ∧ W.cell? ⟨gp, 4, none⟩ = some (.int .i64 en) ∧ Aside0 (Below w2.heap.size w2 W))
    (first | exact HKP.out _ (below_next HB5.out (Below.refl _ _).drew) | exact HKP.out _ HBn.out)
    (first
      | (go_at_call 13; (with_reducible refine (spec_NodeHashes.calls k A2 B2 C2 PA pc l34 ps0 _ (Kd.C_below HPC2.out (below_next HB5.out (Below.refl _ _).drew)) HPL.out HNH.out).mono ?_); rintro e w6 ⟨v6, rfl, hS6, hB6⟩; have HV6 := Aside0.mk (Rd.ofR (Kd.S_R hS6)); have HB6 := Aside0.mk (below_next (below_next HB5.out (Below.refl _ _).drew) hB6); have HBn := HB6; have HD6 := Aside0.mk (below_next (Below.refl w5.heap.size w5).drew hB6); clear hS6 hB6)
      | (go_at_call 22; (with_reducible refine (HC12.out _ _ (below_next HB2.out HB6.out) HV6.out).mono ?_); rintro e w7 ⟨v7, rfl, hV7, hB7⟩; have HV7 := Aside0.mk hV7; have HB7 := Aside0.mk (below_next HB6.out hB7); have HBn := HB7; have HD7 := Aside0.mk (below_next HD6.out hB7); clear hV7 hB7))
  obtain ⟨QA, qc, rfl, hql, hqC⟩ := HV7.out
  have HQL := Aside0.mk hql
  have HQC := Aside0.mk hqC
  have HWC7 := Aside0.mk (Kd.C_below HWC5.out HD7.out)
  obtain ⟨x0, x1, x2, y0, y1, y2, z0, z1, z2, z3, z4, _⟩ := HKP.out _ HB7.out; 
  clear hql hqC
  go_upto_region 9 with (first
    | (go_at_call 15; ((with_reducible refine (spec_SpanHashes.calls k A B C A2 B2 C2 WA wc want ps2 _ HWC7.out HWL.out HQ.out.spanh).mono ?_); rintro e w8 ⟨v8, rfl, hS8, hB8⟩; have HB8 := Aside0.mk (below_next HB7.out hB8); obtain ⟨TA, tc, rfl, htl, htC⟩ := Rd.ofR (Kd.S_R hS8); have HTL := Aside0.mk htl; have HTC := Aside0.mk htC; have HQC8 := Aside0.mk (Kd.C_below HQC.out hB8); obtain ⟨x0, x1, x2, y0, y1, y2, z0, z1, z2, z3, z4, _⟩ := HKP.out _ HB8.out; clear hS8 hB8 htl htC))
    | (go_at_call 14; ((with_reducible refine (laws_sameHashes.calls k QA qc ps1 TA tc ps2 true _ HQC8.out HQL.out HTC.out HTL.out HQ.out.sameh).mono ?_); rintro e w9 ⟨rfl, hD9⟩; have HB9 := Aside0.mk (below_next HB8.out hD9.below); have HP9 := Aside0.mk (show Rd KBB w9 (.slice QA ps1.length qc) ps1 from ⟨QA, qc, rfl, HQL.out, Kd.C_below HQC8.out hD9.below⟩); obtain ⟨x0, x1, x2, y0, y1, y2, z0, z1, z2, z3, z4, _⟩ := HKP.out _ HB9.out; clear hD9)))
  have HKT := Aside0.mk (show ∀ W, Below w9.heap.size w9 W → W.cell? ⟨w.heap.size, 0, none⟩ = some (.int .u32 A) ∧ W.cell? ⟨w.heap.size, 1, none⟩ = some (.int .u32 B) ∧ W.cell? ⟨w.heap.size, 2, none⟩ = some (.int .u32 C) ∧ W.cell? ⟨w.heap.size + 1, 0, none⟩ = some (.int .u32 A2) ∧ W.cell? ⟨w.heap.size + 1, 1, none⟩ = some (.int .u32 B2) ∧ W.cell? ⟨w.heap.size + 1, 2, none⟩ = some (.int .u32 C2) ∧ W.cell? ⟨gp, 0, none⟩ = some (.slice PA l34.length pc) ∧ W.cell? ⟨gp, 1, none⟩ = some (.int .u64 e0) ∧ W.cell? ⟨gp, 2, none⟩ = some (.int .u64 e1) ∧ W.cell? ⟨gp, 3, none⟩ = some (.int .i64 bg) ∧ W.cell? ⟨gp, 4, none⟩ = some (.int .i64 en) ∧ Aside0 (Below w9.heap.size w9 W) from fun W hb => by
    obtain ⟨a0, a1, a2, a3, a4, a5, a6, a7, a8, a9, a10, _⟩ := HKP.out _ (below_next HB9.out hb)
    exact ⟨a0, a1, a2, a3, a4, a5, a6, a7, a8, a9, a10, ⟨hb⟩⟩)
  go_region_held3 (fun W => W.cell? ⟨w.heap.size, 0, none⟩ = some (.int .u32 A) ∧ W.cell? ⟨w.heap.size, 1, none⟩ = some (.int .u32 B) ∧ W.cell? ⟨w.heap.size, 2, none⟩ = some (.int .u32 C) ∧ W.cell? ⟨w.heap.size + 1, 0, none⟩ = some (.int .u32 A2) ∧ W.cell? ⟨w.heap.size + 1, 1, none⟩ = some (.int .u32 B2) ∧ W.cell? ⟨w.heap.size + 1, 2, none⟩ = some (.int .u32 C2) ∧ W.cell? ⟨gp, 0, none⟩ = some (.slice PA l34.length pc) ∧ W.cell? ⟨gp, 1, none⟩ = some (.int .u64 e0) ∧ W.cell? ⟨gp, 2, none⟩ = some (.int .u64 e1) ∧ W.cell? ⟨gp, 3, none⟩ = some (.int .i64 bg) ∧ W.cell? ⟨gp, 4, none⟩ = some (.int .i64 en) ∧ Aside0 (Below w9.heap.size w9 W))
    (first | exact HKT.out _ (Below.refl _ _).drew | exact HKT.out _ HBn.out)
    (first
      | (go_at_call 24; (with_reducible refine (spec_SpanHash.calls k A B C A2 B2 C2 _ _ seed _ HQ.out.seed_eq).mono ?_); rintro e w10 ⟨v10, rfl, hR10, hB10⟩; have HB10 := Aside0.mk (below_next (Below.refl w9.heap.size w9).drew hB10); have HBn := HB10; have HSD := Aside0.mk (Rd.ofR hR10); clear hR10 hB10)
      | (go_at_call 23; (with_reducible refine (rootsOf_any A B C s2 HQ.out.size_le s1 HQ.out.parts.one HQ.out.parts.le _ _ ps1 seed true _ (HP9.out.below HB10.out) HSD.out).mono ?_); rintro e w11 ⟨v11, u11, b11, rfl, hV11, hU11, hB11⟩; rw [← HQ.out.roots_eq] at hV11 hU11; have HB11 := Aside0.mk (below_next HB10.out hB11); have HBn := HB11; have HA11 := Aside0.mk (show Rd KB w11 v11 a from hV11); have HR11 := Aside0.mk (show Rd KB w11 u11 r from hU11); clear hB11 hV11 hU11))
  have HP11 := Aside0.mk (HP9.out.below HB11.out)
  obtain ⟨RA, rc, rfl, hrl, hrC⟩ := HR11.out
  have HRL := Aside0.mk hrl
  have HRC := Aside0.mk hrC
  clear hrl hrC
  have HK11 := Aside0.mk (show ∀ W, Below w11.heap.size w11 W → Below w.heap.size w W from fun W hb => below_next (below_next (below_next HB2.out HB9.out) HB11.out) hb)
  have HKS := Aside0.mk (show ∀ W, Below w11.heap.size w11 W → W.cell? ⟨w.heap.size, 0, none⟩ = some (.int .u32 A) ∧ W.cell? ⟨w.heap.size, 1, none⟩ = some (.int .u32 B) ∧ W.cell? ⟨w.heap.size, 2, none⟩ = some (.int .u32 C) ∧ W.cell? ⟨w.heap.size + 1, 0, none⟩ = some (.int .u32 A2) ∧ W.cell? ⟨w.heap.size + 1, 1, none⟩ = some (.int .u32 B2) ∧ W.cell? ⟨w.heap.size + 1, 2, none⟩ = some (.int .u32 C2) ∧ W.cell? ⟨gp, 0, none⟩ = some (.slice PA l34.length pc) ∧ W.cell? ⟨gp, 1, none⟩ = some (.int .u64 e0) ∧ W.cell? ⟨gp, 2, none⟩ = some (.int .u64 e1) ∧ W.cell? ⟨gp, 3, none⟩ = some (.int .i64 bg) ∧ W.cell? ⟨gp, 4, none⟩ = some (.int .i64 en) ∧ Aside0 (Below w11.heap.size w11 W) from fun W hb => by
    obtain ⟨a0, a1, a2, a3, a4, a5, a6, a7, a8, a9, a10, _⟩ := HKT.out _ (below_next HB11.out hb)
    exact ⟨a0, a1, a2, a3, a4, a5, a6, a7, a8, a9, a10, ⟨hb⟩⟩)
  go_upto_region 10 with fail
  go_region_held3 (fun W => W.cell? ⟨w.heap.size, 0, none⟩ = some (.int .u32 A) ∧ W.cell? ⟨w.heap.size, 1, none⟩ = some (.int .u32 B) ∧ W.cell? ⟨w.heap.size, 2, none⟩ = some (.int .u32 C) ∧ W.cell? ⟨w.heap.size + 1, 0, none⟩ = some (.int .u32 A2) ∧ W.cell? ⟨w.heap.size + 1, 1, none⟩ = some (.int .u32 B2) ∧ W.cell? ⟨w.heap.size + 1, 2, none⟩ = some (.int .u32 C2) ∧ W.cell? ⟨gp, 0, none⟩ = some (.slice PA l34.length pc) ∧ W.cell? ⟨gp, 1, none⟩ = some (.int .u64 e0) ∧ W.cell? ⟨gp, 2, none⟩ = some (.int .u64 e1) ∧ W.cell? ⟨gp, 3, none⟩ = some (.int .i64 bg) ∧ W.cell? ⟨gp, 4, none⟩ = some (.int .i64 en) ∧ Aside0 (Below w11.heap.size w11 W))
    (first | exact HKS.out _ (Below.refl _ _).drew | exact HKS.out _ HBn2.out)
    (first
      | (go_at_call 25; (with_reducible refine (HC7.out _ _ _ r f0 _ HF0.out (HK11.out _ (Below.refl _ _).drew) (HP11.out.below (Below.refl _ _).drew) (HA11.out.below (Below.refl _ _).drew) (HR11.out.below (Below.refl _ _).drew)).mono ?_); rintro e w12 ⟨rfl, hB12⟩; have HB12 := Aside0.mk (below_next (Below.refl w11.heap.size w11).drew hB12); have HBn2 := HB12; clear hB12)
      | (go_at_call 18; (with_reducible refine (spec_Other.calls RA rc r oth _ (Kd.C_below HRC.out HB12.out) HRL.out HQ.out.other).mono ?_); rintro e w13 ⟨v13, rfl, hR13, hB13⟩; have HO13 := Aside0.mk (Rd.ofR hR13); have HB13 := Aside0.mk (below_next HB12.out hB13); have HBn2 := HB13; clear hR13 hB13)
      | (go_at_call 25; (with_reducible refine (HC7.out _ _ _ oth f1 _ HF1.out (HK11.out _ HB13.out) (HP11.out.below HB13.out) (HA11.out.below HB13.out) HO13.out).mono ?_); rintro e w14 ⟨rfl, hB14⟩; have HB14 := Aside0.mk (below_next HB13.out hB14); have HBn2 := HB14; clear hB14)
      | (go_at_call 26; (with_reducible refine (both_any F A B C k s1 s2 i b HQ.out.parts HQ.out.size_le _ _ _ _ ps1 a r x at_ _ (HG.out.below (HK11.out _ HB14.out)) HQ.out.small1 HQ.out.len1 HX2.out HAT.out (HP11.out.below HB14.out) (HA11.out.below HB14.out) (HR11.out.below HB14.out) (HX.out.below (HK11.out _ HB14.out)) HQ.out.both).mono ?_); rintro e w15 ⟨rfl, hB15⟩; have HB15 := Aside0.mk (below_next HB14.out hB15); have HBn2 := HB15; clear hB15))
  go_wp2
  go_ret
  exact ⟨rfl, HK11.out _ HB15.out⟩
end Go.Proofs.YtdjfagknffknjaaFmt.H
