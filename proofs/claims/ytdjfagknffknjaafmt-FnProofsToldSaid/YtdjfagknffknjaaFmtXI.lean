/- laws.included by its contract; conditions: what the plain law says of the numbers, in one structure. -/
import Derived.Test.YtdjfagknffknjaaFmtXP
import Derived.Test.YtdjfagknffknjaaFmtXJ

namespace Go.Proofs.YtdjfagknffknjaaFmt.H
open Go.RowKit Go.Extern.Stop Go.Stop Go.Extern Go.Proofs.YtdjfagknffknjaaFmtW.PrintWords Go.Proofs.YtdjfagknffknjaaFmtW.PrintLast Go.Proofs.YtdjfagknffknjaaFmtW.PrintMore Go.Proofs.YtdjfagknffknjaaFmt.Q
/-- What included is asked. -/
structure InclAsk (k : Nat) (A B C A2 B2 C2 : Int) (idx size i b at_ : Nat) (x : List Int) (ids : List S69) (bg en : Nat) (e0 e1 : Int) (spans want : List S60) (ps0 ps1 ps2 : List (List Int)) (leaf root oth : List Int) : Prop where
  nodes : ∀ W, Calls Tryf.prog 30 #[.int .u64 idx, .int .u64 size] W (NodesOut ⟨ids, bg, en, e0, e1⟩ W)
  small0 : Small ps0
  len0 : ids.length = ps0.length
  en_le : en ≤ ps0.length
  bg_le : bg ≤ en
  planned : spec_Planned.f k (ids.map conv) e0 e1 bg en = some (spans, true)
  wanted : spec_PathSpans.f k idx 0 size = some want
  same : laws_sameSpans.f k spans want = some true
  hashes : spec_NodeHashes.f k A2 B2 C2 (ids.map conv) = some ps0
  ps1_eq : ps1 = resAt (foldN A B C ps0 bg (en - bg - 1)) ps0 bg en ps0.length
  spanh : spec_SpanHashes.f k A B C A2 B2 C2 want = some ps2
  sameh : laws_sameHashes.f k ps1 ps2 = some true
  leaf_eq : spec_NodeHash.f A2 B2 C2 0 idx = some leaf
  leaf2 : leaf.length = 2
  root_eq : root = rootOf A B C idx size leaf ps1
  zero : inclFault A B C idx i b leaf ps1 root = 0
  other : spec_Other.f root = some oth
  one : inclFault A B C idx i b leaf ps1 oth = 1
  judged : Judged A B C idx size i b leaf ps1 root at_ x
  dec : proof_decompInclProof.f k idx size = some ((i : Int), (b : Int))
  hi : i ≤ 64
  hb : b ≤ 64
  idx_lt : idx < size
  size_le : size ≤ 9223372036854775808
  small1 : Small ps1
  len1 : ps1.length ≤ 999
set_option maxRecDepth 100000 in
set_option maxHeartbeats 8000000 in
theorem included_any (F : Interp) (k : Nat) (A B C A2 B2 C2 : Int) (idx size i b at_ : Nat) (x : List Int) (ids : List S69) (bg en : Nat) (e0 e1 : Int) (spans want : List S60) (ps0 ps1 ps2 : List (List Int)) (leaf root oth : List Int)
    (hQ : InclAsk k A B C A2 B2 C2 idx size i b at_ x ids bg en e0 e1 spans want ps0 ps1 ps2 leaf root oth) (xv : Value) (w : World) (hG : Glob F w) (hx2 : x.length = 2) (hat : at_ < 256) (hx : Rd KB w xv x) :
    Calls Tryf.prog 5 #[.agg #[.int .u32 A, .int .u32 B, .int .u32 C], .agg #[.int .u32 A2, .int .u32 B2, .int .u32 C2], .int .u64 idx, .int .u64 size, .int .u8 at_, xv] w fun e w' => e = .returned (.bool true) ∧ Below w.heap.size w w' := by
  have hu24 := Tryf.underlying24
  have hu36 := Tryf.underlying36
  have hu34 := Tryf.underlying34
  have HX := Aside0.mk hx
  have HX2 := Aside0.mk hx2
  have HG := Aside0.mk hG
  have HAT := Aside0.mk hat
  have HN := Aside0.mk hQ.nodes
  have HQ := Aside0.mk hQ
  obtain ⟨l34, hl34⟩ : ∃ l, l = ids.map conv := ⟨_, rfl⟩
  have HL34 := Aside0.mk hl34
  have HPLN := Aside0.mk hQ.planned
  have HNH := Aside0.mk hQ.hashes
  rw [← hl34] at HPLN HNH
  have HIL := Aside0.mk (show ids.length ≤ 1000 by rw [hQ.len0]; exact hQ.small0.len)
  obtain ⟨f0, hf0⟩ : ∃ f, f = inclFault A B C idx i b leaf ps1 root := ⟨_, rfl⟩
  obtain ⟨f1, hf1⟩ : ∃ f, f = inclFault A B C idx i b leaf ps1 oth := ⟨_, rfl⟩
  have t0 : ((f0 : Int) == 0) = true := by rw [hf0, hQ.zero]; rfl
  have t1 : ((f1 : Int) == 1) = true := by rw [hf1, hQ.one]; rfl
  have HF0 := Aside0.mk hf0
  have HF1 := Aside0.mk hf1
  have C7 : ∀ (lv' pv' rv' : Value) (root' : List Int) (f : Nat) (W : World) (_ : f = inclFault A B C idx i b leaf ps1 root') (_ : Below w.heap.size w W) (_ : Rd KB W lv' leaf) (_ : Rd KBB W pv' ps1) (_ : Rd KB W rv' root'),
    Calls Tryf.prog 7 #[.agg #[.int .u32 A, .int .u32 B, .int .u32 C], .int .u64 idx, .int .u64 size, lv', pv', rv'] W fun e w' => e = .returned (.int .i64 f) ∧ Below W.heap.size W w' := by
    intro lv' pv' rv' root' f W hf hB hl hp hr
    subst hf
    exact incl_any F A B C k idx size i b lv' pv' rv' leaf ps1 root' W (HG.out.below hB) HQ.out.idx_lt (by have := HQ.out.size_le; omega) HQ.out.dec HQ.out.hi HQ.out.hb HQ.out.leaf2 HQ.out.small1 hl hp hr
  have HC7 := Aside0.mk C7
  have C12 : ∀ (pv' : Value) (W : World) (_ : Rd KBB W pv' ps0), Calls Tryf.prog 12 #[.agg #[.int .u32 A, .int .u32 B, .int .u32 C], .int .u64 idx, .int .u64 size, pv'] W fun e w' => ∃ v, e = .returned (.tuple #[v, .bool true]) ∧ Rd KBB w' v ps1 ∧ Below W.heap.size W w' := by
    intro pv' W hp
    rw [HQ.out.ps1_eq]
    exact rehashIncl_any A B C idx size ids bg en e0 e1 pv' ps0 W (fun W' _ => HN.out W') HQ.out.len0 HQ.out.en_le HQ.out.bg_le HQ.out.small0 hp
  have HC12 := Aside0.mk C12
  clear C7 C12 hf0 hf1 hl34 hQ hG hx hx2 hat
  go_enter Tryf.func5, Tryf.ntmps5
  go_upto_region 2 with (go_at_call 8; ((with_reducible refine (implIncl_any idx size ⟨ids, bg, en, e0, e1⟩ HIL.out _ (fun W _ => HN.out W)).mono ?_); rintro e w1 ⟨v1, rfl, hV1, hB1⟩; have HV1 := Aside0.mk hV1; have HBX1 := Aside0.mk (blk_below (blk_alloc (heap_alloc_new w (.cells #[.int .u32 A, .int .u32 B, .int .u32 C] 24)) (.cells #[.int .u32 A2, .int .u32 B2, .int .u32 C2] 24)) hB1); have HBX2 := Aside0.mk (show w1.heap[w.heap.size + 1]? = some (.cells #[.int .u32 A2, .int .u32 B2, .int .u32 C2] 24 (0, 0)) by have := blk_below (heap_alloc_new (w.alloc (.cells #[.int .u32 A, .int .u32 B, .int .u32 C] 24)) (.cells #[.int .u32 A2, .int .u32 B2, .int .u32 C2] 24)) hB1; rwa [show (w.alloc (.cells #[.int .u32 A, .int .u32 B, .int .u32 C] 24)).heap.size = w.heap.size + 1 by simp] at this); have HB1 := Aside0.mk (below_next (below_alloc (below_alloc (Below.refl w.heap.size w) _) _) hB1); obtain ⟨PA, pc, rfl, hpl, hpC⟩ := HV1.out; clear hB1 hV1))
  have hll : ids.length = l34.length := by rw [HL34.out, List.length_map]
  rw [hll]
  rw [show ({ ids := ids, bg := (bg : Int), en := (en : Int), e0 := e0, e1 := e1 } : NodesV).ids.map conv = l34 from HL34.out.symm] at hpl hpC
  have HPL := Aside0.mk hpl
  have HPC := Aside0.mk hpC
  obtain ⟨w2, hw2⟩ : ∃ w2, w2 = w1.alloc (.cells #[.slice PA l34.length pc, .int .u64 e0, .int .u64 e1, .int .i64 bg, .int .i64 en] 36) := ⟨_, rfl⟩
  rw [← hw2]
  obtain ⟨gp, hgp⟩ : ∃ gp, gp = w1.heap.size := ⟨_, rfl⟩
  rw [← hgp]
  have HG1 := Aside0.mk (show w2.heap[w.heap.size]? = some (.cells #[.int .u32 A, .int .u32 B, .int .u32 C] 24 (0, 0)) by rw [hw2]; exact blk_alloc HBX1.out _)
  have HG2 := Aside0.mk (show w2.heap[w.heap.size + 1]? = some (.cells #[.int .u32 A2, .int .u32 B2, .int .u32 C2] 24 (0, 0)) by rw [hw2]; exact blk_alloc HBX2.out _)
  have HG3 := Aside0.mk (show w2.heap[gp]? = some (.cells #[.slice PA l34.length pc, .int .u64 e0, .int .u64 e1, .int .i64 bg, .int .i64 en] 36 (0, 0)) by rw [hw2, hgp]; exact heap_alloc_new w1 _)
  have HB2 := Aside0.mk (show Below w.heap.size w w2 by rw [hw2]; exact below_alloc HB1.out _)
  have HPC2 := Aside0.mk (show k34.C w2 PA l34.length l34 by rw [hw2]; exact Kd.C_alloc HPC.out _)
  clear hw2 hgp HBX1 HBX2 HB1 HPC hpC hpl hll
  have HKP := Aside0.mk (show ∀ W, Below w2.heap.size w2 W → W.cell? ⟨w.heap.size, 0, none⟩ = some (.int .u32 A) ∧ W.cell? ⟨w.heap.size, 1, none⟩ = some (.int .u32 B) ∧ W.cell? ⟨w.heap.size, 2, none⟩ = some (.int .u32 C) ∧ W.cell? ⟨w.heap.size + 1, 0, none⟩ = some (.int .u32 A2) ∧ W.cell? ⟨w.heap.size + 1, 1, none⟩ = some (.int .u32 B2) ∧ W.cell? ⟨w.heap.size + 1, 2, none⟩ = some (.int .u32 C2) ∧ W.cell? ⟨gp, 0, none⟩ = some (.slice PA l34.length pc) ∧ W.cell? ⟨gp, 1, none⟩ = some (.int .u64 e0) ∧ W.cell? ⟨gp, 2, none⟩ = some (.int .u64 e1) ∧ W.cell? ⟨gp, 3, none⟩ = some (.int .i64 bg) ∧ W.cell? ⟨gp, 4, none⟩ = some (.int .i64 en) ∧ Aside0 (Below w2.heap.size w2 W) from fun W hb =>
    ⟨blk_cell (blk_below HG1.out hb) 0, blk_cell (blk_below HG1.out hb) 1, blk_cell (blk_below HG1.out hb) 2, blk_cell (blk_below HG2.out hb) 0, blk_cell (blk_below HG2.out hb) 1, blk_cell (blk_below HG2.out hb) 2,
      blk_cell (blk_below HG3.out hb) 0, blk_cell (blk_below HG3.out hb) 1, blk_cell (blk_below HG3.out hb) 2, blk_cell (blk_below HG3.out hb) 3, blk_cell (blk_below HG3.out hb) 4, ⟨hb⟩⟩)
  have HBr := Aside0.mk (Below.refl w2.heap.size w2)
  obtain ⟨x0, x1, x2, y0, y1, y2, z0, z1, z2, z3, z4, _⟩ := HKP.out _ HBr.out; 
  go_upto_region 6 with (first
    | (go_at_call 9; ((with_reducible refine (spec_Planned.calls k PA pc l34 e0 e1 bg en spans true w2 HPC2.out HPL.out HPLN.out).mono ?_); rintro e w3 ⟨v3, rfl, hR3, hB3⟩; have HB3 := Aside0.mk hB3; obtain ⟨SA, sc, rfl, hsl, hsC⟩ := Rd.ofR hR3; have HSL := Aside0.mk hsl; have HSC := Aside0.mk hsC; obtain ⟨x0, x1, x2, y0, y1, y2, z0, z1, z2, z3, z4, _⟩ := HKP.out _ HB3.out; clear hB3 hR3 hsl hsC))
    | (go_at_call 10; ((with_reducible refine (spec_PathSpans.calls k _ _ _ want _ HQ.out.wanted).mono ?_); rintro e w4 ⟨v4, rfl, hR4, hB4⟩; have HB4 := Aside0.mk (below_next HB3.out hB4); obtain ⟨WA, wc, rfl, hwl, hwC⟩ := Rd.ofR hR4; have HWL := Aside0.mk hwl; have HWC := Aside0.mk hwC; have HSC4 := Aside0.mk (Kd.C_below HSC.out hB4); obtain ⟨x0, x1, x2, y0, y1, y2, z0, z1, z2, z3, z4, _⟩ := HKP.out _ HB4.out; clear hB4 hR4 hwl hwC))
    | (go_at_call 11; ((with_reducible refine (laws_sameSpans.calls k SA sc spans WA wc want true _ HSC4.out HSL.out HWC.out HWL.out HQ.out.same).mono ?_); rintro e w5 ⟨rfl, hD5⟩; have HB5 := Aside0.mk (below_next HB4.out hD5.below); have HWC5 := Aside0.mk (Kd.C_below HWC.out hD5.below); obtain ⟨x0, x1, x2, y0, y1, y2, z0, z1, z2, z3, z4, _⟩ := HKP.out _ HB5.out; clear hD5)))
  go_region_held3 (fun W => W.cell? ⟨w.heap.size, 0, none⟩ = some (.int .u32 A) ∧ W.cell? ⟨w.heap.size, 1, none⟩ = some (.int .u32 B) ∧ W.cell? ⟨w.heap.size, 2, none⟩ = some (.int .u32 C) ∧ W.cell? ⟨w.heap.size + 1, 0, none⟩ = some (.int .u32 A2) ∧ W.cell? ⟨w.heap.size + 1, 1, none⟩ = some (.int .u32 B2) ∧ W.cell? ⟨w.heap.size + 1, 2, none⟩ = some (.int .u32 C2) ∧ W.cell? ⟨gp, 0, none⟩ = some (.slice PA l34.length pc) ∧ W.cell? ⟨gp, 1, none⟩ = some (.int .u64 e0) ∧ W.cell? ⟨gp, 2, none⟩ = some (.int .u64 e1) ∧ W.cell? ⟨gp, 3, none⟩ = some (.int .i64 bg) ∧ W.cell? ⟨gp, 4, none⟩ = some (.int .i64 en) ∧ Aside0 (Below w2.heap.size w2 W))
    (first | exact HKP.out _ (below_next HB5.out (Below.refl _ _).drew) | exact HKP.out _ HBn.out)
    (first
      | (go_at_call 13; (with_reducible refine (spec_NodeHashes.calls k A2 B2 C2 PA pc l34 ps0 _ (Kd.C_below HPC2.out (below_next HB5.out (Below.refl _ _).drew)) HPL.out HNH.out).mono ?_); rintro e w6 ⟨v6, rfl, hS6, hB6⟩; have HV6 := Aside0.mk (Rd.ofR (Kd.S_R hS6)); have HB6 := Aside0.mk (below_next (below_next HB5.out (Below.refl _ _).drew) hB6); have HBn := HB6; have HD6 := Aside0.mk (below_next (Below.refl w5.heap.size w5).drew hB6); clear hS6 hB6)
      | (go_at_call 12; (with_reducible refine (HC12.out _ _ HV6.out).mono ?_); rintro e w7 ⟨v7, rfl, hV7, hB7⟩; have HV7 := Aside0.mk hV7; have HB7 := Aside0.mk (below_next HB6.out hB7); have HBn := HB7; have HD7 := Aside0.mk (below_next HD6.out hB7); clear hV7 hB7))
  obtain ⟨QA, qc, rfl, hql, hqC⟩ := HV7.out
  have HQL := Aside0.mk hql
  have HQC := Aside0.mk hqC
  have HWC7 := Aside0.mk (Kd.C_below HWC5.out HD7.out)
  obtain ⟨x0, x1, x2, y0, y1, y2, z0, z1, z2, z3, z4, _⟩ := HKP.out _ HB7.out; 
  clear hql hqC
  go_upto_region 11 with (first
    | (go_at_call 15; ((with_reducible refine (spec_SpanHashes.calls k A B C A2 B2 C2 WA wc want ps2 _ HWC7.out HWL.out HQ.out.spanh).mono ?_); rintro e w8 ⟨v8, rfl, hS8, hB8⟩; have HB8 := Aside0.mk (below_next HB7.out hB8); obtain ⟨TA, tc, rfl, htl, htC⟩ := Rd.ofR (Kd.S_R hS8); have HTL := Aside0.mk htl; have HTC := Aside0.mk htC; have HQC8 := Aside0.mk (Kd.C_below HQC.out hB8); obtain ⟨x0, x1, x2, y0, y1, y2, z0, z1, z2, z3, z4, _⟩ := HKP.out _ HB8.out; clear hS8 hB8 htl htC))
    | (go_at_call 14; ((with_reducible refine (laws_sameHashes.calls k QA qc ps1 TA tc ps2 true _ HQC8.out HQL.out HTC.out HTL.out HQ.out.sameh).mono ?_); rintro e w9 ⟨rfl, hD9⟩; have HB9 := Aside0.mk (below_next HB8.out hD9.below); have HP9 := Aside0.mk (show Rd KBB w9 (.slice QA ps1.length qc) ps1 from ⟨QA, qc, rfl, HQL.out, Kd.C_below HQC8.out hD9.below⟩); obtain ⟨x0, x1, x2, y0, y1, y2, z0, z1, z2, z3, z4, _⟩ := HKP.out _ HB9.out; clear hD9))
    | (go_at_call 16; ((with_reducible refine (spec_NodeHash.calls A2 B2 C2 0 _ leaf _ HQ.out.leaf_eq).mono ?_); rintro e w10 ⟨v10, rfl, hR10, hB10⟩; have HB10 := Aside0.mk (below_next HB9.out hB10); have HLF := Aside0.mk (Rd.ofR hR10); have HP10 := Aside0.mk (HP9.out.below hB10); obtain ⟨x0, x1, x2, y0, y1, y2, z0, z1, z2, z3, z4, _⟩ := HKP.out _ HB10.out; clear hR10 hB10))
    | (go_at_call 17; ((with_reducible refine (rootOf_any A B C size (by have := HQ.out.idx_lt; omega) HQ.out.size_le idx HQ.out.idx_lt _ _ leaf ps1 _ HLF.out HP10.out).mono ?_); rintro e w11 ⟨v11, b11, rfl, hV11, hB11⟩; rw [← HQ.out.root_eq] at hV11; have HB11 := Aside0.mk (below_next HB10.out hB11); have HR11 := Aside0.mk hV11; have HP11 := Aside0.mk (HP10.out.below hB11); have HLF11 := Aside0.mk (HLF.out.below hB11); obtain ⟨RA, rc, rfl, hrl, hrC⟩ := hV11; have HRL := Aside0.mk hrl; have HRC := Aside0.mk hrC; clear hB11 hrl hrC)))
  have HK11 := Aside0.mk (show ∀ W, Below w11.heap.size w11 W → Below w.heap.size w W from fun W hb => below_next (below_next HB2.out HB11.out) hb)
  have HKS := Aside0.mk (show ∀ W, Below w11.heap.size w11 W → W.cell? ⟨w.heap.size, 0, none⟩ = some (.int .u32 A) ∧ W.cell? ⟨w.heap.size, 1, none⟩ = some (.int .u32 B) ∧ W.cell? ⟨w.heap.size, 2, none⟩ = some (.int .u32 C) ∧ W.cell? ⟨w.heap.size + 1, 0, none⟩ = some (.int .u32 A2) ∧ W.cell? ⟨w.heap.size + 1, 1, none⟩ = some (.int .u32 B2) ∧ W.cell? ⟨w.heap.size + 1, 2, none⟩ = some (.int .u32 C2) ∧ W.cell? ⟨gp, 0, none⟩ = some (.slice PA l34.length pc) ∧ W.cell? ⟨gp, 1, none⟩ = some (.int .u64 e0) ∧ W.cell? ⟨gp, 2, none⟩ = some (.int .u64 e1) ∧ W.cell? ⟨gp, 3, none⟩ = some (.int .i64 bg) ∧ W.cell? ⟨gp, 4, none⟩ = some (.int .i64 en) ∧ Aside0 (Below w11.heap.size w11 W) from fun W hb => by
    obtain ⟨a0, a1, a2, a3, a4, a5, a6, a7, a8, a9, a10, _⟩ := HKP.out _ (below_next HB11.out hb)
    exact ⟨a0, a1, a2, a3, a4, a5, a6, a7, a8, a9, a10, ⟨hb⟩⟩)
  go_region_held3 (fun W => W.cell? ⟨w.heap.size, 0, none⟩ = some (.int .u32 A) ∧ W.cell? ⟨w.heap.size, 1, none⟩ = some (.int .u32 B) ∧ W.cell? ⟨w.heap.size, 2, none⟩ = some (.int .u32 C) ∧ W.cell? ⟨w.heap.size + 1, 0, none⟩ = some (.int .u32 A2) ∧ W.cell? ⟨w.heap.size + 1, 1, none⟩ = some (.int .u32 B2) ∧ W.cell? ⟨w.heap.size + 1, 2, none⟩ = some (.int .u32 C2) ∧ W.cell? ⟨gp, 0, none⟩ = some (.slice PA l34.length pc) ∧ W.cell? ⟨gp, 1, none⟩ = some (.int .u64 e0) ∧ W.cell? ⟨gp, 2, none⟩ = some (.int .u64 e1) ∧ W.cell? ⟨gp, 3, none⟩ = some (.int .i64 bg) ∧ W.cell? ⟨gp, 4, none⟩ = some (.int .i64 en) ∧ Aside0 (Below w11.heap.size w11 W))
    (first | exact HKS.out _ (Below.refl _ _).drew | exact HKS.out _ HBn.out)
    (first
      | (go_at_call 7; (with_reducible refine (HC7.out _ _ _ root f0 _ HF0.out (HK11.out _ (Below.refl _ _).drew) (HLF11.out.below (Below.refl _ _).drew) (HP11.out.below (Below.refl _ _).drew) (HR11.out.below (Below.refl _ _).drew)).mono ?_); rintro e w12 ⟨rfl, hB12⟩; have HB12 := Aside0.mk (below_next (Below.refl w11.heap.size w11).drew hB12); have HBn := HB12; clear hB12)
      | (go_at_call 18; (with_reducible refine (spec_Other.calls RA rc root oth _ (Kd.C_below HRC.out HB12.out) HRL.out HQ.out.other).mono ?_); rintro e w13 ⟨v13, rfl, hR13, hB13⟩; have HO13 := Aside0.mk (Rd.ofR hR13); have HB13 := Aside0.mk (below_next HB12.out hB13); have HBn := HB13; clear hR13 hB13)
      | (go_at_call 7; (with_reducible refine (HC7.out _ _ _ oth f1 _ HF1.out (HK11.out _ HB13.out) (HLF11.out.below HB13.out) (HP11.out.below HB13.out) HO13.out).mono ?_); rintro e w14 ⟨rfl, hB14⟩; have HB14 := Aside0.mk (below_next HB13.out hB14); have HBn := HB14; clear hB14)
      | (go_at_call 19; (with_reducible refine (judged_any F A B C k idx size i b _ _ _ _ leaf ps1 root x at_ _ (HG.out.below (HK11.out _ HB14.out)) HQ.out.idx_lt HQ.out.size_le HQ.out.dec HQ.out.hi HQ.out.hb HQ.out.leaf2 HQ.out.small1 HQ.out.len1 HX2.out HAT.out (HLF11.out.below HB14.out) (HP11.out.below HB14.out) (HR11.out.below HB14.out) (HX.out.below (HK11.out _ HB14.out)) HQ.out.judged).mono ?_); rintro e w15 ⟨rfl, hB15⟩; have HB15 := Aside0.mk (below_next HB14.out hB15); have HBn := HB15; clear hB15))
  go_wp2
  go_ret
  exact ⟨rfl, HK11.out _ HB15.out⟩
end Go.Proofs.YtdjfagknffknjaaFmt.H
