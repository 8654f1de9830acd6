/- The law's judgement of bent inclusion proofs; conditions: what the verdicts are asked. -/
import Derived.Test.YtdjfagknffknjaaFmtXV
import Derived.Test.YtdjfagknffknjaaFmtXS

section
namespace Go.Proofs.YtdjfagknffknjaaFmt.H
open Go.RowKit Go.Extern.Stop Go.Stop Go.Extern Go.Proofs.YtdjfagknffknjaaFmtW.PrintWords Go.Proofs.YtdjfagknffknjaaFmtW.PrintLast Go.Proofs.YtdjfagknffknjaaFmtW.PrintMore Go.Proofs.YtdjfagknffknjaaFmt.Q
/-- The headers, one row each, read as the hashes. -/
def Heads (w : World) (rows : List (List Value)) (ps : List (List Int)) : Prop := rows.length = ps.length ∧ ∀ (j : Nat) (x : List Int) (c : List Value), ps[j]? = some x → rows[j]? = some c → KBB.K w x c
theorem Heads.below {w w' : World} {rows : List (List Value)} {ps : List (List Int)} (h : Heads w rows ps) (hb : Below w.heap.size w w') : Heads w' rows ps := ⟨h.1, fun j x c hx hc => KBB.K_below hb (h.2 j x c hx hc)⟩
theorem kbb_of_rd {w : World} {v : Value} {x : List Int} (h : Rd KB w v x) : KBB.K w x [v] := by
  obtain ⟨A, c, rfl, hl, hC⟩ := h
  exact ⟨A, c, rfl, hl, hC⟩
theorem Heads.snoc {w : World} {rows : List (List Value)} {ps : List (List Int)} {v : Value} {x : List Int} (h : Heads w rows ps) (hv : Rd KB w v x) : Heads w (rows ++ [[v]]) (ps ++ [x]) := by
  refine ⟨by simp [h.1], fun j y c hy hc => ?_⟩
  rcases Nat.lt_or_ge j ps.length with hj | hj
  · rw [List.getElem?_append_left hj] at hy
    rw [List.getElem?_append_left (by rw [h.1]; exact hj)] at hc
    exact h.2 j y c hy hc
  · rw [List.getElem?_append_right hj] at hy
    rw [List.getElem?_append_right (by rw [h.1]; exact hj), h.1] at hc
    rcases hq : j - ps.length with _ | q
    · rw [hq] at hy hc
      simp only [List.getElem?_cons_zero, Option.some.injEq] at hy hc
      rw [← hy, ← hc]
      exact kbb_of_rd hv
    · rw [hq] at hy
      simp at hy
theorem Heads.set {w : World} {rows : List (List Value)} {ps : List (List Int)} {v : Value} {x : List Int} (h : Heads w rows ps) (i : Nat) (hv : Rd KB w v x) : Heads w (rows.set i [v]) (ps.set i x) := by
  refine ⟨by simp [h.1], fun j y c hy hc => ?_⟩
  by_cases hj : i = j
  · subst hj
    have h1 := (List.getElem?_eq_some_iff.1 hy).1
    have h2 := (List.getElem?_eq_some_iff.1 hc).1
    rw [List.length_set] at h1 h2
    rw [List.getElem?_set_self h1] at hy
    rw [List.getElem?_set_self h2] at hc
    simp only [Option.some.injEq] at hy hc
    rw [← hy, ← hc]
    exact kbb_of_rd hv
  · rw [List.getElem?_set_ne hj] at hy hc
    exact h.2 j y c hy hc
/-- The headers of a list that is read. -/
theorem Rd.heads {w : World} {A : Option Addr} {n c : Nat} {ps : List (List Int)} (h : Rd KBB w (.slice A n c) ps) :
    ∃ rows, Heads w rows ps ∧ ReadsRow ((Kd.raw 1).K w) (Kd.raw 1).sz w A n rows := by
  obtain ⟨A', c', e, hl, hC⟩ := h
  injection e with e1 e2 e3
  subst e1 e2 e3
  obtain ⟨news, h1, h2, h3⟩ := Kd.reads_raw (sz := 1) hC (fun x c hk => ⟨KBB.K_len hk, KBB.K_one hk⟩)
  exact ⟨news, ⟨h1, h3⟩, h2⟩
theorem readsRow_below {w w' : World} {A : Option Addr} {n : Nat} {rows : List (List Value)} (h : ReadsRow ((Kd.raw 1).K w) (Kd.raw 1).sz w A n rows) (hb : Below w.heap.size w w') : ReadsRow ((Kd.raw 1).K w') (Kd.raw 1).sz w' A n rows := ReadsRow.imp_ h hb (fun _ _ h => h)
/-- A row of headers of one's own reads as the list. -/
theorem Rd.ofHeads {w : World} {b : Nat} {ok : Nat → Prop} {v : Value} {rows : List (List Value)} {ps : List (List Int)} (h : (Kd.raw 1).R 26 w b ok v rows) (hh : Heads w rows ps) : Rd KBB w v ps := by
  obtain ⟨A, c, rfl, hl, hC⟩ := Kd.R_reads h
  refine ⟨A, c, by rw [hh.1], by rw [← hh.1]; exact hl, ?_⟩
  refine ⟨rfl, by rw [← hh.1]; exact hC.2.1, fun hn => ?_⟩
  obtain ⟨ad, rfl, hc⟩ := hC.2.2 (by rw [hh.1]; exact hn)
  refine ⟨ad, rfl, fun j x hx => ?_⟩
  have hj : j < rows.length := by rw [hh.1]; exact (List.getElem?_eq_some_iff.1 hx).1
  obtain ⟨cs, h1, h2, h3⟩ := hc j _ (List.getElem?_eq_getElem hj)
  obtain ⟨e1, _, _⟩ := h2
  subst e1
  exact ⟨_, h1, hh.2 j x _ hx (List.getElem?_eq_getElem hj), h3⟩
/-- An empty literal. -/
theorem lit0_R (w : World) (b : Nat) (hb : b ≤ w.heap.size) : (Kd.raw 1).R 26 (w.alloc (.cells #[] 26)) b (fun _ => True) (.slice (some ⟨w.heap.size, 0, none⟩) 0 0) [] := by
  refine ⟨fun _ _ => trivial, [], ?_, Reps.none _ _⟩
  exact World.ownsRow_lit (base := b) (e := 26) (size := 1) w #[] 0 hb (by simp [maxLen]) (by simp)
theorem lit0_R2 (w : World) (o : Obj) : (Kd.raw 1).R 26 ((w.alloc o).alloc (.cells #[] 26)) w.heap.size (fun _ => True) (.slice (some ⟨w.heap.size + 1, 0, none⟩) 0 0) [] := by
  have := lit0_R (w.alloc o) w.heap.size (by simp)
  rwa [show (w.alloc o).heap.size = w.heap.size + 1 by simp] at this
theorem lit1_C (w : World) (v : Value) (h1 : v.oneCell' = true) : ReadsRow ((Kd.raw 1).K (w.alloc (.cells #[v] 26))) (Kd.raw 1).sz (w.alloc (.cells #[v] 26)) (some ⟨w.heap.size, 0, none⟩) 1 [[v]] := by
  refine ⟨rfl, by decide, fun _ => ⟨_, rfl, fun j p hj => ?_⟩⟩
  rcases j with _ | j
  · simp only [List.getElem?_cons_zero, Option.some.injEq] at hj
    subst hj
    refine ⟨[v], rfl, ⟨rfl, rfl, fun u hu => by rw [List.mem_singleton.1 hu]; exact h1⟩, fun i u hu => ?_⟩
    rcases i with _ | i
    · simp only [List.getElem?_cons_zero, Option.some.injEq] at hu
      subst hu
      exact blk_cell (heap_alloc_new w (.cells #[v] 26)) 0
    · simp at hu
  · simp at hj
theorem lit1_C2 (w : World) (o : Obj) (v : Value) (h1 : v.oneCell' = true) : ReadsRow ((Kd.raw 1).K w) (Kd.raw 1).sz ((w.alloc o).alloc (.cells #[v] 26)) (some ⟨w.heap.size + 1, 0, none⟩) 1 [[v]] := by
  have := lit1_C (w.alloc o) v h1
  rwa [show (w.alloc o).heap.size = w.heap.size + 1 by simp] at this
theorem row_grown {w w' : World} {b : Nat} {v : Value} {row : Option Nat} (h : ReadsRow ((Kd.raw 1).K w) (Kd.raw 1).sz w (some ⟨b, 0, none⟩) 1 [[v]]) (hg : w.grownBy w' row) (hb : b < w.heap.size) (hn : some b ≠ row) : ReadsRow ((Kd.raw 1).K w') (Kd.raw 1).sz w' (some ⟨b, 0, none⟩) 1 [[v]] := by
  refine ⟨rfl, by decide, fun _ => ⟨_, rfl, fun j p hj => ?_⟩⟩
  obtain ⟨ad, e, hc⟩ := h.2.2 (by decide)
  injection e with e
  subst e
  obtain ⟨c, h1, h2, h3⟩ := hc j p hj
  refine ⟨c, h1, h2, fun i u hu => ?_⟩
  rw [← h3 i u hu]
  have e : ∀ n, (Addr.add ⟨b, 0, none⟩ n).block = b := fun n => by simp only [Addr.add]; split <;> rfl
  unfold World.cell?
  rw [e, hg.block b hb hn]
theorem two_le (w : World) (o o' : Obj) : w.heap.size ≤ ((w.alloc o).alloc o').heap.size := by simp; omega
theorem two_lt0 (w : World) (o o' : Obj) : w.heap.size < ((w.alloc o).alloc o').heap.size := by simp; omega
theorem two_lt1 (w : World) (o o' : Obj) : w.heap.size + 1 < ((w.alloc o).alloc o').heap.size := by simp
theorem own_ne1 (n : Nat) : some (n + 1) ≠ (Value.slice (some ⟨n, 0, none⟩) 0 0).ownBlock := by simp [Value.ownBlock]
theorem own_ne0 (n : Nat) : some n ≠ (Value.slice (some ⟨n + 1, 0, none⟩) 0 0).ownBlock := by simp [Value.ownBlock]
/-- A row of one's own that is not empty lies in a block. -/
theorem raw_own {W : World} {b : Nat} {ok : Nat → Prop} {v : Value} {rows : List (List Value)} (h : (Kd.raw 1).R 26 W b ok v rows) (hn : 0 < rows.length) :
    ∃ g cap cur, v = .slice (some ⟨g, 0, none⟩) rows.length cap ∧ b ≤ g ∧ W.heap[g]? = some (.cells cur 26 (0, 0)) ∧ rows.length ≤ cap ∧ cap ≤ cur.size := by
  obtain ⟨_, inner, ho, _⟩ := h
  rcases ho.2 with ⟨_, h0⟩ | ⟨g, cap, cur, hv, hg, hh, hnc, hcm, hcs, _⟩
  · omega
  · exact ⟨g, cap, cur, hv, hg, hh, hnc, by rw [hcs]; show cap ≤ cap * 1; omega⟩
theorem raw_store {W : World} {b g n cap : Nat} {u : Value} {rows : List (List Value)} (h : (Kd.raw 1).R 26 W b (fun _ => True) (.slice (some ⟨g, 0, none⟩) n cap) rows) (i : Nat) (hi : i < n) (hu : u.oneCell' = true) :
    (Kd.raw 1).R 26 (W.setCell ⟨g, i, none⟩ u) b (fun _ => True) (.slice (some ⟨g, 0, none⟩) n cap) (rows.set i [u]) ∧ W.grownBy (W.setCell ⟨g, i, none⟩ u) (some g) := by
  obtain ⟨c, h1, h2, h3⟩ := Kd.R_get h [] (i : Int) (by omega) (by omega)
  have h1' : c.length = 1 := h1
  have hs : (Kd.raw 1).sz = 1 := rfl
  have := Kd.R_seg (okp := fun _ => False) h (i : Int) (by omega) (by omega) (c := c) (seg := [u]) (j := 0) (x' := [u]) h1 (fun j u hju => by have := h3 j u hju; rwa [add_plain] at this) (by simp [hs])
    (by simp only [List.take_zero, List.nil_append, List.length_singleton, Nat.zero_add]; rw [List.drop_of_length_le (by omega), List.append_nil]; exact ⟨rfl, rfl, fun q hq => by rw [List.mem_singleton.1 hq]; exact hu⟩) (fun _ hk => hk.elim)
  have e : (i : Int).toNat * (Kd.raw 1).sz + 0 = i := by rw [hs]; simp
  rw [e, Int.toNat_natCast] at this
  exact this
theorem rd_one {w : World} {v : Value} {x : List Int} (h : Rd KB w v x) : v.oneCell' = true := by
  obtain ⟨A, c, rfl, _, _⟩ := h
  rfl
theorem small_snoc {ps : List (List Int)} {x : List Int} (hp : ps.length ≤ 999) (hs : Small ps) (hx : x.length ≤ 1000) : Small (ps ++ [x]) := by
  refine ⟨by rw [List.length_append, List.length_singleton]; omega, fun y hy => ?_⟩
  rcases List.mem_append.1 hy with h | h
  · exact hs.each y h
  · rw [List.mem_singleton.1 h]; exact hx
theorem small_set {ps : List (List Int)} {x : List Int} (i : Nat) (hs : Small ps) (hx : x.length ≤ 1000) : Small (ps.set i x) := by
  refine ⟨by rw [List.length_set]; exact hs.len, fun y hy => ?_⟩
  rcases List.mem_or_eq_of_mem_set hy with h | h
  · exact hs.each y h
  · rw [h]; exact hx
theorem small_take {ps : List (List Int)} (hs : Small ps) : Small ps.dropLast := ⟨by rw [List.length_dropLast]; have := hs.len; omega, fun y hy => hs.each y (List.dropLast_subset ps hy)⟩
end Go.Proofs.YtdjfagknffknjaaFmt.H
end

section
namespace Go.Proofs.YtdjfagknffknjaaFmt.H
open Go.RowKit Go.Extern.Stop Go.Stop Go.Extern Go.Proofs.YtdjfagknffknjaaFmtW.PrintWords Go.Proofs.YtdjfagknffknjaaFmtW.PrintLast Go.Proofs.YtdjfagknffknjaaFmtW.PrintMore Go.Proofs.YtdjfagknffknjaaFmt.Q
/-- What judged is asked: the verdicts. -/
structure Judged (A B C : Int) (idx size i b : Nat) (leaf : List Int) (ps : List (List Int)) (root : List Int) (at_ : Nat) (x : List Int) : Prop where
  other : (inclFault A B C idx i b leaf ps x = 0) ↔ eqB x root = true
  more : inclFault A B C idx i b leaf (ps ++ [x]) root ≠ 0
  bent : 0 < ps.length → ((inclFault A B C idx i b leaf (ps.set (at_ % ps.length) x) root = 0) ↔ eqB (rootOf A B C idx size leaf (ps.set (at_ % ps.length) x)) root = true)
  less : 0 < ps.length → inclFault A B C idx i b leaf ps.dropLast root ≠ 0
set_option maxRecDepth 100000 in
set_option maxHeartbeats 4000000 in
theorem judged_any (F : Interp) (A B C : Int) (k idx size i b : Nat) (lv pv rv xv : Value) (leaf : List Int) (ps : List (List Int)) (root x : List Int) (at_ : Nat) (w : World) (hG : Glob F w)
    (hidx : idx < size) (hsize : size ≤ 9223372036854775808) (hd : proof_decompInclProof.f k idx size = some ((i : Int), (b : Int))) (hi : i ≤ 64) (hb : b ≤ 64)
    (hl2 : leaf.length = 2) (hs : Small ps) (hps : ps.length ≤ 999) (hx2 : x.length = 2) (hat : at_ < 256) (hl : Rd KB w lv leaf) (hp : Rd KBB w pv ps) (hr : Rd KB w rv root) (hx : Rd KB w xv x)
    (hJ : Judged A B C idx size i b leaf ps root at_ x) :
    Calls Tryf.prog 19 #[.agg #[.int .u32 A, .int .u32 B, .int .u32 C], .int .u64 idx, .int .u64 size, lv, pv, rv, .int .u8 at_, xv] w fun e w' => e = .returned (.bool true) ∧ Below w.heap.size w w' := by
  have hu24 := Tryf.underlying24
  have hx1 := rd_one hx
  have HL := Aside0.mk hl
  have HP := Aside0.mk hp
  have HR := Aside0.mk hr
  have HX := Aside0.mk hx
  have HG := Aside0.mk hG
  have HD := Aside0.mk hd
  have HL2 := Aside0.mk hl2
  have HS := Aside0.mk hs
  have HJ := Aside0.mk hJ
  have HX2 := Aside0.mk hx2
  obtain ⟨RA, rc, rfl, hrl, hrC⟩ := id hr
  obtain ⟨XA, xc, rfl, hxl, hxC⟩ := id hx
  obtain ⟨PA, pc, rfl, hpl, hpC⟩ := id hp
  have cvx' := fun W (hb : Below w.heap.size w W) => Kd.C_string (P := Tryf.prog) (src := 26) (dst := 9) (c := xc) Tryf.underlying26 Tryf.underlying5 Tryf.underlying9 (Kd.C_below hxC hb)
  have cvr' := fun W (hb : Below w.heap.size w W) => Kd.C_string (P := Tryf.prog) (src := 26) (dst := 9) (c := rc) Tryf.underlying26 Tryf.underlying5 Tryf.underlying9 (Kd.C_below hrC hb)
  have HST := Aside0.mk (held_start w (.int .u32 A) (.int .u32 B) (.int .u32 C))
  have c1 := cvx' _ (below_alloc (Below.refl w.heap.size w) (.cells #[.int .u32 A, .int .u32 B, .int .u32 C] 24))
  have c2 := cvr' _ (below_alloc (Below.refl w.heap.size w) (.cells #[.int .u32 A, .int .u32 B, .int .u32 C] 24))
  have HCVR := Aside0.mk cvr'
  clear hl hp hr hx hG hd hl2 hs hJ hrC hxC hpC hx2 cvx' cvr'
  obtain ⟨f1, hf1⟩ : ∃ f, f = inclFault A B C idx i b leaf ps x := ⟨_, rfl⟩
  obtain ⟨f2, hf2⟩ : ∃ f, f = inclFault A B C idx i b leaf (ps ++ [x]) root := ⟨_, rfl⟩
  obtain ⟨same, hsame⟩ : ∃ s, s = eqB x root := ⟨_, rfl⟩
  have t1 : ((f1 : Int) == 0) = same := by
    have := HJ.out.other
    rw [← hf1, ← hsame] at this
    cases same <;> simp_all
  have t2 : ((f2 : Int) == 0) = false := by
    have := HJ.out.more
    rw [← hf2] at this
    simp; omega
  have tb : (same != same) = false := by cases same <;> rfl
  have hsame' : ((strOfNums x).toList == (strOfNums root).toList) = same := hsame.symm
  have HF1 := Aside0.mk hf1
  have HF2 := Aside0.mk hf2
  clear hf1 hf2 hsame
  have C7 : ∀ (pv' rv' : Value) (ps' : List (List Int)) (root' : List Int) (f : Nat) (W : World) (_ : f = inclFault A B C idx i b leaf ps' root') (_ : Below w.heap.size w W) (_ : Small ps') (_ : Rd KBB W pv' ps') (_ : Rd KB W rv' root'),
    Calls Tryf.prog 7 #[.agg #[.int .u32 A, .int .u32 B, .int .u32 C], .int .u64 idx, .int .u64 size, lv, pv', rv'] W fun e w' => e = .returned (.int .i64 f) ∧ Below W.heap.size W w' := by
    intro pv' rv' ps' root' f W hf hB hs hp hr
    subst hf
    exact incl_any F A B C k idx size i b lv pv' rv' leaf ps' root' W (HG.out.below hB) hidx (by omega) HD.out hi hb HL2.out hs (HL.out.below hB) hp hr
  have HC7 := Aside0.mk C7
  clear C7
  obtain ⟨rows, HH, hrows⟩ := HP.out.heads
  have HH := Aside0.mk HH
  have HROWS := Aside0.mk hrows
  have HRL := Aside0.mk (show rows.length = ps.length from HH.out.1)
  have HLEN := Aside0.mk (show (([] : List (List Value)).length + ps.length) * 24 ≤ 140737488355328 by simp only [List.length_nil]; omega)
  have HLEN2 := Aside0.mk (show (([] ++ rows : List (List Value)).length + 1) * 24 ≤ 140737488355328 by rw [List.nil_append, HRL.out]; omega)
  have HSS := Aside0.mk (small_snoc (x := x) hps HS.out (by rw [HX2.out]; decide))
  clear hrows
  go_enter Tryf.func19, Tryf.ntmps19
  go_upto_region 2 with fail
  go_cut [50] (fun v50 W => v50 = .bool false ∧ Aside0 (W.cell? ⟨w.heap.size, 0, none⟩ = some (.int .u32 A) ∧ W.cell? ⟨w.heap.size, 1, none⟩ = some (.int .u32 B) ∧ W.cell? ⟨w.heap.size, 2, none⟩ = some (.int .u32 C) ∧ Aside0 (Below w.heap.size w W)))
  case first =>
    go_region_held3 (fun W => W.cell? ⟨w.heap.size, 0, none⟩ = some (.int .u32 A) ∧ W.cell? ⟨w.heap.size, 1, none⟩ = some (.int .u32 B) ∧ W.cell? ⟨w.heap.size, 2, none⟩ = some (.int .u32 C) ∧ Aside0 (Below w.heap.size w W))
      (first | exact HST.out | exact held_next HS1.out HBn.out | exact held_next (by assumption) (below_alloc (Below.refl _ _) _) | exact held_next (by assumption) HBn.out)
      (first
        | (go_at_call 7; (with_reducible refine (HC7.out _ _ ps x f1 _ HF1.out (held_below (by assumption)) HS.out (HP.out.below (held_below (by assumption))) (HX.out.below (held_below (by assumption)))).mono ?_); rintro e w1 ⟨rfl, hB1⟩; have HBn := Aside0.mk hB1; have HS1 := Aside0.mk (held_next (by assumption) hB1); have HRW1 := Aside0.mk (readsRow_below HROWS.out (held_below HS1.out)); clear hB1)
        | (refine Kd.R_append_rows_step (P := Tryf.prog) (Kd.raw 1) (Rr := (Kd.raw 1).K w1) (w0 := w1) w1.heap.size (by rfl) (.tmp 41) (.tmp 42) 44 26 (.slice none 0 0) 24 rfl Tryf.underlying44 info26r rfl (by decide) (by decide) _ [] rows PA ps.length pc (fun _ => True) (fun _ => False) rfl rfl (lit0_R w1 w1.heap.size (Nat.le_refl _)) (readsRow_below HRW1.out (below_alloc (Below.refl _ _) _)) (fun _ _ h => h) (fun _ h => h.elim) (fun _ _ => trivial) (below_alloc (Below.refl _ _) _) (by simp) HLEN.out ?_; intro v8 w8 hR8 hB8 hg8 _; have HR8 := Aside0.mk hR8; have HB8 := Aside0.mk hB8; have HBn := HB8; clear hR8 hB8 hg8)
        | (refine Kd.R_append_rows_step (P := Tryf.prog) (Kd.raw 1) (Rr := (Kd.raw 1).K w1) (w0 := w1) w1.heap.size (by rfl) (.tmp 41) (.tmp 42) 44 26 (.slice none 0 0) 24 rfl Tryf.underlying44 info26r rfl (by decide) (by decide) _ [] rows PA ps.length pc (fun _ => True) (fun _ => False) rfl rfl (Kd.R_alloc (lit0_R w1 w1.heap.size (Nat.le_refl _)) _) (readsRow_below HRW1.out (below_alloc (below_alloc (Below.refl _ _) _) _)) (fun _ _ h => h) (fun _ h => h.elim) (fun _ _ => trivial) (below_alloc (below_alloc (Below.refl _ _) _) _) (two_le _ _ _) HLEN.out ?_; intro v8 w8 hR8 hB8 hg8 _; have HR8 := Aside0.mk hR8; have HB8 := Aside0.mk hB8; have HBn := HB8; have HT8 := Aside0.mk (row_grown (lit1_C2 w1 (.cells #[] 26) (.slice XA x.length xc) hx1) hg8 (two_lt1 _ _ _) (own_ne1 _)); clear hR8 hB8 hg8)
        | (refine Kd.R_append_rows_step (P := Tryf.prog) (Kd.raw 1) (Rr := (Kd.raw 1).K w1) (w0 := w1) w1.heap.size (by rfl) (.tmp 41) (.tmp 42) 44 26 (.slice none 0 0) 24 rfl Tryf.underlying44 info26r rfl (by decide) (by decide) _ [] rows PA ps.length pc (fun _ => True) (fun _ => False) rfl rfl (lit0_R2 w1 _) (readsRow_below HRW1.out (below_alloc (below_alloc (Below.refl _ _) _) _)) (fun _ _ h => h) (fun _ h => h.elim) (fun _ _ => trivial) (below_alloc (below_alloc (Below.refl _ _) _) _) (two_le _ _ _) HLEN.out ?_; intro v8 w8 hR8 hB8 hg8 _; have HR8 := Aside0.mk hR8; have HB8 := Aside0.mk hB8; have HBn := HB8; have HT8 := Aside0.mk (row_grown (readsRow_below (lit1_C w1 (.slice XA x.length xc) hx1) (below_alloc (Below.refl _ _) _)) hg8 (two_lt0 _ _ _) (own_ne0 _)); clear hR8 hB8 hg8)
        | (refine Kd.R_append_rows_step (P := Tryf.prog) (Kd.raw 1) (Rr := (Kd.raw 1).K w1) (w0 := w1) w1.heap.size (by rfl) (.tmp 43) (.tmp 45) 44 26 (.slice none 0 0) 24 rfl Tryf.underlying44 info26r rfl (by decide) (by decide) _ ([] ++ rows) [[(.slice XA x.length xc)]] (some ⟨w8.heap.size, 0, none⟩) 1 1 (fun _ => True) (fun _ => False) rfl rfl (Kd.R_alloc HR8.out _) (lit1_C w8 (.slice XA x.length xc) hx1) (fun _ _ h => h) (fun _ h => h.elim) (fun _ _ => trivial) (below_alloc HB8.out _) (Nat.le_trans HB8.out.size (by simp)) HLEN2.out ?_; intro v9 w9 hR9 hB9 _ _; have HB9 := Aside0.mk hB9; have HBn := HB9; have HBW := Aside0.mk (below_next (held_below HS1.out) hB9); have HRd := Aside0.mk (Rd.ofHeads hR9 (((HH.out.below (held_below HS1.out)).below hB9).snoc (HX.out.below HBW.out))); clear hR9 hB9)
        | (refine Kd.R_append_rows_step (P := Tryf.prog) (Kd.raw 1) (Rr := (Kd.raw 1).K w1) (w0 := w1) w1.heap.size (by rfl) (.tmp 43) (.tmp 45) 44 26 (.slice none 0 0) 24 rfl Tryf.underlying44 info26r rfl (by decide) (by decide) _ ([] ++ rows) [[(.slice XA x.length xc)]] (some ⟨w1.heap.size + 1, 0, none⟩) 1 1 (fun _ => True) (fun _ => False) rfl rfl HR8.out HT8.out (fun _ _ h => h) (fun _ h => h.elim) (fun _ _ => trivial) HB8.out (Nat.le_trans HB8.out.size (by simp)) HLEN2.out ?_; intro v9 w9 hR9 hB9 _ _; have HB9 := Aside0.mk hB9; have HBn := HB9; have HBW := Aside0.mk (below_next (held_below HS1.out) hB9); have HRd := Aside0.mk (Rd.ofHeads hR9 (((HH.out.below (held_below HS1.out)).below hB9).snoc (HX.out.below HBW.out))); clear hR9 hB9)
        | (refine Kd.R_append_rows_step (P := Tryf.prog) (Kd.raw 1) (Rr := (Kd.raw 1).K w1) (w0 := w1) w1.heap.size (by rfl) (.tmp 43) (.tmp 45) 44 26 (.slice none 0 0) 24 rfl Tryf.underlying44 info26r rfl (by decide) (by decide) _ ([] ++ rows) [[(.slice XA x.length xc)]] (some ⟨w1.heap.size, 0, none⟩) 1 1 (fun _ => True) (fun _ => False) rfl rfl HR8.out HT8.out (fun _ _ h => h) (fun _ h => h.elim) (fun _ _ => trivial) HB8.out (Nat.le_trans HB8.out.size (by simp)) HLEN2.out ?_; intro v9 w9 hR9 hB9 _ _; have HB9 := Aside0.mk hB9; have HBn := HB9; have HBW := Aside0.mk (below_next (held_below HS1.out) hB9); have HRd := Aside0.mk (Rd.ofHeads hR9 (((HH.out.below (held_below HS1.out)).below hB9).snoc (HX.out.below HBW.out))); clear hR9 hB9)
        | (go_at_call 7; (with_reducible refine (HC7.out _ _ (ps ++ [x]) root f2 _ HF2.out (held_below (by assumption)) HSS.out HRd.out (HR.out.below (held_below (by assumption)))).mono ?_); rintro e w10 ⟨rfl, hB10⟩; have HBn := Aside0.mk hB10; clear hB10))
    all_goals
      go_wp2
      go_meet
      case rel => exact ⟨rfl, ⟨by assumption⟩⟩
  case rest =>
    obtain ⟨rfl, HC2⟩ := hcut
    by_cases h0 : ps.length = 0
    · have t3 : ((ps.length : Int) == 0) = true := beq_iff_eq.2 (by omega)
      go_wp2
      go_ret
      exact ⟨rfl, held_below HC2.out⟩
    · have t3 : ((ps.length : Int) == 0) = false := beq_eq_false_iff_ne.2 (by omega)
      have HB2 := Aside0.mk (held_below HC2.out)
      have HRW2 := Aside0.mk (readsRow_below HROWS.out HB2.out)
      have HH2 := Aside0.mk (HH.out.below HB2.out)
      go_upto_region 7 with (refine Kd.R_append_rows (P := Tryf.prog) (Kd.raw 1) (Rr := (Kd.raw 1).K wc) (w0 := wc) wc.heap.size (by rfl) (.tmp 54) (.tmp 55) 44 26 (.slice none 0 0) 24 rfl Tryf.underlying44 info26r rfl (by decide) (by decide) _ [] rows PA ps.length pc (fun _ => True) (fun _ => False) rfl rfl (lit0_R wc wc.heap.size (Nat.le_refl _)) (readsRow_below HRW2.out (below_alloc (Below.refl _ _) _)) (fun _ _ h => h) (fun _ h => h.elim) (fun _ _ => trivial) (below_alloc (Below.refl _ _) _) (by simp) HLEN.out ?_; intro v3 w3 hR3 hB3 _ _; have HR3 := Aside0.mk (show (Kd.raw 1).R 26 w3 wc.heap.size (fun _ => True) v3 rows from hR3); have HB3 := Aside0.mk hB3; clear hR3 hB3)
      obtain ⟨g, cap, cur, rfl, hg, hh, hc1, hc2⟩ := raw_own HR3.out (by rw [HRL.out]; omega)
      have HR3' := HR3.out
      rw [HRL.out] at HR3' hc1 ⊢
      obtain ⟨q, hq⟩ : ∃ q : Nat, q = at_ % ps.length := ⟨_, rfl⟩
      have hqlt : q < ps.length := by rw [hq]; exact Nat.mod_lt _ (by omega)
      have hqc : q < cur.size := by omega
      have m1 : Int.tmod (at_ : Int) (ps.length : Int) = (q : Int) := by rw [hq]; rfl
      have hcell : w3.cell? ⟨g, q, none⟩ = some cur[q] := by rw [cell_of_row w3 g _ cur 26 (0, 0) hh]; exact Array.getElem?_eq_getElem hqc
      have hfroz : w3.frozen? ⟨g, q, none⟩ = false := blk_frozen hh _
      have HQ := Aside0.mk hq
      have HR3 := Aside0.mk HR3'
      have HG3 := Aside0.mk hg
      clear hq hg HR3'
      go_upto_region 8 with fail
      obtain ⟨w4, hw4⟩ : ∃ w4, w4 = w3.setCell ⟨g, q, none⟩ (.slice XA x.length xc) := ⟨_, rfl⟩
      rw [← hw4]
      obtain ⟨hR4, hg4⟩ := raw_store HR3.out q hqlt hx1
      rw [← hw4] at hR4 hg4
      have HB4 := Aside0.mk (HB3.out.grown hg4 HB3.out.size (fun k hk => by injection hk with hk; rw [← hk]; exact HG3.out))
      have HC4 := Aside0.mk (held_next HC2.out HB4.out)
      have HRd4 := Aside0.mk (Rd.ofHeads hR4 ((HH2.out.below HB4.out).set q (HX.out.below (held_below HC4.out))))
      clear hR4 hg4 hw4 hcell hfroz hh HG3 HB3 HR3 HRW2 HH2 HC2
      obtain ⟨bent, hbent⟩ : ∃ bent, bent = ps.set q x := ⟨_, rfl⟩
      obtain ⟨R, hR⟩ : ∃ R, R = rootOf A B C idx size leaf bent := ⟨_, rfl⟩
      obtain ⟨f3, hf3⟩ : ∃ f, f = inclFault A B C idx i b leaf bent root := ⟨_, rfl⟩
      obtain ⟨f4, hf4⟩ : ∃ f, f = inclFault A B C idx i b leaf ps.dropLast root := ⟨_, rfl⟩
      obtain ⟨same2, hsame2⟩ : ∃ s, s = eqB R root := ⟨_, rfl⟩
      have t4 : ((f3 : Int) == 0) = same2 := by
        have := HJ.out.bent (by omega)
        rw [← HQ.out, ← hbent, ← hf3, ← hR, ← hsame2] at this
        cases same2 <;> simp_all
      have t5 : ((f4 : Int) != 0) = true := by
        have := HJ.out.less (by omega)
        rw [← hf4] at this
        exact bne_iff_ne.2 (by omega)
      have tb2 : (same2 == same2) = true := by cases same2 <;> rfl
      have hs2 : ((strOfNums R).toList == (strOfNums root).toList) = same2 := hsame2.symm
      have HSB := Aside0.mk (show Small bent by rw [hbent]; exact small_set q HS.out (by rw [HX2.out]; decide))
      have HST4 := Aside0.mk (small_take HS.out)
      have HROOT := Aside0.mk hR
      have HF3 := Aside0.mk hf3
      have HF4 := Aside0.mk hf4
      rw [← hbent] at HRd4
      clear hbent hR hf3 hf4 hsame2 HQ
      obtain ⟨pm, hpm⟩ : ∃ pm : Nat, ps.length = pm + 1 := ⟨ps.length - 1, by omega⟩
      obtain ⟨vt, htake, hT⟩ := HP.out.take pm (by omega)
      have hdl : ps.take pm = ps.dropLast := by rw [List.dropLast_eq_take, hpm]; rfl
      rw [hdl] at hT
      have HT := Aside0.mk hT
      have s1 : IntKind.i64.wrap ((ps.length : Int) - 1) = (pm : Int) := by rw [IntKind.wrap_i64]; omega
      clear hT hdl hpm
      obtain ⟨e0, e1, e2, e3⟩ := HC4.out
      clear e3
      go_upto_region 10 with (go_at_call 17; ((with_reducible refine (rootOf_any A B C size (by omega) hsize idx hidx _ _ leaf bent w4 (HL.out.below (held_below HC4.out)) HRd4.out).mono ?_); rintro e w5 ⟨v5, b5, rfl, hV5, hB5⟩; rw [← HROOT.out] at hV5; obtain ⟨OA, oc, rfl, hol, hoC⟩ := hV5; have HC5 := Aside0.mk (held_next HC4.out hB5); have HRd5 := Aside0.mk (HRd4.out.below hB5); have cvo := Kd.C_string (P := Tryf.prog) (src := 26) (dst := 9) (c := oc) Tryf.underlying26 Tryf.underlying5 Tryf.underlying9 hoC; have cvr := HCVR.out _ (held_below HC5.out); clear hB5 hoC))
      clear hpl hc1 hc2 hrl hxl hol hqlt hqc h0 hps
      go_region_held3 (fun W => W.cell? ⟨w.heap.size, 0, none⟩ = some (.int .u32 A) ∧ W.cell? ⟨w.heap.size, 1, none⟩ = some (.int .u32 B) ∧ W.cell? ⟨w.heap.size, 2, none⟩ = some (.int .u32 C) ∧ Aside0 (Below w.heap.size w W))
        (first | exact held_next HC5.out (Below.refl _ _).drew | exact held_next (by assumption) HBn.out)
        (first
          | (go_at_call 7; (with_reducible refine (HC7.out _ _ bent root f3 _ HF3.out (held_below (by assumption)) HSB.out (HRd5.out.below (Below.refl _ _).drew) (HR.out.below (held_below (by assumption)))).mono ?_); rintro e w6 ⟨rfl, hB6⟩; have HBn := Aside0.mk hB6; clear hB6)
          | (go_at_call 7; (with_reducible refine (HC7.out _ _ ps.dropLast root f4 _ HF4.out (held_below (by assumption)) HST4.out (HT.out.below (held_below (by assumption))) (HR.out.below (held_below (by assumption)))).mono ?_); rintro e w7 ⟨rfl, hB7⟩; have HBn := Aside0.mk hB7; clear hB7))
      all_goals
        go_wp2
        go_ret
        exact ⟨rfl, held_below (by assumption)⟩
end Go.Proofs.YtdjfagknffknjaaFmt.H
end
