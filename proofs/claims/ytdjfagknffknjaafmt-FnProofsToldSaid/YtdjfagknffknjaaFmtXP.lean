/- Plans of proofs and the rehashing of a proof, by their contracts; conditions: as each theorem states. -/
import Derived.Test.YtdjfagknffknjaaFmtXV
import Derived.Test.YtdjfagknffknjaaFmtXN

section
namespace Go.Proofs.YtdjfagknffknjaaFmt.H
open Go.RowKit Go.Extern.Stop Go.Stop Go.Extern Go.Proofs.YtdjfagknffknjaaFmtW.PrintWords Go.Proofs.YtdjfagknffknjaaFmtW.PrintLast Go.Proofs.YtdjfagknffknjaaFmtW.PrintMore Go.Proofs.YtdjfagknffknjaaFmt.Q
/-- A node of the package as one of impl. -/
def conv (x : S69) : S34 := ⟨x.f0, x.f1⟩
theorem nodesOf_from (ids : List S69) (hs : ids.length ≤ 1000) (d : Nat) : ∀ (k j : Nat), j + d = ids.length → d < k → impl_nodesOf.l0 k ((ids.take j).map conv) ids (ids.length : Int) (j : Int) = some (ids.map conv) := by
  induction d with
  | zero =>
    intro k j hj hk
    obtain ⟨k, rfl⟩ : ∃ m, k = m + 1 := ⟨k - 1, by omega⟩
    simp only [impl_nodesOf.l0]
    rw [if_neg (by omega), List.take_of_length_le (by omega)]
  | succ d ih =>
    intro k j hj hk
    obtain ⟨k, rfl⟩ : ∃ m, k = m + 1 := ⟨k - 1, by omega⟩
    have hjl : j < ids.length := by omega
    have hw : wrap64 ((j : Int) + 1) = ((j + 1 : Nat) : Int) := by unfold wrap64; omega
    have hrd : rd_T69 ids (j : Int) = ids[j] := by simp [rd_T69, List.getD_eq_getElem?_getD, hjl]
    simp only [impl_nodesOf.l0]
    rw [if_pos (by omega), if_pos (by omega), if_pos (by omega)]
    have hst : (ids.take j).map conv ++ [(⟨(rd_T69 ids (j : Int)).f0, (rd_T69 ids (j : Int)).f1⟩ : S34)] = (ids.take (j + 1)).map conv := by
      rw [hrd, List.take_succ_eq_append_getElem hjl, List.map_append]; rfl
    rw [if_pos (by simp; omega), hw, hst]
    exact ih k (j + 1) (by omega) (by omega)
theorem nodesOf_some (ids : List S69) (hs : ids.length ≤ 1000) : impl_nodesOf.f (ids.length + 1) ids = some (ids.map conv) := by
  have := nodesOf_from ids hs ids.length (ids.length + 1) 0 (by omega) (by omega)
  simpa [impl_nodesOf.f] using this
theorem planOf_some (n : NodesV) (hs : n.ids.length ≤ 1000) : impl_planOf.f (n.ids.length + 1) n.ids n.bg n.en n.e0 n.e1 = some (n.ids.map conv, n.e0, n.e1, n.bg, n.en) := by
  simp only [impl_planOf.f, proof_Nodes_Ephem.f, Option.bind_some, nodesOf_some n.ids hs]
/-- The value of an impl.Plan. -/
def PlanVal (w : World) (v : Value) (n : NodesV) : Prop :=
  ∃ A c, v = .agg #[.slice A (n.ids.map conv).length c, .int .u64 n.e0, .int .u64 n.e1, .int .i64 n.bg, .int .i64 n.en] ∧ (n.ids.map conv).length ≤ c ∧ k34.C w A (n.ids.map conv).length (n.ids.map conv)
/-- What impl.Inclusion and impl.Consistency hand back. -/
def PlanOut (n : NodesV) (w : World) (e : Ending) (w' : World) : Prop := ∃ v, e = .returned (.tuple #[v, .bool true]) ∧ PlanVal w' v n ∧ Below w.heap.size w w'
theorem r_set5 {w : World} {base g : Nat} {v : Value} {l : List S34} (h : Kd.R k34 34 w base (fun k => g < k) v l) (a b c d e : Value) :
    Kd.R k34 34 (((((w.setCell ⟨g, 0, none⟩ a).setCell ⟨g, 1, none⟩ b).setCell ⟨g, 2, none⟩ c).setCell ⟨g, 3, none⟩ d).setCell ⟨g, 4, none⟩ e) base (fun k => g < k) v l :=
  Kd.R_far (Kd.R_far (Kd.R_far (Kd.R_far (Kd.R_far h (fun _ hk => Nat.ne_of_gt hk) _) (fun _ hk => Nat.ne_of_gt hk) _) (fun _ hk => Nat.ne_of_gt hk) _) (fun _ hk => Nat.ne_of_gt hk) _) (fun _ hk => Nat.ne_of_gt hk) _
set_option maxRecDepth 100000 in
set_option maxHeartbeats 4000000 in
theorem implIncl_any (x sz : Nat) (n : NodesV) (hs : n.ids.length ≤ 1000) (w : World) (hC : ∀ W, Below w.heap.size w W → Calls Tryf.prog 30 #[.int .u64 x, .int .u64 sz] W (NodesOut n W)) :
    Calls Tryf.prog 8 #[.int .u64 x, .int .u64 sz] w (PlanOut n w) := by
  have hu71 := Tryf.underlying71
  have hu36 := Tryf.underlying36
  have hu65 := Tryf.underlying65
  have HC := Aside0.mk hC
  have HPL := Aside0.mk (planOf_some n hs)
  clear hC hs
  obtain ⟨ids, nb, ne, n0, n1⟩ := n
  obtain ⟨ps, hps⟩ : ∃ ps, ps = ids.map conv := ⟨_, rfl⟩
  have HPS := Aside0.mk hps
  simp only [← hps] at HPL
  clear hps
  go_enter Tryf.func8, Tryf.ntmps8
  go_wp2_with (first
    | (go_at_call 30; ((refine (HC.out _ (below_alloc (Below.refl _ _) _)).mono ?_); rintro e w1 ⟨v1, rfl, ⟨A1, c1, rfl, hl1, hC1⟩, hB1⟩
                       have HC1 := Aside0.mk hC1
                       have HL1 := Aside0.mk hl1
                       have HG1 := Aside0.mk (blk_below (heap_alloc_new w _) hB1)
                       have HB1 := Aside0.mk (below_next (below_alloc (Below.refl w.heap.size w) _) hB1); clear hB1 hC1 hl1))
    | (go_at_call 31; ((refine (impl_planOf.calls _ _ _ _ _ _ _ _ _ _ _ _ _ _ (Kd.C_alloc HC1.out _) HL1.out HPL.out).mono ?_); rintro e w2 ⟨v2, rfl, hR2, hB2⟩
                       obtain ⟨A2, c2, rfl⟩ := Kd.R_slice hR2
                       have HV2 := Aside0.mk (Kd.R_mono (Kd.R_lower (Kd.R_bound hR2) (base' := w.heap.size) (below_alloc HB1.out _).size) (ok' := fun k => w.heap.size < k) (fun k hk => by have := hk.2.1; have := blk_lt HG1.out; simp at *; omega))
                       have HG2 := Aside0.mk (blk_below (blk_alloc HG1.out _) hB2)
                       have HB2 := Aside0.mk (below_next (below_alloc HB1.out _) hB2)
                       have z0 := blk_cell HG2.out 0
                       have z1 := blk_cell HG2.out 1
                       have z2 := blk_cell HG2.out 2
                       have z3 := blk_cell HG2.out 3
                       have z4 := blk_cell HG2.out 4
                       have y0 := blk_frozen HG2.out 0
                       have y1 := blk_frozen HG2.out 1
                       have y2 := blk_frozen HG2.out 2
                       have y3 := blk_frozen HG2.out 3
                       have y4 := blk_frozen HG2.out 4
                       simp only [Array.getElem?_eq_getElem, List.size_toArray, List.length_cons, List.length_nil, Nat.reduceAdd, Nat.reduceLT, List.getElem_toArray, List.getElem_cons_zero, List.getElem_cons_succ] at z0 z1 z2 z3 z4
                       clear hR2 hB2)))
  have hblk := blk_set5 HG2.out (.slice A2 ps.length c2) (.int .u64 n0) (.int .u64 n1) (.int .i64 nb) (.int .i64 ne)
  refine bodyPost_ret (results_ct rfl _ _ w.heap.size 36 _ (0, 0) _ rfl hblk Tryf.underlying36 rfl (by kernel_rfl)) rfl ?_
  have hq := Kd.R_reads' (r_set5 HV2.out (.slice A2 ps.length c2) (.int .u64 n0) (.int .u64 n1) (.int .i64 nb) (.int .i64 ne))
  exact ⟨_, rfl, ⟨A2, c2, by rw [← HPS.out], by rw [← HPS.out]; exact hq.2.1, by rw [← HPS.out]; exact hq.2.2⟩, below_set5 HB2.out (Nat.le_refl _) _ _ _ _ _⟩
set_option maxRecDepth 100000 in
set_option maxHeartbeats 4000000 in
theorem implCons_any (x sz : Nat) (n : NodesV) (hs : n.ids.length ≤ 1000) (w : World) (hC : ∀ W, Below w.heap.size w W → Calls Tryf.prog 37 #[.int .u64 x, .int .u64 sz] W (NodesOut n W)) :
    Calls Tryf.prog 20 #[.int .u64 x, .int .u64 sz] w (PlanOut n w) := by
  have hu71 := Tryf.underlying71
  have hu36 := Tryf.underlying36
  have hu65 := Tryf.underlying65
  have HC := Aside0.mk hC
  have HPL := Aside0.mk (planOf_some n hs)
  clear hC hs
  obtain ⟨ids, nb, ne, n0, n1⟩ := n
  obtain ⟨ps, hps⟩ : ∃ ps, ps = ids.map conv := ⟨_, rfl⟩
  have HPS := Aside0.mk hps
  simp only [← hps] at HPL
  clear hps
  go_enter Tryf.func20, Tryf.ntmps20
  go_wp2_with (first
    | (go_at_call 37; ((refine (HC.out _ (below_alloc (Below.refl _ _) _)).mono ?_); rintro e w1 ⟨v1, rfl, ⟨A1, c1, rfl, hl1, hC1⟩, hB1⟩
                       have HC1 := Aside0.mk hC1
                       have HL1 := Aside0.mk hl1
                       have HG1 := Aside0.mk (blk_below (heap_alloc_new w _) hB1)
                       have HB1 := Aside0.mk (below_next (below_alloc (Below.refl w.heap.size w) _) hB1); clear hB1 hC1 hl1))
    | (go_at_call 31; ((refine (impl_planOf.calls _ _ _ _ _ _ _ _ _ _ _ _ _ _ (Kd.C_alloc HC1.out _) HL1.out HPL.out).mono ?_); rintro e w2 ⟨v2, rfl, hR2, hB2⟩
                       obtain ⟨A2, c2, rfl⟩ := Kd.R_slice hR2
                       have HV2 := Aside0.mk (Kd.R_mono (Kd.R_lower (Kd.R_bound hR2) (base' := w.heap.size) (below_alloc HB1.out _).size) (ok' := fun k => w.heap.size < k) (fun k hk => by have := hk.2.1; have := blk_lt HG1.out; simp at *; omega))
                       have HG2 := Aside0.mk (blk_below (blk_alloc HG1.out _) hB2)
                       have HB2 := Aside0.mk (below_next (below_alloc HB1.out _) hB2)
                       have z0 := blk_cell HG2.out 0
                       have z1 := blk_cell HG2.out 1
                       have z2 := blk_cell HG2.out 2
                       have z3 := blk_cell HG2.out 3
                       have z4 := blk_cell HG2.out 4
                       have y0 := blk_frozen HG2.out 0
                       have y1 := blk_frozen HG2.out 1
                       have y2 := blk_frozen HG2.out 2
                       have y3 := blk_frozen HG2.out 3
                       have y4 := blk_frozen HG2.out 4
                       simp only [Array.getElem?_eq_getElem, List.size_toArray, List.length_cons, List.length_nil, Nat.reduceAdd, Nat.reduceLT, List.getElem_toArray, List.getElem_cons_zero, List.getElem_cons_succ] at z0 z1 z2 z3 z4
                       clear hR2 hB2)))
  have hblk := blk_set5 HG2.out (.slice A2 ps.length c2) (.int .u64 n0) (.int .u64 n1) (.int .i64 nb) (.int .i64 ne)
  refine bodyPost_ret (results_ct rfl _ _ w.heap.size 36 _ (0, 0) _ rfl hblk Tryf.underlying36 rfl (by kernel_rfl)) rfl ?_
  have hq := Kd.R_reads' (r_set5 HV2.out (.slice A2 ps.length c2) (.int .u64 n0) (.int .u64 n1) (.int .i64 nb) (.int .i64 ne))
  exact ⟨_, rfl, ⟨A2, c2, by rw [← HPS.out], by rw [← HPS.out]; exact hq.2.1, by rw [← HPS.out]; exact hq.2.2⟩, below_set5 HB2.out (Nat.le_refl _) _ _ _ _ _⟩
end Go.Proofs.YtdjfagknffknjaaFmt.H
end

section
namespace Go.Proofs.YtdjfagknffknjaaFmt.H
open Go.RowKit Go.Extern.Stop Go.Stop Go.Extern Go.Proofs.YtdjfagknffknjaaFmtW.PrintWords Go.Proofs.YtdjfagknffknjaaFmtW.PrintLast Go.Proofs.YtdjfagknffknjaaFmtW.PrintMore Go.Proofs.YtdjfagknffknjaaFmt.Q
/-- The world has turned at most at block g, and grown. -/
def Turned (g : Nat) (W W' : World) : Prop := W.heap.size ≤ W'.heap.size ∧ ∀ k, k ≠ g → k < W.heap.size → W'.heap[k]? = W.heap[k]?
theorem Turned.refl (g : Nat) (W : World) : Turned g W W := ⟨Nat.le_refl _, fun _ _ _ => rfl⟩
theorem Turned.trans {g : Nat} {a b c : World} (h : Turned g a b) (k : Turned g b c) : Turned g a c :=
  ⟨Nat.le_trans h.1 k.1, fun i hg hi => (k.2 i hg (Nat.lt_of_lt_of_le hi h.1)).trans (h.2 i hg hi)⟩
theorem Turned.below {g : Nat} {W W' : World} (h : Below W.heap.size W W') : Turned g W W' := ⟨h.size, fun k _ hk => h.block k hk⟩
theorem Turned.set (g j : Nat) (W : World) (v : Value) : Turned g W (W.setCell ⟨g, j, none⟩ v) := ⟨by simp [World.setCell], fun k hg _ => Below.heap_setCell _ _ _ _ hg⟩
/-- A hash that reads whatever becomes of block g. -/
def Far (g : Nat) (W : World) (v : Value) (x : List Int) : Prop := ∀ W' : World, Turned g W W' → Rd KB W' v x
theorem Far.next {g : Nat} {W W' : World} {v : Value} {x : List Int} (h : Far g W v x) (k : Turned g W W') : Far g W' v x := fun W2 h2 => h W2 (k.trans h2)
theorem Far.rd {g : Nat} {W : World} {v : Value} {x : List Int} (h : Far g W v x) : Rd KB W v x := h W (Turned.refl g W)
theorem Far.ofR {g b : Nat} {ok : Nat → Prop} {W : World} {v : Value} {x : List Int} (h : KB.R 5 W b ok v x) (hg : ∀ k, ok k → b ≤ k → k ≠ g) : Far g W v x := fun _ h' =>
  Rd.ofR (Kd.R_move (Kd.R_bound h) (fun k hk => h'.2 k (hg k hk.1 hk.2.1) hk.2.2.1))
/-- A row of hashes at block g. -/
def Rows (g : Nat) (W : World) (qs : List (List Int)) : Prop :=
  ∃ cur : Array Value, W.heap[g]? = some (.cells cur 26 (0, 0)) ∧ qs.length ≤ cur.size ∧ ∀ (j : Nat) (x : List Int), qs[j]? = some x → ∃ A c, cur[j]? = some (Value.slice A x.length c) ∧ Far g W (Value.slice A x.length c) x
theorem Rows.below {g : Nat} {W W' : World} {qs : List (List Int)} (h : Rows g W qs) (hb : Below W.heap.size W W') : Rows g W' qs := by
  obtain ⟨cur, h1, h2, h3⟩ := h
  refine ⟨cur, blk_below h1 hb, h2, fun j x hj => ?_⟩
  obtain ⟨A, c, h4, h5⟩ := h3 j x hj
  exact ⟨A, c, h4, h5.next (Turned.below hb)⟩
theorem Rows.at_ {g : Nat} {W : World} {qs : List (List Int)} (h : Rows g W qs) (j : Nat) (hj : j < qs.length) :
    ∃ A c x, W.cell? ⟨g, j, none⟩ = some (.slice A x.length c) ∧ W.frozen? ⟨g, j, none⟩ = false ∧ Aside0 (Far g W (.slice A x.length c) x) ∧ Aside0 (qs[j]? = some x) := by
  obtain ⟨cur, h1, h2, h3⟩ := h
  obtain ⟨A, c, h4, h5⟩ := h3 j qs[j] (List.getElem?_eq_getElem hj)
  exact ⟨A, c, qs[j], (blk_cell h1 j).trans h4, blk_frozen h1 j, ⟨h5⟩, ⟨List.getElem?_eq_getElem hj⟩⟩
theorem Rows.put {g : Nat} {W : World} {qs : List (List Int)} (h : Rows g W qs) (j : Nat) {A : Option Addr} {c : Nat} {x : List Int} (hx : Far g W (.slice A x.length c) x) :
    Rows g (W.setCell ⟨g, j, none⟩ (.slice A x.length c)) (qs.set j x) := by
  obtain ⟨cur, h1, h2, h3⟩ := h
  refine ⟨_, blk_set h1 j _, by simp; omega, fun i y hi => ?_⟩
  have ht := Turned.set g j W (.slice A x.length c)
  rw [List.getElem?_set] at hi
  by_cases he : j = i
  · subst he
    rw [if_pos rfl] at hi
    by_cases hl : j < qs.length
    · rw [if_pos hl] at hi
      obtain rfl := Option.some.inj hi
      exact ⟨A, c, by rw [Array.getElem?_setIfInBounds, if_pos rfl, if_pos (by omega)], hx.next ht⟩
    · rw [if_neg hl] at hi; cases hi
  · rw [if_neg he] at hi
    obtain ⟨A', c', h4, h5⟩ := h3 i y hi
    exact ⟨A', c', by rw [Array.getElem?_setIfInBounds, if_neg he]; exact h4, h5.next ht⟩
theorem Rows.reads {g : Nat} {W : World} {qs : List (List Int)} (h : Rows g W qs) (m c : Nat) (hm : m ≤ qs.length) (hc : m ≤ c) (hx : m ≤ 9223372036854775807) : Rd KBB W (.slice (some ⟨g, 0, none⟩) m c) (qs.take m) := by
  obtain ⟨cur, h1, h2, h3⟩ := h
  have hl : (qs.take m).length = m := by simp; omega
  refine ⟨some ⟨g, 0, none⟩, c, by rw [hl], by rw [hl]; exact hc, rfl, by rw [hl]; exact hx, fun _ => ⟨_, rfl, fun j p hj => ?_⟩⟩
  have hjm : j < m := by have := (List.getElem?_eq_some_iff.1 hj).1; omega
  rw [List.getElem?_take, if_pos hjm] at hj
  obtain ⟨A, c', h4, h5⟩ := h3 j p hj
  obtain ⟨A2, c2, e2, hle, hC⟩ := h5.rd
  injection e2 with e3 e4 e5
  subst e3 e5
  refine ⟨[.slice A p.length c'], rfl, ⟨A, c', rfl, hle, hC⟩, fun i u hi => ?_⟩
  match i, hi with
  | 0, hi =>
    have : u = .slice A p.length c' := by simpa using hi.symm
    subst this
    have he : (⟨g, 0, none⟩ : Addr).add (j * KBB.sz + 0) = ⟨g, j, none⟩ := by rw [add_plain, show KBB.sz = 1 from rfl, Nat.mul_one, Nat.add_zero]
    rw [he]
    exact (blk_cell h1 j).trans h4
  | n + 1, hi => simp at hi
/-- What impl.copied hands back is such a row. -/
theorem Rows.ofS {W : World} {base : Nat} {ok : Nat → Prop} {v : Value} {ps : List (List Int)} (h : Kd.S KBB 26 W base ok v ps) (hp : 0 < ps.length) :
    ∃ g c, v = .slice (some ⟨g, 0, none⟩) ps.length c ∧ base ≤ g ∧ g < W.heap.size ∧ ps.length ≤ c ∧ Rows g W ps := by
  obtain ⟨hok, inner, hown, hr⟩ := Kd.S_R h
  rcases hown.2 with ⟨_, h0⟩ | ⟨g, cap, cur, rfl, hb, hh, hnc, hcm, hcs, htake⟩
  · omega
  have hsz : KBB.sz = 1 := rfl
  rw [hsz, Nat.mul_one] at htake hcs
  refine ⟨g, cap, rfl, hb, blk_lt hh, hnc, cur, hh, by omega, fun j x hj => ?_⟩
  have hjl : j < ps.length := (List.getElem?_eq_some_iff.1 hj).1
  obtain ⟨u, hu, hR⟩ := hr.2 j x hj
  obtain ⟨A, c, rfl, hle, hC⟩ := Kd.R_reads hR
  refine ⟨A, c, ?_, Far.ofR hR (fun k hk _ => fun e => hk.2 (by rw [e]; simp [Value.ownBlock]))⟩
  have h1 : inner[j]? = some (.slice A x.length c) := by
    have := congrArg (fun l => l[0]?) hu
    rw [hsz, Nat.mul_one] at this
    simpa using this
  rw [← htake, List.getElem?_take, if_pos hjl] at h1
  simpa using h1
/-- The block's hash: from its first one on, each next one to the left. -/
def foldN (A B C : Int) (ps : List (List Int)) (bg : Nat) : Nat → List Int
  | 0 => ps.getD bg []
  | t + 1 => hc A B C (ps.getD (bg + 1 + t) []) (foldN A B C ps bg t)
/-- What stands in front after i hashes. -/
def resAt (F : List Int) (ps : List (List Int)) (bg en i : Nat) : List (List Int) :=
  if bg < en ∧ en ≤ i then ps.take bg ++ [F] ++ (ps.drop en).take (i - en) else ps.take i
structure RInv (F : List Int) (ps : List (List Int)) (bg en i cu : Nat) (qs : List (List Int)) : Prop where
  ile : i ≤ ps.length
  cle : cu ≤ i
  len : qs.length = ps.length
  rest : qs.drop i = ps.drop i
  front : qs.take cu = resAt F ps bg en i
  out : bg < en → i ≤ bg ∨ en ≤ i
  ene : en ≤ ps.length
theorem RInv.start (F : List Int) (ps : List (List Int)) (bg en : Nat) (h : en ≤ ps.length) : RInv F ps bg en 0 0 ps :=
  ⟨Nat.zero_le _, Nat.le_refl _, rfl, rfl, by unfold resAt; rw [if_neg (by omega)], fun _ => .inl (Nat.zero_le _), h⟩
theorem take_set_succ {α : Type} (l : List α) (k : Nat) (x : α) (h : k < l.length) : (l.set k x).take (k + 1) = l.take k ++ [x] := by
  rw [List.take_succ_eq_append_getElem (by simpa using h), List.take_set_of_le (Nat.le_refl k)]; simp
theorem drop_set_lt {α : Type} (l : List α) (k i : Nat) (x : α) (h : k < i) : (l.set k x).drop i = l.drop i := List.drop_set_of_lt h
theorem RInv.at_ {F : List Int} {ps qs : List (List Int)} {bg en i cu : Nat} (h : RInv F ps bg en i cu qs) (j : Nat) (hj : i ≤ j) : qs[j]? = ps[j]? := by
  have := congrArg (fun l => l[j - i]?) h.rest
  simp only [List.getElem?_drop] at this
  rwa [show i + (j - i) = j by omega] at this
/-- A hash outside the block. -/
theorem RInv.plain {F : List Int} {ps qs : List (List Int)} {bg en i cu : Nat} {x : List Int} (h : RInv F ps bg en i cu qs) (hi : i < ps.length) (hx : qs[i]? = some x) (ho : ¬ (bg ≤ i ∧ i < en)) :
    RInv F ps bg en (i + 1) (cu + 1) (qs.set cu x) := by
  have hl := h.len
  have hc := h.cle
  refine ⟨hi, by omega, by simp [hl], ?_, ?_, fun hb => by have := h.out hb; omega, h.ene⟩
  · rw [drop_set_lt _ _ _ _ (by omega)]
    have := congrArg (List.drop 1) h.rest
    simpa [List.drop_drop] using this
  · have hpx : ps[i]? = some x := by rw [← h.at_ i (Nat.le_refl _)]; exact hx
    rw [take_set_succ _ _ _ (by omega), h.front]
    unfold resAt
    by_cases hb : bg < en ∧ en ≤ i
    · rw [if_pos hb, if_pos ⟨hb.1, by omega⟩, List.append_assoc, List.append_assoc, List.append_assoc]
      congr 2
      obtain ⟨hk, hpx'⟩ := List.getElem?_eq_some_iff.1 hpx
      rw [show i + 1 - en = (i - en) + 1 by omega, List.take_succ_eq_append_getElem (by simp; omega)]
      congr 1
      rw [List.getElem_drop]
      simp only [show en + (i - en) = i by omega, hpx']
    · rw [if_neg hb, if_neg (by omega)]
      obtain ⟨hk, hpx'⟩ := List.getElem?_eq_some_iff.1 hpx
      rw [List.take_succ_eq_append_getElem hk, hpx']
/-- The block. -/
theorem RInv.block {F : List Int} {ps qs : List (List Int)} {bg en cu : Nat} (h : RInv F ps bg en bg cu qs) (hb : bg < en) (hc : cu = bg) : RInv F ps bg en en (cu + 1) (qs.set cu F) := by
  have hl := h.len
  have he := h.ene
  refine ⟨he, by omega, by simp [hl], ?_, ?_, fun _ => .inr (Nat.le_refl _), he⟩
  · rw [drop_set_lt _ _ _ _ (by omega)]
    have := congrArg (List.drop (en - bg)) h.rest
    simp only [List.drop_drop] at this
    rwa [show bg + (en - bg) = en by omega] at this
  · rw [take_set_succ _ _ _ (by omega), h.front]
    unfold resAt
    rw [if_neg (by omega), if_pos ⟨hb, Nat.le_refl _⟩]
    simp
theorem RInv.cu_bg {F : List Int} {ps qs : List (List Int)} {bg en cu : Nat} (h : RInv F ps bg en bg cu qs) (hb : bg < en) : cu = bg := by
  have := congrArg List.length h.front
  unfold resAt at this
  rw [if_neg (by omega)] at this
  have hl := h.len
  have hc := h.cle
  have he := h.ene
  simp at this
  omega
end Go.Proofs.YtdjfagknffknjaaFmt.H
end

section
namespace Go.Proofs.YtdjfagknffknjaaFmt.H
open Go.RowKit Go.Extern.Stop Go.Stop Go.Extern Go.Proofs.YtdjfagknffknjaaFmtW.PrintWords Go.Proofs.YtdjfagknffknjaaFmtW.PrintLast Go.Proofs.YtdjfagknffknjaaFmtW.PrintMore Go.Proofs.YtdjfagknffknjaaFmt.Q
/-- The hash function as a function value. -/
abbrev fnv (A B C : Int) : Value := .func (.func 36) #[.agg #[.int .u32 A, .int .u32 B, .int .u32 C]] #[]
/-- hc's contract, with a result that stands apart from an elder block. -/
theorem hc_far (A B C : Int) (vl vr : Value) (l r : List Int) (g : Nat) (w : World) (hg : g < w.heap.size) (hl : Rd KB w vl l) (hr : Rd KB w vr r) :
    Calls Tryf.prog 36 #[.agg #[.int .u32 A, .int .u32 B, .int .u32 C], vl, vr] w fun e w' => ∃ a c, e = .returned (.slice a (hc A B C l r).length c) ∧ Far g w' (.slice a (hc A B C l r).length c) (hc A B C l r) ∧ Below w.heap.size w w' := by
  obtain ⟨A1, c1, rfl, hl1, hC1⟩ := hl
  obtain ⟨A2, c2, rfl, hl2, hC2⟩ := hr
  refine (impl_Hash_HashChildren.calls 4 A B C A1 c1 l A2 c2 r _ w hC1 hl1 hC2 hl2 (hc_some A B C l r)).mono ?_
  rintro e w' ⟨v, rfl, hR, hB⟩
  obtain ⟨a, c, rfl⟩ := Kd.R_slice hR
  exact ⟨a, c, rfl, Far.ofR hR (fun k _ hk => by omega), hB⟩
set_option maxRecDepth 100000 in
set_option maxHeartbeats 4000000 in
theorem rehash_any (A B C : Int) (nv : Value) (ids : List S69) (bg en : Nat) (e0 e1 : Int) (g c : Nat) (ps : List (List Int)) (w : World) (hn : NodesVal w nv ⟨ids, bg, en, e0, e1⟩) (hids : ids.length = ps.length) (hen : en ≤ ps.length) (hbe : bg ≤ en)
    (hR : Rows g w ps) (hg : g < w.heap.size) (hs : ps.length ≤ 1000) (hcap : ps.length ≤ c) :
    Calls Tryf.prog 35 #[nv, .slice (some ⟨g, 0, none⟩) ps.length c, fnv A B C] w fun e w' => ∃ v, e = .returned (.tuple #[v, .nilIface]) ∧ Rd KBB w' v (resAt (foldN A B C ps bg (en - bg - 1)) ps bg en ps.length) ∧ w.grownBy w' (some g) := by
  have hu71 := Tryf.underlying71
  obtain ⟨NA, nc, rfl, hnl, hnC⟩ := hn
  obtain ⟨n, hN⟩ : ∃ n, n = ps.length := ⟨_, rfl⟩
  obtain ⟨F, hF⟩ : ∃ F, F = foldN A B C ps bg (en - bg - 1) := ⟨_, rfl⟩
  rw [← hN, ← hF]
  have t1 : ((n : Int) != (ids.length : Int)) = false := bne_eq_false_iff_eq.2 (by omega)
  have hn1000 : n ≤ 1000 := by omega
  have hbg1000 : bg ≤ 1000 := by omega
  have hen1000 : en ≤ 1000 := by omega
  have HN := Aside0.mk hN
  have HF := Aside0.mk hF
  have HEN := Aside0.mk (show en ≤ n by omega)
  have HBE := Aside0.mk hbe
  have HR := Aside0.mk (hR.below (below_alloc (Below.refl _ _) (.cells #[.slice NA ids.length nc, .int .i64 bg, .int .i64 en, .int .u64 e0, .int .u64 e1] 71)))
  have HG := Aside0.mk hg
  have HBX := Aside0.mk (heap_alloc_new w (.cells #[.slice NA ids.length nc, .int .i64 bg, .int .i64 en, .int .u64 e0, .int .u64 e1] 71))
  have HGB := Aside0.mk (World.grownBy_alloc w (.cells #[.slice NA ids.length nc, .int .i64 bg, .int .i64 en, .int .u64 e0, .int .u64 e1] 71) (some g))
  have HCAP := Aside0.mk (show n ≤ c by omega)
  have HST := Aside0.mk (show RInv F ps bg en 0 0 ps from RInv.start F ps bg en hen)
  clear hids hen hbe hR hg hs hcap hnl hnC hN hF
  go_enter Tryf.func35, Tryf.ntmps35
  go_wp2
  go_quiet (fail)
  go_wp2
  go_loopg [10, 11] n (fun kq v10 v11 W => ∃ (cu i : Nat) (qs : List (List Int)), v10 = .int .i64 cu ∧ v11 = .int .i64 i ∧ Aside0 (kq + i = n) ∧ Aside0 (RInv F ps bg en i cu qs) ∧ Aside0 (Rows g W qs) ∧
    Aside0 (W.heap[w.heap.size]? = some (.cells #[.slice NA ids.length nc, .int .i64 bg, .int .i64 en, .int .u64 e0, .int .u64 e1] 71 (0, 0))) ∧ Aside0 (w.grownBy W (some g)))
  case atStart => exact ⟨0, 0, ps, rfl, rfl, ⟨rfl⟩, HST, ⟨HR.out.below (pw_below_drewN (Below.refl _ _) _)⟩, ⟨blk_drewN HBX.out _⟩, ⟨HGB.out.os, HGB.out.tape, HGB.out.output, HGB.out.size, HGB.out.block⟩⟩
  case round =>
    obtain ⟨cu, i, qs, rfl, rfl, HK, HI, HR, HBX, HGB⟩ := hrel
    have bx1 := blk_cell HBX.out 1
    have bx2 := blk_cell HBX.out 2
    simp only [Array.getElem?_eq_getElem, List.size_toArray, List.length_cons, List.length_nil, Nat.reduceAdd, Nat.reduceLT, List.getElem_toArray, List.getElem_cons_zero, List.getElem_cons_succ] at bx1 bx2
    by_cases hlt : i < n
    · obtain ⟨A1, c1, x1, ce1, fz1, HX1, HQ1⟩ := HR.out.at_ i (by rw [HI.out.len, ← HN.out]; exact hlt)
      obtain ⟨A2, c2, x2, ce2, fz2, HX2, HQ2⟩ := HR.out.at_ cu (by have := HI.out.cle; rw [HI.out.len, ← HN.out]; omega)
      have hcun : cu < n := by have := HI.out.cle; omega
      by_cases hin : bg ≤ i ∧ i < en
      · obtain rfl : i = bg := by have := HI.out.out (by omega); omega
        have hlo : decide (i < en) = true := by simp; omega
        have HX0 := Aside0.mk (show x1 = foldN A B C ps i 0 by
          have h1 := HI.out.at_ i (Nat.le_refl _)
          rw [HQ1.out] at h1
          simp [foldN, List.getD_eq_getElem?_getD, ← h1])
        have HLT := Aside0.mk hin.2
        obtain ⟨wo, rfl⟩ : ∃ wo : World, wo = wr := ⟨_, rfl⟩
        clear hin ce2 fz2 bx1 bx2
        have bx1 := blk_cell HBX.out 1
        have bx2 := blk_cell HBX.out 2
        simp only [Array.getElem?_eq_getElem, List.size_toArray, List.length_cons, List.length_nil, Nat.reduceAdd, Nat.reduceLT, List.getElem_toArray, List.getElem_cons_zero, List.getElem_cons_succ] at bx1 bx2
        go_wp2
        go_loopg [11, 13] (en - i - 1) (fun kq v11 v13 W => ∃ (t j : Nat) (a : Option Addr) (cy : Nat) (y : List Int), v11 = .int .i64 j ∧ v13 = .slice a y.length cy ∧ Aside0 (j = i + 1 + t ∧ j ≤ en ∧ kq + j = en) ∧ Aside0 (y = foldN A B C ps i t) ∧
          Aside0 (Far g W (.slice a y.length cy) y) ∧ Aside0 (Rows g W qs) ∧
          Aside0 (W.heap[w.heap.size]? = some (.cells #[.slice NA ids.length nc, .int .i64 i, .int .i64 en, .int .u64 e0, .int .u64 e1] 71 (0, 0))) ∧ Aside0 (w.grownBy W (some g)))
        case atStart => exact ⟨0, i + 1, _, _, x1, by go_num, rfl, ⟨rfl, by have := HLT.out; omega, by have := HLT.out; omega⟩, HX0, HX1, HR, HBX, HGB⟩
        case round =>
          obtain ⟨t, j, a, cy, y, rfl, rfl, HJ, HY, HFY, HR3, HBX3, HGB3⟩ := hrel
          have bz2 := blk_cell HBX3.out 2
          simp only [Array.getElem?_eq_getElem, List.size_toArray, List.length_cons, List.length_nil, Nat.reduceAdd, Nat.reduceLT, List.getElem_toArray, List.getElem_cons_zero, List.getElem_cons_succ] at bz2
          by_cases hj : j < en
          · have hjn : j < n := by have := HEN.out; omega
            obtain ⟨A3, c3, x3, ce3, fz3, HX3, HQ3⟩ := HR3.out.at_ j (by rw [HI.out.len, ← HN.out]; exact hjn)
            have HST := Aside0.mk (show hc A B C x3 y = foldN A B C ps i (t + 1) by
              have h1 := HI.out.at_ j (by have := HJ.out; omega)
              rw [HQ3.out] at h1
              have hj1 : j = i + 1 + t := HJ.out.1
              simp [foldN, HY.out, List.getD_eq_getElem?_getD, ← hj1, ← h1])
            have HGS := Aside0.mk (Nat.lt_of_lt_of_le HG.out HGB3.out.size)
            go_wp2_with (go_at_call 36; ((with_reducible refine (hc_far A B C _ _ _ _ g _ HGS.out HX3.out.rd HFY.out.rd).mono ?_); rintro e w4 ⟨a4, c4, rfl, hF4, hB4⟩; have HF4 := Aside0.mk hF4; have HR4 := Aside0.mk (HR3.out.below hB4); have HBX4 := Aside0.mk (blk_below HBX3.out hB4); have HGB4 := Aside0.mk (grownBy_trans HGB3.out (grown_of_below hB4 (some g))); clear hF4 hB4))
            go_roundg (en - (j + 1))
            case measure => have := HJ.out; omega
            case rel => exact ⟨t + 1, j + 1, a4, c4, _, by go_num, rfl, ⟨by have := HJ.out; omega, by omega, by have := HJ.out; omega⟩, HST, HF4, HR4, HBX4, HGB4⟩
          · obtain rfl : j = en := by have := HJ.out; omega
            have hj0 : 1 ≤ j := by have := HJ.out; omega
            have hyF : y = F := by rw [HY.out, HF.out, show t = j - i - 1 by have := HJ.out; omega]
            obtain ⟨A2, c2, x2, ce2, fz2, HX2, HQ2⟩ := HR3.out.at_ cu (by rw [HI.out.len, ← HN.out]; exact hcun)
            have HNX := Aside0.mk (show RInv F ps i j j (cu + 1) (qs.set cu y) by rw [hyF]; exact HI.out.block HLT.out (HI.out.cu_bg HLT.out))
            have HRX := Aside0.mk (HR3.out.put cu HFY.out)
            have HBY := Aside0.mk (blk_far HBX3.out (p := ⟨g, cu, none⟩) (Nat.ne_of_gt HG.out) (.slice a y.length cy))
            have HGY := Aside0.mk (grownBy_trans HGB3.out (grownBy_setCell wr g cu (.slice a y.length cy)))
            obtain ⟨j1, hj1⟩ : ∃ j1 : Nat, (j : Int) - 1 = (j1 : Int) := ⟨j - 1, by omega⟩
            have HJ1 := Aside0.mk hj1
            clear hj hyF hlt hlo hj0
            go_wp2
            go_roundg (n - j)
            case measure => have := HK.out; have := HLT.out; have := HEN.out; omega
            case rel => exact ⟨cu + 1, j, _, by go_num, (by first | rfl | (have := HJ1.out; congr 1; omega)), ⟨by have := HEN.out; omega⟩, HNX, HRX, HBY, HGY⟩
      · have HNX := Aside0.mk (HI.out.plain (by rw [← HN.out]; exact hlt) HQ1.out hin)
        have HRX := Aside0.mk (HR.out.put cu HX1.out)
        have HBY := Aside0.mk (blk_far HBX.out (p := ⟨g, cu, none⟩) (Nat.ne_of_gt HG.out) (.slice A1 x1.length c1))
        have HGY := Aside0.mk (grownBy_trans HGB.out (grownBy_setCell wr g cu (.slice A1 x1.length c1)))
        by_cases hlo : bg ≤ i
        · have hhi : decide (i < en) = false := by simp; omega
          clear hin
          go_wp2
          go_roundg (n - (i + 1))
          case measure => have := HK.out; omega
          case rel => exact ⟨cu + 1, i + 1, _, by go_num, by go_num, ⟨by omega⟩, HNX, HRX, HBY, HGY⟩
        · have hlo2 : decide (bg ≤ i) = false := by simp; omega
          clear hin hlo
          go_wp2
          go_roundg (n - (i + 1))
          case measure => have := HK.out; omega
          case rel => exact ⟨cu + 1, i + 1, _, by go_num, by go_num, ⟨by omega⟩, HNX, HRX, HBY, HGY⟩
    · obtain rfl : i = n := by have := HI.out.ile; rw [← HN.out] at this; omega
      obtain ⟨i0, hi, hz0, hz1, hz2⟩ := info_parts info26r
      have hcui : cu ≤ i := HI.out.cle
      have hcut := cut_to (P := Tryf.prog) 44 26 .i64 Tryf.underlying44 hi (some ⟨g, 0, none⟩) i c (cu : Int) (by omega) (by omega) HCAP.out
      simp only [Int.toNat_natCast] at hcut
      have HRD := Aside0.mk (HR.out.reads cu c (by rw [HI.out.len, ← HN.out]; exact hcui) (Nat.le_trans hcui HCAP.out) (by omega))
      rw [HI.out.front] at HRD
      clear hi hz0 hz1 hz2
      go_wp2
      go_ret2
      exact ⟨_, rfl, HRD.out, HGB.out⟩
end Go.Proofs.YtdjfagknffknjaaFmt.H
end

section
namespace Go.Proofs.YtdjfagknffknjaaFmt.H
open Go.RowKit Go.Extern.Stop Go.Stop Go.Extern Go.Proofs.YtdjfagknffknjaaFmtW.PrintWords Go.Proofs.YtdjfagknffknjaaFmtW.PrintLast Go.Proofs.YtdjfagknffknjaaFmtW.PrintMore Go.Proofs.YtdjfagknffknjaaFmt.Q
theorem rd_empty (w : World) (A : Option Addr) (c : Nat) : Rd KBB w (.slice A 0 c) [] := ⟨A, c, rfl, Nat.zero_le _, rfl, by simp, fun h => absurd h (Nat.lt_irrefl 0)⟩
set_option maxRecDepth 100000 in
set_option maxHeartbeats 4000000 in
theorem rehash_nil (A B C : Int) (nv : Value) (e0 e1 : Int) (bg en : Int) (a : Option Addr) (c : Nat) (w : World) (hn : NodesVal w nv ⟨[], bg, en, e0, e1⟩) :
    Calls Tryf.prog 35 #[nv, .slice a 0 c, fnv A B C] w fun e w' => ∃ v, e = .returned (.tuple #[v, .nilIface]) ∧ Rd KBB w' v [] ∧ Below w.heap.size w w' := by
  have hu71 := Tryf.underlying71
  obtain ⟨NA, nc, rfl, hnl, hnC⟩ := hn
  obtain ⟨i0, hi, hz0, hz1, hz2⟩ := info_parts info26r
  have hcut := cut_to (P := Tryf.prog) 44 26 .i64 Tryf.underlying44 hi a 0 c 0 (by omega) (by omega) (Nat.zero_le _)
  simp only [Int.toNat_zero] at hcut
  clear hi hz0 hz1 hz2 hnl hnC
  go_enter Tryf.func35, Tryf.ntmps35
  go_wp2
  go_quiet (fail)
  go_wp2
  refine wp_loop_rounds 1 ?_
  rw [rounds_succ]
  go_wp2
  go_ret2
  exact ⟨_, rfl, rd_empty _ _ _, pw_below_drewN (below_alloc (Below.refl _ _) _) _⟩
/-- Rehash on what impl.copied has made. -/
theorem rehash_S (A B C : Int) (nv hv' : Value) (ids : List S69) (bg en : Nat) (e0 e1 : Int) (ps : List (List Int)) (w : World) (base : Nat) (ok : Nat → Prop) (hn : NodesVal w nv ⟨ids, bg, en, e0, e1⟩) (hids : ids.length = ps.length) (hen : en ≤ ps.length) (hbe : bg ≤ en)
    (hS : Kd.S KBB 26 w base ok hv' ps) (hs : ps.length ≤ 1000) (hb : base ≤ w.heap.size) :
    Calls Tryf.prog 35 #[nv, hv', fnv A B C] w fun e w' => ∃ v, e = .returned (.tuple #[v, .nilIface]) ∧ Rd KBB w' v (resAt (foldN A B C ps bg (en - bg - 1)) ps bg en ps.length) ∧ Below base w w' := by
  by_cases h0 : 0 < ps.length
  · obtain ⟨g, c, rfl, hg, hlt, hc, hR⟩ := Rows.ofS hS h0
    refine (rehash_any A B C nv ids bg en e0 e1 g c ps w hn hids hen hbe hR hlt hs hc).mono ?_
    rintro e w' ⟨v, rfl, hv, hgr⟩
    exact ⟨v, rfl, hv, (Below.refl base w).grown hgr hb (fun k hk => by injection hk with hk; omega)⟩
  · have hp : ps = [] := List.eq_nil_of_length_eq_zero (by omega)
    subst hp
    have hi : ids = [] := List.eq_nil_of_length_eq_zero (by simpa using hids)
    subst hi
    obtain ⟨a, c, rfl⟩ := Kd.S_slice hS
    refine (rehash_nil A B C nv e0 e1 bg en a c w hn).mono ?_
    rintro e w' ⟨v, rfl, hv, hB⟩
    refine ⟨v, rfl, ?_, hB.mono hb⟩
    have : resAt (foldN A B C [] bg (en - bg - 1)) [] bg en ([] : List (List Int)).length = [] := by
      unfold resAt
      rw [if_neg (by simp at hen; omega)]; rfl
    rw [this]; exact hv
set_option maxRecDepth 100000 in
set_option maxHeartbeats 4000000 in
theorem rehashIncl_any (A B C : Int) (x sz : Nat) (ids : List S69) (bg en : Nat) (e0 e1 : Int) (pv : Value) (ps : List (List Int)) (w : World) (hC : ∀ W, Below w.heap.size w W → Calls Tryf.prog 30 #[.int .u64 x, .int .u64 sz] W (NodesOut ⟨ids, bg, en, e0, e1⟩ W))
    (hids : ids.length = ps.length) (hen : en ≤ ps.length) (hbe : bg ≤ en) (hs : Small ps) (hp : Rd KBB w pv ps) :
    Calls Tryf.prog 12 #[.agg #[.int .u32 A, .int .u32 B, .int .u32 C], .int .u64 x, .int .u64 sz, pv] w fun e w' => ∃ v, e = .returned (.tuple #[v, .bool true]) ∧ Rd KBB w' v (resAt (foldN A B C ps bg (en - bg - 1)) ps bg en ps.length) ∧ Below w.heap.size w w' := by
  have hu24 := Tryf.underlying24
  have hu71 := Tryf.underlying71
  have hu65 := Tryf.underlying65
  have HC := Aside0.mk hC
  have HI := Aside0.mk hids
  have HE := Aside0.mk hen
  have HBE := Aside0.mk hbe
  have HS := Aside0.mk hs
  have HP := Aside0.mk hp
  clear hC hids hen hbe hs hp
  go_enter Tryf.func12, Tryf.ntmps12
  go_wp2_with (go_at_call 30; ((refine (HC.out _ (below_alloc (Below.refl _ _) _)).mono ?_); rintro e w1 ⟨v1, rfl, ⟨A1, c1, rfl, hl1, hC1⟩, hB1⟩; have HC1 := Aside0.mk hC1; have HL1 := Aside0.mk hl1; have HG1 := Aside0.mk (blk_below (heap_alloc_new w _) hB1); have HB1 := Aside0.mk (below_next (below_alloc (Below.refl w.heap.size w) _) hB1); clear hB1 hC1 hl1))
  obtain ⟨w2, hw2⟩ : ∃ w2, w2 = w1.alloc (.cells #[.slice A1 ids.length c1, .int .i64 bg, .int .i64 en, .int .u64 e0, .int .u64 e1] 71) := ⟨_, rfl⟩
  rw [← hw2]
  obtain ⟨gb, hgb⟩ : ∃ gb, gb = w1.heap.size := ⟨_, rfl⟩
  rw [← hgb]
  have HGB := Aside0.mk (show w2.heap[gb]? = some (.cells #[.slice A1 ids.length c1, .int .i64 bg, .int .i64 en, .int .u64 e0, .int .u64 e1] 71 (0, 0)) by rw [hw2, hgb]; exact heap_alloc_new w1 _)
  have HG2 := Aside0.mk (show w2.heap[w.heap.size]? = some (.cells #[.int .u32 A, .int .u32 B, .int .u32 C] 24 (0, 0)) by rw [hw2]; exact blk_alloc HG1.out _)
  have HB2 := Aside0.mk (show Below w.heap.size w w2 by rw [hw2]; exact below_alloc HB1.out _)
  have HN2 := Aside0.mk (show ∀ W, Below w2.heap.size w2 W → NodesVal W (.agg #[.slice A1 ids.length c1, .int .i64 bg, .int .i64 en, .int .u64 e0, .int .u64 e1]) ⟨ids, bg, en, e0, e1⟩ from fun W hb =>
    ⟨A1, c1, rfl, HL1.out, Kd.C_below (by rw [hw2]; exact Kd.C_alloc HC1.out _) hb⟩)
  clear hw2 hgb HB1 HG1
  have HKP := Aside0.mk (show ∀ W, Below w2.heap.size w2 W → W.cell? ⟨w.heap.size, 0, none⟩ = some (.int .u32 A) ∧ W.cell? ⟨w.heap.size, 1, none⟩ = some (.int .u32 B) ∧ W.cell? ⟨w.heap.size, 2, none⟩ = some (.int .u32 C) ∧
      W.cell? ⟨gb, 0, none⟩ = some (.slice A1 ids.length c1) ∧ W.cell? ⟨gb, 1, none⟩ = some (.int .i64 bg) ∧ W.cell? ⟨gb, 2, none⟩ = some (.int .i64 en) ∧ W.cell? ⟨gb, 3, none⟩ = some (.int .u64 e0) ∧ W.cell? ⟨gb, 4, none⟩ = some (.int .u64 e1) ∧ Aside0 (Below w2.heap.size w2 W) from fun W hb =>
    ⟨blk_cell (blk_below HG2.out hb) 0, blk_cell (blk_below HG2.out hb) 1, blk_cell (blk_below HG2.out hb) 2, blk_cell (blk_below HGB.out hb) 0, blk_cell (blk_below HGB.out hb) 1, blk_cell (blk_below HGB.out hb) 2, blk_cell (blk_below HGB.out hb) 3, blk_cell (blk_below HGB.out hb) 4, ⟨hb⟩⟩)
  go_upto_region 4 with fail
  go_cut [12, 11] (fun v12 v11 W => v11 = .nilIface ∧ Aside0 (Rd KBB W v12 (resAt (foldN A B C ps bg (en - bg - 1)) ps bg en ps.length)) ∧ Aside0 (Below w2.heap.size w2 W))
  case first =>
    go_region_held3 (fun W => W.cell? ⟨w.heap.size, 0, none⟩ = some (.int .u32 A) ∧ W.cell? ⟨w.heap.size, 1, none⟩ = some (.int .u32 B) ∧ W.cell? ⟨w.heap.size, 2, none⟩ = some (.int .u32 C) ∧
      W.cell? ⟨gb, 0, none⟩ = some (.slice A1 ids.length c1) ∧ W.cell? ⟨gb, 1, none⟩ = some (.int .i64 bg) ∧ W.cell? ⟨gb, 2, none⟩ = some (.int .i64 en) ∧ W.cell? ⟨gb, 3, none⟩ = some (.int .u64 e0) ∧ W.cell? ⟨gb, 4, none⟩ = some (.int .u64 e1) ∧ Aside0 (Below w2.heap.size w2 W))
      (first | exact HKP.out _ (Below.refl _ _).drew | exact HKP.out _ HBn.out)
      (first
        | (go_at_call 29; (refine (copied_any _ ps _ HS.out (HP.out.below (below_next HB2.out (Below.refl _ _).drew))).mono ?_); rintro e w3 ⟨v3, rfl, hS3, hB3⟩; have HS3 := Aside0.mk hS3; have HBn := Aside0.mk (below_next (Below.refl w2.heap.size w2).drew hB3); have HB3 := HBn; have HSZ := Aside0.mk hB3.size; clear hS3 hB3)
        | (go_at_call 35; (refine (rehash_S A B C _ _ ids bg en e0 e1 ps _ _ _ (HN2.out _ HB3.out) HI.out HE.out HBE.out HS3.out HS.out.len HSZ.out).mono ?_); rintro e w4 ⟨v4, rfl, hV4, hB4⟩; have HV4 := Aside0.mk hV4; have HBn := Aside0.mk (HB3.out.trans hB4); clear hV4 hB4))
    all_goals
      go_wp2
      go_meet
      case rel => exact ⟨rfl, HV4, HBn⟩
  case rest =>
    obtain ⟨rfl, HV, HB⟩ := hcut
    go_wp2
    go_ret2
    exact ⟨_, rfl, HV.out, below_next HB2.out HB.out⟩
set_option maxRecDepth 100000 in
set_option maxHeartbeats 4000000 in
theorem rehashCons_any (A B C : Int) (x sz : Nat) (ids : List S69) (bg en : Nat) (e0 e1 : Int) (pv : Value) (ps : List (List Int)) (w : World) (hC : ∀ W, Below w.heap.size w W → Calls Tryf.prog 37 #[.int .u64 x, .int .u64 sz] W (NodesOut ⟨ids, bg, en, e0, e1⟩ W))
    (hids : ids.length = ps.length) (hen : en ≤ ps.length) (hbe : bg ≤ en) (hs : Small ps) (hp : Rd KBB w pv ps) :
    Calls Tryf.prog 22 #[.agg #[.int .u32 A, .int .u32 B, .int .u32 C], .int .u64 x, .int .u64 sz, pv] w fun e w' => ∃ v, e = .returned (.tuple #[v, .bool true]) ∧ Rd KBB w' v (resAt (foldN A B C ps bg (en - bg - 1)) ps bg en ps.length) ∧ Below w.heap.size w w' := by
  have hu24 := Tryf.underlying24
  have hu71 := Tryf.underlying71
  have hu65 := Tryf.underlying65
  have HC := Aside0.mk hC
  have HI := Aside0.mk hids
  have HE := Aside0.mk hen
  have HBE := Aside0.mk hbe
  have HS := Aside0.mk hs
  have HP := Aside0.mk hp
  clear hC hids hen hbe hs hp
  go_enter Tryf.func22, Tryf.ntmps22
  go_wp2_with (go_at_call 37; ((refine (HC.out _ (below_alloc (Below.refl _ _) _)).mono ?_); rintro e w1 ⟨v1, rfl, ⟨A1, c1, rfl, hl1, hC1⟩, hB1⟩; have HC1 := Aside0.mk hC1; have HL1 := Aside0.mk hl1; have HG1 := Aside0.mk (blk_below (heap_alloc_new w _) hB1); have HB1 := Aside0.mk (below_next (below_alloc (Below.refl w.heap.size w) _) hB1); clear hB1 hC1 hl1))
  obtain ⟨w2, hw2⟩ : ∃ w2, w2 = w1.alloc (.cells #[.slice A1 ids.length c1, .int .i64 bg, .int .i64 en, .int .u64 e0, .int .u64 e1] 71) := ⟨_, rfl⟩
  rw [← hw2]
  obtain ⟨gb, hgb⟩ : ∃ gb, gb = w1.heap.size := ⟨_, rfl⟩
  rw [← hgb]
  have HGB := Aside0.mk (show w2.heap[gb]? = some (.cells #[.slice A1 ids.length c1, .int .i64 bg, .int .i64 en, .int .u64 e0, .int .u64 e1] 71 (0, 0)) by rw [hw2, hgb]; exact heap_alloc_new w1 _)
  have HG2 := Aside0.mk (show w2.heap[w.heap.size]? = some (.cells #[.int .u32 A, .int .u32 B, .int .u32 C] 24 (0, 0)) by rw [hw2]; exact blk_alloc HG1.out _)
  have HB2 := Aside0.mk (show Below w.heap.size w w2 by rw [hw2]; exact below_alloc HB1.out _)
  have HN2 := Aside0.mk (show ∀ W, Below w2.heap.size w2 W → NodesVal W (.agg #[.slice A1 ids.length c1, .int .i64 bg, .int .i64 en, .int .u64 e0, .int .u64 e1]) ⟨ids, bg, en, e0, e1⟩ from fun W hb =>
    ⟨A1, c1, rfl, HL1.out, Kd.C_below (by rw [hw2]; exact Kd.C_alloc HC1.out _) hb⟩)
  clear hw2 hgb HB1 HG1
  have HKP := Aside0.mk (show ∀ W, Below w2.heap.size w2 W → W.cell? ⟨w.heap.size, 0, none⟩ = some (.int .u32 A) ∧ W.cell? ⟨w.heap.size, 1, none⟩ = some (.int .u32 B) ∧ W.cell? ⟨w.heap.size, 2, none⟩ = some (.int .u32 C) ∧
      W.cell? ⟨gb, 0, none⟩ = some (.slice A1 ids.length c1) ∧ W.cell? ⟨gb, 1, none⟩ = some (.int .i64 bg) ∧ W.cell? ⟨gb, 2, none⟩ = some (.int .i64 en) ∧ W.cell? ⟨gb, 3, none⟩ = some (.int .u64 e0) ∧ W.cell? ⟨gb, 4, none⟩ = some (.int .u64 e1) ∧ Aside0 (Below w2.heap.size w2 W) from fun W hb =>
    ⟨blk_cell (blk_below HG2.out hb) 0, blk_cell (blk_below HG2.out hb) 1, blk_cell (blk_below HG2.out hb) 2, blk_cell (blk_below HGB.out hb) 0, blk_cell (blk_below HGB.out hb) 1, blk_cell (blk_below HGB.out hb) 2, blk_cell (blk_below HGB.out hb) 3, blk_cell (blk_below HGB.out hb) 4, ⟨hb⟩⟩)
  go_upto_region 4 with fail
  go_cut [12, 11] (fun v12 v11 W => v11 = .nilIface ∧ Aside0 (Rd KBB W v12 (resAt (foldN A B C ps bg (en - bg - 1)) ps bg en ps.length)) ∧ Aside0 (Below w2.heap.size w2 W))
  case first =>
    go_region_held3 (fun W => W.cell? ⟨w.heap.size, 0, none⟩ = some (.int .u32 A) ∧ W.cell? ⟨w.heap.size, 1, none⟩ = some (.int .u32 B) ∧ W.cell? ⟨w.heap.size, 2, none⟩ = some (.int .u32 C) ∧
      W.cell? ⟨gb, 0, none⟩ = some (.slice A1 ids.length c1) ∧ W.cell? ⟨gb, 1, none⟩ = some (.int .i64 bg) ∧ W.cell? ⟨gb, 2, none⟩ = some (.int .i64 en) ∧ W.cell? ⟨gb, 3, none⟩ = some (.int .u64 e0) ∧ W.cell? ⟨gb, 4, none⟩ = some (.int .u64 e1) ∧ Aside0 (Below w2.heap.size w2 W))
      (first | exact HKP.out _ (Below.refl _ _).drew | exact HKP.out _ HBn.out)
      (first
        | (go_at_call 29; (refine (copied_any _ ps _ HS.out (HP.out.below (below_next HB2.out (Below.refl _ _).drew))).mono ?_); rintro e w3 ⟨v3, rfl, hS3, hB3⟩; have HS3 := Aside0.mk hS3; have HBn := Aside0.mk (below_next (Below.refl w2.heap.size w2).drew hB3); have HB3 := HBn; have HSZ := Aside0.mk hB3.size; clear hS3 hB3)
        | (go_at_call 35; (refine (rehash_S A B C _ _ ids bg en e0 e1 ps _ _ _ (HN2.out _ HB3.out) HI.out HE.out HBE.out HS3.out HS.out.len HSZ.out).mono ?_); rintro e w4 ⟨v4, rfl, hV4, hB4⟩; have HV4 := Aside0.mk hV4; have HBn := Aside0.mk (HB3.out.trans hB4); clear hV4 hB4))
    all_goals
      go_wp2
      go_meet
      case rel => exact ⟨rfl, HV4, HBn⟩
  case rest =>
    obtain ⟨rfl, HV, HB⟩ := hcut
    go_wp2
    go_ret2
    exact ⟨_, rfl, HV.out, below_next HB2.out HB.out⟩
end Go.Proofs.YtdjfagknffknjaaFmt.H
end
