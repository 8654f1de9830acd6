/- The told and tied card of laws.FnProofs: at every input the law returns true and leaves its arguments; conditions: the two variables of the library read as the program's text lays them. -/
import Derived.Test.YtdjfagknffknjaaFmtXBz
import Derived.Test.YtdjfagknffknjaaFmtTie
import Derived.Test.YtdjfagknffknjaaFmtCards
import Derived.ProofKit
import Derived.OpenShut
import Derived.ChangeOld
import Derived.Carry
import Derived.LaidHandle
import Derived.Lib.LaidTab
import Derived.Lib.SmallJoins
import Derived.Stop.Joined
import Derived.Stop.JoinedAt
import Derived.Stop.JoinedTold
import Derived.SevenTiedAt

section
namespace Go.Proofs.YtdjfagknffknjaaFmt.Z
open Go Go.ChangeShapes Go.WideShapes Go.ChangeAt Go.RowKit Go.Extern.Stop Go.Stop Go.Extern Go.Proofs.YtdjfagknffknjaaFmt.H Go.Proofs.YtdjfagknffknjaaFmtW.PrintWords
theorem own : ownKnob Tryf.prog.godebug = none := by kernel_rfl
theorem laidOut : laidOutB Tryf.prog = true := by kernel_rfl
theorem gTab : Tryf.prog.globalNamed "math/bits.deBruijn64tab" = some 1 := by kernel_rfl
theorem gErr : Tryf.prog.globalNamed "errors.errorType" = some 0 := by kernel_rfl
theorem rt : (Tryf.prog.cutTypes.find? (·.1 == "internal/reflectlite.rtype")).map (·.2) = some 134 := by kernel_rfl
theorem nTypes : Tryf.prog.types.size = 179 := by kernel_rfl
theorem oneRow : ((List.range 179).filter fun t => Tryf.prog.rowNamed t [101, 114, 114, 111, 114]) = [65] := by kernel_rfl
theorem tTab : (Tryf.prog.globals[1]?).map (·.type) = some 129 := by kernel_rfl
/-- The table, as the row lists it. -/
abbrev tabL : List Int := Lib.deBruijn64tab.map Int.ofNat
theorem tab_eq : (Rows.laid_math_bits_deBruijn64tab : DataW Unit) = Lib.tabData .u8 tabL := by kernel_rfl
theorem plain_eq : (Rows.fnProofsRow.laid.filter fun x => x.2.handleName?.isNone) = [("math/bits.deBruijn64tab", Rows.laid_math_bits_deBruijn64tab)] := by kernel_rfl
theorem handle_eq : (Rows.fnProofsRow.laid.filter fun x => x.2.handleName?.isSome) = [("errors.errorType", Rows.laid_errors_errorType)] := by kernel_rfl
theorem name_eq : (Rows.laid_errors_errorType : DataW Unit).handleName? = some [101, 114, 114, 111, 114] := by kernel_rfl
theorem funcs_eq : (Rows.laid_errors_errorType : DataW Unit).funcsIn? = none := by kernel_rfl
theorem tab_at {W : World} (h : Lib.TabIs Tryf.prog W "math/bits.deBruijn64tab" .u8 tabL) (j : Nat) (hj : j < 64) : W.cell? ⟨1, j, none⟩ = some (.int .u8 (Lib.deBruijn64tab.getD j 0 : Nat)) := by
  have hl : tabL.length = 64 := by kernel_rfl
  have hl2 : Lib.deBruijn64tab.length = 64 := by kernel_rfl
  have := h.cell gTab j (by rw [hl]; exact hj)
  rw [this]
  congr 2
  simp [tabL, List.getD_eq_getElem?_getD, List.getElem?_map, List.getElem?_eq_getElem (show j < Lib.deBruijn64tab.length by omega)]
/-- What the condition gives the walk. -/
theorem glob_of {F : Interp} {W : World} (hF : F.answers W.tape) (h : laidMetH Tryf.prog Rows.fnProofsRow.laid W) : Glob F W := by
  unfold laidMetH at h
  rw [handle_eq] at h
  dsimp only at h
  rw [plain_eq, tab_eq] at h
  obtain ⟨h1, h2⟩ := h
  have ht := Lib.tabIs_of_head gTab tTab Tryf.underlying129 Tryf.underlying5 (by kernel_rfl) (by kernel_rfl) h1
  have h3 := h2 _ (List.mem_singleton.2 rfl)
  dsimp only at h3
  rw [funcs_eq] at h3
  obtain ⟨name, u, ty, e1, e2, e3, e4, e5⟩ := h3
  have en : name = [101, 114, 114, 111, 114] := (Option.some.inj (name_eq.symm.trans e1)).symm
  subst en
  obtain rfl := Option.some.inj (rt.symm.trans e2)
  have hm : ty ∈ (List.range 179).filter fun t => Tryf.prog.rowNamed t [101, 114, 114, 111, 114] := List.mem_filter.2 ⟨List.mem_range.2 (by rw [← nTypes]; exact e3), e4⟩
  rw [oneRow] at hm
  obtain rfl := List.mem_singleton.1 hm
  have hh : typeHandle Tryf.prog 65 = .pointer (some ⟨2, 65, none⟩) := by kernel_rfl
  rw [hh] at e5
  exact ⟨hF, by simpa using World.var?_cell gErr e5 0, fun j hj => tab_at ht j hj⟩
/-- A world that meets the condition. -/
noncomputable def laidWorld (os : Os) : World :=
  let w0 := World.holding Tryf.prog os ⟨#[], #[], []⟩
  let put (h : Array Obj) (g : Nat) (cs : Array Value) : Array Obj := h.modify g fun
    | .cells _ t frozen => .cells cs t frozen
    | o => o
  { w0 with heap := put (put w0.heap 0 #[As.errVal]) 1 (tabL.map fun z => Value.int .u8 z).toArray }
set_option maxRecDepth 100000 in
theorem laid_met (os : Os) (args : Array Value) : laidMetH Tryf.prog Rows.fnProofsRow.laid ((laidWorld os).forCall (fun _ _ => 0) ⟨#[], args, []⟩).memory :=
  laidMetH_of_parts (by rw [plain_eq]; exact laidMet_of_run' 8 (by kernel_rfl) (by kernel_rfl)) (by rw [handle_eq]; kernel_rfl)
end Go.Proofs.YtdjfagknffknjaaFmt.Z
end

section
namespace Go.Proofs.YtdjfagknffknjaaFmt.Z
open Go Go.Joins Go.Deep Go.Maps Go.WideElems Go.ChangeShapes Go.WideShapes Go.ChangeAt Go.RowKit Go.Extern.Stop Go.Stop Go.Extern Go.Proofs.YtdjfagknffknjaaFmt.H Go.Proofs.YtdjfagknffknjaaFmtW.PrintWords
abbrev spec : OpenSpec := OpenSpec.ofChange Rows.fnProofsSpec
abbrev args0 : Array Value := #[.agg #[.int .u32 0, .int .u32 0, .int .u32 0], .agg #[.int .u32 0, .int .u32 0, .int .u32 0], .int .u64 0, .int .u64 0, .int .u64 0, .int .u8 0, .slice none 0 0]
theorem witness_row (os : Os) {H : Type} (enc : TypeId × Value → H) :
    spec.preRow enc Tryf.prog Tryf.f3 Rows.fnProofsRow.domain false Rows.fnProofsRow.laid ((laidWorld os).forCall (fun _ _ => 0) ⟨#[], args0, []⟩).memory args0 := by
  have hw : (DataW.whole enc Tryf.prog ((laidWorld os).forCall (fun _ _ => 0) ⟨#[], args0, []⟩).memory Tryf.f3.params.toList spec.vars false args0.toList 8).map (fun x => (x.1, x.2.1)) =
      some ([.agg [.lit (.int .u32 0), .lit (.int .u32 0), .lit (.int .u32 0)], .agg [.lit (.int .u32 0), .lit (.int .u32 0), .lit (.int .u32 0)], .lit (.int .u64 0), .lit (.int .u64 0), .lit (.int .u64 0), .lit (.int .u8 0), .nil], []) := by kernel_rfl
  obtain ⟨⟨x1, x2, x3⟩, hx, hx1⟩ := Option.map_eq_some_iff.1 hw
  simp only [Prod.mk.injEq] at hx1
  obtain ⟨rfl, rfl⟩ := hx1
  exact OpenSpec.preRow_of_cond 8 hx (by kernel_rfl) (fun k hk => by cases hk) (by kernel_rfl) (laid_met os _)
theorem rd_of {W : World} {a : Option Addr} {len cap : Nat} {zs : List Int} (h : (a = none ∧ len = 0 ∧ cap = 0 ∧ zs = []) ∨ ∃ x, a = some x ∧ len ≤ cap ∧ cap ≤ maxLen ∧ zs.length = cap ∧ (∀ i, i < zs.length → W.cell? (x.add i) = some (.int .u8 (zs.getD i 0))) ∧ ∀ n ∈ zs, (Lit.int .u8 n).wf = true) :
    ∃ l : List Int, Rd KB W (.slice a len cap) l := by
  obtain ⟨l, rfl, hr, hm, hw, hc⟩ := ReadsInt.ofRowC h
  exact ⟨l, a, cap, rfl, hc, Kd.C_of_reads (d := (0 : Int)) (h1 := fun _ => rfl) hr⟩
theorem nat_of {k : IntKind} {a : Int} (h : (Lit.int k a).wf = true) (hk : k = .u64 ∨ k = .u8) : ∃ n : Nat, a = n ∧ (k = .u8 → n < 256) := by
  have h2 : 0 ≤ a ∧ (k = .u8 → a < 256) := by
    rcases hk with rfl | rfl <;> simp [Lit.wf, IntKind.min, IntKind.max, IntKind.signed, IntKind.bits] at h ⊢ <;> omega
  exact ⟨a.toNat, by omega, fun e => by have := h2.2 e; omega⟩
set_option maxRecDepth 100000 in
set_option maxHeartbeats 4000000 in
theorem lifted (os : Os) (started : os.Started) (H : Type) (enc : TypeId × Value → H) :
    ReturnsInTold none {} Tryf.checked os 3 .any Input.okWide (spec.preRow enc Tryf.prog Tryf.f3 Rows.fnProofsRow.domain false Rows.fnProofsRow.laid) (fun F => (spec.at F).post enc Tryf.prog Tryf.f3 false true false false) (aloneAtReturn Tryf.prog) nothingAlways := by
  refine returnsInTold_of_row (C := Tryf.checked) (s := spec) (by kernel_rfl) own started (by kernel_rfl) Tryf.func3
    (OpenSpec.witness_stopped_at (enc := enc) (C := Tryf.checked) false (laidWorld os) args0 rfl (by kernel_rfl) (by kernel_rfl) (by kernel_rfl) (witness_row os enc)) ?_
  intro F W base args ds gs before _ hF hval0 hW _ _ _ hL _
  have hval : ∀ (j : Nat) t v, Tryf.f3.params[j]? = some t → args[j]? = some v → Value.okWide Tryf.prog W .any base t v := hval0
  have hW' := hW
  obtain ⟨p, q, hA0, hV, rfl, _, _⟩ := hW
  have hA : DataW.TrodAll enc Tryf.prog W 0 (fun _ => true) true Tryf.f3.params.toList args.toList ds p := hA0
  rw [Tryf.params3] at hA hval
  obtain ⟨v0, vs0, d0, ds0, p0, q0, hargs, rfl, rfl, h0, r0⟩ := trodAll_cons hA
  obtain ⟨v1, vs1, d1, ds1, p1, q1, rfl, rfl, rfl, h1, r1⟩ := trodAll_cons r0
  obtain ⟨v2, vs2, d2, ds2, p2, q2, rfl, rfl, rfl, h2, r2⟩ := trodAll_cons r1
  obtain ⟨v3, vs3, d3, ds3, p3, q3, rfl, rfl, rfl, h3, r3⟩ := trodAll_cons r2
  obtain ⟨v4, vs4, d4, ds4, p4, q4, rfl, rfl, rfl, h4, r4⟩ := trodAll_cons r3
  obtain ⟨v5, vs5, d5, ds5, p5, q5, rfl, rfl, rfl, h5, r5⟩ := trodAll_cons r4
  obtain ⟨v6, vs6, d6, ds6, p6, q6, rfl, rfl, rfl, h6, r6⟩ := trodAll_cons r5
  obtain ⟨rfl, rfl, rfl⟩ := trodAll_nil r6
  obtain rfl : args = #[v0, v1, v2, v3, v4, v5, v6] := by cases args; simp_all
  obtain ⟨rfl, rfl⟩ := trodVars_none hV
  have hone : oneCellFields Tryf.prog #[{ name := "A", type := 22, offset := 0, embedded := false, tag := "", pkgPath := "", byteOffset := 0 }, { name := "B", type := 22, offset := 1, embedded := false, tag := "", pkgPath := "", byteOffset := 4 }, { name := "C", type := 22, offset := 2, embedded := false, tag := "", pkgPath := "", byteOffset := 8 }] = true := by kernel_rfl
  have hc24 : Tryf.prog.cellsOf 24 = 3 := by kernel_rfl
  have k0 := h0
  have k1 := h1
  have k6 := h6
  have lt0 : ∀ x ∈ p0, x.block < W.heap.size := by obtain ⟨m, hm⟩ := k0; exact DataW.trod_lt m _ _ _ hm
  have lt1 : ∀ x ∈ p1, x.block < W.heap.size := by obtain ⟨m, hm⟩ := k1; exact DataW.trod_lt m _ _ _ hm
  have lt6 : ∀ x ∈ p6, x.block < W.heap.size := by obtain ⟨m, hm⟩ := k6; exact DataW.trod_lt m _ _ _ hm
  obtain ⟨a0, b0, c0, y0, z0, u0, n0, rfl, _, _, ha0, hb0, hc0⟩ := open_agg3 Tryf.underlying24 hone hc24 (hval 0 24 v0 rfl rfl) h0
  obtain ⟨A, eA, _, _⟩ := DataW.trod_int Tryf.underlying22 ha0
  obtain ⟨B, eB, _, _⟩ := DataW.trod_int Tryf.underlying22 hb0
  obtain ⟨C, eC, _, _⟩ := DataW.trod_int Tryf.underlying22 hc0
  obtain ⟨a1, b1, c1, y1, z1, u1, n1, rfl, _, _, ha1, hb1, hc1⟩ := open_agg3 Tryf.underlying24 hone hc24 (hval 1 24 v1 rfl rfl) h1
  obtain ⟨A2, eA2, _, _⟩ := DataW.trod_int Tryf.underlying22 ha1
  obtain ⟨B2, eB2, _, _⟩ := DataW.trod_int Tryf.underlying22 hb1
  obtain ⟨C2, eC2, _, _⟩ := DataW.trod_int Tryf.underlying22 hc1
  obtain rfl := List.singleton_inj.1 eA
  obtain rfl := List.singleton_inj.1 eB
  obtain rfl := List.singleton_inj.1 eC
  obtain rfl := List.singleton_inj.1 eA2
  obtain rfl := List.singleton_inj.1 eB2
  obtain rfl := List.singleton_inj.1 eC2
  obtain ⟨i2, rfl, rfl, rfl, w2⟩ := open_int Tryf.underlying25 (hval 2 25 v2 rfl rfl) h2
  obtain ⟨i3, rfl, rfl, rfl, w3⟩ := open_int Tryf.underlying25 (hval 3 25 v3 rfl rfl) h3
  obtain ⟨i4, rfl, rfl, rfl, w4⟩ := open_int Tryf.underlying25 (hval 4 25 v4 rfl rfl) h4
  obtain ⟨i5, rfl, rfl, rfl, w5⟩ := open_int Tryf.underlying5 (hval 5 5 v5 rfl rfl) h5
  obtain ⟨a6, len6, cap6, rfl⟩ := okWide_slice Tryf.underlying26 (hval 6 26 v6 rfl rfl)
  obtain ⟨x, hx⟩ : ∃ l : List Int, Rd KB W (.slice a6 len6 cap6) l := by
    obtain ⟨fuel, hf⟩ := h6
    rcases open_ints Tryf.underlying26 Tryf.underlying5 (by kernel_rfl) hf with ⟨hcs, _⟩ | ⟨x, l, c, zs, hcs, _, hl, hm, hz, _, hcell, hwz⟩
    · simp [Value.cells] at hcs
      obtain ⟨rfl, rfl, rfl⟩ := hcs
      exact rd_of (zs := []) (.inl ⟨rfl, rfl, rfl, rfl⟩)
    · simp [Value.cells] at hcs
      obtain ⟨rfl, rfl, rfl⟩ := hcs
      exact rd_of (.inr ⟨_, rfl, hl, hm, by simpa using hz, hcell, hwz⟩)
  obtain ⟨idx, rfl, _⟩ := nat_of w2 (.inl rfl)
  obtain ⟨s1, rfl, _⟩ := nat_of w3 (.inl rfl)
  obtain ⟨s2, rfl, _⟩ := nat_of w4 (.inl rfl)
  obtain ⟨at_, rfl, hat⟩ := nat_of w5 (.inr rfl)
  have hG := glob_of hF hL
  clear hA0 hval0 hL hval
  refine (fnProofs_any F.told A B C A2 B2 C2 idx s1 s2 at_ _ x W hG (hat rfl) hx (fun e1 e2 _ => inclOk_all A B C A2 B2 C2 idx s2 at_ x e1 e2) (fun e1 e2 e3 _ => consOk_all F.told A B C A2 B2 C2 s1 s2 at_ x e1 e2 e3)).mono fun e W' ⟨he, bel⟩ => ?_
  subst he
  exact ⟨_, rfl, _, _, _, [], _, [], hW', trodAll_mk1 (shut_bool Tryf.underlying4 _),
    (trodAll_cons_mk (Below.trod laidOut (by kernel_rfl) (of_decide_eq_true (by kernel_rfl)) k0 bel lt0) (trodAll_cons_mk (Below.trod laidOut (by kernel_rfl) (of_decide_eq_true (by kernel_rfl)) k1 bel lt1)
      (trodAll_cons_mk (shut_int Tryf.underlying25 w2) (trodAll_cons_mk (shut_int Tryf.underlying25 w3) (trodAll_cons_mk (shut_int Tryf.underlying25 w4) (trodAll_cons_mk (shut_int Tryf.underlying5 w5)
        (trodAll_cons_mk (Below.trod laidOut (by kernel_rfl) (of_decide_eq_true (by kernel_rfl)) k6 bel lt6) trodAll_mk0))))))), rfl, bel.frame _, fun h => by cases h⟩
theorem stops : Tryf.pinned.checked.prog.stops = ["fmt.errorf"] := by kernel_rfl
theorem stopKnobs : Tryf.pinned.checked.prog.stopKnobs = [] := by kernel_rfl
theorem quiet (os : Os) : Stop.quiet Tryf.pinned.checked.prog os := by
  intro k hk
  rw [stopKnobs] at hk
  cases hk
theorem laidOutP : laidOutB Tryf.pinned.checked.prog = true := laidOut
end Go.Proofs.YtdjfagknffknjaaFmt.Z
namespace Go.Proofs.YtdjfagknffknjaaFmt
open Go Go.Extern.Stop Go.Stop Go.Extern
/-- The card, whole. -/
theorem fnProofs_holds : Rows.FnProofsToldSaid :=
  Claim7.holds_of_told_tied_any_at .later 3 Tryf.f3 "fmt.errorf" [] [] _ _ _ _ _ (by kernel_rfl) rfl rfl rfl Z.laidOutP (by kernel_rfl) rfl ⟨rfl, rfl, rfl, rfl, rfl, rfl, rfl⟩ rfl rfl (by kernel_rfl) (by kernel_rfl) Tryf.func3 (by kernel_rfl)
    (of_decide_eq_true (by kernel_rfl)) (by unfold Func.isWrapper; first | (rw [if_pos (by decide +kernel)]; kernel_rfl) | (rw [if_neg (by decide +kernel)]; exact ⟨rfl, rfl⟩)) Z.stops.symm rfl Z.stopKnobs.symm (by kernel_rfl)
    (by kernel_rfl) (by kernel_rfl) (by kernel_rfl) (by kernel_rfl) (by kernel_rfl) (by kernel_rfl) (by kernel_rfl) (by kernel_rfl) (by kernel_rfl) rfl (by kernel_rfl) rfl rfl
    rfl rfl
    rfl (by kernel_rfl) (by kernel_rfl) (by kernel_rfl) (by decide) (by kernel_rfl) fnProofs_row_tie
    (OpenClaim.moreEntering_of (by kernel_rfl) (by kernel_rfl) (by kernel_rfl) (by kernel_rfl) (by kernel_rfl) (by kernel_rfl) (by kernel_rfl) (by kernel_rfl) (by kernel_rfl) (by kernel_rfl))
    ⟨_, WideRow.started_initial, Z.quiet _⟩
    (fun os started _ H enc _ => Z.lifted os started H enc)
end Go.Proofs.YtdjfagknffknjaaFmt
end
