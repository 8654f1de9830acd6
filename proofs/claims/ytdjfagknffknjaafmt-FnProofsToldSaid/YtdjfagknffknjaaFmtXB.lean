/- What the world holds of the program's variables, the hash of two nodes as one function, the three chains of the verifier; conditions: as each theorem states. -/
import Derived.Test.YtdjfagknffknjaaFmtXQ0
import Derived.Test.YtdjfagknffknjaaFmtXQ2
import Derived.Test.YtdjfagknffknjaaFmtXQ3
import Derived.Test.YtdjfagknffknjaaFmtXQ4
import Derived.Test.YtdjfagknffknjaaFmtXQ5
import Derived.Test.YtdjfagknffknjaaFmtXQ6
import Derived.Test.YtdjfagknffknjaaFmtXQ7
import Derived.Test.YtdjfagknffknjaaFmtXQ8
import Derived.Test.YtdjfagknffknjaaFmtXA
import Derived.Lib.TrailingZeros
import Derived.Laws.Bits64b

section
namespace Go.Proofs.YtdjfagknffknjaaFmt.H
open Go.RowKit Go.Extern.Stop Go.Stop Go.Extern Go.Proofs.YtdjfagknffknjaaFmtW.PrintWords Go.Proofs.YtdjfagknffknjaaFmtW.PrintLast Go.Proofs.YtdjfagknffknjaaFmtW.PrintMore Go.Proofs.YtdjfagknffknjaaFmt.Q
/-- What the world holds: the outside's answers, the two variables of the library. -/
structure Glob (F : Interp) (w : World) : Prop where
  tape : F.answers w.tape
  err : w.cell? ⟨0, 0, none⟩ = some As.errVal
  tab : ∀ j, j < 64 → w.cell? ⟨1, j, none⟩ = some (.int .u8 (Lib.deBruijn64tab.getD j 0))
theorem Glob.below {F : Interp} {w w' : World} (h : Glob F w) (hb : Below w.heap.size w w') : Glob F w' :=
  ⟨by rw [hb.tape]; exact h.tape, pw_cell_below hb h.err, fun j hj => pw_cell_below hb (h.tab j hj)⟩
/-- The kinds: bytes, a list of hashes. -/
abbrev KB : Kd Int := Kd.int .u8
abbrev KBB : Kd (List Int) := Kd.slice 5 (Kd.int .u8)
/-- The value is a slice that reads as the list. -/
def Rd {α : Type} (k : Kd α) (w : World) (v : Value) (xs : List α) : Prop := ∃ A c, v = .slice A xs.length c ∧ xs.length ≤ c ∧ k.C w A xs.length xs
theorem Rd.below {α : Type} {k : Kd α} {w w' : World} {v : Value} {xs : List α} (h : Rd k w v xs) (hb : Below w.heap.size w w') : Rd k w' v xs := by
  obtain ⟨A, c, e, hl, hC⟩ := h
  exact ⟨A, c, e, hl, Kd.C_below hC hb⟩
theorem Rd.drewN {α : Type} {k : Kd α} {w : World} {v : Value} {xs : List α} (h : Rd k w v xs) (n : Nat) : Rd k (w.drewN n) v xs := h.below (pw_below_drewN (Below.refl _ _) n)
theorem Rd.ofR {α : Type} {k : Kd α} {e : Nat} {w : World} {b : Nat} {ok : Nat → Prop} {v : Value} {xs : List α} (h : k.R e w b ok v xs) : Rd k w v xs := Kd.R_reads h
theorem Rd.nil {α : Type} (k : Kd α) (w : World) : Rd k w (.slice none 0 0) [] := ⟨none, 0, rfl, Nat.le_refl _, Kd.C_nil k w⟩
theorem Rd.max {α : Type} {k : Kd α} {w : World} {v : Value} {xs : List α} (h : Rd k w v xs) : xs.length ≤ 9223372036854775807 := by
  obtain ⟨A, c, _, _, hC⟩ := h
  exact Kd.C_max hC
/-- One more step below. -/
theorem below_next {w w1 w2 : World} (h : Below w.heap.size w w1) (k : Below w1.heap.size w1 w2) : Below w.heap.size w w2 := below_step h k
theorem tz64_key (x a : Nat) (hx : x < 18446744073709551616) (hx0 : x ≠ 0) (hlow : x &&& (18446744073709551616 - x) = a) :
    IntKind.u64.wrap (bits BinOp.and IntKind.u64 (x : Int) (IntKind.u64.wrap (-(x : Int))) * 285870213051353865) / 288230376151711744 = ((a * 285870213051353865 % 18446744073709551616 / 288230376151711744 : Nat) : Int) := by
  have e1 : IntKind.u64.wrap (-(x : Int)) = ((18446744073709551616 - x : Nat) : Int) := by rw [IntKind.wrap_u64]; omega
  rw [e1, bits_and_u64_nat x _ hx (by omega), hlow, IntKind.wrap_u64]
  omega
set_option maxHeartbeats 1000000 in
theorem tz_core (x k idx : Nat) (w : World) (hx0 : ((x : Int) == 0) = false)
    (key : IntKind.u64.wrap (bits BinOp.and IntKind.u64 (x : Int) (IntKind.u64.wrap (-(x : Int))) * 285870213051353865) / 288230376151711744 = (idx : Int))
    (hi : idx < 64) (hk : k < 64) (hcell : w.cell? ⟨1, idx, none⟩ = some (.int .u8 k)) :
    Calls Tryf.prog 49 #[.int .u64 x] w fun e w' => e = .returned (.int .i64 k) ∧ w' = w := by
  have hu129 := Tryf.underlying129
  go_enter Tryf.func49, Tryf.ntmps49
  go_wp2_with (simp only [key])
  go_ret
  exact ⟨rfl, rfl⟩
/-- math/bits.TrailingZeros64 of a number above 0. -/
theorem tz_any (F : Interp) (x : Nat) (hx : x < 18446744073709551616) (hx0 : x ≠ 0) (w : World) (hG : Glob F w) :
    Calls Tryf.prog 49 #[.int .u64 x] w fun e w' => e = .returned (.int .i64 (Lib.ctz 64 x : Nat)) ∧ w' = w := by
  obtain ⟨hlow, hk⟩ := Lib.lowest_bit 64 x hx0 hx
  obtain ⟨hi, htab⟩ := Lib.deBruijn64_at _ hk
  have hcell := hG.tab _ hi
  rw [htab] at hcell
  exact tz_core x _ _ w (by simp; omega) (tz64_key x _ hx hx0 hlow) hi hk hcell
end Go.Proofs.YtdjfagknffknjaaFmt.H
end

section
namespace Go.Proofs.YtdjfagknffknjaaFmt.H
open Go.RowKit Go.Extern.Stop Go.Stop Go.Extern Go.Proofs.YtdjfagknffknjaaFmtW.PrintWords Go.Proofs.YtdjfagknffknjaaFmtW.PrintLast Go.Proofs.YtdjfagknffknjaaFmtW.PrintMore Go.Proofs.YtdjfagknffknjaaFmt.Q
theorem number_some (l : List Int) : ∃ n, impl_number.f 4 l = some n := by
  have w1 : wrap64 (0 + 1) = 1 := by unfold wrap64; omega
  have w2 : wrap64 (1 + 1) = 2 := by unfold wrap64; omega
  unfold impl_number.f
  match l with
  | [] => exact ⟨_, by simp only [impl_number.l0]; rw [if_pos (by decide), if_neg (by decide)]⟩
  | [a] => exact ⟨_, by
      simp only [impl_number.l0]
      rw [if_pos (by decide), if_pos (by simp), if_pos (by decide), w1, if_pos (by decide), if_neg (by simp)]⟩
  | a :: b :: t => exact ⟨_, by
      have h1 : (0 : Int) < ((a :: b :: t).length : Int) := by simp; omega
      have h2 : (1 : Int) < ((a :: b :: t).length : Int) := by simp; omega
      simp only [impl_number.l0]
      rw [if_pos (by decide), if_pos h1, if_pos (by decide), w1, if_pos (by decide), if_pos h2, if_pos (by decide), w2, if_neg (by decide)]⟩
/-- The hash of two nodes. -/
def hc (A B C : Int) (l r : List Int) : List Int := (impl_Hash_HashChildren.f 4 A B C l r).getD []
theorem hc_cases (A B C : Int) (l r : List Int) : ∃ n, impl_Hash_HashChildren.f 4 A B C l r = impl_two.f n := by
  obtain ⟨a, ha⟩ := number_some l
  obtain ⟨b, hb⟩ := number_some r
  unfold impl_Hash_HashChildren.f
  rw [ha]; simp only [Option.bind_some]
  rw [hb]; simp only [Option.bind_some]
  exact ⟨_, Option.bind_fun_some _⟩
theorem hc_some (A B C : Int) (l r : List Int) : impl_Hash_HashChildren.f 4 A B C l r = some (hc A B C l r) := by
  obtain ⟨n, h⟩ := hc_cases A B C l r
  unfold hc
  rw [h]
  rfl
/-- Two bytes. -/
def Two (l : List Int) : Prop := ∃ x y, l = [x, y] ∧ 0 ≤ x ∧ x ≤ 255 ∧ 0 ≤ y ∧ y ≤ 255
theorem hc_two (A B C : Int) (l r : List Int) : Two (hc A B C l r) := by
  obtain ⟨n, h⟩ := hc_cases A B C l r
  have h2 := (hc_some A B C l r).symm.trans h
  unfold impl_two.f at h2
  have h3 := Option.some.inj h2
  refine ⟨_, _, h3, ?_, ?_, ?_, ?_⟩ <;> omega
theorem hc_any (A B C : Int) (vl vr : Value) (l r : List Int) (w : World) (hl : Rd KB w vl l) (hr : Rd KB w vr r) :
    Calls Tryf.prog 36 #[.agg #[.int .u32 A, .int .u32 B, .int .u32 C], vl, vr] w fun e w' => ∃ v, e = .returned v ∧ Rd KB w' v (hc A B C l r) ∧ Below w.heap.size w w' := by
  obtain ⟨A1, c1, rfl, hl1, hC1⟩ := hl
  obtain ⟨A2, c2, rfl, hl2, hC2⟩ := hr
  refine (impl_Hash_HashChildren.calls 4 A B C A1 c1 l A2 c2 r _ w hC1 hl1 hC2 hl2 (hc_some A B C l r)).mono ?_
  rintro e w' ⟨v, rfl, hR, hB⟩
  exact ⟨v, rfl, Rd.ofR hR, hB⟩
theorem ahead24 (x : Value) (y : Value) (z : Value) (w : World) : (nilAhead 279 24 (.agg #[x, y, z]) "HashChildren").run Tryf.prog w = .ok (some false) w := by kernel_rfl
theorem method24 (x : Value) (y : Value) (z : Value) (w : World) : (method 279 24 (.agg #[x, y, z]) "HashChildren").run Tryf.prog w = .ok (36, .agg #[x, y, z]) w := by kernel_rfl
theorem aheadSize (x : Value) (y : Value) (z : Value) (w : World) : (nilAhead 279 24 (.agg #[x, y, z]) "Size").run Tryf.prog w = .ok (some false) w := by kernel_rfl
theorem methodSize (x : Value) (y : Value) (z : Value) (w : World) : (method 279 24 (.agg #[x, y, z]) "Size").run Tryf.prog w = .ok (93, .agg #[x, y, z]) w := by kernel_rfl
/-- The element at a place, and the facts on it. -/
theorem Rd.at_ {w : World} {v : Value} {ps : List (List Int)} (h : Rd KBB w v ps) (j : Nat) (hj : j < ps.length) :
    ∃ ad c A0 c0 x, v = .slice (some ad) ps.length c ∧ w.cell? (ad.add j) = some (.slice A0 x.length c0) ∧ Aside0 (Rd KB w (.slice A0 x.length c0) x) ∧ Aside0 (ps[j]? = some x) := by
  obtain ⟨A, c, rfl, hl, hC⟩ := h
  obtain ⟨ad, A0, c0, rfl, h1, h2, h3⟩ := at_L1 hC (j : Int) (by omega) (by omega)
  refine ⟨ad, c, A0, c0, ps.getD j [], rfl, by simpa [rd_L1] using h1, ⟨A0, c0, rfl, by simpa [rd_L1] using h2, by simpa [rd_L1] using h3⟩, ⟨by simp [List.getD_eq_getElem?_getD, hj]⟩⟩
theorem fold_take {α β : Type} (f : α → β → α) (a : α) (l : List β) (k : Nat) (x : β) (h : l[k]? = some x) : (l.take (k + 1)).foldl f a = f ((l.take k).foldl f a) x := by
  obtain ⟨hk, rfl⟩ := List.getElem?_eq_some_iff.1 h
  rw [List.take_succ_eq_append_getElem hk, List.foldl_append]; rfl
set_option maxRecDepth 100000 in
set_option maxHeartbeats 1000000 in
/-- chainBorderRight -/
theorem border_any (A B C : Int) (sv pv : Value) (seed : List Int) (ps : List (List Int)) (w : World) (hs : Rd KB w sv seed) (hp : Rd KBB w pv ps) :
    Calls Tryf.prog 53 #[.iface 24 (.agg #[.int .u32 A, .int .u32 B, .int .u32 C]), sv, pv] w fun e w' =>
      ∃ v, e = .returned v ∧ Rd KB w' v (ps.foldl (fun s p => hc A B C p s) seed) ∧ Below w.heap.size w w' := by
  have a24 := ahead24
  have m24 := method24
  have hmax := hp.max
  obtain ⟨PA, pc, rfl, hpl, hpC⟩ := id hp
  have HP := Aside0.mk hp
  have HS := Aside0.mk hs
  clear hp hs hpC hpl
  go_enter Tryf.func53, Tryf.ntmps53
  go_wp2
  go_loopw [1, 11] (fun v i wr => ∃ k : Nat, k ≤ ps.length ∧ i = .int .i64 k ∧ Aside0 (Rd KB wr v ((ps.take k).foldl (fun s p => hc A B C p s) seed)) ∧ Aside0 (Below w.heap.size w wr)) (fun _ i _ => ps.length - (intOf i).toNat)
  case atStart => exact ⟨0, Nat.zero_le _, rfl, HS, ⟨Below.refl _ _⟩⟩
  case round =>
    obtain ⟨k, hk, rfl, HV, HB⟩ := hrel
    by_cases hlt : k < ps.length
    · obtain ⟨ad, pc', A0, c0, x, e, h1, H1, HX⟩ := HP.out.at_ k hlt
      injection e with e1 e2 e3
      subst e1; clear e2 e3
      have h3 := pw_cell_below HB.out h1
      have H2 := Aside0.mk (H1.out.below HB.out)
      have HST := Aside0.mk (fold_take (fun s p => hc A B C p s) seed ps k x HX.out)
      clear h1
      go_wp2_with (go_at_call 36; ((with_reducible refine (hc_any A B C _ _ _ _ _ H2.out HV.out).mono ?_); rintro e w1 ⟨v1, rfl, hV1, hB1⟩; have HV1 := Aside0.mk hV1; have HB1 := Aside0.mk hB1; clear hV1 hB1))
      go_roundw
      case rel => exact ⟨k + 1, by omega, by go_num, ⟨by rw [HST.out]; exact HV1.out⟩, ⟨below_next HB.out HB1.out⟩⟩
      case measure => simp [intOf]; omega
    · obtain rfl : k = ps.length := by omega
      go_wp2
      go_ret
      exact ⟨_, rfl, by have := HV.out; rwa [List.take_length] at this, HB.out⟩
end Go.Proofs.YtdjfagknffknjaaFmt.H
end

section
namespace Go.Proofs.YtdjfagknffknjaaFmt.H
open Go.RowKit Go.Extern.Stop Go.Stop Go.Extern Go.Proofs.YtdjfagknffknjaaFmtW.PrintWords Go.Proofs.YtdjfagknffknjaaFmtW.PrintLast Go.Proofs.YtdjfagknffknjaaFmtW.PrintMore Go.Proofs.YtdjfagknffknjaaFmt.Q
/-- chainInner, the first k rounds. -/
def innerN (A B C : Int) (idx : Nat) (ps : List (List Int)) (seed : List Int) : Nat → List Int
  | 0 => seed
  | k + 1 => if idx / 2 ^ k % 2 = 0 then hc A B C (innerN A B C idx ps seed k) (ps.getD k []) else hc A B C (ps.getD k []) (innerN A B C idx ps seed k)
theorem and_one (E : Int) (h0 : 0 ≤ E) (h1 : E ≤ 18446744073709551615) : bits BinOp.and IntKind.u64 E 1 = E % 2 := by
  have h := bits_and_u64_nat E.toNat 1 (by omega) (by omega)
  rw [Nat.and_one_is_mod, Int.toNat_of_nonneg h0] at h
  have h2 : ((E.toNat % 2 : Nat) : Int) = E % 2 := by omega
  exact h.trans h2
theorem bit_test (idx k : Nat) (h : idx < 18446744073709551616) : bits BinOp.and IntKind.u64 ((idx : Int) / 2 ^ min k 64) 1 = ((idx / 2 ^ k % 2 : Nat) : Int) := by
  have e1 : ((idx : Int) / 2 ^ min k 64) = ((idx / 2 ^ min k 64 : Nat) : Int) := by simp
  have h2 : idx / 2 ^ min k 64 ≤ idx := Nat.div_le_self _ _
  have h6 : idx / 2 ^ min k 64 % 2 = idx / 2 ^ k % 2 := by
    rcases Nat.le_total k 64 with hk | hk
    · rw [Nat.min_eq_left hk]
    · have hp : 2 ^ 64 ≤ 2 ^ k := Nat.pow_le_pow_right (show 0 < 2 by omega) hk
      have h3 : idx / 2 ^ 64 = 0 := Nat.div_eq_of_lt h
      have h4 : idx / 2 ^ k = 0 := Nat.div_eq_of_lt (Nat.lt_of_lt_of_le h hp)
      rw [Nat.min_eq_right hk, h3, h4]
  rw [e1, ← h6]
  generalize idx / 2 ^ min k 64 = q at h2
  rw [and_one _ (by omega) (by omega)]
  omega
theorem innerN_left {A B C : Int} {idx : Nat} {ps : List (List Int)} {seed x : List Int} {k : Nat} (h : idx < 18446744073709551616) (hx : ps[k]? = some x)
    (ht : (bits BinOp.and IntKind.u64 ((idx : Int) / 2 ^ min k 64) 1 == 0) = true) : innerN A B C idx ps seed (k + 1) = hc A B C (innerN A B C idx ps seed k) x := by
  rw [bit_test idx k h] at ht
  have ht2 : idx / 2 ^ k % 2 = 0 := by have := beq_iff_eq.1 ht; omega
  have hx2 : ps.getD k [] = x := by simp [List.getD_eq_getElem?_getD, hx]
  simp only [innerN, if_pos ht2, hx2]
theorem innerN_right {A B C : Int} {idx : Nat} {ps : List (List Int)} {seed x : List Int} {k : Nat} (h : idx < 18446744073709551616) (hx : ps[k]? = some x)
    (ht : (bits BinOp.and IntKind.u64 ((idx : Int) / 2 ^ min k 64) 1 == 0) = false) : innerN A B C idx ps seed (k + 1) = hc A B C x (innerN A B C idx ps seed k) := by
  rw [bit_test idx k h] at ht
  have ht2 : ¬ idx / 2 ^ k % 2 = 0 := fun e => by rw [e] at ht; simp at ht
  have hx2 : ps.getD k [] = x := by simp [List.getD_eq_getElem?_getD, hx]
  simp only [innerN, if_neg ht2, hx2]
set_option maxRecDepth 100000 in
set_option maxHeartbeats 1000000 in
/-- chainInner -/
theorem inner_any (A B C : Int) (sv pv : Value) (seed : List Int) (ps : List (List Int)) (idx : Nat) (hidx : idx < 18446744073709551616) (w : World) (hs : Rd KB w sv seed) (hp : Rd KBB w pv ps) :
    Calls Tryf.prog 54 #[.iface 24 (.agg #[.int .u32 A, .int .u32 B, .int .u32 C]), sv, pv, .int .u64 idx] w fun e w' =>
      ∃ v, e = .returned v ∧ Rd KB w' v (innerN A B C idx ps seed ps.length) ∧ Below w.heap.size w w' := by
  have a24 := ahead24
  have m24 := method24
  have hmax := hp.max
  obtain ⟨PA, pc, rfl, hpl, hpC⟩ := id hp
  have HP := Aside0.mk hp
  have HS := Aside0.mk hs
  clear hp hs hpC hpl
  go_enter Tryf.func54, Tryf.ntmps54
  go_wp2
  go_loopw [1, 13] (fun v i wr => ∃ k : Nat, k ≤ ps.length ∧ i = .int .i64 k ∧ Aside0 (Rd KB wr v (innerN A B C idx ps seed k)) ∧ Aside0 (Below w.heap.size w wr)) (fun _ i _ => ps.length - (intOf i).toNat)
  case atStart => exact ⟨0, Nat.zero_le _, rfl, HS, ⟨Below.refl _ _⟩⟩
  case round =>
    obtain ⟨k, hk, rfl, HV, HB⟩ := hrel
    by_cases hlt : k < ps.length
    · obtain ⟨ad, pc', A0, c0, x, e, h1, H1, HX⟩ := HP.out.at_ k hlt
      injection e with e1 e2 e3
      subst e1; clear e2 e3
      have h3 := pw_cell_below HB.out h1
      have H2 := Aside0.mk (H1.out.below HB.out)
      clear h1
      go_wp2_with (go_at_call 36; first | ((with_reducible refine (hc_any A B C _ _ _ _ _ H2.out HV.out).mono ?_); rintro e w1 ⟨v1, rfl, hV1, hB1⟩; have HV1 := Aside0.mk hV1; have HB1 := Aside0.mk hB1; clear hV1 hB1) | ((with_reducible refine (hc_any A B C _ _ _ _ _ HV.out H2.out).mono ?_); rintro e w1 ⟨v1, rfl, hV1, hB1⟩; have HV1 := Aside0.mk hV1; have HB1 := Aside0.mk hB1; clear hV1 hB1))
      all_goals
        go_roundw
        case rel => exact ⟨k + 1, by omega, by go_num, ⟨by first | (rw [innerN_left hidx HX.out (by assumption)]; exact HV1.out) | (rw [innerN_right hidx HX.out (by assumption)]; exact HV1.out)⟩, ⟨below_next HB.out HB1.out⟩⟩
        case measure => simp [intOf]; omega
    · obtain rfl : k = ps.length := by omega
      go_wp2
      go_ret
      exact ⟨_, rfl, HV.out, HB.out⟩
/-- chainInnerRight, the first k rounds. -/
def rightN (A B C : Int) (idx : Nat) (ps : List (List Int)) (seed : List Int) : Nat → List Int
  | 0 => seed
  | k + 1 => if idx / 2 ^ k % 2 = 1 then hc A B C (ps.getD k []) (rightN A B C idx ps seed k) else rightN A B C idx ps seed k
theorem rightN_yes {A B C : Int} {idx : Nat} {ps : List (List Int)} {seed x : List Int} {k : Nat} (h : idx < 18446744073709551616) (hx : ps[k]? = some x)
    (ht : (bits BinOp.and IntKind.u64 ((idx : Int) / 2 ^ min k 64) 1 == 1) = true) : rightN A B C idx ps seed (k + 1) = hc A B C x (rightN A B C idx ps seed k) := by
  rw [bit_test idx k h] at ht
  have ht2 : idx / 2 ^ k % 2 = 1 := by have := beq_iff_eq.1 ht; omega
  have hx2 : ps.getD k [] = x := by simp [List.getD_eq_getElem?_getD, hx]
  simp only [rightN, if_pos ht2, hx2]
theorem rightN_no {A B C : Int} {idx : Nat} {ps : List (List Int)} {seed : List Int} {k : Nat} (h : idx < 18446744073709551616)
    (ht : (bits BinOp.and IntKind.u64 ((idx : Int) / 2 ^ min k 64) 1 == 1) = false) : rightN A B C idx ps seed (k + 1) = rightN A B C idx ps seed k := by
  rw [bit_test idx k h] at ht
  have ht2 : ¬ idx / 2 ^ k % 2 = 1 := fun e => by rw [e] at ht; simp at ht
  simp only [rightN, if_neg ht2]
set_option maxRecDepth 100000 in
set_option maxHeartbeats 1000000 in
/-- chainInnerRight -/
theorem right_any (A B C : Int) (sv pv : Value) (seed : List Int) (ps : List (List Int)) (idx : Nat) (hidx : idx < 18446744073709551616) (w : World) (hs : Rd KB w sv seed) (hp : Rd KBB w pv ps) :
    Calls Tryf.prog 52 #[.iface 24 (.agg #[.int .u32 A, .int .u32 B, .int .u32 C]), sv, pv, .int .u64 idx] w fun e w' =>
      ∃ v, e = .returned v ∧ Rd KB w' v (rightN A B C idx ps seed ps.length) ∧ Below w.heap.size w w' := by
  have a24 := ahead24
  have m24 := method24
  have hmax := hp.max
  obtain ⟨PA, pc, rfl, hpl, hpC⟩ := id hp
  have HP := Aside0.mk hp
  have HS := Aside0.mk hs
  clear hp hs hpC hpl
  go_enter Tryf.func52, Tryf.ntmps52
  go_wp2
  go_loopw [1, 13] (fun v i wr => ∃ k : Nat, k ≤ ps.length ∧ i = .int .i64 k ∧ Aside0 (Rd KB wr v (rightN A B C idx ps seed k)) ∧ Aside0 (Below w.heap.size w wr)) (fun _ i _ => ps.length - (intOf i).toNat)
  case atStart => exact ⟨0, Nat.zero_le _, rfl, HS, ⟨Below.refl _ _⟩⟩
  case round =>
    obtain ⟨k, hk, rfl, HV, HB⟩ := hrel
    by_cases hlt : k < ps.length
    · obtain ⟨ad, pc', A0, c0, x, e, h1, H1, HX⟩ := HP.out.at_ k hlt
      injection e with e1 e2 e3
      subst e1; clear e2 e3
      have h3 := pw_cell_below HB.out h1
      have H2 := Aside0.mk (H1.out.below HB.out)
      clear h1
      go_wp2_with (go_at_call 36; ((with_reducible refine (hc_any A B C _ _ _ _ _ H2.out HV.out).mono ?_); rintro e w1 ⟨v1, rfl, hV1, hB1⟩; have HV1 := Aside0.mk hV1; have HB1 := Aside0.mk hB1; clear hV1 hB1))
      all_goals
        go_roundw
        case rel => first | exact ⟨k + 1, by omega, by go_num, ⟨by rw [rightN_yes hidx HX.out (by assumption)]; exact HV1.out⟩, ⟨below_next HB.out HB1.out⟩⟩ | exact ⟨k + 1, by omega, by go_num, ⟨by rw [rightN_no hidx (by assumption)]; exact HV.out⟩, HB⟩
        case measure => simp [intOf]; omega
    · obtain rfl : k = ps.length := by omega
      go_wp2
      go_ret
      exact ⟨_, rfl, HV.out, HB.out⟩
end Go.Proofs.YtdjfagknffknjaaFmt.H
end
