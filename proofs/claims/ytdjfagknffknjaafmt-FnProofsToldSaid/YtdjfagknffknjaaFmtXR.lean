/- Reversed rows of nodes and the nodes of a range, by their contracts; conditions: as each theorem states. -/
import Derived.Test.YtdjfagknffknjaaFmtXB
import Derived.RegionTactic
import Derived.BigRegion

section
namespace Go.Proofs.YtdjfagknffknjaaFmt.H
open Go.RowKit Go.Extern.Stop Go.Stop Go.Extern Go.Proofs.YtdjfagknffknjaaFmtW.PrintWords Go.Proofs.YtdjfagknffknjaaFmtW.PrintLast Go.Proofs.YtdjfagknffknjaaFmtW.PrintMore Go.Proofs.YtdjfagknffknjaaFmt.Q
/-- The cells of a list of nodes. -/
def encN (l : List S69) : List Value := l.flatMap fun x => [.int .u64 x.f0, .int .u64 x.f1]
theorem encN_length (l : List S69) : (encN l).length = l.length * 2 := by
  induction l with
  | nil => rfl
  | cons a t ih => simp only [encN, List.flatMap_cons, List.length_append, List.length_cons, List.length_nil] at ih ⊢; omega
theorem encN_append (a b : List S69) : encN (a ++ b) = encN a ++ encN b := by simp [encN]
theorem encN_get (l : List S69) (j : Nat) (x : S69) (h : l[j]? = some x) : (encN l)[j * 2]? = some (.int .u64 x.f0) ∧ (encN l)[j * 2 + 1]? = some (.int .u64 x.f1) := by
  induction l generalizing j with
  | nil => simp at h
  | cons a t ih =>
    cases j with
    | zero => simp at h; subst h; exact ⟨rfl, rfl⟩
    | succ j =>
      have := ih j (by simpa using h)
      rw [show (j + 1) * 2 = j * 2 + 1 + 1 by omega]
      exact this
theorem encN_set (l : List S69) (j : Nat) (x : S69) (h : j < l.length) : ((encN l).set (j * 2) (.int .u64 x.f0)).set (j * 2 + 1) (.int .u64 x.f1) = encN (l.set j x) := by
  induction l generalizing j with
  | nil => simp at h
  | cons a t ih =>
    cases j with
    | zero => rfl
    | succ j =>
      have := ih j (by simpa using h)
      rw [show (j + 1) * 2 = j * 2 + 1 + 1 by omega]
      show Value.int .u64 a.f0 :: Value.int .u64 a.f1 :: ((encN t).set (j * 2) _).set (j * 2 + 1) _ = _
      rw [this]; rfl
/-- k exchanges. -/
def swapK (l : List S69) : Nat → List S69
  | 0 => l
  | k + 1 => ((swapK l k).set k ((swapK l k).getD (l.length - 1 - k) z69)).set (l.length - 1 - k) ((swapK l k).getD k z69)
theorem swapK_length (l : List S69) (k : Nat) : (swapK l k).length = l.length := by
  induction k with
  | zero => rfl
  | succ k ih => simp [swapK, ih]
theorem swapK_get (l : List S69) (k : Nat) (h : 2 * k ≤ l.length) (t : Nat) (ht : t < l.length) :
    (swapK l k)[t]? = if t < k ∨ l.length - k ≤ t then l[l.length - 1 - t]? else l[t]? := by
  induction k generalizing t with
  | zero => rw [if_neg (by omega)]; rfl
  | succ k ih =>
    have ih' := ih (by omega)
    have hl := swapK_length l k
    have e1 : (swapK l k).getD (l.length - 1 - k) z69 = l.getD (l.length - 1 - k) z69 := by
      rw [List.getD_eq_getElem?_getD, ih' _ (by omega), if_neg (by omega), List.getD_eq_getElem?_getD]
    have e2 : (swapK l k).getD k z69 = l.getD k z69 := by
      rw [List.getD_eq_getElem?_getD, ih' _ (by omega), if_neg (by omega), List.getD_eq_getElem?_getD]
    simp only [swapK, e1, e2]
    rw [List.getElem?_set, List.getElem?_set]
    by_cases h1 : l.length - 1 - k = t
    · subst h1
      rw [if_pos rfl, if_pos (by simp; omega), if_pos (by omega), show l.length - 1 - (l.length - 1 - k) = k by omega]
      rw [List.getD_eq_getElem?_getD, List.getElem?_eq_getElem (by omega)]; rfl
    · rw [if_neg h1]
      by_cases h2 : k = t
      · subst h2
        rw [if_pos rfl, if_pos (by omega), if_pos (by omega)]
        rw [List.getD_eq_getElem?_getD, List.getElem?_eq_getElem (by omega)]; rfl
      · rw [if_neg h2, ih' t ht]
        by_cases h3 : t < k ∨ l.length - k ≤ t
        · rw [if_pos h3, if_pos (by omega)]
        · rw [if_neg h3, if_neg (by omega)]
theorem swapK_reverse (l : List S69) (k : Nat) (h : 2 * k ≤ l.length) (h2 : l.length ≤ 2 * k + 1) : swapK l k = l.reverse := by
  apply List.ext_getElem?
  intro t
  by_cases ht : t < l.length
  · rw [swapK_get l k h t ht, List.getElem?_reverse ht]
    split
    · rfl
    · rw [show l.length - 1 - t = t by omega]
  · rw [List.getElem?_eq_none (by rw [swapK_length]; omega), List.getElem?_eq_none (by simp; omega)]
theorem grownBy_setCell (W : World) (g o : Nat) (v : Value) : W.grownBy (W.setCell ⟨g, o, none⟩ v) (some g) :=
  ⟨rfl, rfl, rfl, by simp [World.setCell], fun k _ hne => Below.heap_setCell _ _ _ _ (fun e => hne (by rw [e]))⟩
theorem grownBy_trans {a b c : World} {row : Option Nat} (h : a.grownBy b row) (k : b.grownBy c row) : a.grownBy c row :=
  ⟨k.os.trans h.os, k.tape.trans h.tape, k.output.trans h.output, Nat.le_trans h.size k.size, fun i hi hne => (k.block i (Nat.lt_of_lt_of_le hi h.size) hne).trans (h.block i hi hne)⟩
/-- The row with its part turned k times. -/
def rowK (pre post : List Value) (l : List S69) (k : Nat) : Array Value := (pre ++ encN (swapK l k) ++ post).toArray
theorem rowK_get (pre post : List Value) (l : List S69) (k j : Nat) (hj : j < l.length) :
    (rowK pre post l k)[pre.length + j * 2]? = some (.int .u64 ((swapK l k).getD j z69).f0) ∧ (rowK pre post l k)[pre.length + j * 2 + 1]? = some (.int .u64 ((swapK l k).getD j z69).f1) := by
  have hl := swapK_length l k
  have hg : (swapK l k)[j]? = some ((swapK l k).getD j z69) := by rw [List.getD_eq_getElem?_getD, List.getElem?_eq_getElem (by omega)]; rfl
  obtain ⟨h1, h2⟩ := encN_get _ _ _ hg
  have hlen := encN_length (swapK l k)
  unfold rowK
  simp only [List.getElem?_toArray]
  refine ⟨?_, ?_⟩
  · rw [List.getElem?_append_left (by simp; omega), List.getElem?_append_right (by omega), show pre.length + j * 2 - pre.length = j * 2 by omega]; exact h1
  · rw [List.getElem?_append_left (by simp; omega), List.getElem?_append_right (by omega), show pre.length + j * 2 + 1 - pre.length = j * 2 + 1 by omega]; exact h2
theorem set_mid (pre m post : List Value) (i : Nat) (v : Value) (h : i < m.length) : ((pre ++ m ++ post).toArray.setIfInBounds (pre.length + i) v) = (pre ++ m.set i v ++ post).toArray := by
  rw [List.setIfInBounds_toArray, List.set_append_left _ _ (by simp; omega), List.set_append_right _ _ (by omega), show pre.length + i - pre.length = i by omega]
theorem rowK_set (pre post : List Value) (l : List S69) (k : Nat) (h : k < l.length - 1 - k) :
    ((((rowK pre post l k).setIfInBounds (pre.length + k * 2) (.int .u64 ((swapK l k).getD (l.length - 1 - k) z69).f0)).setIfInBounds (pre.length + k * 2 + 1) (.int .u64 ((swapK l k).getD (l.length - 1 - k) z69).f1)).setIfInBounds
      (pre.length + (l.length - 1 - k) * 2) (.int .u64 ((swapK l k).getD k z69).f0)).setIfInBounds (pre.length + (l.length - 1 - k) * 2 + 1) (.int .u64 ((swapK l k).getD k z69).f1) = rowK pre post l (k + 1) := by
  have hl := swapK_length l k
  have hlen := encN_length (swapK l k)
  unfold rowK
  rw [set_mid _ _ _ _ _ (by omega), Nat.add_assoc pre.length, set_mid _ _ _ _ _ (by simp; omega), encN_set _ _ _ (by omega)]
  have hlen2 : (encN ((swapK l k).set k ((swapK l k).getD (l.length - 1 - k) z69))).length = (swapK l k).length * 2 := by rw [encN_length, List.length_set]
  rw [set_mid _ _ _ _ _ (by omega), Nat.add_assoc pre.length, set_mid _ _ _ _ _ (by rw [List.length_set, hlen2]; omega), encN_set _ _ _ (by rw [List.length_set]; omega)]
  rfl
set_option maxRecDepth 100000 in
set_option maxHeartbeats 4000000 in
theorem reverse_any (g n c : Nat) (l : List S69) (pre post : List Value) (w : World) (hn : l.length = n) (hn2 : n ≤ 1000000) (hB : w.heap[g]? = some (.cells (rowK pre post l 0) 69 (0, 0))) :
    Calls Tryf.prog 68 #[.slice (some ⟨g, pre.length, none⟩) n c] w fun e w' => e = .returned (.tuple #[]) ∧ w'.heap[g]? = some (.cells (pre ++ encN l.reverse ++ post).toArray 69 (0, 0)) ∧ w.grownBy w' (some g) := by
  have hu69 := Tryf.underlying69
  obtain ⟨o, ho⟩ : ∃ o, o = pre.length := ⟨_, rfl⟩
  rw [← ho]
  have HO := Aside0.mk ho
  have HN := Aside0.mk hn
  have HB := Aside0.mk hB
  clear ho hn hB
  go_enter Tryf.func68, Tryf.ntmps68
  go_wp2
  go_loopw [2, 3] (fun v2 v3 wr => ∃ (k : Nat) (j : Int), v2 = .int .i64 k ∧ v3 = .int .i64 j ∧ Aside0 (2 * k ≤ n ∧ (k : Int) + j + 1 = n) ∧ Aside0 (wr.heap[g]? = some (.cells (rowK pre post l k) 69 (0, 0))) ∧ Aside0 (w.grownBy wr (some g))) (fun v2 _ _ => n - (intOf v2).toNat)
  case atStart => exact ⟨0, (n : Int) - 1, rfl, rfl, ⟨by omega, by omega⟩, HB, ⟨World.grownBy.refl _ _⟩⟩
  case round =>
    obtain ⟨k, j, rfl, rfl, HK, HR, HG⟩ := hrel
    by_cases hlt : (k : Int) < j
    · obtain ⟨jn, rfl⟩ : ∃ jn : Nat, j = jn := ⟨j.toNat, by omega⟩
      have hk2 := HK.out
      have hjn : jn < n := by omega
      have hkn : k < n := by omega
      have hlt' : k < jn := by omega
      have hjn' : (jn : Int) < (n : Int) := by omega
      have hkn' : (k : Int) < (n : Int) := by omega
      obtain ⟨ka, kb⟩ := rowK_get pre post l k k (by rw [HN.out]; exact hkn)
      obtain ⟨ja, jb⟩ := rowK_get pre post l k jn (by rw [HN.out]; exact hjn)
      rw [← HO.out] at ka kb ja jb
      obtain ⟨X, hX⟩ : ∃ X, X = (swapK l k).getD k z69 := ⟨_, rfl⟩
      obtain ⟨Y, hY⟩ : ∃ Y, Y = (swapK l k).getD jn z69 := ⟨_, rfl⟩
      rw [← hX] at ka kb
      rw [← hY] at ja jb
      have HX := Aside0.mk hX
      have HY := Aside0.mk hY
      have hd := HR
      have ck0 := (blk_cell hd.out (o + k * 2)).trans ka
      have ck1 := (blk_cell hd.out (o + k * 2 + 1)).trans kb
      have cj0 := (blk_cell hd.out (o + jn * 2)).trans ja
      have cj1 := (blk_cell hd.out (o + jn * 2 + 1)).trans jb
      have fk0 := blk_frozen hd.out (o + k * 2)
      have fk1 := blk_frozen hd.out (o + k * 2 + 1)
      have fj0 := blk_frozen hd.out (o + jn * 2)
      have fj1 := blk_frozen hd.out (o + jn * 2 + 1)
      have d1 : ∀ (W : World) (u v : Value), ((W.setCell ⟨g, o + k * 2, none⟩ u).setCell ⟨g, o + k * 2 + 1, none⟩ v).cell? ⟨g, o + jn * 2, none⟩ = W.cell? ⟨g, o + jn * 2, none⟩ := fun W u v => by
        rw [World.cell?_setCell_other (h := by simp <;> omega), World.cell?_setCell_other (h := by simp <;> omega)]
      have d2 : ∀ (W : World) (u v x : Value), (((W.setCell ⟨g, o + k * 2, none⟩ u).setCell ⟨g, o + k * 2 + 1, none⟩ v).setCell ⟨g, o + jn * 2, none⟩ x).cell? ⟨g, o + jn * 2 + 1, none⟩ = W.cell? ⟨g, o + jn * 2 + 1, none⟩ := fun W u v x => by
        rw [World.cell?_setCell_other (h := by simp), World.cell?_setCell_other (h := by simp <;> omega), World.cell?_setCell_other (h := by simp <;> omega)]
      clear ka kb ja jb hk2 hX hY
      have hrow := blk_set (blk_set (blk_set (blk_set HR.out (o + k * 2) (.int .u64 Y.f0)) (o + k * 2 + 1) (.int .u64 Y.f1)) (o + jn * 2) (.int .u64 X.f0)) (o + jn * 2 + 1) (.int .u64 X.f1)
      have hjk : jn = l.length - 1 - k := by have := HK.out; have := HN.out; omega
      have hset := rowK_set pre post l k (by have := HN.out; omega)
      rw [← hjk, ← HO.out, ← HX.out, ← HY.out] at hset
      rw [hset] at hrow
      have HROW := Aside0.mk hrow
      have hgr := grownBy_trans (grownBy_trans (grownBy_trans (grownBy_trans HG.out (grownBy_setCell wr g (o + k * 2) (.int .u64 Y.f0))) (grownBy_setCell _ g (o + k * 2 + 1) (.int .u64 Y.f1))) (grownBy_setCell _ g (o + jn * 2) (.int .u64 X.f0))) (grownBy_setCell _ g (o + jn * 2 + 1) (.int .u64 X.f1))
      have HGR := Aside0.mk hgr
      clear hset hrow hgr hjk
      go_wp2
      go_region
      go_wp2
      go_roundw
      case rel => exact ⟨k + 1, (jn : Int) - 1, by go_num, rfl, ⟨by have := HK.out; omega, by have := HK.out; omega⟩, ⟨blk_drew HROW.out⟩, ⟨HGR.out.os, HGR.out.tape, HGR.out.output, HGR.out.size, HGR.out.block⟩⟩
      case measure => simp [intOf]; omega
    · have hr : swapK l k = l.reverse := swapK_reverse l k (by have := HK.out; have := HN.out; omega) (by have := HK.out; have := HN.out; omega)
      have HRR := Aside0.mk hr
      have hlt3 : j ≤ (k : Int) := by omega
      clear hr hlt
      go_wp2
      go_end0
      exact ⟨rfl, by rw [HR.out, rowK, HRR.out], HG.out⟩
end Go.Proofs.YtdjfagknffknjaaFmt.H
end

section
namespace Go.Proofs.YtdjfagknffknjaaFmt.H
open Go.RowKit Go.Extern.Stop Go.Stop Go.Extern Go.Proofs.YtdjfagknffknjaaFmtW.PrintWords Go.Proofs.YtdjfagknffknjaaFmtW.PrintLast Go.Proofs.YtdjfagknffknjaaFmtW.PrintMore Go.Proofs.YtdjfagknffknjaaFmt.Q
/-- The cells of a row of nodes are those of its list. -/
theorem reps_enc {w : World} {base : Nat} {ok : Nat → Prop} {l : List S69} {inner : List Value} (h : Reps (k69.M w base ok) 2 l inner) : inner = encN l := by
  apply List.ext_getElem?
  intro i
  have hl := h.1
  have he := encN_length l
  by_cases hi : i < l.length * 2
  · obtain ⟨j, e, hj, he2⟩ : ∃ j e, i = j * 2 + e ∧ e < 2 := ⟨i / 2, i % 2, by omega, by omega⟩
    subst hj
    have hjl : j < l.length := by omega
    have hg : l[j]? = some l[j] := List.getElem?_eq_getElem hjl
    have hM := h.2 j _ hg
    have hc := k69_openM hM
    obtain ⟨h0, h1⟩ := encN_get l j _ hg
    have key : ∀ e, e < 2 → inner[j * 2 + e]? = (([.int .u64 l[j].f0, .int .u64 l[j].f1] : List Value))[e]? := fun e hlt => by
      rw [← hc, List.getElem?_take, if_pos hlt, List.getElem?_drop]
    rw [key e he2]
    match e, he2 with
    | 0, _ => exact h0.symm
    | 1, _ => exact h1.symm
  · rw [List.getElem?_eq_none (by omega), List.getElem?_eq_none (by omega)]
theorem enc_reps (w : World) (base : Nat) (ok : Nat → Prop) (l : List S69) : Reps (k69.M w base ok) 2 l (encN l) := by
  refine ⟨encN_length l, fun j p hj => ?_⟩
  obtain ⟨h0, h1⟩ := encN_get l j p hj
  have hjl : j < l.length := (List.getElem?_eq_some_iff.1 hj).1
  have he := encN_length l
  have : (List.take 2 (List.drop (j * 2) (encN l))) = [.int .u64 p.f0, .int .u64 p.f1] := by
    apply List.ext_getElem?
    intro i
    rw [List.getElem?_take]
    by_cases hi : i < 2
    · rw [if_pos hi, List.getElem?_drop]
      match i, hi with
      | 0, _ => exact h0
      | 1, _ => exact h1
    · rw [if_neg hi, List.getElem?_eq_none (by simp; omega)]
  rw [this]
  exact k69_mkM w base ok p
/-- A row of nodes of one's own: its block. -/
theorem R_row {w : World} {base : Nat} {ok : Nat → Prop} {v : Value} {l : List S69} (h : Kd.R k69 69 w base ok v l) (hp : 0 < l.length) :
    ∃ g cap post, v = .slice (some ⟨g, 0, none⟩) l.length cap ∧ base ≤ g ∧ ok g ∧ l.length ≤ cap ∧ cap ≤ maxLen ∧ w.heap[g]? = some (.cells (encN l ++ post).toArray 69 (0, 0)) ∧ (encN l ++ post).length = cap * 2 := by
  obtain ⟨hok, inner, hown, hr⟩ := h
  have hi := reps_enc hr
  subst hi
  rcases hown.2 with ⟨_, h0⟩ | ⟨g, cap, cur, rfl, hb, hh, hnc, hcm, hcs, htake⟩
  · omega
  refine ⟨g, cap, cur.toList.drop (l.length * 2), rfl, hb, hok g (by simp [Value.ownBlock]), hnc, hcm, ?_, ?_⟩
  · have : encN l ++ cur.toList.drop (l.length * 2) = cur.toList := by
      rw [← htake]; exact List.take_append_drop _ _
    rw [this]; simpa using hh
  · have : encN l ++ cur.toList.drop (l.length * 2) = cur.toList := by
      rw [← htake]; exact List.take_append_drop _ _
    rw [this, Array.length_toList]; exact hcs
theorem row_R {w : World} {base g cap : Nat} {ok : Nat → Prop} {l : List S69} {post : List Value} (hb : base ≤ g) (hok : ok g) (hn : l.length ≤ cap) (hm : cap ≤ maxLen)
    (hh : w.heap[g]? = some (.cells (encN l ++ post).toArray 69 (0, 0))) (hl : (encN l ++ post).length = cap * 2) : Kd.R k69 69 w base ok (.slice (some ⟨g, 0, none⟩) l.length cap) l := by
  refine ⟨fun k hk => ?_, encN l, ⟨encN_length l, .inr ⟨g, cap, _, rfl, hb, hh, hn, hm, (by rw [List.size_toArray]; exact hl), ?_⟩⟩, enc_reps _ _ _ l⟩
  · simp [Value.ownBlock] at hk; subst hk; exact hok
  · exact List.take_left' (encN_length l)
set_option maxRecDepth 100000 in
theorem reverse_nil (A : Option Addr) (c : Nat) (w : World) : Calls Tryf.prog 68 #[.slice A 0 c] w fun e w' => e = .returned (.tuple #[]) ∧ Below w.heap.size w w' := by
  go_enter Tryf.func68, Tryf.ntmps68
  go_wp2
  refine wp_loop_rounds 1 ?_
  rw [rounds_succ]
  go_wp2
  go_end0
  exact ⟨rfl, Below.refl _ _⟩
theorem info69r : (Tryf.prog.info? 69).map (fun i => (i.zero, i.size, i.bytes)) = some (some (.agg #[(.int .u64 0), (.int .u64 0)]), 2, 16) := by kernel_rfl
theorem run_cut69 (A : Option Addr) (n c : Nat) (j : Int) (lo : Nat) (hj : j = lo) (hm : lo ≤ n) (W : World) :
    (Instr.slice 68 (.slice A n c) (some (.int .i64 j)) none none).run Tryf.prog W = .ok (.slice (if c = lo then A else A.map (·.add (lo * 2))) (n - lo) (c - lo)) W := by
  subst hj
  obtain ⟨i0, hi, hz0, hz1, hz2⟩ := info_parts info69r
  have := cut_from (P := Tryf.prog) 68 69 .i64 Tryf.underlying68 hi 2 hz1 A n c (lo : Int) (by omega) (by omega) W
  simpa using this
/-- Turned from lo on. -/
theorem reverse_R (l : List S69) (lo : Nat) (hlo : lo ≤ l.length) (hl : l.length ≤ 1000000) (base : Nat) (ok : Nat → Prop) (A : Option Addr) (c : Nat) (w : World) (h : Kd.R k69 69 w base ok (.slice A l.length c) l) :
    Calls Tryf.prog 68 #[.slice (if c = lo then A else A.map (·.add (lo * 2))) (l.length - lo) (c - lo)] w fun e w' => e = .returned (.tuple #[]) ∧ Kd.R k69 69 w' base ok (.slice A l.length c) (l.take lo ++ (l.drop lo).reverse) ∧
      (∃ row, w.grownBy w' row ∧ ∀ k, row = some k → base ≤ k ∧ ok k) := by
  by_cases he : lo = l.length
  · subst he
    rw [Nat.sub_self]
    refine (reverse_nil _ _ w).mono ?_
    rintro e w' ⟨rfl, hB⟩
    refine ⟨rfl, ?_, none, grown_of_below hB none, fun k hk => by cases hk⟩
    rw [List.drop_length, List.reverse_nil, List.append_nil, List.take_length]
    exact Kd.R_below h hB
  · obtain ⟨g, cap, post, ev, hb, hok, hn, hm, hh, hlen⟩ := R_row h (by omega)
    injection ev with e1 e2 e3
    subst e1 e3
    have hle := encN_length l
    have hsp : encN l ++ post = encN (l.take lo) ++ encN (l.drop lo) ++ post := by rw [← encN_append, List.take_append_drop]
    have hpre : (encN (l.take lo)).length = lo * 2 := by rw [encN_length, List.length_take, Nat.min_eq_left hlo]
    have hadd : (⟨g, 0, none⟩ : Addr).add (lo * 2) = ⟨g, lo * 2, none⟩ := add_plain g (lo * 2)
    rw [if_neg (by omega), Option.map_some, hadd, ← hpre]
    refine (reverse_any g (l.length - lo) (c - lo) (l.drop lo) (encN (l.take lo)) post w (by simp) (by omega) (by rw [hh, hsp]; rfl)).mono ?_
    rintro e w' ⟨rfl, hh', hg⟩
    have hrow : encN (l.take lo ++ (l.drop lo).reverse) ++ post = encN (l.take lo) ++ encN (l.drop lo).reverse ++ post := by rw [encN_append]
    have hlr : (l.take lo ++ (l.drop lo).reverse).length = l.length := by simp; omega
    refine ⟨rfl, ?_, some g, hg, fun k hk => by injection hk with hk; subst hk; exact ⟨hb, hok⟩⟩
    have := row_R (w := w') (base := base) (g := g) (cap := c) (ok := ok) (l := l.take lo ++ (l.drop lo).reverse) (post := post) hb hok (by omega) hm (by rw [hh', hrow]) (by
      have e1 := encN_length (l.take lo ++ (l.drop lo).reverse)
      rw [hlr] at e1
      rw [List.length_append] at hlen ⊢
      omega)
    rwa [hlr] at this
/-- The end of a row of nodes, from lo on. -/
def cut69 (A : Option Addr) (n c lo : Nat) : Value := .slice (if c = lo then A else A.map (·.add (lo * 2))) (n - lo) (c - lo)
theorem run_cut69' (A : Option Addr) (n c lo : Nat) (hm : lo ≤ n) (W : World) :
    (Instr.slice 68 (.slice A n c) (some (.int .i64 (lo : Int))) none none).run Tryf.prog W = .ok (cut69 A n c lo) W := run_cut69 A n c lo lo rfl hm W
theorem reverse_R' (l : List S69) (lo : Nat) (hlo : lo ≤ l.length) (hl : l.length ≤ 1000000) (base : Nat) (ok : Nat → Prop) (A : Option Addr) (c : Nat) (w : World) (h : Kd.R k69 69 w base ok (.slice A l.length c) l) :
    Calls Tryf.prog 68 #[cut69 A l.length c lo] w fun e w' => e = .returned (.tuple #[]) ∧ Kd.R k69 69 w' base ok (.slice A l.length c) (l.take lo ++ (l.drop lo).reverse) ∧
      (∃ row, w.grownBy w' row ∧ ∀ k, row = some k → base ≤ k ∧ ok k) := reverse_R l lo hlo hl base ok A c w h
end Go.Proofs.YtdjfagknffknjaaFmt.H
end
