/-
  The walk of namesByPrefix over a list environment: the names that begin with the prefix, sorted. Conditions: those in each theorem.
-/
import Derived.Test.YtmbjhfkpmgkkbaaGreatDoorEa
import Derived.Test.YtmbjhfkpmgkkbaaGreatDoorNpP
import Derived.Test.YtmbjhfkpmgkkbaaGreatDoorShelf2
import Derived.Sort.OwnSorted
import Derived.Maps.AppendAt
namespace Go.Proofs.YtmbjhfkpmgkkbaaGreatDoor
set_option linter.unusedVariables false
open Go.Shelf Go.RowKit Go.Lib Go.Sort
attribute [local go_sem] Oper.semAt_some

theorem info9z : (Tryz.prog.info? 9).map (fun i => (i.zero, i.size, i.bytes)) = some (some (.string ⟨#[]⟩), 1, 16) := by kernel_rfl
theorem method97 (sv : Value) (W : World) : (method (Tryz.prog.types.size + Made.depth) 56 (.agg #[.bool false, sv]) "Each").run Tryz.prog W = .ok (97, .agg #[.bool false, sv]) W := by kernel_rfl

/-- the names of the pairs that begin with p, in order -/
def keep (p : List UInt8) (pre : List (List UInt8)) : List (List UInt8) := (pre.map Envp.nameOf).filter (fun x => p.isPrefixOf x)
theorem keep_hit {p x : List UInt8} (pre : List (List UInt8)) (h : p.isPrefixOf (Envp.nameOf x) = true) : keep p (pre ++ [x]) = keep p pre ++ [Envp.nameOf x] := by simp [keep, h]
theorem keep_miss {p x : List UInt8} (pre : List (List UInt8)) (h : p.isPrefixOf (Envp.nameOf x) = false) : keep p (pre ++ [x]) = keep p pre := by simp [keep, h]
theorem keep_len (p : List UInt8) (pre : List (List UInt8)) : (keep p pre).length ≤ pre.length := Nat.le_trans (List.length_filter_le _ _) (by simp)

/-- a slice of its own row, as texts -/
theorem texts_own {w : World} {B : Nat} {v : Value} {ts : List (List UInt8)} (h : w.ownsRow B 9 1 v ts.length (ts.map encStr)) : Texts w v (ts.map fun x => ⟨x.toArray⟩) := by
  rcases h.2 with ⟨rfl, h0⟩ | ⟨g, cap, cur, rfl, hB, hg, h1, h2, h3, h4⟩
  · obtain rfl := List.length_eq_zero_iff.1 h0
    exact ⟨none, 0, rfl, fun h => absurd rfl h⟩
  · refine ⟨some ⟨g, 0, none⟩, cap, by simp, fun _ => ⟨g, 0, rfl, (Array.getElem?_eq_some_iff.1 hg).1, fun j hj => ?_⟩⟩
    have hj' : j < ts.length := by simpa using hj
    have := (holds_of_block (ss := ts) hg (by simpa using h4) j (by simpa using hj')).1
    rw [this, getElem!_pos ts.toArray j (by simpa using hj')]
    simp [List.getD, hj']

theorem own_weak {w : World} {B B0 e size n : Nat} {v : Value} {xs : List Value} (h : w.ownsRow B e size v n xs) (hb : B0 ≤ B) : w.ownsRow B0 e size v n xs := by
  refine ⟨h.1, ?_⟩
  rcases h.2 with hr | ⟨g, cap, cur, hv, hg, r⟩
  · exact .inl hr
  · exact .inr ⟨g, cap, cur, hv, Nat.le_trans hb hg, r⟩

theorem sort24 (B : Nat) (v : Value) (ss : List (List UInt8)) (w : World) (h : w.ownsRow B 9 1 v ss.length (ss.map encStr)) (hnil : v = .slice none 0 0 ↔ ss = []) (hn : ss.length ≤ 1073741824) :
    Calls Tryz.prog 24 #[v] w fun e w' => e = .returned (.tuple #[]) ∧ w'.ownsRow B 9 1 v ss.length ((ss.mergeSort Nbp.leS).map encStr) ∧ w.grownBy w' v.ownBlock := by
  rcases h.2 with ⟨rfl, h0⟩ | ⟨g, cap, cur, rfl, hB, hg, h1, h2, h3, h4⟩
  · obtain rfl := List.length_eq_zero_iff.1 h0
    refine (Any.slices_Sort_string_none Tryz.lays190 none 0 w).mono fun e w' ⟨he, hw⟩ => ⟨he, ?_, ?_⟩
    · rw [hw, List.mergeSort_nil]; exact World.ownsRow_nil _ _ _ _
    · rw [hw]; exact ⟨rfl, rfl, rfl, Nat.le_refl _, fun _ _ _ => rfl⟩
  · refine (Any.slices_Sort_string Tryz.lays190 g 0 cap ss w (holds_of_block hg (by simpa using h4)) (Array.getElem?_eq_some_iff.1 hg).1 (by omega)).mono fun e w' ⟨he, n, os, hw⟩ => ⟨he, ?_, ?_⟩
    · rw [hw]
      exact ownsRow_sorted (ss := ss) (by simp) hB hg h1 h2 h3
    · rw [hw]; exact grownBy_sorted _

/-- what namesByPrefix hands back -/
def NamesOut (w : World) (R : List (List UInt8)) (p : List UInt8) (e : Ending) (w' : World) : Prop :=
  ∃ v, e = .returned v ∧ Texts w' v ((Nbp.named R p).map fun x => ⟨x.toArray⟩) ∧ (v = .slice none 0 0 ↔ Nbp.named R p = []) ∧ Below w.heap.size w w'

set_option maxRecDepth 100000 in
set_option maxHeartbeats 8000000 in
theorem names15 (g B : Nat) (sv : Value) (R : List (List UInt8)) (p : ByteArray) (w : World) (hc : w.cell? ⟨g, 0, none⟩ = some (.iface 56 (.agg #[.bool false, sv]))) (hgw : g < w.heap.size) (hR : RowAt w B sv R) (hv : ∀ y ∈ R, Envp.valid y = true) (hlen : ∀ y ∈ R, y.length ≤ 1073741824) (hn : R.length ≤ 1048576) :
    Calls Tryz.prog 15 #[.pointer (some ⟨g, 0, none⟩), .string p] w (NamesOut w R p.data.toList) := by
  obtain ⟨i0, hi, hz0, hz1, hz2⟩ := info_parts info9z
  refine (callsIn_wide (n := 3)).1 ?_
  refine callsIn_of_wp_marks Tryz.func15 rfl trivial ?_ rfl
  simp only [Tryz.ntmps15, List.size_toArray, List.length_cons, List.length_nil, Nat.reduceAdd, Nat.reduceSub, Array.replicate_succ, Array.replicate_zero, List.push_toArray, List.append_toArray, List.nil_append, List.cons_append]
  gi_wp2
  have bP := (Boxed.new w 9 (.string p)).alloc (.cells #[.slice none 0 0] 22)
  have bN := Boxed.new (w.alloc (.cells #[.string p] 9)) 22 (.slice none 0 0)
  rw [World.size_alloc] at bN
  have hB0 : Below w.heap.size w ((w.alloc (.cells #[.string p] 9)).alloc (.cells #[.slice none 0 0] 22)) := ((Below.refl _ w).alloc (Nat.le_refl _) _).alloc (by simp) _
  refine wp_range_method (m := 1) rfl (method97 sv) (enters_of Tryz.func97 (by kernel_rfl) rfl) (encs := encV) (fun x => rfl) (by simp; omega) (each97 1 B sv R w _ hR hB0 hv hlen (by omega))
    (fun pre W => (Boxed W w.heap.size 9 (.string p) ∧ ∃ v, Boxed W (w.heap.size + 1) 22 v ∧ W.ownsRow (w.heap.size + 2) 9 1 v (keep p.data.toList pre).length ((keep p.data.toList pre).map encStr) ∧ (v = .slice none 0 0 ↔ keep p.data.toList pre = [])) ∧ Below w.heap.size w W)
    (OwnFrom.and (OwnFrom.and (Own.from (boxed_own w.heap.size 9 (fun _ => .string p)) _) (Own.from (holdsRow_own (w.heap.size + 2) (w.heap.size + 1) 22 9 1 (fun pre => (keep p.data.toList pre).length) (fun pre => (keep p.data.toList pre).map encStr) (fun pre v => v = .slice none 0 0 ↔ keep p.data.toList pre = [])) _)) (ownFrom_below (Nat.le_refl _) (by simp; omega)))
    ⟨⟨bP, _, bN, World.ownsRow_nil _ _ _ _, by simp [keep]⟩, hB0⟩
    (fun x => { tmps := #[.pointer (some ⟨g, 0, none⟩), .string p, undef, .pointer (some ⟨w.heap.size, 0, none⟩), .slice none 0 0, .pointer (some ⟨w.heap.size + 1, 0, none⟩), .string (nameB x), .pointer (some ⟨g, 0, none⟩), .pointer (some ⟨g, 0, none⟩), .pointer (some ⟨g, 0, none⟩), .iface 56 (.agg #[.bool false, sv]), .iface 56 (.agg #[.bool false, sv]), .func (.method "Each") #[.iface 56 (.agg #[.bool false, sv])] #[], .string (nameB x), .agg #[.bool true, .bool false, .bool true, .bool false, .int .u8 1, .string (valB x), .slice none 0 0, .map none, .slice none 0 0], undef, undef, undef, undef, undef, undef, undef, undef, undef, undef], defers := [] }) ?assign ?body ?done
  case assign =>
    intro l x W K hK
    dsimp only [encV]
    gi_wp2
    exact hK
  case body =>
    rintro l pre x W ⟨⟨hbp, v, hv2, hrow, hnil⟩, hB⟩ hpre
    have hc0 := hbp.cell
    have hc1 := hv2.cell
    have hkl := keep_len p.data.toList pre
    have hpl : pre.length + 1 ≤ R.length := by have := hpre.length_le; simpa using this
    have HK := Lib.hid (And.intro hbp (And.intro hv2 (And.intro hrow (And.intro hnil hB))))
    gi_wp2_with (first
      | (refine ⟨trivial, ?_⟩; gi_at_call 23; refine (CallsIn.inRound l (callsIn_wide.2 (Any.strings_HasPrefix Tryz.lays99 (nameB x) p _))).mono ?_; rintro e w' ⟨rfl, hw'⟩; subst w')
      | (gi_at_builtin; refine wpListIn_append_own _ rfl _ _ 22 rfl (w.heap.size + 2) 9 i0 (.string ⟨#[]⟩) 1 16 Tryz.underlying22 hi hz0 hz1 hz2 rfl (by decide) _ _ _ rfl (hrow.alloc _) ⟨W.heap.size, 0, none⟩ 1 1 [.string (nameB x)] rfl rfl (cell_one_new _ _ _) (by simp [Value.oneCell']) (by unfold maxLen; omega) (by omega) (by have := hv2.lt; simp; omega) ?_; intro v' w1 hown' hgrow _; obtain ⟨g', cap', rfl⟩ := ownsRow_succ hown'; obtain ⟨hv1, hv3, _, hk2, hb2⟩ := hv2.appended (by decide) (own_weak hrow (B0 := w.heap.size) (by omega)) hB.size (by omega) (own_weak hown' (by omega)) hgrow; have hbp2 := ((hbp.alloc (.cells #[.string (nameB x)] 9)).kept hgrow (fun e => by have := (hrow.lt _ e.symm).1; omega)).other (B' := w.heap.size + 1) (by omega) (.slice (some ⟨g', 0, none⟩) ((keep p.data.toList pre).length + 1) cap'); have hr2 : (w1.setCell ⟨w.heap.size + 1, 0, none⟩ (.slice (some ⟨g', 0, none⟩) ((keep p.data.toList pre).length + 1) cap')).ownsRow (w.heap.size + 2) 9 1 (.slice (some ⟨g', 0, none⟩) ((keep p.data.toList pre).length + 1) cap') ((keep p.data.toList pre).length + 1) ((keep p.data.toList pre).map encStr ++ [.string (nameB x)]) := hown'.kept (grownBy_setCell' w1 _ _) (.inr (fun e => by have := (hown'.lt _ e).1; omega)); have hc2 := hv1.cell; have hf2 := hv1.frozen))
    · have hx : hasPrefix (nameB x).data.toList p.data.toList = true := by assumption
      have hx2 : p.data.toList.isPrefixOf (Envp.nameOf x) = true := hx
      refine ⟨hk2, hb2, ⟨hbp2, _, hv3, ?_, ?_⟩, hB.trans hb2⟩
      · rw [keep_hit pre hx2, List.length_append, List.map_append]; exact hr2
      · rw [keep_hit pre hx2]; simp
    · have hx : hasPrefix (nameB x).data.toList p.data.toList = false := by assumption
      have hx2 : p.data.toList.isPrefixOf (Envp.nameOf x) = false := hx
      refine ⟨KeepsOthers.refl _, Below.refl _ _, ⟨hbp, v, hv2, ?_, ?_⟩, hB⟩
      · rw [keep_miss pre hx2]; exact hrow
      · rw [keep_miss pre hx2]; exact hnil
  case done =>
    rintro D W hD ⟨⟨hbp, v, hv2, hrow, hnil⟩, hB⟩ hK
    have hc1 := hv2.cell
    have hkl := keep_len p.data.toList R
    have hD' : w.heap.size + 1 + 1 ≤ D := by simpa using hD
    have hvr := hv2.not_row (by decide) hrow
    have hDr : some D ≠ v.ownBlock := fun e => by
      rcases hrow.2 with ⟨rfl, _⟩ | ⟨g, cap, cur, rfl, _, hgb, _⟩
      · cases e
      · injection e with e
        have hgb' : W.heap[D]? = some (.cells cur 9 (0, 0)) := by rw [e]; exact hgb
        rw [hK] at hgb'; cases hgb'
    have S24 := Lib.hid (sort24 (w.heap.size + 2) v (keep p.data.toList R) W hrow hnil (by omega))
    have HK := Lib.hid (And.intro hv2 (And.intro hB (And.intro hK (And.intro hvr hDr))))
    have HNIL := Lib.hid hnil
    have HRO : Hid (∀ j, some j = v.ownBlock → w.heap.size + 2 ≤ j) := Lib.hid fun j e => (hrow.lt _ e.symm).1
    clear hv2 hB hK hvr hDr hrow hnil hbp hc hR hv hlen bP bN hB0
    gi_wp2_with (refine ⟨trivial, ?_⟩; gi_at_call 24; refine (callsIn_wide.2 S24.out).mono ?_; rintro e w2 ⟨rfl, hr2, hg2⟩; have hv3 := HK.out.1.kept hg2 HK.out.2.2.2.1; have hc2 := hv3.cell)
    have hK2 : w2.heap[D]? = some (.deferred (some [])) := (hg2.block D (Array.getElem?_eq_some_iff.1 HK.out.2.2.1).1 HK.out.2.2.2.2).trans HK.out.2.2.1
    refine ⟨by simp, .inl ⟨_, _, rfl, run_takeDeferred hK2, ?_⟩⟩
    have hr3 := ownsRow_putObj hr2 (.deferred none) hK2 rfl
    rw [← List.length_mergeSort (keep p.data.toList R) (le := Nbp.leS)] at hr3
    have hB2 : Below w.heap.size w w2 := HK.out.2.1.grown hg2 HK.out.2.1.size (fun j e => by have := HRO.out j e.symm; omega)
    refine ⟨_, results_tmp rfl _ _ _, v, rfl, texts_own hr3, ?_, hB2.trans (belowK_b (w := w) (Nat.le_refl _) w2 D _ _ (by omega) hK2 rfl rfl)⟩
    rw [HNIL.out]
    show keep p.data.toList R = [] ↔ (keep p.data.toList R).mergeSort Nbp.leS = []
    rw [← List.length_eq_zero_iff, ← List.length_eq_zero_iff, List.length_mergeSort]

set_option maxRecDepth 20000 in
theorem door9 (g B : Nat) (sv : Value) (R : List (List UInt8)) (p : ByteArray) (w : World) (hc : w.cell? ⟨g, 0, none⟩ = some (.iface 56 (.agg #[.bool false, sv]))) (hgw : g < w.heap.size) (hR : RowAt w B sv R) (hv : ∀ y ∈ R, Envp.valid y = true) (hlen : ∀ y ∈ R, y.length ≤ 1073741824) (hn : R.length ≤ 1048576) :
    Calls Tryz.prog 9 #[.pointer (some ⟨g, 0, none⟩), .string p] w (NamesOut w R p.data.toList) := by
  have N15 := Lib.hid (names15 g B sv R p w hc hgw hR hv hlen hn)
  clear hc hR hv hlen hn
  go_enter Tryz.func9, Tryz.ntmps9
  go_wp2_with (go_at_call 15; refine N15.out.mono ?_; rintro e w2 ⟨v, rfl, hT, hnil, hB⟩; have HI := Lib.hid (And.intro hT (And.intro hnil hB)); clear hT hnil hB N15)
  go_ret
  exact ⟨v, rfl, HI.out.1, HI.out.2.1, HI.out.2.2⟩
end Go.Proofs.YtmbjhfkpmgkkbaaGreatDoor
