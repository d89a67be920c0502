/-
  PROVED HERE: whatever the arguments, the law FnLevelScriptInvariant returns true and leaves its arguments alone: the statement 'Rows.FnLevelScriptInvariantSaid'. No condition of ours.
-/
import Derived.Test.YtopaaaacbegmnaaLv7
import Derived.Test.YtopaaaacbegmnaaRows
import Derived.WalkKit
import Derived.ProofKit
import Derived.OpenShut
import Derived.ShutString
import Derived.LaidMore
import Derived.Lay
import Derived.ChangeSlices
namespace Go.Proofs.Ytopaaaacbegmnaa
set_option linter.unusedVariables false
open Go.ChangeShapes Go.WideShapes Go.ChangeAt Go.RowKit
open Go.ChangeMaps (open_string shut_string)

theorem own3 : ownKnob Try.prog.godebug = none := by kernel_rfl
theorem laidOut : laidOutB Try.prog = true := by kernel_rfl

def boolOf {H : Type} (y : DataW H × List MemPlace) : Bool := match y.1 with | .lit (.bool b) => b | _ => false
theorem boolOf_mk {H : Type} (b : Bool) (ps : List MemPlace) : boolOf ((.lit (.bool b), ps) : DataW H × List MemPlace) = b := rfl
theorem addr_at {W : World} {a : Addr} {v : Value} (h : W.cell? a = some v) : a = ⟨a.block, a.off, none⟩ := by
  have := World.cell?_spot h
  cases a
  simp only at this
  subst this
  rfl
theorem lt_cell {W : World} {a : Addr} {v : Value} (h : W.cell? a = some v) : a.block < W.heap.size := by
  unfold World.cell? at h
  cases hb : W.heap[a.block]? with
  | none => rw [hb] at h; cases h
  | some o => exact (Array.getElem?_eq_some_iff.1 hb).1
theorem add_at (b off j : Nat) : (⟨b, off, none⟩ : Addr).add j = ⟨b, off + j, none⟩ := by
  by_cases c : j = 0 <;> simp [Addr.add, c]

set_option maxRecDepth 100000 in
/-- a slice of truth values, as the walk wants it -/
theorem bools_of {H : Type} {enc : TypeId × Value → H} {W : World} {v : Value} {d : DataW H} {p : List MemPlace} {base : Nat} (hv : Value.okWide Try.prog W .any base 23 v) (h : DataW.Trod enc Try.prog W 0 (fun _ => true) true 23 v d p) (hlt : ∀ x ∈ p, x.block < W.heap.size) :
    ∃ (a : Option Addr) (c : Nat) (bs : List Bool), v = .slice a bs.length c ∧ BoolsAt W a bs ∧ (a = none → bs = []) ∧ bs.length ≤ maxLen := by
  obtain ⟨a0, len, cap, rfl⟩ := okWide_slice Try.underlying23 hv
  obtain ⟨fuel, hf⟩ := h
  have hc : Try.prog.cellsOf 4 = 1 := by kernel_rfl
  rcases DataW.trod_slice Try.underlying23 hf with ⟨hcs, _⟩ | ⟨a, len', cap', elems, rest, n, _, hcs, hx, _, hl, hm, hlen, hel, _⟩
  · simp only [Value.cells, List.cons.injEq, and_true, Value.slice.injEq] at hcs
    obtain ⟨rfl, rfl, rfl⟩ := hcs
    exact ⟨none, 0, [], rfl, fun h => absurd rfl h, fun _ => rfl, Nat.zero_le _⟩
  · simp only [Value.cells, List.cons.injEq, and_true, Value.slice.injEq] at hcs
    obtain ⟨rfl, rfl, rfl⟩ := hcs
    have hln : (elems.map boolOf).length = len := by rw [List.length_map]; exact hlen
    refine ⟨some a, cap, elems.map boolOf, by rw [hln], fun hne => ?_, (fun h => by cases h), by omega⟩
    have each : ∀ j, j < len → W.cell? (a.add j) = some (.bool ((elems.map boolOf).getD j false)) := by
      intro j hj
      have hE := hel j hj
      rw [hc, Nat.mul_one, List.getElem?_eq_getElem (by omega), Option.bind_eq_some_iff] at hE
      obtain ⟨cs, hcs, hy⟩ := hE
      obtain ⟨b, rfl, e⟩ := DataW.trod_bool Try.underlying4 hy
      rw [cell_of_cells?_one hcs]
      have : (elems.map boolOf).getD j false = b := by
        have h1 : j < elems.length := by omega
        simp only [List.getD, List.getElem?_map, List.getElem?_eq_getElem h1, Option.map_some, Option.getD_some]
        rw [e]; rfl
      rw [this]
    have hpos : 0 < len := by rw [← hln]; exact List.length_pos_iff.2 hne
    have e0 := each 0 hpos
    have ea0 : a.add 0 = a := by simp [Addr.add]
    rw [ea0] at e0
    have ea := addr_at e0
    have hbl : a.block < W.heap.size := lt_cell e0
    refine ⟨a.block, a.off, by rw [← ea], hbl, fun j hj => ?_⟩
    have := each j (by omega)
    rw [ea, add_at] at this
    exact this
set_option maxRecDepth 100000 in
/-- a slice of bytes, as the walk wants it -/
theorem bytes_of {H : Type} {enc : TypeId × Value → H} {W : World} {v : Value} {d : DataW H} {p : List MemPlace} {base : Nat} (hv : Value.okWide Try.prog W .any base 24 v) (h : DataW.Trod enc Try.prog W 0 (fun _ => true) true 24 v d p) (hlt : ∀ x ∈ p, x.block < W.heap.size) :
    ∃ (a : Option Addr) (c : Nat) (xs : List Int), v = .slice a xs.length c ∧ BytesAt W a xs ∧ xs.length ≤ maxLen := by
  obtain ⟨a0, len, cap, rfl⟩ := okWide_slice Try.underlying24 hv
  obtain ⟨fuel, hf⟩ := h
  rcases open_ints Try.underlying24 Try.underlying5 (show Try.prog.cellsOf 5 = 1 by kernel_rfl) hf with ⟨hcs, hx⟩ | ⟨a, len', cap', ss, hcs, _, hl, hm, hz, hx, hcell, hws⟩
  · simp only [Value.cells, List.cons.injEq, and_true, Value.slice.injEq] at hcs
    obtain ⟨rfl, rfl, rfl⟩ := hcs
    exact ⟨none, 0, [], rfl, fun h => absurd rfl h, Nat.zero_le _⟩
  · simp only [Value.cells, List.cons.injEq, and_true, Value.slice.injEq] at hcs
    obtain ⟨rfl, rfl, rfl⟩ := hcs
    have hz' : ss.length = cap := by simpa using hz
    have hlen : (ss.take len).length = len := by rw [List.length_take]; omega
    refine ⟨some a, cap, ss.take len, by rw [hlen], fun hne => ?_, by omega⟩
    have hpos : 0 < len := by rw [← hlen]; exact List.length_pos_iff.2 hne
    have e0 := hcell 0 (by omega)
    have ea0 : a.add 0 = a := by simp [Addr.add]
    rw [ea0] at e0
    have ea := addr_at e0
    refine ⟨a.block, a.off, by rw [← ea], lt_cell e0, fun j hj => ?_⟩
    rw [hlen] at hj
    have hj2 := hcell j (by omega)
    have hg : (ss.take len).getD j 0 = ss.getD j 0 := by simp [List.getD, hj]
    have hw := hws (ss.getD j 0) (by
      have h1 : j < ss.length := by omega
      simp only [List.getD, List.getElem?_eq_getElem h1, Option.getD_some]
      exact List.getElem_mem h1)
    have hr : 0 ≤ ss.getD j 0 ∧ ss.getD j 0 < 256 := by
      generalize ss.getD j 0 = z at hw ⊢
      simp only [Lit.wf, IntKind.min, IntKind.max, IntKind.signed, IntKind.bits] at hw
      simp at hw
      omega
    rw [ea, add_at] at hj2
    rw [hg]
    exact ⟨hj2, hr.1, hr.2⟩

set_option maxRecDepth 100000 in
theorem lifted3 (os : Os) (started : os.Started) (H : Type) (enc : TypeId × Value → H) :
    ReturnsInHanded {} Try.checked os 3 .any (Rows.fnLevelScriptInvariantSpec.pre6 enc Try.prog Try.f3 Rows.fnLevelScriptInvariantRow.domain false) (Rows.fnLevelScriptInvariantSpec.post enc Try.prog Try.f3 false true false false) := by
  refine returnsInHanded_of_change (C := Try.checked) own3 started (by kernel_rfl) Try.func3
    (ChangeSpec.witness6 (enc := enc) (C := Try.checked) false ⟨#[], #[.int .u64 0, .int .u64 0, .slice none 0 0, .slice none 0 0], []⟩ 8 (by kernel_rfl) (by kernel_rfl) (by kernel_rfl) (by kernel_rfl)) ?_
  intro W base args ds gs before hval0 hW hcnd _
  have hval : ∀ (j : Nat) t v, Try.f3.params[j]? = some t → args[j]? = some v → Value.okWide Try.prog W .any base t v := hval0
  have hW' := hW
  obtain ⟨p, q, hA0, hV, rfl, hfz, hnd⟩ := hW
  have hA : DataW.TrodAll enc Try.prog W 0 (fun _ => true) true Try.f3.params.toList args.toList ds p := hA0
  rw [Try.params3] at hA hval
  obtain ⟨v0, vs0, d0, ds0, p0, q0, hargs, rfl, rfl, h0, r0⟩ := trodAll_cons hA
  obtain ⟨v1, vs1, d1, ds1, p1, q1, rfl, rfl, rfl, h1, r1⟩ := trodAll_cons r0
  obtain ⟨v2, vs2, d2, ds2, p2, q2, rfl, rfl, rfl, h2, r2⟩ := trodAll_cons r1
  obtain ⟨v3, vs3, d3, ds3, p3, q3, rfl, rfl, rfl, h3, r3⟩ := trodAll_cons r2
  obtain ⟨rfl, rfl, rfl⟩ := trodAll_nil r3
  obtain rfl : args = #[v0, v1, v2, v3] := by cases args; simp_all
  obtain ⟨rfl, rfl⟩ := trodVars_none hV
  clear hA0 hval0
  simp only [List.append_nil] at hW'
  have hltA : ∀ x ∈ p0 ++ (p1 ++ (p2 ++ (p3))), x.block < W.heap.size := fun x hx => hW'.lt x (by simpa using hx)
  obtain ⟨x0, rfl, rfl, rfl, w0⟩ := open_int Try.underlying22 (hval 0 22 v0 rfl rfl) h0
  obtain ⟨x1, rfl, rfl, rfl, w1⟩ := open_int Try.underlying22 (hval 1 22 v1 rfl rfl) h1
  have hlt2 : ∀ x ∈ p2, x.block < W.heap.size := fun x hx => hltA x (by simp [hx])
  have hlt3 : ∀ x ∈ p3, x.block < W.heap.size := fun x hx => hltA x (by simp [hx])
  have k2 := fun (W' : World) (hb : Below W.heap.size W W') => Below.trod laidOut (by kernel_rfl) (of_decide_eq_true (by kernel_rfl)) h2 hb hlt2
  have k3 := fun (W' : World) (hb : Below W.heap.size W W') => Below.trod laidOut (by kernel_rfl) (of_decide_eq_true (by kernel_rfl)) h3 hb hlt3
  obtain ⟨a2, c2, bs, rfl, hb, hb0, hbl⟩ := bools_of (hval 2 23 v2 rfl rfl) h2 hlt2
  obtain ⟨a3, c3, xs, rfl, hx, hxl⟩ := bytes_of (hval 3 24 v3 rfl rfl) h3 hlt3
  have wr0 : 0 ≤ x0 ∧ x0 < 18446744073709551616 := by have h := w0; simp [Lit.wf, IntKind.min, IntKind.max, IntKind.signed, IntKind.bits] at h; omega
  have wr1 : 0 ≤ x1 ∧ x1 < 18446744073709551616 := by have h := w1; simp [Lit.wf, IntKind.min, IntKind.max, IntKind.signed, IntKind.bits] at h; omega
  obtain ⟨m0, rfl⟩ : ∃ m : Nat, x0 = m := ⟨x0.toNat, by omega⟩
  obtain ⟨m1, rfl⟩ : ∃ m : Nat, x1 = m := ⟨x1.toNat, by omega⟩
  refine (law3 m0 m1 a2 c2 bs a3 c3 xs W (by omega) (by omega) hb hb0 hx (by unfold maxLen at hbl; omega) (by unfold maxLen at hxl; omega)).mono fun e W' ⟨he, bel⟩ => ?_
  subst he
  exact ⟨_, rfl, _, _, _, [], _, [], hW', trodAll_mk1 (shut_bool Try.underlying4 _), (trodAll_cons_mk (shut_int Try.underlying22 w0) (trodAll_cons_mk (shut_int Try.underlying22 w1) (trodAll_cons_mk (k2 W' bel) (trodAll_mk1 (k3 W' bel))))), rfl, bel.frame _, fun h => by cases h⟩

theorem said3 : Rows.FnLevelScriptInvariantSaid :=
  OpenClaim.holds_of_wide 3 Try.f3 rfl rfl rfl rfl rfl rfl rfl ⟨rfl, rfl, rfl, rfl, rfl⟩ rfl rfl rfl rfl rfl (by kernel_rfl) Try.func3 (by kernel_rfl)
    (of_decide_eq_true (by kernel_rfl)) (by unfold Func.isWrapper; first | (rw [if_pos (by decide +kernel)]; kernel_rfl) | (rw [if_neg (by decide +kernel)]; exact ⟨rfl, rfl⟩))
    (fun os started H enc _ => lifted3 os started H enc)
#print axioms said3
end Go.Proofs.Ytopaaaacbegmnaa
