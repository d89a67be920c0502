/-
  THE STEP TOWARDS THE CARD: whatever the arguments, the law FnResolveNonNameRefIsIdentity returns true and leaves its arguments alone: the tied card 'Rows.FnResolveNonNameRefIsIdentityCardSaid'. No condition of ours; the three tables that the row lists are laid in the witness alone, the walk reads none.
-/
import Derived.Test.YthihppocokkoiaaDoorLw5
import Derived.Test.YthihppocokkoiaaDoorOpen
namespace Go.Proofs.YthihppocokkoiaaDoor
set_option linter.unusedVariables false
open Go.ChangeShapes Go.WideShapes Go.ChangeAt Go.RowKit
open Go.ChangeMaps (open_string shut_string)

set_option maxRecDepth 100000 in
/-- a slice of whole numbers, as the walk wants it -/
theorem ints_of {H : Type} {enc : TypeId × Value → H} {W : World} {v : Value} {d : DataW H} {p : List MemPlace} {base : Nat} (hv : Value.okWide Tryd.prog W .any base 32 v) (h : DataW.Trod enc Tryd.prog W 0 (fun _ => true) true 32 v d p) (hlt : ∀ x ∈ p, x.block < W.heap.size) :
    ∃ (a : Option Addr) (c : Nat) (X : List Int), v = .slice a X.length c ∧ Ints W (.slice a X.length c) X := by
  obtain ⟨a0, len, cap, rfl⟩ := okWide_slice Tryd.underlying32 hv
  obtain ⟨fuel, hf⟩ := h
  rcases open_ints Tryd.underlying32 Tryd.underlying3 (show Tryd.prog.cellsOf 3 = 1 by kernel_rfl) hf with ⟨hcs, hx⟩ | ⟨a, len', cap', ss, hcs, _, hl, hm, hz, hx, hcell, hws⟩
  · simp only [Value.cells, List.cons.injEq, and_true, Value.slice.injEq] at hcs
    obtain ⟨rfl, rfl, rfl⟩ := hcs
    exact ⟨none, 0, [], rfl, none, 0, rfl, fun h => absurd rfl h⟩
  · simp only [Value.cells, List.cons.injEq, and_true, Value.slice.injEq] at hcs
    obtain ⟨rfl, rfl, rfl⟩ := hcs
    have hlen : (ss.take len).length = len := by
      have hz' : ss.length = cap := by simpa using hz
      rw [List.length_take]; omega
    refine ⟨some a, cap, ss.take len, by rw [hlen], some a, cap, rfl, fun hne => ?_⟩
    have hpos : 0 < len := by rw [← hlen]; exact List.length_pos_iff.2 hne
    have hz' : ss.length = cap := by simpa using hz
    have h0 := hcell 0 (by omega)
    have hsp : a.spot = none := World.cell?_spot (by simpa [Addr.add] using h0)
    have hlta : a.block < W.heap.size := hlt (.cell a.block (a.off + 0)) (by rw [(Prod.mk.inj hx).2]; exact List.mem_map.2 ⟨0, List.mem_range.2 (by omega), rfl⟩)
    refine ⟨a.block, a.off, by cases a; simp_all, hlta, fun j hj => ?_⟩
    rw [hlen] at hj
    have hj2 := hcell j (by omega)
    have e1 : a.add j = ⟨a.block, a.off + j, none⟩ := by
      cases a
      simp only at hsp
      subst hsp
      by_cases c : j = 0 <;> simp [Addr.add, c]
    rw [e1] at hj2
    rw [hj2]
    simp [List.getD, hj]

set_option maxRecDepth 100000 in
set_option maxHeartbeats 2000000 in
theorem lifted5 (os : Os) (started : os.Started) (H : Type) (enc : TypeId × Value → H) :
    ReturnsInHanded {} Tryd.checked os 5 .any (fun w args => (Rows.fnResolveNonNameRefIsIdentitySpec.pre enc Tryd.prog Tryd.f5 Rows.fnResolveNonNameRefIsIdentityRow.domain false w args ∧ laidMetH Tryd.prog Rows.fnResolveNonNameRefIsIdentityRow.laid w) ∧ sizedMet enc Tryd.prog Tryd.f5 (OpenSpec.ofChange Rows.fnResolveNonNameRefIsIdentitySpec) false w args)
      (Rows.fnResolveNonNameRefIsIdentitySpec.post enc Tryd.prog Tryd.f5 false true false false) := by
  refine returnsInHanded_of_change_and (C := Tryd.checked) (X := fun w _ => laidMetH Tryd.prog Rows.fnResolveNonNameRefIsIdentityRow.laid w) (fun _ _ _ hh h => h.of_heap hh) own started (by kernel_rfl) Tryd.func5
    (ChangeSpec.witness_shaped (enc := enc) (C := Tryd.checked) (os := os) (X := fun w _ => laidMetH Tryd.prog Rows.fnResolveNonNameRefIsIdentityRow.laid w) false (World.laidAll Tryd.prog os Rows.fnResolveNonNameRefIsIdentityRow.laid) #[.slice none 0 0, .bool false, .bool false, .bool false, .bool false, .int .u8 0, .string ⟨#[]⟩, .slice none 0 0, .slice none 0 0, .slice none 0 0, .slice none 0 0, .bool false] 8 (World.laidAll_os _ _ _)
      (World.shaped_of_ZipB (by kernel_rfl) (by kernel_rfl)) (by kernel_rfl) (by kernel_rfl) (by kernel_rfl)
      (by rw [MakeChecks.laidMetH_plain _ _ _ (by kernel_rfl)]; exact laidMet_laidAll _ (by kernel_rfl) (by kernel_rfl))) ?_
  intro W base args ds gs before hval0 hW _ _ hL _
  have hval : ∀ (j : Nat) t v, Tryd.f5.params[j]? = some t → args[j]? = some v → Value.okWide Tryd.prog W .any base t v := hval0
  have hW' := hW
  obtain ⟨p, q, hA0, hV, rfl, _, _⟩ := hW
  have hA : DataW.TrodAll enc Tryd.prog W 0 (fun _ => true) true Tryd.f5.params.toList args.toList ds p := hA0
  rw [Tryd.params5] at hA hval
  obtain ⟨v0, r0, d0, e0, p0, q0, hargs, rfl, rfl, h0, t0⟩ := trodAll_cons hA
  obtain ⟨v1, r1, d1, e1, p1, q1, rfl, rfl, rfl, h1, t1⟩ := trodAll_cons t0
  obtain ⟨v2, r2, d2, e2, p2, q2, rfl, rfl, rfl, h2, t2⟩ := trodAll_cons t1
  obtain ⟨v3, r3, d3, e3, p3, q3, rfl, rfl, rfl, h3, t3⟩ := trodAll_cons t2
  obtain ⟨v4, r4, d4, e4, p4, q4, rfl, rfl, rfl, h4, t4⟩ := trodAll_cons t3
  obtain ⟨v5, r5, d5, e5, p5, q5, rfl, rfl, rfl, h5, t5⟩ := trodAll_cons t4
  obtain ⟨v6, r6, d6, e6, p6, q6, rfl, rfl, rfl, h6, t6⟩ := trodAll_cons t5
  obtain ⟨v7, r7, d7, e7, p7, q7, rfl, rfl, rfl, h7, t7⟩ := trodAll_cons t6
  obtain ⟨v8, r8, d8, e8, p8, q8, rfl, rfl, rfl, h8, t8⟩ := trodAll_cons t7
  obtain ⟨v9, r9, d9, e9, p9, q9, rfl, rfl, rfl, h9, t9⟩ := trodAll_cons t8
  obtain ⟨v10, r10, d10, e10, p10, q10, rfl, rfl, rfl, h10, t10⟩ := trodAll_cons t9
  obtain ⟨v11, r11, d11, e11, p11, q11, rfl, rfl, rfl, h11, t11⟩ := trodAll_cons t10
  obtain ⟨rfl, rfl, rfl⟩ := trodAll_nil t11
  obtain rfl : args = #[v0, v1, v2, v3, v4, v5, v6, v7, v8, v9, v10, v11] := by cases args; simp_all
  obtain ⟨rfl, rfl⟩ := trodVars_none hV
  clear hA0 hval0
  simp only [List.append_nil] at hW'
  have hltA : ∀ x ∈ p0 ++ (p1 ++ (p2 ++ (p3 ++ (p4 ++ (p5 ++ (p6 ++ (p7 ++ (p8 ++ (p9 ++ (p10 ++ (p11))))))))))), x.block < W.heap.size := fun x hx => hW'.lt x (by simpa using hx)
  have hlt0 : ∀ x ∈ p0, x.block < W.heap.size := fun x hx => hltA x (by simp [hx])
  have k0 := fun (W' : World) (hb : Below W.heap.size W W') => Below.trod laidOut (by kernel_rfl) (of_decide_eq_true (by kernel_rfl)) h0 hb hlt0
  obtain ⟨a0, c0, P0, rfl, hT0⟩ := texts_of (hval 0 22 v0 rfl rfl) h0 hlt0
  obtain ⟨b1, rfl, rfl, rfl⟩ := open_bool Tryd.underlying4 (hval 1 4 v1 rfl rfl) h1
  obtain ⟨b2, rfl, rfl, rfl⟩ := open_bool Tryd.underlying4 (hval 2 4 v2 rfl rfl) h2
  obtain ⟨b3, rfl, rfl, rfl⟩ := open_bool Tryd.underlying4 (hval 3 4 v3 rfl rfl) h3
  obtain ⟨b4, rfl, rfl, rfl⟩ := open_bool Tryd.underlying4 (hval 4 4 v4 rfl rfl) h4
  obtain ⟨n5, rfl, rfl, rfl, wn5⟩ := open_int Tryd.underlying5 (hval 5 5 v5 rfl rfl) h5
  have wr5 : 0 ≤ n5 ∧ n5 ≤ 255 := by have h := wn5; simp [Lit.wf, IntKind.min, IntKind.max, IntKind.signed, IntKind.bits] at h; omega
  obtain ⟨m5, rfl⟩ : ∃ m : Nat, n5 = m := ⟨n5.toNat, by omega⟩
  obtain ⟨s6, rfl, rfl, rfl, hs6⟩ := open_string Tryd.underlying9 (hval 6 9 v6 rfl rfl) h6
  have hlt7 : ∀ x ∈ p7, x.block < W.heap.size := fun x hx => hltA x (by simp [hx])
  have k7 := fun (W' : World) (hb : Below W.heap.size W W') => Below.trod laidOut (by kernel_rfl) (of_decide_eq_true (by kernel_rfl)) h7 hb hlt7
  obtain ⟨a7, c7, P7, rfl, hT7⟩ := texts_of (hval 7 22 v7 rfl rfl) h7 hlt7
  have hlt8 : ∀ x ∈ p8, x.block < W.heap.size := fun x hx => hltA x (by simp [hx])
  have k8 := fun (W' : World) (hb : Below W.heap.size W W') => Below.trod laidOut (by kernel_rfl) (of_decide_eq_true (by kernel_rfl)) h8 hb hlt8
  obtain ⟨a8, c8, X8, rfl, hT8⟩ := ints_of (hval 8 32 v8 rfl rfl) h8 hlt8
  have hlt9 : ∀ x ∈ p9, x.block < W.heap.size := fun x hx => hltA x (by simp [hx])
  have k9 := fun (W' : World) (hb : Below W.heap.size W W') => Below.trod laidOut (by kernel_rfl) (of_decide_eq_true (by kernel_rfl)) h9 hb hlt9
  obtain ⟨a9, c9, P9, rfl, hT9⟩ := texts_of (hval 9 22 v9 rfl rfl) h9 hlt9
  have hlt10 : ∀ x ∈ p10, x.block < W.heap.size := fun x hx => hltA x (by simp [hx])
  have k10 := fun (W' : World) (hb : Below W.heap.size W W') => Below.trod laidOut (by kernel_rfl) (of_decide_eq_true (by kernel_rfl)) h10 hb hlt10
  obtain ⟨a10, c10, P10, rfl, hT10⟩ := texts_of (hval 10 22 v10 rfl rfl) h10 hlt10
  obtain ⟨b11, rfl, rfl, rfl⟩ := open_bool Tryd.underlying4 (hval 11 4 v11 rfl rfl) h11
  refine (law5 a0 c0 P0 b1 b2 b3 b4 m5 s6 a7 c7 P7 a8 c8 X8 a9 c9 P9 a10 c10 P10 b11 W hT0 hT7 hT8 hT9 hT10 (by omega)).mono fun e W' ⟨he, bel⟩ => ?_
  subst he
  exact ⟨_, rfl, _, _, _, [], _, [], hW', trodAll_mk1 (shut_bool Tryd.underlying4 _), trodAll_cons_mk (k0 W' bel) (trodAll_cons_mk (shut_bool Tryd.underlying4 _) (trodAll_cons_mk (shut_bool Tryd.underlying4 _) (trodAll_cons_mk (shut_bool Tryd.underlying4 _) (trodAll_cons_mk (shut_bool Tryd.underlying4 _) (trodAll_cons_mk (shut_int Tryd.underlying5 wn5) (trodAll_cons_mk (shut_string Tryd.underlying9 hs6) (trodAll_cons_mk (k7 W' bel) (trodAll_cons_mk (k8 W' bel) (trodAll_cons_mk (k9 W' bel) (trodAll_cons_mk (k10 W' bel) (trodAll_mk1 (shut_bool Tryd.underlying4 _)))))))))))), rfl, bel.frame _, fun h => by cases h⟩

end Go.Proofs.YthihppocokkoiaaDoor
