/-
  A slice of texts that came in, as the walks want it, and what every card of this seat shares. No condition.
-/
import Derived.Test.YtmbjhfkpmgkkbaaGreatDoorLe2
import Derived.Test.YtmbjhfkpmgkkbaaGreatDoorCards
import Derived.Test.YtmbjhfkpmgkkbaaGreatDoorTie
import Derived.ProofKit
import Derived.OpenShut
import Derived.LaidMore
import Derived.Lay
import Derived.SevenTiedAt
import Derived.Stop.Joined
import Derived.ShutString
import Derived.SliceStrings
namespace Go.Proofs.YtmbjhfkpmgkkbaaGreatDoor
set_option linter.unusedVariables false
open Go.ChangeShapes Go.WideShapes Go.ChangeAt Go.RowKit
open Go.ChangeMaps (open_string shut_string)

theorem own : ownKnob Tryz.prog.godebug = none := by kernel_rfl
theorem laidOut : laidOutB Tryz.prog = true := by kernel_rfl
theorem cells9 : Tryz.prog.cellsOf 9 = 1 := by kernel_rfl

set_option maxRecDepth 100000 in
/-- a slice of texts, as the walk wants it -/
theorem texts_of {H : Type} {enc : TypeId × Value → H} {W : World} {v : Value} {d : DataW H} {p : List MemPlace} {base : Nat} (hv : Value.okWide Tryz.prog W .any base 22 v) (h : DataW.Trod enc Tryz.prog W 0 (fun _ => true) true 22 v d p) (hlt : ∀ x ∈ p, x.block < W.heap.size) :
    ∃ (a : Option Addr) (c : Nat) (P : List ByteArray), v = .slice a P.length c ∧ Texts W (.slice a P.length c) P := by
  obtain ⟨a0, len, cap, rfl⟩ := okWide_slice Tryz.underlying22 hv
  obtain ⟨fuel, hf⟩ := h
  rcases open_strings Tryz.underlying22 Tryz.underlying9 cells9 hf with ⟨hcs, hx⟩ | ⟨a, len', cap', ss, hcs, _, hl, hm, hz, hx, hcell, hws⟩
  · simp only [Value.cells, List.cons.injEq, and_true, Value.slice.injEq] at hcs
    obtain ⟨rfl, rfl, rfl⟩ := hcs
    exact ⟨none, 0, [], rfl, none, 0, rfl, fun h => absurd rfl h⟩
  · simp only [Value.cells, List.cons.injEq, and_true, Value.slice.injEq] at hcs
    obtain ⟨rfl, rfl, rfl⟩ := hcs
    have hlen : (ss.take len).length = len := by
      have hz' : ss.length = cap := by simpa using hz
      rw [List.length_take]; omega
    refine ⟨some a, cap, ss.take len, by rw [hlen], some a, cap, rfl, fun hne => ?_⟩
    have hpos : 0 < len := by rw [← hlen]; exact List.length_pos_iff.2 hne
    have hz' : ss.length = cap := by simpa using hz
    have h0 := hcell 0 (by omega)
    have hsp : a.spot = none := World.cell?_spot (by simpa [Addr.add] using h0)
    have hlta : a.block < W.heap.size := hlt (.cell a.block (a.off + 0)) (by rw [(Prod.mk.inj hx).2]; exact List.mem_map.2 ⟨0, List.mem_range.2 (by omega), rfl⟩)
    refine ⟨a.block, a.off, by cases a; simp_all, hlta, fun j hj => ?_⟩
    rw [hlen] at hj
    have hj2 := hcell j (by omega)
    have e1 : a.add j = ⟨a.block, a.off + j, none⟩ := by
      cases a
      simp only at hsp
      subst hsp
      by_cases c : j = 0 <;> simp [Addr.add, c]
    rw [e1] at hj2
    rw [hj2]
    simp [List.getD, hj]

end Go.Proofs.YtmbjhfkpmgkkbaaGreatDoor

