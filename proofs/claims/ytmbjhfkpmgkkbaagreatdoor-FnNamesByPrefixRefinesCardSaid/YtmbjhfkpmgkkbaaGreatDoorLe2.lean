/-
  listEnviron_, case-sensitive, at no pair, and at every list of pairs. Conditions: at most 2 to the 20 pairs, each of at most 2 to the 30 bytes.
-/
import Derived.Test.YtmbjhfkpmgkkbaaGreatDoorLe
namespace Go.Proofs.YtmbjhfkpmgkkbaaGreatDoor
set_option linter.unusedVariables false
open Go.Shelf Go.RowKit Go.Lib Go.Sort

theorem env_nilList : Envp.Env [] [] := ⟨fun _ h => (List.not_mem_nil h).elim, List.Pairwise.nil, fun _ => rfl⟩

set_option maxHeartbeats 1000000 in
/-- at a slice of no element: what Clone hands back goes through -/
theorem env_empty (a : Option Addr) (c : Nat) (w : World) (CL : Hid (Calls Tryz.prog 16 #[.slice a 0 c] w fun e w' => ∃ a' c', e = .returned (.slice a' 0 c') ∧ c' ≤ maxLen ∧ Below w.heap.size w w')) :
    Calls Tryz.prog 14 #[.bool false, .slice a 0 c] w (EnvOut w []) := by
  go_enter Tryz.func14, Tryz.ntmps14
  go_wp2_with (go_at_call 16; go_must (refine CL.out.mono ?_); rintro e w1 ⟨a', c', rfl, hm, hb⟩)
  have HB := Lib.hid hb
  have hs := hb.size
  clear hb CL
  go_wp2_with (go_at_call 17; go_must (refine (sort_empty _ _ _ _).mono ?_); rintro e w2 ⟨rfl, rfl⟩)
  have HE : Hid (∀ W sv, Below w.heap.size w W → sv = Value.slice a' 0 c' → EnvOut w [] (.returned (.iface 56 (.agg #[.bool false, sv]))) W) :=
    fun W sv h e => ⟨sv, [], rfl, env_nilList, h, a', c', by rw [e]; rfl, Nat.zero_le _, hm, fun h => absurd rfl h⟩
  go_loopg [5, 7, 8] 0 (fun g1 vl vs vi wr => vl = .slice a' 0 c' ∧ vs = .string ⟨#[]⟩ ∧ vi = .int .i64 0 ∧ Hid (wr = w1.alloc (.cells #[.bool false, .slice none 0 0] 56)))
  case atStart => exact ⟨rfl, rfl, by go_num, rfl⟩
  case round =>
    obtain ⟨rfl, rfl, rfl, HW⟩ := hrel
    have c0 : wr.cell? ⟨w1.heap.size, 0, none⟩ = some (.bool false) := by rw [HW.out]; simp
    have c1 : wr.cell? ⟨w1.heap.size, 1, none⟩ = some (.slice none 0 0) := by rw [HW.out]; simp
    have f1 : wr.frozen? ⟨w1.heap.size, 1, none⟩ = false := by rw [HW.out]; simp
    have hbw : Hid (Below w.heap.size w wr) := by rw [HW.out]; exact HB.out.alloc hs _
    clear HW
    go_wp2
    go_ret
    exact HE.out _ _ (hbw.out.setCell (by exact hs) _) rfl

theorem env_nil (n c : Nat) (w : World) : Calls Tryz.prog 14 #[.bool false, .slice none 0 c] w (EnvOut w []) :=
  env_empty none c w ((Tryz.slices_Clone_string_nil 0 c w).mono fun e w' ⟨he, hw⟩ => ⟨none, 0, he, Nat.zero_le _, by rw [hw]; exact Below.refl _ _⟩)

theorem env_zero (a : Addr) (c : Nat) (w : World) : Calls Tryz.prog 14 #[.bool false, .slice (some a) 0 c] w (EnvOut w []) :=
  env_empty (some a) c w ((Tryz.slices_Clone_string_zero a c w).mono fun e w' ⟨v', he, ho, hn, hb⟩ => by
    rcases ho.2 with ⟨e0, _⟩ | ⟨g, cap, cur, hv, _, _, _, hm, _⟩
    · exact absurd e0 hn
    · exact ⟨some ⟨g, 0, none⟩, cap, by rw [he, hv], hm, hb⟩)

/-- what a slice of texts holds -/
def Texts (w : World) (v : Value) (P : List ByteArray) : Prop :=
  ∃ a c, v = .slice a P.length c ∧ (P ≠ [] → ∃ b off, a = some ⟨b, off, none⟩ ∧ b < w.heap.size ∧ ∀ j, j < P.length → w.cell? ⟨b, off + j, none⟩ = some (.string (P.getD j ByteArray.empty)))

theorem env_any (v : Value) (P : List ByteArray) (w : World) (hv : Texts w v P) (hP : ∀ s ∈ P, s.size ≤ 1073741824) (hn : P.length ≤ 1048576) :
    Calls Tryz.prog 14 #[.bool false, v] w (EnvOut w (P.map (·.data.toList))) := by
  obtain ⟨a, c, rfl, h1⟩ := hv
  by_cases hp : P = []
  · subst hp
    cases a with
    | none => exact env_nil 0 c w
    | some x => exact env_zero x c w
  · obtain ⟨b, off, rfl, _, hc⟩ := h1 hp
    exact env_ne b off c P w hP (List.length_pos_iff.2 hp) hn hc
end Go.Proofs.YtmbjhfkpmgkkbaaGreatDoor
