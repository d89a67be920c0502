/-
  The walk of spacePad in all its cases, and of the exported spacedString and spacedToken. Conditions: those in each theorem.
-/
import Derived.Test.YtonhphjejlidiaaN47
namespace Go.Proofs.Ytonhphjejlidiaa
set_option linter.unusedVariables false
open Go.Shelf Go.RowKit Go.Lib

/-- how many spaces spacePad writes -/
def padN (kp : Bool) (f : PF) (c : Nat) : Nat := if f.ls = true ∧ f.ind = 0 then 0 else padK f + padM kp f c
/-- the fields behind it -/
def padF (kp : Bool) (f : PF) (c : Nat) : PF := if f.ls = true ∧ f.ind = 0 then f else stepL kp (pad1 kp f) (List.replicate (padM kp f c) 32)

theorem sp1 (out : List UInt8) (m : Nat) : out ++ List.replicate (1 + m) 32 = out ++ [32] ++ List.replicate m 32 := by
  rw [Nat.add_comm, List.replicate_succ]; simp

theorem pad54 (B b k r p tw : Nat) (kp : Bool) (out : List UInt8) (f : PF) (v : Value) (lc c : Nat) (w : World) (h : PS B b k r p tw kp out f v w) (hF : kp = false → f.ls = false ∧ f.col = 0) (hT : kp = true → 1 ≤ f.col) (hc : f.col + 16400 ≤ 1073741824) (hws : f.ws ≤ 2) (hl : out.length + 1 + 16384 + 4096 ≤ 1073741824) (hlc : lc ≤ 4294967295) (hcd : c = lc % 16384) :
    Calls Try.prog 54 #[.pointer (some ⟨p, 0, none⟩), .agg #[.int .u32 0, .int .u32 lc]] w (PDone B b k r p tw kp (out ++ List.replicate (padN kp f c) 32) (padF kp f c) v w) := by
  by_cases hz : f.ls = true ∧ f.ind = 0
  · have h1 := pad54z B b k r p tw kp out f v 0 lc w h hz.1 hz.2
    unfold padN padF
    rw [if_pos hz, if_pos hz, List.replicate_zero, List.append_nil]
    exact h1
  · unfold padN padF
    rw [if_neg hz, if_neg hz]
    cases kp
    · obtain ⟨a1, a2⟩ := hF rfl
      have e : padM false f c = 0 := rfl
      rw [e, List.replicate_zero, stepL_nil]
      by_cases hw : f.ws = 1
      · unfold padK pad1
        rw [if_pos hw, if_pos hw]
        exact pad54F1 B b k r p tw out f v 0 lc w h a1 a2 hw (by omega) hlc
      · unfold padK pad1
        rw [if_neg hw, if_neg hw, List.replicate_zero, List.append_nil]
        exact pad54F0 B b k r p tw out f v 0 lc w h a1 a2 hw hws (by omega) hlc
    · by_cases hw : f.ws = 1
      · have h1 := pad54T1 B b k r p tw out (out ++ [32]) f { stepF true f 32 with ws := 2 } v 0 lc c w h hz (hT rfl) hc hw hl hlc hcd rfl rfl
        unfold padM padK pad1
        rw [if_pos hw, if_pos hw, if_pos rfl, sp1]
        exact h1
      · have h1 := pad54T0 B b k r p tw out out f f v 0 lc c w h hz (hT rfl) hc hw hws hl hlc hcd rfl rfl
        unfold padM padK pad1
        rw [if_neg hw, if_neg hw, if_pos rfl, Nat.zero_add]
        exact h1

/-- the laws' configuration: its fields behind the prefix -/
theorem cfgF_facts (mini single kp : Bool) (ind lev line ws : Nat) (t : ByteArray) :
    (cfgF mini single kp ind lev line ws t).ws = ws ∧ (cfgF mini single kp ind lev line ws t).ind = ind ∧ (cfgF mini single kp ind lev line ws t).mini = mini ∧ (cfgF mini single kp ind lev line ws t).line = line ∧ (cfgF mini single kp ind lev line ws t).level = lev ∧ (cfgF mini single kp ind lev line ws t).last = 0
    ∧ (kp = false → (cfgF mini single kp ind lev line ws t).ls = false ∧ (cfgF mini single kp ind lev line ws t).col = 0)
    ∧ (kp = true → (cfgF mini single kp ind lev line ws t).col = (addL (1, true) t.data.toList).1 ∧ (cfgF mini single kp ind lev line ws t).ls = (addL (1, true) t.data.toList).2) := by
  cases kp
  · exact ⟨rfl, rfl, rfl, rfl, rfl, rfl, fun _ => ⟨rfl, rfl⟩, (fun h => by cases h)⟩
  · exact ⟨rfl, rfl, rfl, rfl, rfl, rfl, (fun h => by cases h), fun _ => ⟨rfl, rfl⟩⟩

theorem padM_le (kp : Bool) (f : PF) (c : Nat) : padM kp f c ≤ c := by
  unfold padM; cases kp <;> simp
theorem padK_le (f : PF) : padK f ≤ 1 := by unfold padK; split <;> omega
theorem padN_le (kp : Bool) (f : PF) (c : Nat) : padN kp f c ≤ 1 + c := by
  unfold padN
  have h1 := padM_le kp f c
  have h2 := padK_le f
  split <;> omega
theorem pad1_col (kp : Bool) (f : PF) : (pad1 kp f).col ≤ f.col + 1 := by
  unfold pad1
  split
  · cases kp
    · exact Nat.le_succ _
    · show (stepF true f 32).col ≤ _
      rw [step32']
      exact Nat.le_refl _
  · exact Nat.le_succ _
theorem padF_col (kp : Bool) (f : PF) (c : Nat) : (padF kp f c).col ≤ f.col + 1 + c := by
  unfold padF
  have h1 := padM_le kp f c
  have h2 := pad1_col kp f
  split
  · omega
  · rw [stepL_spaces]
    cases kp
    · show (pad1 false f).col ≤ _; omega
    · show (pad1 true f).col + padM true f c ≤ _; omega
theorem cfgF_col (mini single kp : Bool) (ind lev line ws : Nat) (t : ByteArray) : (cfgF mini single kp ind lev line ws t).col ≤ t.size + 2 := by
  obtain ⟨_, _, _, _, _, _, h1, h2⟩ := cfgF_facts mini single kp ind lev line ws t
  cases kp
  · rw [(h1 rfl).2]; omega
  · rw [(h2 rfl).1]
    have h3 := addL_le t.data.toList (1, true)
    have e : t.data.toList.length = t.size := by simp
    simp only at h3
    omega

/-- what an exported call hands back -/
def ZSt (w : World) (out : List UInt8) (f : PF) (e : Ending) (w' : World) : Prop := e = .returned (outS out f) ∧ Below w.heap.size w w'

/-- the world at an exported call's start: the configuration, the result, the buffer -/
structure Start3 (w : World) (w0 W : World) : Prop where
  size : w0.heap.size = w.heap.size + 2
  ptr : w.heap.size + 1 + 1 = w0.heap.size
  below : Below w.heap.size w w0
  res : w0.heap[w.heap.size + 1]? = some (.cells #[.string ⟨#[]⟩, .int .u64 0, .int .u64 0, .int .u8 0, .bool false, .bool false] 27 (0, 0))
  buf : W.heap[w0.heap.size]? = some (.cells #[.slice none 0 0, .int .i64 0, .int .i8 0] 67 (0, 0))
  bel : Below w0.heap.size w0 W
theorem start3 (w : World) (o : Obj) : Start3 w ((w.alloc o).alloc (.cells #[.string ⟨#[]⟩, .int .u64 0, .int .u64 0, .int .u8 0, .bool false, .bool false] 27)) (((w.alloc o).alloc (.cells #[.string ⟨#[]⟩, .int .u64 0, .int .u64 0, .int .u8 0, .bool false, .bool false] 27)).alloc (.cells #[.slice none 0 0, .int .i64 0, .int .i8 0] 67)) := by
  have n2 := heap_alloc_new (w.alloc o) (.cells #[.string ⟨#[]⟩, .int .u64 0, .int .u64 0, .int .u8 0, .bool false, .bool false] 27)
  rw [show (w.alloc o).heap.size = w.heap.size + 1 by simp] at n2
  exact ⟨by simp, by simp, ((Below.refl _ _).alloc (Nat.le_refl _) _).alloc (by simp) _, n2, heap_alloc_new _ _, (Below.refl _ _).alloc (Nat.le_refl _) _⟩
/-- the result's block is written at the end -/
theorem res_below {w w0 w4 w5 : World} (hs : w0.heap.size = w.heap.size + 2) (h0 : Below w.heap.size w w0) (h4 : Below w0.heap.size w0 w4) (h5 : Wr1 (w.heap.size + 1) w4 w5) : Below w.heap.size w w5 :=
  ⟨h5.os.trans (h4.os.trans h0.os), h5.tape.trans (h4.tape.trans h0.tape), h5.output.trans (h4.output.trans h0.output), by have := h4.size; have := h5.size; omega, fun i hi => (h5.block i (by omega)).trans ((h4.block i (by omega)).trans (h0.block i hi))⟩
end Go.Proofs.Ytonhphjejlidiaa
