/-
  The walk of FnSpacePadPadsToColumn: its cases joined. Conditions: those in each theorem.
-/
import Derived.Test.YtonhphjejlidiaaL12z
import Derived.Test.YtonhphjejlidiaaL12t10
import Derived.Test.YtonhphjejlidiaaL12t11
import Derived.Test.YtonhphjejlidiaaL12t12
import Derived.Test.YtonhphjejlidiaaL12t00
import Derived.Test.YtonhphjejlidiaaL12t02
import Derived.Test.YtonhphjejlidiaaL12f10
import Derived.Test.YtonhphjejlidiaaL12f11
import Derived.Test.YtonhphjejlidiaaL12f12
import Derived.Test.YtonhphjejlidiaaL12f00
import Derived.Test.YtonhphjejlidiaaL12f02
namespace Go.Proofs.Ytonhphjejlidiaa
set_option linter.unusedVariables false
open Go.Shelf Go.RowKit Go.Lib

set_option maxRecDepth 20000 in
set_option maxHeartbeats 16000000 in
theorem law12 (x0 : Int) (s : ByteArray) (x2 x3 x4 : Int) (h0 : (Lit.int .u64 x0).wf = true) (h2 : (Lit.int .u8 x2).wf = true) (h3 : (Lit.int .u32 x3).wf = true) (h4 : (Lit.int .u32 x4).wf = true) (w : World) :
    Calls Try.prog 12 #[.int .u64 x0, .string s, .int .u8 x2, .int .u32 x3, .int .u32 x4] w fun e w' => e = .returned (.bool true) ∧ Below w.heap.size w w' := by
  obtain ⟨ind, rfl, ha⟩ := wf_u64 h0
  obtain ⟨n, rfl, hn⟩ := wf_u8 h2
  obtain ⟨line, rfl, hc⟩ := wf_u32 h3
  obtain ⟨col, rfl, hd⟩ := wf_u32 h4
  have hni : (n : Int) ≤ 255 := by omega
  have hlii : (line : Int) ≤ 4294967295 := by omega
  have hcoi : (col : Int) ≤ 4294967295 := by omega
  by_cases c0 : (1048576 : Int) < (s.size : Int)
  · go_enter Try.func12, Try.ntmps12
    go_wp2
    all_goals (go_ret; exact ⟨rfl, Below.refl _ _⟩)
  by_cases c1 : (65536 : Int) < (s.size : Int)
  · go_enter Try.func12, Try.ntmps12
    go_wp2
    all_goals (go_ret; exact ⟨rfl, Below.refl _ _⟩)
  by_cases c2 : (2 : Int) < (n : Int)
  · go_enter Try.func12, Try.ntmps12
    go_wp2
    all_goals (go_ret; exact ⟨rfl, Below.refl _ _⟩)
  by_cases c3 : (262143 : Int) < (line : Int)
  · go_enter Try.func12, Try.ntmps12
    go_wp2
    all_goals (go_ret; exact ⟨rfl, Below.refl _ _⟩)
  by_cases c4 : (16383 : Int) < (col : Int)
  · go_enter Try.func12, Try.ntmps12
    go_wp2
    all_goals (go_ret; exact ⟨rfl, Below.refl _ _⟩)
  obtain ⟨lc, hor, hlc, hmod⟩ := or_pos line col (by omega) (by omega)
  obtain ⟨⟨C, L⟩, hCL⟩ : ∃ q, addL (1, true) s.data.toList = q := ⟨_, rfl⟩
  have hC1 : 1 ≤ C := by have := addL_pos s.data.toList (1, true) (Nat.le_refl 1); rw [hCL] at this; exact this
  cases L
  · by_cases h1 : n = 1
    · subst h1
      rw [show ((1 : Nat) : Int) = 1 from rfl]
      by_cases k0 : col ≤ C
      · exact law12f10 ind s line col lc w (by omega) ha (by omega) (by omega) hor hlc hmod C hCL k0
      · by_cases k1 : col = C + 1
        · exact law12f11 ind s line col lc w (by omega) ha (by omega) (by omega) hor hlc hmod C hCL (by omega)
        · exact law12f12 ind s line col lc w (by omega) ha (by omega) (by omega) hor hlc hmod C hCL (by omega)
    · by_cases k0 : col ≤ C
      · exact law12f00 ind s n line col lc w (by omega) ha (by omega) (by omega) hor hlc hmod C hCL (by omega) h1 k0
      · exact law12f02 ind s n line col lc w (by omega) ha (by omega) (by omega) hor hlc hmod C hCL (by omega) h1 (by omega)
  · by_cases hz : ind = 0
    · exact law12z ind s n line col lc w (by omega) ha (by omega) (by omega) hor hlc hmod C hCL (by omega) hz
    · by_cases h1 : n = 1
      · subst h1
        rw [show ((1 : Nat) : Int) = 1 from rfl]
        by_cases k0 : col ≤ C
        · exact law12t10 ind s line col lc w (by omega) ha (by omega) (by omega) hor hlc hmod C hCL hz k0
        · by_cases k1 : col = C + 1
          · exact law12t11 ind s line col lc w (by omega) ha (by omega) (by omega) hor hlc hmod C hCL hz (by omega)
          · exact law12t12 ind s line col lc w (by omega) ha (by omega) (by omega) hor hlc hmod C hCL hz (by omega)
      · by_cases k0 : col ≤ C
        · exact law12t00 ind s n line col lc w (by omega) ha (by omega) (by omega) hor hlc hmod C hCL hz (by omega) h1 k0
        · exact law12t02 ind s n line col lc w (by omega) ha (by omega) (by omega) hor hlc hmod C hCL hz (by omega) h1 (by omega)
end Go.Proofs.Ytonhphjejlidiaa
