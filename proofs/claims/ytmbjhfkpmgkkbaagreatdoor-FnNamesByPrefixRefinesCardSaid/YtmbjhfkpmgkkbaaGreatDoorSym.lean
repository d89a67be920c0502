/-
  symMergeCmpFunc at every two runs, by induction on their length: the row ends merged. Conditions: at most 2 to the 30 elements, both runs rise, the comparison reads and orders by the keys.
-/
import Derived.Test.YtmbjhfkpmgkkbaaGreatDoorSymB
import Derived.Test.YtmbjhfkpmgkkbaaGreatDoorSymS
namespace Go.Proofs.YtmbjhfkpmgkkbaaGreatDoor
set_option linter.unusedVariables false
open Go.Shelf Go.RowKit Go.Lib Go.Sort
variable {α κ : Type} [Inhabited α] [DecidableEq κ]

theorem symMerge_s {klt : κ → κ → Prop} {key : α → κ} (O : Stb.KO klt) (enc : α → Value) (cf : α → α → Int) (hcf : ∀ x y, cf x y < 0 ↔ klt (key x) (key y)) (g : Nat) (cb : Array Value) (blk off cap : Nat) (d0 : Array α) (w0 : World)
    (eg : ∀ args w, (callFunc g args).run Tryz.prog w = .ok (.enter g args) w) (hcmp : CmpLays1 Tryz.prog g cb enc cf blk off d0.size w0) (R : Row1 enc w0 blk off d0) (hsz : d0.size ≤ 1073741824) :
    ∀ (N a m b : Nat) (d : Array α) (W : World), b - a ≤ N → a < m → m < b → b ≤ d0.size → d.size = d0.size → Stb.Srt klt key d a m → Stb.Srt klt key d m b → SW enc w0 blk off d W →
      Calls Tryz.prog 34 #[.slice (some ⟨blk, off, none⟩) d0.size cap, .int .i64 a, .int .i64 m, .int .i64 b, .func (.func g) #[] cb] W fun e w' => e = .returned (.tuple #[]) ∧ Merged klt key enc w0 blk off d a b w' := by
  intro N
  induction N with
  | zero => intro a m b d W h1 h2 h3; exfalso; omega
  | succ N ih =>
    intro a m b d W h1 h2 h3 h4 h5 s1 s2 hS
    by_cases c1 : m = a + 1
    · have := sym_left O enc cf hcf g cb blk off cap a m b d0 d w0 W eg hcmp R h5.symm hS c1 h3 (by omega) (by omega) s2
      rw [h5] at this; exact this
    · by_cases c2 : b = m + 1
      · have := sym_right O enc cf hcf g cb blk off cap a m b d0 d w0 W eg hcmp R h5.symm hS h2 c1 c2 (by omega) (by omega) s1
        rw [h5] at this; exact this
      · have IH : ∀ (a' m' b' : Nat) (d' : Array α) (W : World), b' - a' < b - a → a' < m' → m' < b' → b' ≤ d.size → d'.size = d.size → Stb.Srt klt key d' a' m' → Stb.Srt klt key d' m' b' → SW enc w0 blk off d' W →
            Calls Tryz.prog 34 #[.slice (some ⟨blk, off, none⟩) d.size cap, .int .i64 a', .int .i64 m', .int .i64 b', .func (.func g) #[] cb] W fun e w' => e = .returned (.tuple #[]) ∧ Merged klt key enc w0 blk off d' a' b' w' := by
          intro a' m' b' d' W' k1 k2 k3 k4 k5 k6 k7 k8
          rw [h5]
          exact ih a' m' b' d' W' (by omega) k2 k3 (by omega) (by omega) k6 k7 k8
        by_cases c3 : (a + b) / 2 < m
        · have := sym_big O enc cf hcf g cb blk off cap a m b d0 d w0 W eg hcmp R h5.symm hS h2 c1 h3 c2 (by omega) (by omega) s1 s2 c3 IH
          rw [h5] at this; exact this
        · have := sym_small O enc cf hcf g cb blk off cap a m b d0 d w0 W eg hcmp R h5.symm hS h2 c1 h3 c2 (by omega) (by omega) s1 s2 (by omega) IH
          rw [h5] at this; exact this
end Go.Proofs.YtmbjhfkpmgkkbaaGreatDoor
