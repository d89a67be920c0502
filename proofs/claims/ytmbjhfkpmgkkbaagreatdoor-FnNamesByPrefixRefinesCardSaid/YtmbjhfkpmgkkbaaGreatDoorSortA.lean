/-
  The walks of swapRangeCmpFunc and rotateCmpFunc at elements of one cell: the row ends holding the exchange and the rotation. Condition: at most 2 to the 30 elements, the places within the row.
-/
import Derived.Test.YtmbjhfkpmgkkbaaGreatDoorProg
import Derived.Test.YtmbjhfkpmgkkbaaGreatDoorSortP
import Derived.Shelf.SlSortCmp.Kit1
import Derived.Sort.WalkA
import Derived.Sort.WalkB2
import Derived.Sort.WalkB12
import Derived.Deep.LoopGhost
import Derived.WalkKit
import Derived.Lib.Hide
import Derived.Deep.DeepMust
import Derived.WalkSpells
namespace Go.Proofs.YtmbjhfkpmgkkbaaGreatDoor
set_option linter.unusedVariables false
open Go.Shelf Go.RowKit Go.Lib Go.Sort
variable {α : Type} [Inhabited α]

set_option maxHeartbeats 4000000 in
set_option maxRecDepth 100000 in
theorem swapRange_s (enc : α → Value) (blk off cap a b n : Nat) (d0 d : Array α) (w0 w : World) (fv : Value)
    (R : Row1 enc w0 blk off d0) (hs : d0.size = d.size) (S : SW enc w0 blk off d w) (hab : a + n ≤ b) (hb : b + n ≤ d.size) (hsz : d.size ≤ 1073741824) :
    Calls Tryz.prog 69 #[.slice (some ⟨blk, off, none⟩) d.size cap, .int .i64 a, .int .i64 b, .int .i64 n, fv] w fun e w' => e = .returned (.tuple #[]) ∧ SW enc w0 blk off (Stb.swapRange d a b n) w' := by
  have hcl0 := R.hO.cells
  simp only [Value.cells] at hcl0
  have hst := R.hO.store Tryz.prog
  have S0 : Aside (SW enc w0 blk off d w) := S
  clear S
  go_enter Tryz.func69, Tryz.ntmps69
  go_wp2
  go_loopg [10] n (fun g1 vi wr => ∃ i : Nat, vi = .int .i64 i ∧ i ≤ n ∧ n - i ≤ g1 ∧ Aside (SW enc w0 blk off (Stb.swapRange d a b i) wr))
  case atStart => exact ⟨0, by go_num, by omega, by omega, S0⟩
  case round =>
    clear S0
    obtain ⟨i, rfl, hin, hg1, S1⟩ := hrel
    obtain ⟨di, hdi⟩ : ∃ x, x = Stb.swapRange d a b i := ⟨_, rfl⟩
    have hdz : di.size = d.size := by rw [hdi]; exact Stb.size_swapRange _ _ _ _
    rw [← hdi] at S1
    have HDI := Lib.hid hdi
    have HDZ := Lib.hid hdz
    clear hdi hdz
    by_cases hlt : i < n
    · have hltz : (i : Int) < (n : Int) := by omega
      obtain ⟨p, hp⟩ : ∃ q, q = a + i := ⟨_, rfl⟩
      obtain ⟨q, hq⟩ : ∃ q, q = b + i := ⟨_, rfl⟩
      have ea : ((a : Int) + (i : Int)).toNat = p := by omega
      have pa : (0 : Int) ≤ (a : Int) + (i : Int) := by omega
      have ba : (a : Int) + (i : Int) < (d.size : Int) := by omega
      have ra : IntKind.i64.wrap ((a : Int) + (i : Int)) = (a : Int) + (i : Int) := by rw [IntKind.wrap_i64]; omega
      have ec : ((b : Int) + (i : Int)).toNat = q := by omega
      have pc : (0 : Int) ≤ (b : Int) + (i : Int) := by omega
      have bc : (b : Int) + (i : Int) < (d.size : Int) := by omega
      have rc : IntKind.i64.wrap ((b : Int) + (i : Int)) = (b : Int) + (i : Int) := by rw [IntKind.wrap_i64]; omega
      have hs' : di.size = d0.size := by rw [HDZ.out, hs]
      have hps : p < di.size := by rw [HDZ.out]; omega
      have hqs : q < di.size := by rw [HDZ.out]; omega
      obtain ⟨x, hx⟩ : ∃ x, x = di[p]! := ⟨_, rfl⟩
      obtain ⟨y, hy⟩ : ∃ x, x = di[q]! := ⟨_, rfl⟩
      have S3 : Aside (SW enc w0 blk off (Stb.swapRange d a b (i + 1)) ((wr.setCell ⟨blk, off + p, none⟩ (enc y)).setCell ⟨blk, off + q, none⟩ (enc x)).drew) := by
        show SW _ _ _ _ (swp (Stb.swapRange d a b i) (a + i) (b + i)) _
        rw [← HDI.out, ← hp, ← hq, hx, hy]; exact S1.out.swapped R p q hps hqs
      have ca := S1.out.c1 R hs' p hps
      have cb := S1.out.c1 R hs' q hqs
      have fa := S1.out.f1 R hs' p hps
      have fb := S1.out.f1 R hs' q hqs
      obtain ⟨u, cc⟩ := S1.out.c2 R hs' p q hps hqs (enc y)
      rw [← hx] at ca
      rw [← hy] at cb
      clear hx hy hp hq hps hqs hs' S1 HDI HDZ
      go_wp2_with fail
      go_big_region
      clear ca cb fa fb cc ea ec ra rc
      generalize ((wr.setCell ⟨blk, off + p, none⟩ (enc y)).setCell ⟨blk, off + q, none⟩ (enc x)).drew = w3 at S3 ⊢
      go_wp2
      go_roundg (n - (i + 1))
      case measure => omega
      case rel => exact ⟨i + 1, by go_num, by omega, Nat.le_refl _, S3⟩
    · have hltz : ¬ (i : Int) < (n : Int) := by omega
      have hie : i = n := by omega
      have SN : Aside (SW enc w0 blk off (Stb.swapRange d a b n) wr) := by rw [← hie, ← HDI.out]; exact S1
      clear hie S1 HDI HDZ
      go_wp2
      go_end0
      exact ⟨rfl, SN.out⟩

/-- what the rotation leaves -/
def Rotated (enc : α → Value) (w0 : World) (blk off : Nat) (d : Array α) (a m b : Nat) (w' : World) : Prop := ∃ d', Stb.Rot d d' a m b ∧ SW enc w0 blk off d' w'

set_option maxHeartbeats 4000000 in
set_option maxRecDepth 100000 in
theorem rotate_s (enc : α → Value) (blk off cap a m b : Nat) (d0 d : Array α) (w0 w : World) (fv : Value)
    (R : Row1 enc w0 blk off d0) (hs : d0.size = d.size) (S : SW enc w0 blk off d w) (ham : a < m) (hmb : m < b) (hb : b ≤ d.size) (hsz : d.size ≤ 1073741824) :
    Calls Tryz.prog 54 #[.slice (some ⟨blk, off, none⟩) d.size cap, .int .i64 a, .int .i64 m, .int .i64 b, fv] w fun e w' => e = .returned (.tuple #[]) ∧ Rotated enc w0 blk off d a m b w' := by
  have S0 : Aside (SW enc w0 blk off d w) := S
  clear S
  go_enter Tryz.func54, Tryz.ntmps54
  go_wp2
  go_loopg [10, 11] (b - a) (fun g1 vi vj wr => ∃ (i j : Nat) (dk : Array α), vi = .int .i64 i ∧ vj = .int .i64 j ∧ 1 ≤ i ∧ 1 ≤ j ∧ i ≤ m ∧ m + j ≤ b ∧ i + j ≤ g1 ∧ Hid (dk.size = d.size) ∧ Aside (SW enc w0 blk off dk wr) ∧ Hid (∀ f, Stb.Rot dk f (m - i) m (m + j) → Stb.Rot d f a m b))
  case atStart => exact ⟨m - a, b - m, d, by go_num, by go_num, by omega, by omega, by omega, by omega, by omega, rfl, S0, fun f hf => by
    rw [show m - (m - a) = a from by omega, show m + (b - m) = b from by omega] at hf; exact hf⟩
  case round =>
    clear S0
    obtain ⟨i, j, dk, rfl, rfl, hi1, hj1, him, hjb, hg1, HZ, S1, HR⟩ := hrel
    rcases Nat.lt_trichotomy i j with hij | hij | hij
    · have t1 : (((i : Nat) : Int) != ((j : Nat) : Int)) = true := bne_iff_ne.2 (by omega)
      have t2 : (i : Int) ≤ (j : Int) := by omega
      obtain ⟨p, hp⟩ : ∃ q, q = m - i := ⟨_, rfl⟩
      obtain ⟨q, hq⟩ : ∃ q, q = m + j - i := ⟨_, rfl⟩
      have zp : (m : Int) - (i : Int) = (p : Int) := by omega
      have pb : (p : Int) ≤ (m : Int) := by omega
      have mb : (m : Int) ≤ 1073741824 := by omega
      have jb : (m : Int) + (j : Int) ≤ 1073741824 := by omega
      have zq : (m : Int) + (j : Int) - (i : Int) = (q : Int) := by omega
      have HC := fun (W : World) (hW : SW enc w0 blk off dk W) => swapRange_s enc blk off cap p q i d0 dk w0 W fv R (by rw [HZ.out, hs]) hW (by omega) (by rw [HZ.out]; omega) (by rw [HZ.out]; omega)
      rw [HZ.out] at HC
      have HC' := Lib.hid HC
      have HRN : Hid (∀ f, Stb.Rot (Stb.swapRange dk p q i) f (m - i) m (m + (j - i)) → Stb.Rot d f a m b) := fun f hf => HR.out f (Stb.rot_right hij him (by rw [HZ.out]; omega) (by rw [← hp, ← hq]; rw [← hp] at hf; exact hf))
      have HZN : Hid ((Stb.swapRange dk p q i).size = d.size) := by show _ = _; rw [Stb.size_swapRange, HZ.out]
      have ZP := Lib.hid zp
      have ZQ := Lib.hid zq
      clear HC hp hq zp zq
      go_wp2_with (go_at_call 69; go_must (rw [ZP.out, ZQ.out]); go_must (refine (HC'.out _ S1.out).mono ?_); rintro e w' ⟨rfl, hS⟩)
      have S2 : Aside _ := hS
      clear hS
      go_wp2
      go_roundg (i + (j - i))
      case measure => omega
      case rel => exact ⟨i, j - i, _, rfl, by go_num, hi1, by omega, him, by omega, Nat.le_refl _, HZN, S2, HRN⟩
    · subst hij
      have t1 : (((i : Nat) : Int) != ((i : Nat) : Int)) = false := by simp
      obtain ⟨p, hp⟩ : ∃ q, q = m - i := ⟨_, rfl⟩
      have zp : (m : Int) - (i : Int) = (p : Int) := by omega
      have pb : (p : Int) ≤ (m : Int) := by omega
      have mb : (m : Int) ≤ 1073741824 := by omega
      have HC := fun (W : World) (hW : SW enc w0 blk off dk W) => swapRange_s enc blk off cap p m i d0 dk w0 W fv R (by rw [HZ.out, hs]) hW (by omega) (by rw [HZ.out]; omega) (by rw [HZ.out]; omega)
      rw [HZ.out] at HC
      have HC' := Lib.hid HC
      have HRN : Hid (Stb.Rot d (Stb.swapRange dk p m i) a m b) := HR.out _ (by rw [hp]; exact Stb.rot_even him (by rw [HZ.out]; omega))
      clear HC hp
      go_wp2_with (go_at_call 69; go_must (refine (HC'.out _ S1.out).mono ?_); rintro e w' ⟨rfl, hS⟩)
      go_end0
      exact ⟨rfl, _, HRN.out, hS⟩
    · have t1 : (((i : Nat) : Int) != ((j : Nat) : Int)) = true := bne_iff_ne.2 (by omega)
      have t2 : (j : Int) < (i : Int) := by omega
      obtain ⟨p, hp⟩ : ∃ q, q = m - i := ⟨_, rfl⟩
      have zp : (m : Int) - (i : Int) = (p : Int) := by omega
      have pb : (p : Int) ≤ (m : Int) := by omega
      have mb : (m : Int) ≤ 1073741824 := by omega
      have jb : (m : Int) + (j : Int) ≤ 1073741824 := by omega
      have HC := fun (W : World) (hW : SW enc w0 blk off dk W) => swapRange_s enc blk off cap p m j d0 dk w0 W fv R (by rw [HZ.out, hs]) hW (by omega) (by rw [HZ.out]; omega) (by rw [HZ.out]; omega)
      rw [HZ.out] at HC
      have HC' := Lib.hid HC
      have HRN : Hid (∀ f, Stb.Rot (Stb.swapRange dk p m j) f (m - (i - j)) m (m + j) → Stb.Rot d f a m b) := fun f hf => HR.out f (Stb.rot_left hij him (by rw [HZ.out]; omega) (by rw [← hp]; exact hf))
      have HZN : Hid ((Stb.swapRange dk p m j).size = d.size) := by show _ = _; rw [Stb.size_swapRange, HZ.out]
      clear HC hp
      go_wp2_with (go_at_call 69; go_must (refine (HC'.out _ S1.out).mono ?_); rintro e w' ⟨rfl, hS⟩)
      have S2 : Aside _ := hS
      clear hS
      go_wp2
      go_roundg (i - j + j)
      case measure => omega
      case rel => exact ⟨i - j, j, _, by go_num, rfl, by omega, hj1, by omega, hjb, Nat.le_refl _, HZN, S2, HRN⟩
end Go.Proofs.YtmbjhfkpmgkkbaaGreatDoor
