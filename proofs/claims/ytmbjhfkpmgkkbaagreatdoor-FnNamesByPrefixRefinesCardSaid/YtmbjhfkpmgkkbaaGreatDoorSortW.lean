/-
  slices.SortStableFunc as listEnviron_ calls it, case-sensitive: the row ends in rising order of the keys, equal keys in their old order. Conditions: at most 2 to the 30 texts, each of at most 2 to the 30 bytes.
-/
import Derived.Test.YtmbjhfkpmgkkbaaGreatDoorClo
import Derived.Test.YtmbjhfkpmgkkbaaGreatDoorCut
namespace Go.Proofs.YtmbjhfkpmgkkbaaGreatDoor
set_option linter.unusedVariables false
open Go.Shelf Go.RowKit Go.Lib Go.Sort

/-- a text of at most 2 to the 30 bytes -/
abbrev Str := { l : List UInt8 // l.length ≤ 1073741824 }
instance : Inhabited Str := ⟨⟨[], by decide⟩⟩
def encS (x : Str) : Value := .string ⟨x.1.toArray⟩
def keyS (x : Str) : List UInt8 := Envp.keyOf x.1
def cfS (x y : Str) : Int := cfE x.1 y.1

theorem koB : Stb.KO Envp.blt := ⟨Envp.blt_irr, fun a b c => Envp.cb_trans a b c, Envp.blt_tri⟩
theorem oneCellS : OneCell encS := fun x => rfl
theorem enters18 : ∀ args w, (callFunc 18 args).run Tryz.prog w = .ok (.enter 18 args) w := enters_of Tryz.func18 (by kernel_rfl) rfl

theorem cell_sortWorld {α : Type} [Inhabited α] (enc : α → Value) (W : World) (blk off n : Nat) (dk : Array α) (os : Array Obj) (a : Addr) (h1 : a.block ≠ blk) (h2 : a.block < W.heap.size) : (sortWorld enc W blk off n dk os).cell? a = W.cell? a := by
  unfold sortWorld
  rw [cell?_grow _ _ _ (by rw [size_putRow]; exact h2), cell?_putRow_other _ _ _ _ _ _ (Or.inl h1)]
  rfl

theorem envBox_of {eb : Nat} {W : World} (hb : eb < W.heap.size) (h0 : W.cell? ⟨eb, 0, none⟩ = some (.bool false)) (h1 : W.cell? ⟨eb, 1, none⟩ = some (.slice none 0 0)) : EnvBox eb W :=
  fun n os => ⟨cell_grown hb h0 n os, cell_grown hb h1 n os⟩

theorem cmpLaysS (blk off size eb : Nat) (w : World) (hne : eb ≠ blk) (heb : eb < w.heap.size) (h0 : w.cell? ⟨eb, 0, none⟩ = some (.bool false)) (h1 : w.cell? ⟨eb, 1, none⟩ = some (.slice none 0 0)) :
    CmpLays1 Tryz.prog 18 #[.pointer (some ⟨eb, 0, none⟩)] encS cfS blk off size w := by
  intro m os dk hs x y
  have hz : eb < (sortWorld encS w blk off m dk os).heap.size := by
    unfold sortWorld
    rw [size_grow, size_putRow]
    exact Nat.lt_of_lt_of_le heb (Nat.le_add_right _ _)
  have E := envBox_of (W := sortWorld encS w blk off m dk os) hz (by rw [cell_sortWorld _ _ _ _ _ _ _ _ hne heb]; exact h0) (by rw [cell_sortWorld _ _ _ _ _ _ _ _ hne heb]; exact h1)
  exact closure_any x.1 y.1 eb _ x.2 y.2 E

theorem sort_s (d : Array Str) (blk off cap eb : Nat) (w : World) (hH : Holds encS w blk off d) (hblk : blk < w.heap.size) (hne : eb ≠ blk) (heb : eb < w.heap.size) (h0 : w.cell? ⟨eb, 0, none⟩ = some (.bool false)) (h1 : w.cell? ⟨eb, 1, none⟩ = some (.slice none 0 0)) (hsz : d.size ≤ 1073741824) :
    Calls Tryz.prog 17 #[.slice (some ⟨blk, off, none⟩) d.size cap, .func (.func 18) #[] #[.pointer (some ⟨eb, 0, none⟩)]] w fun e w' => e = .returned (.tuple #[]) ∧ Merged Envp.blt keyS encS w blk off d 0 d.size w' := by
  have C := Lib.hid (fun W (hW : SW encS w blk off d W) => stable_s koB encS cfS (fun _ _ => Iff.rfl) 18 #[.pointer (some ⟨eb, 0, none⟩)] blk off cap d w enters18 (cmpLaysS blk off d.size eb w hne heb h0 h1) ⟨oneCellS, hH, hblk⟩ hsz W hW)
  have S : Aside (SW encS w blk off d w) := SW.start hH
  clear h0 h1 hH
  go_enter Tryz.func17, Tryz.ntmps17
  go_wp2_with (go_at_call 25; go_must (refine (C.out _ S.out).mono ?_); rintro e w' ⟨rfl, hM⟩)
  have G : Aside _ := hM
  clear hM
  go_end0
  exact ⟨rfl, G⟩

/-- at no element nothing is asked -/
theorem insertion_empty (a : Option Addr) (c : Nat) (fv : Value) (w : World) :
    Calls Tryz.prog 33 #[.slice a 0 c, .int .i64 0, .int .i64 0, fv] w fun e w' => e = .returned (.tuple #[]) ∧ w = w' := by
  go_enter Tryz.func33, Tryz.ntmps33
  go_wp2
  go_loopg [8] 0 (fun g vi wr => vi = .int .i64 1 ∧ Aside (w = wr))
  case atStart => exact ⟨by go_num, rfl⟩
  case round =>
    obtain ⟨rfl, HW⟩ := hrel
    go_wp2
    go_end0
    exact ⟨rfl, HW⟩
theorem stable_empty (a : Option Addr) (c : Nat) (fv : Value) (w : World) :
    Calls Tryz.prog 25 #[.slice a 0 c, .int .i64 0, fv] w fun e w' => e = .returned (.tuple #[]) ∧ w = w' := by
  go_enter Tryz.func25, Tryz.ntmps25
  go_wp2
  go_loopg [7, 8] 0 (fun g va vb wr => va = .int .i64 0 ∧ vb = .int .i64 20 ∧ Aside (w = wr))
  case atStart => exact ⟨by go_num, by go_num, rfl⟩
  case round =>
    obtain ⟨rfl, rfl, HW⟩ := hrel
    go_wp2_with (go_at_call 33; refine (insertion_empty _ _ _ _).mono ?_; rintro e w' ⟨rfl, rfl⟩)
    go_loopg [6] 0 (fun g va wr2 => va = .int .i64 20 ∧ Aside (w = wr2))
    case atStart => exact ⟨by go_num, HW⟩
    case round =>
      clear HW
      obtain ⟨rfl, HW⟩ := hrel
      go_wp2
      go_end0
      exact ⟨rfl, HW⟩
theorem sort_empty (a : Option Addr) (c : Nat) (fv : Value) (w : World) :
    Calls Tryz.prog 17 #[.slice a 0 c, fv] w fun e w' => e = .returned (.tuple #[]) ∧ w = w' := by
  go_enter Tryz.func17, Tryz.ntmps17
  go_wp2_with (go_at_call 25; refine (stable_empty _ _ _ _).mono ?_; rintro e w' ⟨rfl, rfl⟩)
  go_end0
  exact ⟨rfl, rfl⟩
end Go.Proofs.YtmbjhfkpmgkkbaaGreatDoor
