/-
  The stable sort of listEnviron_, case-insensitive, and what it keeps of the world (printed by genT2.py out of the case-sensitive texts). Conditions: those in each theorem; the three tables.
-/
import Derived.Test.YthihppocokkoiaaDoorCloT
import Derived.Test.YthihppocokkoiaaDoorLe2
import Derived.Lib.MapLaws
import Derived.Lib.TrimU
namespace Go.Proofs.YthihppocokkoiaaDoor
set_option linter.unusedVariables false
open Go.Shelf Go.RowKit Go.Lib Go.Sort

theorem up_ne {l : List UInt8} (h : l ≠ []) : Lib.toUpperD l ≠ [] := by
  unfold Lib.toUpperD
  rw [Lib.mapD_step _ _ h]
  have hr := (Lib.toUpperU_range (Lib.decodeL l).1 (Lib.decodeL_rune l)).1
  rw [if_pos hr]
  intro h2
  have h3 := (List.append_eq_nil_iff.1 h2).1
  have h4 := congrArg List.length h3
  unfold Lib.encodeRune at h4
  rw [List.length_map] at h4
  have h5 := (Lib.encodeRuneZ_length (Lib.toUpperU (Lib.decodeL l).1)).1
  simp at h4
  rw [h4] at h5
  simp at h5
def keyU (x : List UInt8) : List UInt8 := Lib.toUpperD (Envp.keyOf x)
def keyST (x : Str) : List UInt8 := keyU x.1
def cfST (x y : Str) : Int := cfET x.1 y.1
/-- the tables lie below the block, and nothing has turned there -/
def TabB (blk : Nat) (w : World) : Prop := ∃ w0, TabsU w0 ∧ w0.heap.size ≤ blk ∧ Below w0.heap.size w0 w
theorem tabs_near {blk : Nat} {w W : World} (h : TabB blk w) (n : Near blk w W) : TabsU W := by
  obtain ⟨w0, h1, h2, h3⟩ := h
  exact h1.below ⟨n.os.trans h3.os, n.tape.trans h3.tape, n.output.trans h3.output, Nat.le_trans h3.size n.size, fun k hk => (n.block k (by have := h3.size; omega) (by omega)).trans (h3.block k hk)⟩
theorem envBox_ofT {eb : Nat} {W : World} (hT : TabsU W) (hb : eb < W.heap.size) (h0 : W.cell? ⟨eb, 0, none⟩ = some (.bool true)) (h1 : W.cell? ⟨eb, 1, none⟩ = some (.slice none 0 0)) : EnvBoxT eb W :=
  fun n os => ⟨hT.below (below_regrown W (W.drawn + n) os), cell_grown hb h0 n os, cell_grown hb h1 n os⟩
theorem near_sortWorld {α : Type} [Inhabited α] (enc : α → Value) (W : World) (blk off n : Nat) (dk : Array α) (os : Array Obj) : Near blk W (sortWorld enc W blk off n dk os) := near_grow (near_put enc blk off n dk W) os

theorem cmpLaysST (blk off size eb : Nat) (w : World) (hT : TabB blk w) (hne : eb ≠ blk) (heb : eb < w.heap.size) (h0 : w.cell? ⟨eb, 0, none⟩ = some (.bool true)) (h1 : w.cell? ⟨eb, 1, none⟩ = some (.slice none 0 0)) :
    CmpLays1 Tryd.prog 74 #[.pointer (some ⟨eb, 0, none⟩)] encS cfST blk off size w := by
  intro m os dk hs x y
  have hz : eb < (sortWorld encS w blk off m dk os).heap.size := by
    unfold sortWorld
    rw [size_grow, size_putRow]
    exact Nat.lt_of_lt_of_le heb (Nat.le_add_right _ _)
  have E := envBox_ofT (W := sortWorld encS w blk off m dk os) (tabs_near hT (near_sortWorld encS w blk off m dk os)) hz (by rw [cell_sortWorld _ _ _ _ _ _ _ _ hne heb]; exact h0) (by rw [cell_sortWorld _ _ _ _ _ _ _ _ hne heb]; exact h1)
  exact closure_anyT x.1 y.1 eb _ x.2 y.2 E

theorem sort_sT (d : Array Str) (blk off cap eb : Nat) (w : World) (hT : TabB blk w) (hH : Holds encS w blk off d) (hblk : blk < w.heap.size) (hne : eb ≠ blk) (heb : eb < w.heap.size) (h0 : w.cell? ⟨eb, 0, none⟩ = some (.bool true)) (h1 : w.cell? ⟨eb, 1, none⟩ = some (.slice none 0 0)) (hsz : d.size ≤ 1073741824) :
    Calls Tryd.prog 73 #[.slice (some ⟨blk, off, none⟩) d.size cap, .func (.func 74) #[] #[.pointer (some ⟨eb, 0, none⟩)]] w fun e w' => e = .returned (.tuple #[]) ∧ Merged Envp.blt keyST encS w blk off d 0 d.size w' := by
  have C := Lib.hid (fun W (hW : SW encS w blk off d W) => stable_s koB encS cfST (fun _ _ => Iff.rfl) 74 #[.pointer (some ⟨eb, 0, none⟩)] blk off cap d w enters74 (cmpLaysST blk off d.size eb w hT hne heb h0 h1) ⟨oneCellS, hH, hblk⟩ hsz W hW)
  have S : Aside (SW encS w blk off d w) := SW.start hH
  clear h0 h1 hH hT
  go_enter Tryd.func73, Tryd.ntmps73
  go_wp2_with (go_at_call 81; go_must (refine (C.out _ S.out).mono ?_); rintro e w' ⟨rfl, hM⟩)
  have G : Aside _ := hM
  clear hM
  go_end0
  exact ⟨rfl, G⟩

structure InvT (w0 W : World) (g eb : Nat) (X : List (List UInt8)) : Prop where
  bel : Below w0.heap.size w0 W
  gB : w0.heap.size ≤ g
  eB : w0.heap.size ≤ eb
  gL : g < W.heap.size
  eL : eb < W.heap.size
  ne : eb ≠ g
  h : Holds encStr W g 0 X.toArray
  e0 : W.cell? ⟨eb, 0, none⟩ = some (.bool true)
  e1 : W.cell? ⟨eb, 1, none⟩ = some (.slice none 0 0)
  f1 : W.frozen? ⟨eb, 1, none⟩ = false

theorem InvT.step {w0 W W' : World} {g eb : Nat} {X Y : List (List UInt8)} (h : InvT w0 W g eb X) (n : Near g W W') (hY : Holds encStr W' g 0 Y.toArray) : InvT w0 W' g eb Y := by
  have hb : W'.heap[eb]? = W.heap[eb]? := n.block eb h.eL h.ne
  refine ⟨⟨n.os.trans h.bel.os, n.tape.trans h.bel.tape, n.output.trans h.bel.output, Nat.le_trans h.bel.size n.size, fun k hk => ?_⟩, h.gB, h.eB, Nat.lt_of_lt_of_le h.gL n.size, Nat.lt_of_lt_of_le h.eL n.size, h.ne, hY, ?_, ?_, ?_⟩
  · rw [n.block k (by have := h.bel.size; omega) (by have := h.gB; omega)]
    exact h.bel.block k hk
  · rw [World.cell?_of_block (w := W) hb]; exact h.e0
  · rw [World.cell?_of_block (w := W) hb]; exact h.e1
  · rw [World.frozen?_of_block (w := W) hb]; exact h.f1

theorem InvT.below {w0 W W' : World} {g eb : Nat} {X : List (List UInt8)} (h : InvT w0 W g eb X) (hb : Below W.heap.size W W') : InvT w0 W' g eb X :=
  h.step (near_of_below hb) (holds_near (hb.block g h.gL) h.h)

theorem InvT.cell {w0 W : World} {g eb : Nat} {X : List (List UInt8)} (h : InvT w0 W g eb X) (i : Nat) (hi : i < X.length) : W.cell? ⟨g, i, none⟩ = some (.string ⟨X[i].toArray⟩) := by
  have := (h.h i (by simpa using hi)).1
  rw [Nat.zero_add, getElem!_pos X.toArray i (by simpa using hi)] at this
  simpa using this

theorem del_sT {w0 W : World} {g eb : Nat} {X : List (List UInt8)} (h : InvT w0 W g eb X) (k i cap : Nat) (hk : k = X.length) (hi : i < k) (hcap : k ≤ cap) (hm : cap ≤ maxLen) :
    Calls Tryd.prog 78 #[.slice (some ⟨g, 0, none⟩) k cap, .int .i64 i, .int .i64 (i + 1 : Nat)] W fun e w' => e = .returned (.slice (some ⟨g, 0, none⟩) (k - 1) cap) ∧ InvT w0 w' g eb (X.take i ++ X.drop (i + 1)) := by
  subst hk
  refine (Tryd.slices_Delete_string g 0 cap i (i + 1) X W h.h hcap hm (by omega) (by omega)).mono fun e w' ⟨he, q, hw⟩ => ?_
  rw [show i + 1 - i = 1 from by omega] at he hw
  refine ⟨he, ?_⟩
  have hH : Holds encStr w' g 0 (X.take i ++ X.drop (i + 1) ++ List.replicate 1 []).toArray := by
    rw [hw]
    exact holds_putRow encStr (Sort.ahead W q) g 0 X.toArray _ h.h (by simp; omega)
  exact h.step (by rw [hw]; exact near_put _ _ _ _ _ _) (holds_take hH rfl)
theorem sorted_pairwiseT {d : Array Str} {n : Nat} (hn : n = d.size) (h : Stb.Srt Envp.blt keyST d 0 n) : (d.toList.map Subtype.val).Pairwise (fun x y => ¬ Envp.blt (keyU y) (keyU x)) := by
  rw [List.pairwise_iff_getElem]
  intro i j hi hj hij
  simp only [List.length_map, Array.length_toList] at hi hj
  have := h i j (Nat.zero_le _) hij (by omega)
  rw [getElem!_pos d i hi, getElem!_pos d j hj] at this
  simp only [List.getElem_map, Array.getElem_toList]
  exact this

theorem sorted_filterT {d d' : Array Str} {a b : Nat} (h : Stb.Mer keyST d d' a b) (k : List UInt8) :
    (d'.toList.map Subtype.val).filter (fun x => keyU x == k) = (d.toList.map Subtype.val).filter (fun x => keyU x == k) := by
  rw [List.filter_map, List.filter_map]
  have f := h.filt k
  have e : ∀ l : List Str, l.filter ((fun x => keyU x == k) ∘ Subtype.val) = l.filter (fun x => @BEq.beq _ instBEqOfDecidableEq (keyST x) k) := fun l => by
    apply List.filter_congr
    intro x _
    show (keyU x.1 == k) = decide (keyU x.1 = k)
    by_cases c : keyU x.1 = k <;> simp [c]
  rw [e, e]
  exact congrArg (List.map Subtype.val) f

theorem dds_skipT {acc : List (List UInt8)} {x last : List UInt8} (hv : Envp.valid x = false) : Envp.ddStep Lib.toUpperD (acc, last) x = (acc, last) := by
  unfold Envp.ddStep; rw [if_neg (by rw [hv]; decide)]
theorem dds_dupT {acc : List (List UInt8)} {x last : List UInt8} (hv : Envp.valid x = true) (hc : compareBytes (Lib.toUpperD last) (Lib.toUpperD (Envp.nameOf x)) = 0) : Envp.ddStep Lib.toUpperD (acc, last) x = (acc.dropLast ++ [x], last) := by
  unfold Envp.ddStep; rw [if_pos hv, if_pos (by exact hc)]
theorem dds_keepT {acc : List (List UInt8)} {x last : List UInt8} (hv : Envp.valid x = true) (hc : compareBytes (Lib.toUpperD last) (Lib.toUpperD (Envp.nameOf x)) ≠ 0) : Envp.ddStep Lib.toUpperD (acc, last) x = (acc ++ [x], Envp.nameOf x) := by
  unfold Envp.ddStep; rw [if_pos hv, if_neg (by exact hc)]

/-- what is left to thin, and what the thinning will leave -/
def TodoT (acc rest : List (List UInt8)) (last : List UInt8) (R : List (List UInt8)) : Prop :=
  (rest.foldl (Envp.ddStep Lib.toUpperD) (acc, last)).1 = R ∧ (acc = [] → last = [])

theorem todo_startT (L : List (List UInt8)) : TodoT [] L [] (Envp.dd Lib.toUpperD L).1 := ⟨rfl, fun _ => rfl⟩
theorem todo_endT {acc : List (List UInt8)} {last : List UInt8} {R : List (List UInt8)} (h : TodoT acc [] last R) : acc = R := h.1
theorem todo_skipT {acc xs : List (List UInt8)} {x last : List UInt8} {R : List (List UInt8)} (h : TodoT acc (x :: xs) last R) (hv : Envp.valid x = false) : TodoT acc xs last R := by
  refine ⟨?_, h.2⟩
  have := h.1
  rw [List.foldl_cons, dds_skipT hv] at this
  exact this
theorem todo_dupT {acc xs : List (List UInt8)} {x last : List UInt8} {R : List (List UInt8)} (h : TodoT acc (x :: xs) last R) (hv : Envp.valid x = true) (hc : compareBytes (Lib.toUpperD last) (Lib.toUpperD (Envp.nameOf x)) = 0) :
    acc ≠ [] ∧ TodoT (acc.dropLast ++ [x]) xs last R := by
  refine ⟨fun e => ?_, ?_, fun e => by simp at e⟩
  · have := h.2 e
    rw [this] at hc
    exact up_ne (Envp.key_valid hv).2.2.1 (Envp.cb_eq _ _ hc).symm
  · have := h.1
    rw [List.foldl_cons, dds_dupT hv hc] at this
    exact this
theorem todo_keepT {acc xs : List (List UInt8)} {x last : List UInt8} {R : List (List UInt8)} (h : TodoT acc (x :: xs) last R) (hv : Envp.valid x = true) (hc : compareBytes (Lib.toUpperD last) (Lib.toUpperD (Envp.nameOf x)) ≠ 0) :
    TodoT (acc ++ [x]) xs (Envp.nameOf x) R := by
  refine ⟨?_, fun e => by simp at e⟩
  have := h.1
  rw [List.foldl_cons, dds_keepT hv hc] at this
  exact this


/-- M is L in rising order of the keys in upper case, like keys in their old order -/
structure SortedU (L M : List (List UInt8)) : Prop where
  inc : M.Pairwise (fun x y => ¬ Envp.blt (keyU y) (keyU x))
  filt : ∀ k, M.filter (fun x => keyU x == k) = L.filter (fun x => keyU x == k)
/-- what listEnviron_ makes of L, case-insensitive -/
def EnvListT (L R : List (List UInt8)) : Prop := ∃ M, SortedU L M ∧ R = (Envp.dd Lib.toUpperD M).1
/-- what listEnviron_ hands back, case-insensitive -/
def EnvOutT (w : World) (L : List (List UInt8)) (e : Ending) (w' : World) : Prop :=
  ∃ sv R, e = .returned (.iface 97 (.agg #[.bool true, sv])) ∧ EnvListT L R ∧ Below w.heap.size w w' ∧ RowAt w' w.heap.size sv R
end Go.Proofs.YthihppocokkoiaaDoor
