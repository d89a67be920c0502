/-
  From the sorted row to the list that listEnviron_ thins. Conditions: those in each theorem.
-/
import Derived.Test.YtmbjhfkpmgkkbaaGreatDoorInv
namespace Go.Proofs.YtmbjhfkpmgkkbaaGreatDoor
set_option linter.unusedVariables false
open Go.Shelf Go.RowKit Go.Lib Go.Sort

theorem lift_strs : ∀ (ps : List (List UInt8)), (∀ x ∈ ps, x.length ≤ 1073741824) → ∃ zs : List Str, zs.map Subtype.val = ps
  | [], _ => ⟨[], rfl⟩
  | x :: ps, h => by
    obtain ⟨zs, hz⟩ := lift_strs ps (fun y hy => h y (List.mem_cons_of_mem _ hy))
    exact ⟨⟨x, h x List.mem_cons_self⟩ :: zs, by simp [hz]⟩

theorem encS_map (P : List ByteArray) (zs : List Str) (h : zs.map Subtype.val = P.map (·.data.toList)) : P.map Value.string = zs.map encS := by
  have : zs.map encS = (zs.map Subtype.val).map (fun l => Value.string ⟨l.toArray⟩) := by rw [List.map_map]; rfl
  rw [this, h, List.map_map]
  apply List.map_congr_left
  intro s _
  rfl

theorem sorted_pairwise {d : Array Str} {n : Nat} (hn : n = d.size) (h : Stb.Srt Envp.blt keyS d 0 n) : (d.toList.map Subtype.val).Pairwise (fun x y => ¬ Envp.blt (Envp.keyOf y) (Envp.keyOf x)) := by
  rw [List.pairwise_iff_getElem]
  intro i j hi hj hij
  simp only [List.length_map, Array.length_toList] at hi hj
  have := h i j (Nat.zero_le _) hij (by omega)
  rw [getElem!_pos d i hi, getElem!_pos d j hj] at this
  simp only [List.getElem_map, Array.getElem_toList]
  exact this

theorem sorted_filter {d d' : Array Str} {a b : Nat} (h : Stb.Mer keyS d d' a b) (k : List UInt8) :
    (d'.toList.map Subtype.val).filter (fun x => Envp.keyOf x == k) = (d.toList.map Subtype.val).filter (fun x => Envp.keyOf x == k) := by
  rw [List.filter_map, List.filter_map]
  have f := h.filt k
  have e : ∀ l : List Str, l.filter ((fun x => Envp.keyOf x == k) ∘ Subtype.val) = l.filter (fun x => @BEq.beq _ instBEqOfDecidableEq (keyS x) k) := fun l => by
    apply List.filter_congr
    intro x _
    show (Envp.keyOf x.1 == k) = decide (Envp.keyOf x.1 = k)
    by_cases c : Envp.keyOf x.1 = k <;> simp [c]
  rw [e, e]
  exact congrArg (List.map Subtype.val) f

theorem holds_val {W : World} {g : Nat} {d : Array Str} (h : Holds encS W g 0 d) : Holds encStr W g 0 (d.toList.map Subtype.val).toArray := fun j hj => by
  have hj' : j < d.size := by simpa using hj
  have := h j hj'
  rw [getElem!_pos d j hj'] at this
  rw [getElem!_pos _ j hj]
  simpa [encS] using this

theorem dds_skip {acc : List (List UInt8)} {x last : List UInt8} (hv : Envp.valid x = false) : Envp.ddStep id (acc, last) x = (acc, last) := by
  unfold Envp.ddStep; rw [if_neg (by rw [hv]; decide)]
theorem dds_dup {acc : List (List UInt8)} {x last : List UInt8} (hv : Envp.valid x = true) (hc : compareBytes last (Envp.nameOf x) = 0) : Envp.ddStep id (acc, last) x = (acc.dropLast ++ [x], last) := by
  unfold Envp.ddStep; rw [if_pos hv, if_pos (by exact hc)]
theorem dds_keep {acc : List (List UInt8)} {x last : List UInt8} (hv : Envp.valid x = true) (hc : compareBytes last (Envp.nameOf x) ≠ 0) : Envp.ddStep id (acc, last) x = (acc ++ [x], Envp.nameOf x) := by
  unfold Envp.ddStep; rw [if_pos hv, if_neg (by exact hc)]

/-- what is left to thin, and what the thinning will leave -/
def Todo (acc rest : List (List UInt8)) (last : List UInt8) (R : List (List UInt8)) : Prop :=
  (rest.foldl (Envp.ddStep id) (acc, last)).1 = R ∧ (acc = [] → last = [])

theorem todo_start (L : List (List UInt8)) : Todo [] L [] (Envp.dd id L).1 := ⟨rfl, fun _ => rfl⟩
theorem todo_end {acc : List (List UInt8)} {last : List UInt8} {R : List (List UInt8)} (h : Todo acc [] last R) : acc = R := h.1
theorem todo_skip {acc xs : List (List UInt8)} {x last : List UInt8} {R : List (List UInt8)} (h : Todo acc (x :: xs) last R) (hv : Envp.valid x = false) : Todo acc xs last R := by
  refine ⟨?_, h.2⟩
  have := h.1
  rw [List.foldl_cons, dds_skip hv] at this
  exact this
theorem todo_dup {acc xs : List (List UInt8)} {x last : List UInt8} {R : List (List UInt8)} (h : Todo acc (x :: xs) last R) (hv : Envp.valid x = true) (hc : compareBytes last (Envp.nameOf x) = 0) :
    acc ≠ [] ∧ Todo (acc.dropLast ++ [x]) xs last R := by
  refine ⟨fun e => ?_, ?_, fun e => by simp at e⟩
  · have := h.2 e
    rw [this] at hc
    exact (Envp.key_valid hv).2.2.1 (Envp.cb_eq _ _ hc).symm
  · have := h.1
    rw [List.foldl_cons, dds_dup hv hc] at this
    exact this
theorem todo_keep {acc xs : List (List UInt8)} {x last : List UInt8} {R : List (List UInt8)} (h : Todo acc (x :: xs) last R) (hv : Envp.valid x = true) (hc : compareBytes last (Envp.nameOf x) ≠ 0) :
    Todo (acc ++ [x]) xs (Envp.nameOf x) R := by
  refine ⟨?_, fun e => by simp at e⟩
  have := h.1
  rw [List.foldl_cons, dds_keep hv hc] at this
  exact this

/-- the rows behind a deletion -/
theorem del_skip (acc xs : List (List UInt8)) (x : List UInt8) : (acc ++ x :: xs).take acc.length ++ (acc ++ x :: xs).drop (acc.length + 1) = acc ++ xs := by
  rw [List.take_left, List.drop_append, List.drop_of_length_le (by omega), show acc.length + 1 - acc.length = 1 from by omega]
  simp
theorem del_dup (acc xs : List (List UInt8)) (x : List UInt8) (h : acc ≠ []) : (acc ++ x :: xs).take (acc.length - 1) ++ (acc ++ x :: xs).drop (acc.length - 1 + 1) = (acc.dropLast ++ [x]) ++ xs := by
  have hl : 0 < acc.length := List.length_pos_iff.2 h
  rw [show acc.length - 1 + 1 = acc.length from by omega, List.drop_left, List.take_append_of_le_length (by omega), List.dropLast_eq_take]
  simp

/-- the slice in the environment: its elements are R -/
def RowAt (W : World) (B : Nat) (sv : Value) (R : List (List UInt8)) : Prop :=
  ∃ a cap, sv = .slice a R.length cap ∧ R.length ≤ cap ∧ cap ≤ maxLen ∧ (R ≠ [] → ∃ g, a = some ⟨g, 0, none⟩ ∧ B ≤ g ∧ g < W.heap.size ∧ Holds encStr W g 0 R.toArray)

/-- what listEnviron_ hands back -/
def EnvOut (w : World) (L : List (List UInt8)) (e : Ending) (w' : World) : Prop :=
  ∃ sv R, e = .returned (.iface 56 (.agg #[.bool false, sv])) ∧ Envp.Env L R ∧ Below w.heap.size w w' ∧ RowAt w' w.heap.size sv R
end Go.Proofs.YtmbjhfkpmgkkbaaGreatDoor
