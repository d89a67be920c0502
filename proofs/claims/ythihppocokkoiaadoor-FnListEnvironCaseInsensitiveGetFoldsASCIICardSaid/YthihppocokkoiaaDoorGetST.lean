/-
  The binary search of Get, case-insensitive (printed by genT5.py). Conditions: those in each theorem; the three tables.
-/
import Derived.Test.YthihppocokkoiaaDoorFoldG
import Derived.Test.YthihppocokkoiaaDoorGetS
namespace Go.Proofs.YthihppocokkoiaaDoor
set_option linter.unusedVariables false
open Go.Shelf Go.RowKit Go.Lib Go.Sort

def FoundT (R : List (List UInt8)) (Q : List UInt8) (i : Nat) (b : Bool) : Prop :=
  (b = true ∧ ∃ hi : i < R.length, (R.map foldP).filter (Envp.isName Q) = [foldP R[i]] ∧ Envp.getCmp (foldP R[i]) Q = 0) ∨ (b = false ∧ (R.map foldP).filter (Envp.isName Q) = [])
def SearchOutT (R : List (List UInt8)) (Q : List UInt8) (W : World) (e : Ending) (w' : World) : Prop :=
  ∃ (i : Nat) (b : Bool), e = .returned (.tuple #[.int .i64 i, .bool b]) ∧ FoundT R Q i b ∧ Below W.heap.size W w'

theorem search_sT (R : List (List UInt8)) (q : ByteArray) (Q : List UInt8) (FC : ∀ x ∈ R, getCmpU x q.data.toList = Envp.getCmp (foldP x) Q)  (W : World) (g cap pe lb pq : Nat) (sv : Value) (hR : R ≠ []) (hH : Holds encStr W g 0 R.toArray) (hg : g < W.heap.size)
    (hb : ∀ x ∈ R, x.length ≤ 1073741824) (hn : R.length ≤ 1073741824) (sq : q.size ≤ 1073741824)
    (inc : (R.map foldP).Pairwise (fun x y => Envp.blt (Envp.keyOf x) (Envp.keyOf y))) (hv : ∀ y ∈ R.map foldP, Envp.valid y = true) (hq : 61 ∉ Q) (hTB : TabB g W)
    (ne1 : pe ≠ g) (ne2 : lb ≠ g) (ne3 : pq ≠ g) (l1 : pe < W.heap.size) (l2 : lb < W.heap.size) (l3 : pq < W.heap.size)
    (ce : W.cell? ⟨pe, 0, none⟩ = some (.int .i64 ((q.size : Int) + 1))) (c0 : W.cell? ⟨lb, 0, none⟩ = some (.bool true)) (c1 : W.cell? ⟨lb, 1, none⟩ = some sv) (cq : W.cell? ⟨pq, 0, none⟩ = some (.int .i64 q.size)) :
    Calls Tryd.prog 142 #[.slice (some ⟨g, 0, none⟩) R.length cap, .string q, .func (.func 143) #[] #[.pointer (some ⟨pe, 0, none⟩), .pointer (some ⟨lb, 0, none⟩), .pointer (some ⟨pq, 0, none⟩)]] W (SearchOutT R Q W) := by
  obtain ⟨zs, hz⟩ := lift_strs R hb
  have hzl : zs.length = R.length := by rw [← hz]; simp
  have hHs : Holds encS W g 0 zs.toArray := fun j hj => by
    have hj' : j < zs.length := by simpa using hj
    have := hH j (by simp; omega)
    rw [getElem!_pos _ j (by simp; omega)] at this
    rw [getElem!_pos _ j hj]
    have e : R[j]'(by omega) = (zs[j]).1 := by simp only [← hz, List.getElem_map]
    simpa [encS, e] using this
  have hget : ∀ t (ht : t < zs.length), (zs.toArray[t]!).1 = R[t]'(by omega) := fun t ht => by
    rw [getElem!_pos _ t (by simpa using ht)]
    simp only [← hz, List.getElem_map, List.getElem_toArray]
  have hmono : ∀ a b, a ≤ b → b < zs.toArray.size → getCmpU (zs.toArray[b]!).1 q.data.toList < 0 → getCmpU (zs.toArray[a]!).1 q.data.toList < 0 := by
    intro a b hab hbz h
    have hbl : b < zs.length := by simpa using hbz
    rw [hget b hbl, FC _ (List.getElem_mem _), Envp.getCmp_valid (hv _ (List.mem_map_of_mem (List.getElem_mem _))) hq] at h
    rw [hget a (by omega), FC _ (List.getElem_mem _), Envp.getCmp_valid (hv _ (List.mem_map_of_mem (List.getElem_mem _))) hq]
    by_cases e : a = b
    · subst e; exact h
    · rw [List.pairwise_iff_getElem] at inc
      have hab2 := inc a b (by rw [List.length_map]; omega) (by rw [List.length_map]; omega) (by omega)
      rw [List.getElem_map, List.getElem_map] at hab2
      exact Envp.cb_trans _ _ _ hab2 h
  have hcmp : CmpLaysT Tryd.prog 143 #[.pointer (some ⟨pe, 0, none⟩), .pointer (some ⟨lb, 0, none⟩), .pointer (some ⟨pq, 0, none⟩)] encS (.string q) (fun x => getCmpU x.1 q.data.toList) g 0 zs.toArray.size W := by
    intro m os dk hs x
    have hsz : W.heap.size ≤ (sortWorld encS W g 0 m dk os).heap.size := by unfold sortWorld; rw [size_grow, size_putRow]; exact Nat.le_add_right _ _
    have hc : ∀ (b o : Nat) (v : Value), b ≠ g → b < W.heap.size → W.cell? ⟨b, o, none⟩ = some v → ∀ n os', (grow ((sortWorld encS W g 0 m dk os).drewN n) os').cell? ⟨b, o, none⟩ = some v :=
      fun b o v h1 h2 h3 n os' => cell_grown (w := sortWorld encS W g 0 m dk os) (by exact Nat.lt_of_lt_of_le h2 hsz) (by rw [cell_sortWorld encS W g 0 m dk os ⟨b, o, none⟩ h1 h2]; exact h3) n os'
    exact getclo_anyT x.1 q sv pe lb pq _ ⟨fun n os' => (tabs_near hTB (near_sortWorld encS W g 0 m dk os)).below (below_regrown _ ((sortWorld encS W g 0 m dk os).drawn + n) os'), hc _ _ _ ne1 l1 ce, hc _ _ _ ne2 l2 c0, hc _ _ _ ne2 l2 c1, hc _ _ _ ne3 l3 cq⟩ x.2 sq
  have C := Tryd.slices_BinarySearchFunc encS oneCellS (.string q) (fun x => getCmpU x.1 q.data.toList) 143 #[.pointer (some ⟨pe, 0, none⟩), .pointer (some ⟨lb, 0, none⟩), .pointer (some ⟨pq, 0, none⟩)] g 0 cap zs.toArray W enters143 hcmp hHs hg (by simp; omega) hmono
  rw [show zs.toArray.size = R.length from by simp [hzl]] at C
  refine C.mono fun e w' ⟨he, hS⟩ => ?_
  obtain ⟨i, hi, b1, b2⟩ := boundary (fun x => decide (getCmpU x.1 q.data.toList < 0)) zs (fun a b h1 h2 h3 => by
    have := hmono a b h1 (by simpa using h2) (by have := of_decide_eq_true h3; simpa using this)
    simpa using this)
  have hcnt : zs.toArray.toList.countP (fun x => decide (getCmpU x.1 q.data.toList < 0)) = i := Lib.countP_boundary _ _ i (by simpa using hi) (fun t ht => b1 t ht) (fun t h1 h2 => b2 t h1 (by simpa using h2))
  rw [hcnt] at he
  refine ⟨i, _, he, ?_, below_self hHs hS⟩
  by_cases hl : i < R.length
  · have hil : i < zs.length := by omega
    rw [hget i hil]
    by_cases h0 : getCmpU R[i] q.data.toList = 0
    · left
      refine ⟨by rw [decide_eq_true hl, decide_eq_true h0]; rfl, hl, by have h1 := Envp.search_found inc hv hq (i := i) (by rw [List.length_map]; exact hl) (by rw [List.getElem_map, ← FC _ (List.getElem_mem _)]; exact h0); rw [List.getElem_map] at h1; exact h1, by rw [← FC _ (List.getElem_mem _)]; exact h0⟩
    · right
      refine ⟨by rw [decide_eq_false h0, Bool.and_false], Envp.search_none (i := i) inc hv hq (by rw [List.length_map]; omega) (fun k hk0 hik => ?_) (fun hk0 => ?_)⟩
      · have hk : k < R.length := by rw [List.length_map] at hk0; exact hk0
        rw [List.getElem_map, ← FC _ (List.getElem_mem _)]
        have := b1 k (by omega)
        have h2 := of_decide_eq_true this
        rw [getElem!_pos zs k (by omega)] at h2
        have e : R[k] = (zs[k]'(by omega)).1 := by simp only [← hz, List.getElem_map]
        rw [e]; exact h2
      · rw [List.getElem_map, ← FC _ (List.getElem_mem _)]
        have := b2 i (Nat.le_refl _) hil
        have h2 := of_decide_eq_false this
        rw [getElem!_pos zs i hil] at h2
        have e : R[i] = (zs[i]).1 := by simp only [← hz, List.getElem_map]
        rw [e] at h0 ⊢
        omega
  · right
    refine ⟨by rw [decide_eq_false hl]; rfl, Envp.search_none (i := i) inc hv hq (by rw [List.length_map]; omega) (fun k hk0 hik => ?_) (fun hk => absurd (by rw [List.length_map] at hk; exact hk) hl)⟩
    have hk : k < R.length := by rw [List.length_map] at hk0; exact hk0
    rw [List.getElem_map, ← FC _ (List.getElem_mem _)]
    have := b1 k (by omega)
    have h2 := of_decide_eq_true this
    rw [getElem!_pos zs k (by omega)] at h2
    have e : R[k] = (zs[k]'(by omega)).1 := by simp only [← hz, List.getElem_map]
    rw [e]; exact h2
end Go.Proofs.YthihppocokkoiaaDoor
