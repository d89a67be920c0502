/-
  The binary search as the environment's Get calls it, case-sensitive: it finds the pair of that name, or says that there is none. Conditions: at most 2 to the 30 pairs of at most 2 to the 30 bytes, the name without '='.
-/
import Derived.Test.YthihppocokkoiaaDoorGetC
namespace Go.Proofs.YthihppocokkoiaaDoor
set_option linter.unusedVariables false
open Go.Shelf Go.RowKit Go.Lib Go.Sort

/-- where a rising row passes from yes to no -/
theorem boundary (p : Str → Bool) : ∀ (l : List Str), (∀ a b, a ≤ b → b < l.length → p l[b]! = true → p l[a]! = true) →
    ∃ i, i ≤ l.length ∧ (∀ t, t < i → p l[t]! = true) ∧ (∀ t, i ≤ t → t < l.length → p l[t]! = false) := by
  intro l hm
  refine ⟨l.findIdx (fun x => !p x), List.findIdx_le_length, fun t ht => ?_, fun t h1 h2 => ?_⟩
  · have htl : t < l.length := Nat.lt_of_lt_of_le ht List.findIdx_le_length
    have := List.not_of_lt_findIdx ht
    rw [getElem!_pos l t htl]
    simpa using this
  · by_cases c : p l[t]! = true
    · exfalso
      have hlt : l.findIdx (fun x => !p x) < l.length := by omega
      have h3 := hm _ t h1 h2 c
      have h4 := List.findIdx_getElem (w := hlt)
      rw [getElem!_pos l _ hlt] at h3
      rw [h3] at h4
      exact absurd h4 (by decide)
    · simpa using c

theorem below_self {enc : Str → Value} {w W : World} {g : Nat} {d : Array Str} (hH : Holds enc w g 0 d) (h : SW enc w g 0 d W) : Below w.heap.size w W := by
  obtain ⟨n, os, rfl⟩ := h
  have e : putRow enc (Sort.ahead w n) g 0 d = Sort.ahead w n := putRow_self enc (Sort.ahead w n) g 0 d hH
  unfold sortWorld
  rw [e]
  refine ⟨rfl, rfl, rfl, ?_, fun k hk => ?_⟩
  · show w.heap.size ≤ (w.heap ++ os).size
    rw [Array.size_append]; omega
  · show (w.heap ++ os)[k]? = _
    rw [Array.getElem?_append_left hk]

/-- what the search says -/
def Found (R : List (List UInt8)) (q : List UInt8) (i : Nat) (b : Bool) : Prop :=
  (b = true ∧ ∃ hi : i < R.length, R.filter (Envp.isName q) = [R[i]] ∧ Envp.getCmp R[i] q = 0) ∨ (b = false ∧ R.filter (Envp.isName q) = [])

/-- what the search leaves -/
def SearchOut (R : List (List UInt8)) (q : List UInt8) (W : World) (e : Ending) (w' : World) : Prop :=
  ∃ (i : Nat) (b : Bool), e = .returned (.tuple #[.int .i64 i, .bool b]) ∧ Found R q i b ∧ Below W.heap.size W w'

theorem enters143 : ∀ args w, (callFunc 143 args).run Tryd.prog w = .ok (.enter 143 args) w := enters_of Tryd.func143 (by kernel_rfl) rfl

theorem search_s (R : List (List UInt8)) (q : ByteArray) (W : World) (g cap pe lb pq : Nat) (sv : Value) (hR : R ≠ []) (hH : Holds encStr W g 0 R.toArray) (hg : g < W.heap.size)
    (hb : ∀ x ∈ R, x.length ≤ 1073741824) (hn : R.length ≤ 1073741824) (sq : q.size ≤ 1073741824)
    (inc : R.Pairwise (fun x y => Envp.blt (Envp.keyOf x) (Envp.keyOf y))) (hv : ∀ y ∈ R, Envp.valid y = true) (hq : 61 ∉ q.data.toList)
    (ne1 : pe ≠ g) (ne2 : lb ≠ g) (ne3 : pq ≠ g) (l1 : pe < W.heap.size) (l2 : lb < W.heap.size) (l3 : pq < W.heap.size)
    (ce : W.cell? ⟨pe, 0, none⟩ = some (.int .i64 ((q.size : Int) + 1))) (c0 : W.cell? ⟨lb, 0, none⟩ = some (.bool false)) (c1 : W.cell? ⟨lb, 1, none⟩ = some sv) (cq : W.cell? ⟨pq, 0, none⟩ = some (.int .i64 q.size)) :
    Calls Tryd.prog 142 #[.slice (some ⟨g, 0, none⟩) R.length cap, .string q, .func (.func 143) #[] #[.pointer (some ⟨pe, 0, none⟩), .pointer (some ⟨lb, 0, none⟩), .pointer (some ⟨pq, 0, none⟩)]] W (SearchOut R q.data.toList W) := by
  obtain ⟨zs, hz⟩ := lift_strs R hb
  have hzl : zs.length = R.length := by rw [← hz]; simp
  have hHs : Holds encS W g 0 zs.toArray := fun j hj => by
    have hj' : j < zs.length := by simpa using hj
    have := hH j (by simp; omega)
    rw [getElem!_pos _ j (by simp; omega)] at this
    rw [getElem!_pos _ j hj]
    have e : R[j]'(by omega) = (zs[j]).1 := by simp only [← hz, List.getElem_map]
    simpa [encS, e] using this
  have hget : ∀ t (ht : t < zs.length), (zs.toArray[t]!).1 = R[t]'(by omega) := fun t ht => by
    rw [getElem!_pos _ t (by simpa using ht)]
    simp only [← hz, List.getElem_map, List.getElem_toArray]
  have hmono : ∀ a b, a ≤ b → b < zs.toArray.size → Envp.getCmp (zs.toArray[b]!).1 q.data.toList < 0 → Envp.getCmp (zs.toArray[a]!).1 q.data.toList < 0 := by
    intro a b hab hbz h
    have hbl : b < zs.length := by simpa using hbz
    rw [hget b hbl, Envp.getCmp_valid (hv _ (List.getElem_mem _)) hq] at h
    rw [hget a (by omega), Envp.getCmp_valid (hv _ (List.getElem_mem _)) hq]
    by_cases e : a = b
    · subst e; exact h
    · rw [List.pairwise_iff_getElem] at inc
      exact Envp.cb_trans _ _ _ (inc a b (by omega) (by omega) (by omega)) h
  have hcmp : CmpLaysT Tryd.prog 143 #[.pointer (some ⟨pe, 0, none⟩), .pointer (some ⟨lb, 0, none⟩), .pointer (some ⟨pq, 0, none⟩)] encS (.string q) (fun x => Envp.getCmp x.1 q.data.toList) g 0 zs.toArray.size W := by
    intro m os dk hs x
    have hsz : W.heap.size ≤ (sortWorld encS W g 0 m dk os).heap.size := by unfold sortWorld; rw [size_grow, size_putRow]; exact Nat.le_add_right _ _
    have hc : ∀ (b o : Nat) (v : Value), b ≠ g → b < W.heap.size → W.cell? ⟨b, o, none⟩ = some v → ∀ n os', (grow ((sortWorld encS W g 0 m dk os).drewN n) os').cell? ⟨b, o, none⟩ = some v :=
      fun b o v h1 h2 h3 n os' => cell_grown (w := sortWorld encS W g 0 m dk os) (by exact Nat.lt_of_lt_of_le h2 hsz) (by rw [cell_sortWorld encS W g 0 m dk os ⟨b, o, none⟩ h1 h2]; exact h3) n os'
    exact getclo_any x.1 q sv pe lb pq _ ⟨hc _ _ _ ne1 l1 ce, hc _ _ _ ne2 l2 c0, hc _ _ _ ne2 l2 c1, hc _ _ _ ne3 l3 cq⟩ x.2 sq
  have C := Tryd.slices_BinarySearchFunc encS oneCellS (.string q) (fun x => Envp.getCmp x.1 q.data.toList) 143 #[.pointer (some ⟨pe, 0, none⟩), .pointer (some ⟨lb, 0, none⟩), .pointer (some ⟨pq, 0, none⟩)] g 0 cap zs.toArray W enters143 hcmp hHs hg (by simp; omega) hmono
  rw [show zs.toArray.size = R.length from by simp [hzl]] at C
  refine C.mono fun e w' ⟨he, hS⟩ => ?_
  obtain ⟨i, hi, b1, b2⟩ := boundary (fun x => decide (Envp.getCmp x.1 q.data.toList < 0)) zs (fun a b h1 h2 h3 => by
    have := hmono a b h1 (by simpa using h2) (by have := of_decide_eq_true h3; simpa using this)
    simpa using this)
  have hcnt : zs.toArray.toList.countP (fun x => decide (Envp.getCmp x.1 q.data.toList < 0)) = i := Lib.countP_boundary _ _ i (by simpa using hi) (fun t ht => b1 t ht) (fun t h1 h2 => b2 t h1 (by simpa using h2))
  rw [hcnt] at he
  refine ⟨i, _, he, ?_, below_self hHs hS⟩
  by_cases hl : i < R.length
  · have hil : i < zs.length := by omega
    rw [hget i hil]
    by_cases h0 : Envp.getCmp R[i] q.data.toList = 0
    · left
      refine ⟨by rw [decide_eq_true hl, decide_eq_true h0]; rfl, hl, Envp.search_found inc hv hq hl h0, h0⟩
    · right
      refine ⟨by rw [decide_eq_false h0, Bool.and_false], Envp.search_none (i := i) inc hv hq (by omega) (fun k hk hik => ?_) (fun hk => ?_)⟩
      · have := b1 k (by omega)
        have h2 := of_decide_eq_true this
        rw [getElem!_pos zs k (by omega)] at h2
        have e : R[k] = (zs[k]'(by omega)).1 := by simp only [← hz, List.getElem_map]
        rw [e]; exact h2
      · have := b2 i (Nat.le_refl _) hil
        have h2 := of_decide_eq_false this
        rw [getElem!_pos zs i hil] at h2
        have e : R[i] = (zs[i]).1 := by simp only [← hz, List.getElem_map]
        rw [e] at h0 ⊢
        omega
  · right
    refine ⟨by rw [decide_eq_false hl]; rfl, Envp.search_none (i := i) inc hv hq (by omega) (fun k hk hik => ?_) (fun hk => absurd hk hl)⟩
    have := b1 k (by omega)
    have h2 := of_decide_eq_true this
    rw [getElem!_pos zs k (by omega)] at h2
    have e : R[k] = (zs[k]'(by omega)).1 := by simp only [← hz, List.getElem_map]
    rw [e]; exact h2
end Go.Proofs.YthihppocokkoiaaDoor
