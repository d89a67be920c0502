/-
  The plain law of the stable merge sort by rotations: what a rotation, a merge of two runs and a round over the blocks make of a row. No program is in sight. Conditions: those in each theorem.
-/
import Derived.Sort.Lot0
namespace Go.Proofs.YtmbjhfkpmgkkbaaGreatDoor.Stb
open Go.Sort
variable {α κ : Type} [Inhabited α] [DecidableEq κ]

/-- Between a and b the row has been turned: the places of each key keep their order; outside nothing has moved. -/
structure Mer (key : α → κ) (d d' : Array α) (a b : Nat) : Prop where
  size : d'.size = d.size
  filt : ∀ k, d'.toList.filter (fun x => key x == k) = d.toList.filter (fun x => key x == k)
  out : ∀ i, (i < a ∨ b ≤ i) → d'[i]! = d[i]!
  src : ∀ i, a ≤ i → i < b → ∃ j, a ≤ j ∧ j < b ∧ d'[i]! = d[j]!

theorem Mer.refl (key : α → κ) (d : Array α) (a b : Nat) : Mer key d d a b :=
  ⟨rfl, fun _ => rfl, fun _ _ => rfl, fun i h1 h2 => ⟨i, h1, h2, rfl⟩⟩

theorem Mer.trans {key : α → κ} {d d' d'' : Array α} {a b : Nat} (h : Mer key d d' a b) (k : Mer key d' d'' a b) : Mer key d d'' a b := by
  refine ⟨k.size.trans h.size, fun x => (k.filt x).trans (h.filt x), fun i hi => (k.out i hi).trans (h.out i hi), fun i h1 h2 => ?_⟩
  obtain ⟨j, a1, a2, a3⟩ := k.src i h1 h2
  obtain ⟨l, b1, b2, b3⟩ := h.src j a1 a2
  exact ⟨l, b1, b2, a3.trans b3⟩

theorem Mer.mono {key : α → κ} {d d' : Array α} {a b a' b' : Nat} (h : Mer key d d' a b) (ha : a' ≤ a) (hb : b ≤ b') : Mer key d d' a' b' := by
  refine ⟨h.size, h.filt, fun i hi => h.out i (by omega), fun i h1 h2 => ?_⟩
  by_cases hc : a ≤ i ∧ i < b
  · obtain ⟨j, a1, a2, a3⟩ := h.src i hc.1 hc.2
    exact ⟨j, by omega, by omega, a3⟩
  · exact ⟨i, h1, h2, h.out i (by omega)⟩

/-- d' is d with the blocks [a,m) and [m,b) exchanged. -/
structure Rot (d d' : Array α) (a m b : Nat) : Prop where
  size : d'.size = d.size
  lo : ∀ k, k < a → d'[k]! = d[k]!
  hi : ∀ k, b ≤ k → d'[k]! = d[k]!
  fst : ∀ k, a ≤ k → k < a + (b - m) → d'[k]! = d[k + (m - a)]!
  snd : ∀ k, a + (b - m) ≤ k → k < b → d'[k]! = d[k - (b - m)]!

theorem Rot.idl (d : Array α) (m b : Nat) : Rot d d m m b :=
  ⟨rfl, fun _ _ => rfl, fun _ _ => rfl, fun k h1 h2 => by rw [Nat.sub_self, Nat.add_zero], fun k h1 h2 => by
    exfalso; omega⟩
theorem Rot.idr (d : Array α) (a m : Nat) : Rot d d a m m :=
  ⟨rfl, fun _ _ => rfl, fun _ _ => rfl, fun k h1 h2 => by exfalso; omega, fun k h1 h2 => by rw [Nat.sub_self, Nat.sub_zero]⟩

theorem getElem?_of_bang (d : Array α) (k : Nat) (h : k < d.size) : d.toList[k]? = some d[k]! := by
  rw [Array.getElem?_toList, getElem!_pos d k h, Array.getElem?_eq_getElem h]

omit [Inhabited α] in
theorem list_split4 (L : List α) (a m b : Nat) (h1 : a ≤ m) (h2 : m ≤ b) :
    L = L.take a ++ ((L.drop a).take (m - a) ++ ((L.drop m).take (b - m) ++ L.drop b)) := by
  have e3 : (L.drop m).take (b - m) ++ L.drop b = L.drop m := by
    have := List.take_append_drop (b - m) (L.drop m)
    rw [List.drop_drop, show m + (b - m) = b from by omega] at this
    exact this
  have e2 : (L.drop a).take (m - a) ++ L.drop m = L.drop a := by
    have := List.take_append_drop (m - a) (L.drop a)
    rw [List.drop_drop, show a + (m - a) = m from by omega] at this
    exact this
  rw [e3, e2, List.take_append_drop]

theorem Rot.list {d d' : Array α} {a m b : Nat} (h : Rot d d' a m b) (h1 : a ≤ m) (h2 : m ≤ b) (h3 : b ≤ d.size) :
    d'.toList = d.toList.take a ++ ((d.toList.drop m).take (b - m) ++ ((d.toList.drop a).take (m - a) ++ d.toList.drop b)) := by
  have hl : d.toList.length = d.size := Array.length_toList
  have hl' : d'.toList.length = d.size := by rw [Array.length_toList, h.size]
  apply List.ext_getElem?
  intro k
  have t1 : (d.toList.take a).length = a := by rw [List.length_take]; omega
  have t2 : ((d.toList.drop m).take (b - m)).length = b - m := by rw [List.length_take, List.length_drop]; omega
  have t3 : ((d.toList.drop a).take (m - a)).length = m - a := by rw [List.length_take, List.length_drop]; omega
  by_cases hk : k < d.size
  · rw [getElem?_of_bang d' k (by rw [h.size]; exact hk)]
    by_cases c1 : k < a
    · rw [h.lo k c1, List.getElem?_append_left (by omega), List.getElem?_take, if_pos c1, getElem?_of_bang d k hk]
    · rw [List.getElem?_append_right (by omega), t1]
      by_cases c2 : k < a + (b - m)
      · rw [h.fst k (by omega) c2, List.getElem?_append_left (by omega), List.getElem?_take, if_pos (by omega), List.getElem?_drop,
          show m + (k - a) = k + (m - a) from by omega, getElem?_of_bang d _ (by omega)]
      · rw [List.getElem?_append_right (by omega), t2]
        by_cases c3 : k < b
        · rw [h.snd k (by omega) c3, List.getElem?_append_left (by omega), List.getElem?_take, if_pos (by omega), List.getElem?_drop,
            show a + (k - a - (b - m)) = k - (b - m) from by omega, getElem?_of_bang d _ (by omega)]
        · rw [h.hi k (by omega), List.getElem?_append_right (by omega), t3, List.getElem?_drop,
            show b + (k - a - (b - m) - (m - a)) = k from by omega, getElem?_of_bang d k hk]
  · rw [List.getElem?_eq_none (by omega), List.getElem?_eq_none]
    simp only [List.length_append, t1, t2, t3, List.length_drop, hl]
    omega

theorem Rot.mer {key : α → κ} {d d' : Array α} {a m b : Nat} (h : Rot d d' a m b) (h1 : a ≤ m) (h2 : m ≤ b) (h3 : b ≤ d.size)
    (hx : ∀ i j, a ≤ i → i < m → m ≤ j → j < b → key d[i]! ≠ key d[j]!) : Mer key d d' a b := by
  refine ⟨h.size, fun x => ?_, fun i hi => ?_, fun i i1 i2 => ?_⟩
  · rw [h.list h1 h2 h3]
    conv => rhs; rw [list_split4 d.toList a m b h1 h2]
    simp only [List.filter_append]
    congr 1
    have hU : ∀ y ∈ (d.toList.drop a).take (m - a), ∃ i, a ≤ i ∧ i < m ∧ y = d[i]! := by
      intro y hy
      obtain ⟨i, hi, e⟩ := List.mem_iff_getElem.1 hy
      rw [List.length_take, List.length_drop, Array.length_toList] at hi
      refine ⟨a + i, by omega, by omega, ?_⟩
      rw [← e, List.getElem_take, List.getElem_drop, Array.getElem_toList, getElem!_pos d _ (by omega)]
    have hV : ∀ y ∈ (d.toList.drop m).take (b - m), ∃ i, m ≤ i ∧ i < b ∧ y = d[i]! := by
      intro y hy
      obtain ⟨i, hi, e⟩ := List.mem_iff_getElem.1 hy
      rw [List.length_take, List.length_drop, Array.length_toList] at hi
      refine ⟨m + i, by omega, by omega, ?_⟩
      rw [← e, List.getElem_take, List.getElem_drop, Array.getElem_toList, getElem!_pos d _ (by omega)]
    by_cases hu : ∃ y ∈ (d.toList.drop a).take (m - a), key y = x
    · have : (List.filter (fun y => key y == x) ((d.toList.drop m).take (b - m))) = [] := by
        rw [List.filter_eq_nil_iff]
        intro v hv
        obtain ⟨y, hy, ey⟩ := hu
        obtain ⟨i, i1, i2, rfl⟩ := hU y hy
        obtain ⟨j, j1, j2, rfl⟩ := hV v hv
        have := hx i j i1 i2 j1 j2
        rw [ey] at this
        simp only [beq_iff_eq]
        exact fun e => this e.symm
      rw [this]; simp
    · have : (List.filter (fun y => key y == x) ((d.toList.drop a).take (m - a))) = [] := by
        rw [List.filter_eq_nil_iff]
        intro v hv
        simp only [beq_iff_eq]
        exact fun e => hu ⟨v, hv, e⟩
      rw [this]; simp
  · rcases hi with hi | hi
    · exact h.lo i hi
    · exact h.hi i hi
  · by_cases c : i < a + (b - m)
    · exact ⟨_, by omega, by omega, h.fst i i1 c⟩
    · exact ⟨_, by omega, by omega, h.snd i (by omega) i2⟩

theorem swp_get (d : Array α) (i j k : Nat) (hi : i < d.size) (hj : j < d.size) :
    (swp d i j)[k]! = if k = j then d[i]! else if k = i then d[j]! else d[k]! := by
  unfold swp
  by_cases hk : k < d.size
  · rw [getElem!_pos _ k (by simp; exact hk), getElem!_pos d k hk, getElem!_pos d i hi, getElem!_pos d j hj]
    rw [Array.getElem_setIfInBounds (by simp; exact hk), Array.getElem_setIfInBounds hk]
    by_cases e1 : j = k
    · subst e1; simp
    · have e1' : ¬ k = j := fun e => e1 e.symm
      by_cases e2 : i = k
      · subst e2; simp [e1, e1']
      · have e2' : ¬ k = i := fun e => e2 e.symm
        simp [e1, e1', e2, e2']
  · rw [if_neg (by omega), if_neg (by omega), getElem!_neg _ k (by simp; omega), getElem!_neg d k hk]

def swapRange (d : Array α) (a b : Nat) : Nat → Array α
  | 0 => d
  | n + 1 => swp (swapRange d a b n) (a + n) (b + n)

theorem size_swapRange (d : Array α) (a b n : Nat) : (swapRange d a b n).size = d.size := by
  induction n with
  | zero => rfl
  | succ n ih => simp [swapRange, size_swp, ih]

theorem swapRange_get (d : Array α) (a b : Nat) : ∀ n k, a + n ≤ b → b + n ≤ d.size →
    (swapRange d a b n)[k]! = if a ≤ k ∧ k < a + n then d[k - a + b]! else if b ≤ k ∧ k < b + n then d[k - b + a]! else d[k]! := by
  intro n
  induction n with
  | zero => intro k _ _; rw [if_neg (by omega), if_neg (by omega)]; rfl
  | succ n ih =>
    intro k h1 h2
    show (swp (swapRange d a b n) (a + n) (b + n))[k]! = _
    rw [swp_get _ _ _ _ (by rw [size_swapRange]; omega) (by rw [size_swapRange]; omega), ih _ (by omega) (by omega), ih _ (by omega) (by omega), ih _ (by omega) (by omega)]
    by_cases c1 : k = b + n
    · subst c1
      rw [if_pos rfl, if_neg (by omega), if_neg (by omega), if_neg (by omega), if_pos (by omega)]
      congr 1; omega
    · rw [if_neg c1]
      by_cases c2 : k = a + n
      · subst c2
        rw [if_pos rfl, if_neg (by omega), if_neg (by omega), if_pos (by omega)]
        congr 1; omega
      · rw [if_neg c2]
        by_cases c3 : a ≤ k ∧ k < a + n
        · rw [if_pos c3, if_pos (by omega)]
        · rw [if_neg c3, if_neg (c := a ≤ k ∧ k < a + (n + 1)) (by omega)]
          by_cases c4 : b ≤ k ∧ k < b + n
          · rw [if_pos c4, if_pos (by omega)]
          · rw [if_neg c4, if_neg (by omega)]

/-- one round of the rotation, the left block the longer -/
theorem rot_left {d f : Array α} {m i j : Nat} (hij : j < i) (him : i ≤ m) (hs : m + j ≤ d.size)
    (h : Rot (swapRange d (m - i) m j) f (m - (i - j)) m (m + j)) : Rot d f (m - i) m (m + j) := by
  have g := fun k => swapRange_get d (m - i) m j k (by omega) (by omega)
  refine ⟨by rw [h.size, size_swapRange], fun k hk => ?_, fun k hk => ?_, fun k k1 k2 => ?_, fun k k1 k2 => ?_⟩
  · rw [h.lo k (by omega), g, if_neg (by omega), if_neg (by omega)]
  · rw [h.hi k (by omega), g, if_neg (by omega), if_neg (by omega)]
  · rw [h.lo k (by omega), g, if_pos (by omega)]; congr 1; omega
  · by_cases c : k < m - (i - j) + j
    · rw [h.fst k (by omega) (by omega), g, if_neg (by omega), if_pos (by omega)]; congr 1; omega
    · rw [h.snd k (by omega) (by omega), g, if_neg (by omega), if_neg (by omega)]

theorem rot_right {d f : Array α} {m i j : Nat} (hij : i < j) (him : i ≤ m) (hs : m + j ≤ d.size)
    (h : Rot (swapRange d (m - i) (m + j - i) i) f (m - i) m (m + (j - i))) : Rot d f (m - i) m (m + j) := by
  have g := fun k => swapRange_get d (m - i) (m + j - i) i k (by omega) (by omega)
  refine ⟨by rw [h.size, size_swapRange], fun k hk => ?_, fun k hk => ?_, fun k k1 k2 => ?_, fun k k1 k2 => ?_⟩
  · rw [h.lo k (by omega), g, if_neg (by omega), if_neg (by omega)]
  · rw [h.hi k (by omega), g, if_neg (by omega), if_neg (by omega)]
  · by_cases c : k < m - i + (j - i)
    · rw [h.fst k (by omega) (by omega), g, if_neg (by omega)]
      by_cases c2 : m + j - i ≤ k + (m - (m - i))
      · exfalso; omega
      · rw [if_neg (by omega)]
    · by_cases c3 : k < m + (j - i)
      · rw [h.snd k (by omega) (by omega), g, if_pos (by omega)]; congr 1; omega
      · exfalso; omega
  · rw [h.hi k (by omega), g, if_neg (by omega), if_pos (by omega)]; congr 1; omega

theorem rot_even {d : Array α} {m i : Nat} (him : i ≤ m) (hs : m + i ≤ d.size) : Rot d (swapRange d (m - i) m i) (m - i) m (m + i) := by
  have g := fun k => swapRange_get d (m - i) m i k (by omega) (by omega)
  refine ⟨size_swapRange _ _ _ _, fun k hk => ?_, fun k hk => ?_, fun k k1 k2 => ?_, fun k k1 k2 => ?_⟩
  · rw [g, if_neg (by omega), if_neg (by omega)]
  · rw [g, if_neg (by omega), if_neg (by omega)]
  · rw [g, if_pos (by omega)]; congr 1; omega
  · rw [g, if_neg (by omega), if_pos (by omega)]; congr 1; omega

/-! ## the merge -/
structure KO (klt : κ → κ → Prop) : Prop where
  irr : ∀ a, ¬ klt a a
  trans : ∀ a b c, klt a b → klt b c → klt a c
  tri : ∀ a b, klt a b ∨ a = b ∨ klt b a

section
variable {klt : κ → κ → Prop} {key : α → κ}
omit [DecidableEq κ] in
theorem KO.le_trans (O : KO klt) {a b c : κ} (h1 : ¬ klt b a) (h2 : ¬ klt c b) : ¬ klt c a := by
  intro h
  rcases O.tri a b with e | e | e
  · exact h2 (O.trans _ _ _ h e)
  · subst e; exact h2 h
  · exact h1 e
omit [DecidableEq κ] in
/-- b ≤ c < d gives b < d -/
theorem KO.lt_of_le_of_lt (O : KO klt) {a b c : κ} (h1 : ¬ klt b a) (h2 : klt b c) : klt a c := by
  rcases O.tri a b with e | e | e
  · exact O.trans _ _ _ e h2
  · subst e; exact h2
  · exact absurd e h1
omit [DecidableEq κ] in
theorem KO.lt_of_lt_of_le (O : KO klt) {a b c : κ} (h1 : klt a b) (h2 : ¬ klt c b) : klt a c := by
  rcases O.tri b c with e | e | e
  · exact O.trans _ _ _ h1 e
  · subst e; exact h1
  · exact absurd e h2
omit [DecidableEq κ] in
theorem KO.asymm (O : KO klt) {a b : κ} (h : klt a b) : ¬ klt b a := fun k => O.irr _ (O.trans _ _ _ h k)
omit [DecidableEq κ] in
theorem KO.ne (O : KO klt) {a b : κ} (h : klt a b) : a ≠ b := fun e => O.irr b (by rw [e] at h; exact h)

/-- Between a and b the row rises. -/
def Srt (klt : κ → κ → Prop) (key : α → κ) (d : Array α) (a b : Nat) : Prop := ∀ i j, a ≤ i → i < j → j < b → ¬ klt (key d[j]!) (key d[i]!)

omit [DecidableEq κ] in
theorem Srt.le {d : Array α} {a b : Nat} (h : Srt klt key d a b) (O : KO klt) {i j : Nat} (h1 : a ≤ i) (h2 : i ≤ j) (h3 : j < b) : ¬ klt (key d[j]!) (key d[i]!) := by
  rcases Nat.lt_or_ge i j with c | c
  · exact h i j h1 c h3
  · obtain rfl : i = j := by omega
    exact O.irr _

omit [DecidableEq κ] in
theorem Srt.congr {d d' : Array α} {a b : Nat} (h : Srt klt key d a b) (e : ∀ k, a ≤ k → k < b → d'[k]! = d[k]!) : Srt klt key d' a b := by
  intro i j h1 h2 h3
  rw [e i (by omega) (by omega), e j (by omega) (by omega)]
  exact h i j h1 h2 h3

omit [DecidableEq κ] in
theorem Srt.sub {d : Array α} {a b a' b' : Nat} (h : Srt klt key d a b) (ha : a ≤ a') (hb : b' ≤ b) : Srt klt key d a' b' :=
  fun i j h1 h2 h3 => h i j (by omega) h2 (by omega)

omit [DecidableEq κ] in
theorem Srt.one (d : Array α) (a : Nat) {b : Nat} (h : b ≤ a + 1) : Srt klt key d a b := fun i j _ _ _ => by exfalso; omega

theorem ins_left (O : KO klt) {d d' : Array α} {a b i : Nat} (hs : Srt klt key d (a + 1) b) (h1 : a + 1 ≤ i) (h2 : i ≤ b) (h3 : b ≤ d.size)
    (hlo : i = a + 1 ∨ klt (key d[i - 1]!) (key d[a]!)) (hhi : i = b ∨ ¬ klt (key d[i]!) (key d[a]!)) (r : Rot d d' a (a + 1) i) :
    Mer key d d' a b ∧ Srt klt key d' a b := by
  have below : ∀ j, a + 1 ≤ j → j < i → klt (key d[j]!) (key d[a]!) := by
    intro j j1 j2
    rcases hlo with e | e
    · exfalso; omega
    · exact O.lt_of_le_of_lt (hs.le O j1 (by omega) (by omega)) e
  have above : ∀ j, i ≤ j → j < b → ¬ klt (key d[j]!) (key d[a]!) := by
    intro j j1 j2
    rcases hhi with e | e
    · exfalso; omega
    · exact O.le_trans e (hs.le O (by omega) j1 j2)
  refine ⟨(r.mer (by omega) (by omega) (by omega) (fun x y x1 x2 y1 y2 e => ?_)).mono (Nat.le_refl _) h2, fun x y x1 x2 x3 => ?_⟩
  · obtain rfl : x = a := by omega
    exact O.ne (below y y1 y2) e.symm
  · -- where do x and y stand
    by_cases cy : y < i - 1
    · rw [r.fst x (by omega) (by omega), r.fst y (by omega) (by omega)]
      exact hs _ _ (by omega) (by omega) (by omega)
    · by_cases cy2 : y = i - 1
      · subst cy2
        rw [r.fst x (by omega) (by omega), r.snd (i - 1) (by omega) (by omega), show i - 1 - (i - (a + 1)) = a from by omega]
        exact O.asymm (below _ (by omega) (by omega))
      · rw [r.hi y (by omega)]
        by_cases cx : x < i - 1
        · rw [r.fst x (by omega) (by omega)]
          exact hs _ _ (by omega) (by omega) (by omega)
        · by_cases cx2 : x = i - 1
          · subst cx2
            rw [r.snd (i - 1) (by omega) (by omega), show i - 1 - (i - (a + 1)) = a from by omega]
            exact above y (by omega) x3
          · rw [r.hi x (by omega)]
            exact hs x y (by omega) x2 x3

theorem ins_right (O : KO klt) {d d' : Array α} {a m i : Nat} (hs : Srt klt key d a m) (h1 : a ≤ i) (h2 : i ≤ m) (h3 : m + 1 ≤ d.size)
    (hlo : i = a ∨ ¬ klt (key d[m]!) (key d[i - 1]!)) (hhi : i = m ∨ klt (key d[m]!) (key d[i]!)) (r : Rot d d' i m (m + 1)) :
    Mer key d d' a (m + 1) ∧ Srt klt key d' a (m + 1) := by
  have below : ∀ j, a ≤ j → j < i → ¬ klt (key d[m]!) (key d[j]!) := by
    intro j j1 j2
    rcases hlo with e | e
    · exfalso; omega
    · exact O.le_trans (hs.le O j1 (by omega) (by omega)) e
  have above : ∀ j, i ≤ j → j < m → klt (key d[m]!) (key d[j]!) := by
    intro j j1 j2
    rcases hhi with e | e
    · exfalso; omega
    · exact O.lt_of_lt_of_le e (hs.le O (by omega) j1 j2)
  refine ⟨(r.mer (by omega) (by omega) (by omega) (fun x y x1 x2 y1 y2 e => ?_)).mono h1 (Nat.le_refl _), fun x y x1 x2 x3 => ?_⟩
  · obtain rfl : y = m := by omega
    exact O.ne (above x x1 x2) e.symm
  · by_cases cx : x < i
    · rw [r.lo x cx]
      by_cases cy : y < i
      · rw [r.lo y cy]; exact hs x y x1 x2 (by omega)
      · by_cases cy2 : y = i
        · subst cy2
          rw [r.fst y (by omega) (by omega), show y + (m - y) = m from by omega]
          exact below x x1 cx
        · rw [r.snd y (by omega) (by omega)]
          exact hs _ _ (by omega) (by omega) (by omega)
    · rw [r.snd y (by omega) (by omega)]
      by_cases cx2 : x = i
      · subst cx2
        rw [r.fst x (by omega) (by omega), show x + (m - x) = m from by omega]
        exact O.asymm (above _ (by omega) (by omega))
      · rw [r.snd x (by omega) (by omega)]
        exact hs _ _ (by omega) (by omega) (by omega)

omit [DecidableEq κ] in
theorem join_runs {d d1 : Array α} {a st m e b mid : Nat} (h1 : a ≤ st) (h2 : st ≤ m) (h3 : m ≤ e) (h4 : e ≤ b) (hm : mid = st + (e - m))
    (s1 : Srt klt key d a m) (s2 : Srt klt key d m b) (r : Rot d d1 st m e) :
    Srt klt key d1 a st ∧ Srt klt key d1 st mid ∧ Srt klt key d1 mid e ∧ Srt klt key d1 e b := by
  subst hm
  refine ⟨(s1.sub (Nat.le_refl _) h2).congr (fun k _ k2 => r.lo k k2), fun i j i1 i2 i3 => ?_, fun i j i1 i2 i3 => ?_, (s2.sub h3 (Nat.le_refl _)).congr (fun k k1 _ => r.hi k k1)⟩
  · rw [r.fst i i1 (by omega), r.fst j (by omega) i3]
    exact s2 _ _ (by omega) (by omega) (by omega)
  · rw [r.snd i i1 (by omega), r.snd j (by omega) i3]
    exact s1 _ _ (by omega) (by omega) (by omega)

theorem join (O : KO klt) {d d1 d2 d3 : Array α} {a st m e b mid : Nat} (h1 : a ≤ st) (h2 : st ≤ m) (h3 : m ≤ e) (h4 : e ≤ b) (h5 : b ≤ d.size) (hm : mid = st + (e - m))
    (s1 : Srt klt key d a m) (s2 : Srt klt key d m b)
    (x1 : st = a ∨ e = b ∨ ¬ klt (key d[e]!) (key d[st - 1]!)) (x2 : st = m ∨ e = m ∨ klt (key d[e - 1]!) (key d[st]!))
    (r : Rot d d1 st m e) (m2 : Mer key d1 d2 a mid) (t2 : Srt klt key d2 a mid) (m3 : Mer key d2 d3 mid b) (t3 : Srt klt key d3 mid b) :
    Mer key d d3 a b ∧ Srt klt key d3 a b := by
  have cross : ∀ i j, st ≤ i → i < m → m ≤ j → j < e → klt (key d[j]!) (key d[i]!) := by
    intro i j i1 i2 j1 j2
    rcases x2 with c | c | c
    · exfalso; omega
    · exfalso; omega
    · exact O.lt_of_le_of_lt (s2.le O j1 (by omega) (by omega)) (O.lt_of_lt_of_le c (s1.le O (by omega) i1 i2))
  have far : ∀ i j, a ≤ i → i < st → e ≤ j → j < b → ¬ klt (key d[j]!) (key d[i]!) := by
    intro i j i1 i2 j1 j2
    rcases x1 with c | c | c
    · exfalso; omega
    · exfalso; omega
    · exact O.le_trans (s1.le O i1 (by omega) (by omega)) (O.le_trans c (s2.le O (by omega) j1 j2))
  have mm := r.mer (key := key) h2 h3 (by omega) (fun i j i1 i2 j1 j2 c => O.ne (cross i j i1 i2 j1 j2) c.symm)
  have e1 := mm.size
  -- all of the left half against all of the right half, in d1
  have lr : ∀ i j, a ≤ i → i < mid → mid ≤ j → j < b → ¬ klt (key d1[j]!) (key d1[i]!) := by
    intro i j i1 i2 j1 j2
    by_cases ci : i < st
    · rw [r.lo i ci]
      by_cases cj : j < e
      · rw [r.snd j (by omega) cj]; exact s1 _ _ i1 (by omega) (by omega)
      · rw [r.hi j (by omega)]; exact far i j i1 ci (by omega) j2
    · rw [r.fst i (by omega) (by omega)]
      by_cases cj : j < e
      · rw [r.snd j (by omega) cj]; exact O.asymm (cross _ _ (by omega) (by omega) (by omega) (by omega))
      · rw [r.hi j (by omega)]; exact s2 _ _ (by omega) (by omega) (by omega)
  refine ⟨((mm.mono h1 h4).trans (m2.mono (Nat.le_refl _) (by omega))).trans (m3.mono (by omega) (Nat.le_refl _)), fun i j i1 i2 i3 => ?_⟩
  by_cases ci : i < mid
  · by_cases cj : j < mid
    · rw [m3.out i (by omega), m3.out j (by omega)]; exact t2 i j i1 i2 cj
    · obtain ⟨i', a1, a2, a3⟩ := m2.src i i1 ci
      obtain ⟨j', b1, b2, b3⟩ := m3.src j (by omega) i3
      rw [m3.out i (by omega), a3, b3, m2.out j' (by omega)]
      exact lr i' j' a1 a2 b1 b2
  · exact t3 i j (by omega) i2 i3

/-- one more swap to the right -/
theorem rot_step_right {d dk : Array α} {a k : Nat} (h1 : a ≤ k) (h2 : k + 1 < d.size) (r : Rot d dk a (a + 1) (k + 1)) : Rot d (swp dk k (k + 1)) a (a + 1) (k + 2) := by
  have hz := r.size
  have g := fun x => swp_get dk k (k + 1) x (by omega) (by omega)
  refine ⟨by rw [size_swp, hz], fun x hx => ?_, fun x hx => ?_, fun x x1 x2 => ?_, fun x x1 x2 => ?_⟩
  · rw [g, if_neg (by omega), if_neg (by omega), r.lo x hx]
  · rw [g, if_neg (by omega), if_neg (by omega), r.hi x (by omega)]
  · rw [g, if_neg (by omega)]
    by_cases c : x = k
    · subst c; rw [if_pos rfl, r.hi (x + 1) (by omega)]; congr 1; omega
    · rw [if_neg c, r.fst x x1 (by omega)]
  · obtain rfl : x = k + 1 := by omega
    rw [g, if_pos rfl, r.snd k (by omega) (by omega)]; congr 1; omega

/-- one more swap to the left -/
theorem rot_step_left {d dk : Array α} {m k : Nat} (h1 : k + 1 ≤ m) (h2 : m < d.size) (r : Rot d dk (k + 1) m (m + 1)) : Rot d (swp dk (k + 1) k) k m (m + 1) := by
  have hz := r.size
  have g := fun x => swp_get dk (k + 1) k x (by omega) (by omega)
  refine ⟨by rw [size_swp, hz], fun x hx => ?_, fun x hx => ?_, fun x x1 x2 => ?_, fun x x1 x2 => ?_⟩
  · rw [g, if_neg (by omega), if_neg (by omega), r.lo x (by omega)]
  · rw [g, if_neg (by omega), if_neg (by omega), r.hi x hx]
  · obtain rfl : x = k := by omega
    rw [g, if_pos rfl, r.fst (x + 1) (by omega) (by omega)]; congr 1; omega
  · rw [g, if_neg (by omega)]
    by_cases c : x = k + 1
    · subst c; rw [if_pos rfl, r.lo k (by omega)]; congr 1; omega
    · rw [if_neg c, r.snd x (by omega) (by omega)]
end

/-! ## the blocks of the stable sort -/
/-- From s on every chunk of bs places rises. -/
def Chunks (klt : κ → κ → Prop) (key : α → κ) (d : Array α) (bs s n : Nat) : Prop := ∀ k, Srt klt key d (s + k * bs) (min (s + (k + 1) * bs) n)
/-- The first q chunks of bs places rise. -/
def Done (klt : κ → κ → Prop) (key : α → κ) (d : Array α) (bs q : Nat) : Prop := ∀ k, k < q → Srt klt key d (k * bs) ((k + 1) * bs)

section
variable {klt : κ → κ → Prop} {key : α → κ}
omit [DecidableEq κ] in
theorem Done.zero (d : Array α) (bs : Nat) : Done klt key d bs 0 := fun k h => absurd h (Nat.not_lt_zero k)

theorem Done.step {d d' : Array α} {bs q a : Nat} (h : Done klt key d bs q) (ha : a = q * bs) (M : Mer key d d' a (a + bs)) (S : Srt klt key d' a (a + bs)) : Done klt key d' bs (q + 1) := by
  intro k hk
  by_cases c : k < q
  · have : (k + 1) * bs ≤ q * bs := Nat.mul_le_mul_right bs c
    exact (h k c).congr (fun x _ x2 => M.out x (by omega))
  · obtain rfl : k = q := by omega
    rw [← ha, Nat.add_mul, Nat.one_mul, ← ha]; exact S

theorem Chunks.step {d d' : Array α} {bs a n : Nat} (h : Chunks klt key d bs a n) (M : Mer key d d' a (a + 2 * bs)) : Chunks klt key d' bs (a + 2 * bs) n := by
  intro k
  have := h (k + 2)
  have e1 : a + (k + 2) * bs = a + 2 * bs + k * bs := by rw [Nat.add_mul]; omega
  have e2 : a + (k + 2 + 1) * bs = a + 2 * bs + (k + 1) * bs := by rw [show k + 2 + 1 = (k + 1) + 2 from rfl, Nat.add_mul (k + 1)]; omega
  rw [e1, e2] at this
  exact this.congr (fun x x1 _ => M.out x (by omega))

omit [DecidableEq κ] in
theorem Chunks.of_done {d : Array α} {bs q a n : Nat} (h : Done klt key d bs q) (ha : a = q * bs) (hn : n ≤ a + bs) (S : Srt klt key d a n) : Chunks klt key d bs 0 n := by
  intro k
  rw [Nat.zero_add, Nat.zero_add]
  rcases Nat.lt_trichotomy k q with c | c | c
  · exact (h k c).sub (Nat.le_refl _) (Nat.min_le_left _ _)
  · subst c; rw [← ha]; exact S.sub (Nat.le_refl _) (Nat.min_le_right _ _)
  · have e : (q + 1) * bs ≤ k * bs := Nat.mul_le_mul_right bs c
    rw [Nat.add_mul, Nat.one_mul, ← ha] at e
    exact Srt.one _ _ (by omega)

omit [DecidableEq κ] in
theorem Chunks.first {d : Array α} {bs a n : Nat} (h : Chunks klt key d bs a n) : Srt klt key d a (min (a + bs) n) := by
  have := h 0; simpa using this
omit [DecidableEq κ] in
theorem Chunks.second {d : Array α} {bs a n : Nat} (h : Chunks klt key d bs a n) : Srt klt key d (a + bs) (min (a + 2 * bs) n) := by
  have := h 1; simpa using this
end
end Go.Proofs.YtmbjhfkpmgkkbaaGreatDoor.Stb
