/-
  The plain law of the list environment: byte order, the pairs of a text, the thinning of a sorted list, the search in it. No program is in sight. Conditions: those in each theorem.
-/
import Derived.Lib.IndexLaws
import Derived.Lib.Bytealg
namespace Go.Proofs.YtmbjhfkpmgkkbaaGreatDoor.Envp
open Go.Lib

/-! ## the order of byte strings -/
def blt (a b : List UInt8) : Prop := compareBytes a b < 0

theorem cb_refl : ∀ a, compareBytes a a = 0
  | [] => rfl
  | a :: as => by unfold compareBytes; rw [if_neg (UInt8.lt_irrefl a), if_neg (UInt8.lt_irrefl a)]; exact cb_refl as

theorem cb_eq : ∀ a b, compareBytes a b = 0 → a = b
  | [], [], _ => rfl
  | [], _ :: _, h => by simp [compareBytes] at h
  | _ :: _, [], h => by simp [compareBytes] at h
  | a :: as, b :: bs, h => by
    unfold compareBytes at h
    by_cases c1 : a < b
    · rw [if_pos c1] at h; omega
    · by_cases c2 : b < a
      · rw [if_neg c1, if_pos c2] at h; omega
      · rw [if_neg c1, if_neg c2] at h
        have : a = b := UInt8.le_antisymm (UInt8.not_lt.1 c2) (UInt8.not_lt.1 c1)
        rw [this, cb_eq as bs h]

theorem cb_swap : ∀ a b, compareBytes b a = - compareBytes a b
  | [], [] => rfl
  | [], _ :: _ => rfl
  | _ :: _, [] => rfl
  | a :: as, b :: bs => by
    unfold compareBytes
    by_cases c1 : a < b
    · have c2 : ¬ b < a := UInt8.lt_asymm c1
      rw [if_pos c1, if_neg c2, if_pos c1]; rfl
    · by_cases c2 : b < a
      · simp [c1, c2]
      · rw [if_neg c1, if_neg c2, if_neg c2, if_neg c1]; exact cb_swap as bs

theorem cb_range : ∀ a b, compareBytes a b = -1 ∨ compareBytes a b = 0 ∨ compareBytes a b = 1
  | [], [] => by simp [compareBytes]
  | [], _ :: _ => by simp [compareBytes]
  | _ :: _, [] => by simp [compareBytes]
  | a :: as, b :: bs => by
    unfold compareBytes
    by_cases c1 : a < b
    · rw [if_pos c1]; exact Or.inl rfl
    · by_cases c2 : b < a
      · rw [if_neg c1, if_pos c2]; exact Or.inr (Or.inr rfl)
      · rw [if_neg c1, if_neg c2]; exact cb_range as bs

theorem cb_trans : ∀ a b c, compareBytes a b < 0 → compareBytes b c < 0 → compareBytes a c < 0
  | [], [], _, h, _ => by simp [compareBytes] at h
  | [], _ :: _, [], _, h => by simp [compareBytes] at h
  | [], _ :: _, _ :: _, _, _ => by simp [compareBytes]
  | _ :: _, [], _, h, _ => by simp [compareBytes] at h
  | _ :: _, _ :: _, [], _, h => by simp [compareBytes] at h
  | a :: as, b :: bs, c :: cs, h1, h2 => by
    unfold compareBytes at h1 h2 ⊢
    by_cases c1 : a < b
    · by_cases c2 : b < c
      · rw [if_pos (UInt8.lt_trans c1 c2)]; decide
      · by_cases c3 : c < b
        · rw [if_neg c2, if_pos c3] at h2; omega
        · have e : b = c := UInt8.le_antisymm (UInt8.not_lt.1 c3) (UInt8.not_lt.1 c2)
          rw [← e, if_pos c1]; decide
    · by_cases c1' : b < a
      · rw [if_neg c1, if_pos c1'] at h1; omega
      · have e : a = b := UInt8.le_antisymm (UInt8.not_lt.1 c1') (UInt8.not_lt.1 c1)
        rw [if_neg c1, if_neg c1'] at h1
        rw [e]
        by_cases c2 : b < c
        · rw [if_pos c2]; decide
        · by_cases c3 : c < b
          · rw [if_neg c2, if_pos c3] at h2; omega
          · rw [if_neg c2, if_neg c3] at h2 ⊢
            exact cb_trans as bs cs h1 h2

theorem blt_irr (a : List UInt8) : ¬ blt a a := by unfold blt; rw [cb_refl]; decide
theorem blt_tri (a b : List UInt8) : blt a b ∨ a = b ∨ blt b a := by
  unfold blt
  rw [cb_swap a b]
  rcases cb_range a b with h | h | h
  · left; omega
  · right; left; exact cb_eq _ _ h
  · right; right; omega

theorem cb_cons (q : UInt8) (x y : List UInt8) : compareBytes (q :: x) (q :: y) = compareBytes x y := by
  conv => lhs; unfold compareBytes
  rw [if_neg (UInt8.lt_irrefl q), if_neg (UInt8.lt_irrefl q)]

/-- two strings that part at their heads -/
theorem cb_part {x y : UInt8} (a b c d : List UInt8) (h : x ≠ y) : compareBytes (x :: a) (y :: b) = compareBytes (x :: c) (y :: d) := by
  unfold compareBytes
  by_cases c1 : x < y
  · rw [if_pos c1, if_pos c1]
  · by_cases c2 : y < x
    · rw [if_neg c1, if_pos c2, if_neg c1, if_pos c2]
    · exact absurd (UInt8.le_antisymm (UInt8.not_lt.1 c2) (UInt8.not_lt.1 c1)) h

theorem cb_app : ∀ (p a b : List UInt8), compareBytes (p ++ a) (p ++ b) = compareBytes a b
  | [], _, _ => rfl
  | q :: p, a, b => by rw [List.cons_append, List.cons_append, cb_cons]; exact cb_app p a b

theorem cb_samelen : ∀ (p q a b : List UInt8), p.length = q.length → compareBytes p q ≠ 0 → compareBytes (p ++ a) (q ++ b) = compareBytes p q
  | [], [], _, _, _, h => absurd rfl h
  | [], _ :: _, _, _, h, _ => by simp at h
  | _ :: _, [], _, _, h, _ => by simp at h
  | x :: p, y :: q, a, b, h, hn => by
    by_cases e : x = y
    · subst e
      rw [List.cons_append, List.cons_append, cb_cons, cb_cons] at *
      exact cb_samelen p q a b (by simpa using h) hn
    · exact cb_part _ _ _ _ e

/-- what stands ahead of the first '=' of n ++ '=' :: v, against a longer text without one: only n counts -/
theorem cb_name : ∀ (n q v : List UInt8), 61 ∉ q → n.length < q.length → compareBytes (n ++ 61 :: v) q = compareBytes (n ++ [61]) (q ++ [61])
  | [], [], _, _, h => by simp at h
  | [], y :: q, v, hq, _ => by
    have : (61 : UInt8) ≠ y := fun e => hq (by rw [e]; exact List.mem_cons_self)
    exact cb_part _ _ _ _ this
  | x :: n, [], _, _, h => by simp at h
  | x :: n, y :: q, v, hq, hl => by
    by_cases e : x = y
    · subst e
      rw [List.cons_append, List.cons_append, List.cons_append, cb_cons, cb_cons]
      exact cb_name n q v (fun m => hq (List.mem_cons_of_mem _ m)) (by simpa using hl)
    · exact cb_part _ _ _ _ e

/-! ## Get's comparison -/
def cmpByte (a b : UInt8) : Int := if a < b then -1 else if b < a then 1 else 0
def getCmp (x q : List UInt8) : Int :=
  if x.length < q.length + 1 then compareBytes x q
  else if compareBytes (x.take q.length) q = 0 then cmpByte (x.getD q.length 0) 61 else compareBytes (x.take q.length) q

theorem getCmp_key (n q v : List UInt8) (hn : 61 ∉ n) (hq : 61 ∉ q) : getCmp (n ++ 61 :: v) q = compareBytes (n ++ [61]) (q ++ [61]) := by
  have hlen : (n ++ 61 :: v).length = n.length + 1 + v.length := by simp; omega
  unfold getCmp
  by_cases c : n.length < q.length
  · have key := cb_name n q v hq c
    by_cases c2 : (n ++ 61 :: v).length < q.length + 1
    · rw [if_pos c2, key]
    · rw [if_neg c2]
      have e : (n ++ 61 :: v).take q.length = n ++ 61 :: v.take (q.length - n.length - 1) := by
        rw [List.take_append, List.take_of_length_le (by omega)]
        congr 1
        obtain ⟨k, hk⟩ : ∃ k, q.length - n.length = k + 1 := ⟨q.length - n.length - 1, by omega⟩
        rw [hk]; rfl
      rw [e, cb_name n q _ hq c, if_neg]
      intro h0
      have := congrArg List.length (cb_eq _ _ h0)
      simp at this
      omega
  · have c2 : ¬ (n ++ 61 :: v).length < q.length + 1 := by omega
    rw [if_neg c2]
    obtain ⟨p, r, hp, hr⟩ : ∃ p r, n = p ++ r ∧ p.length = q.length := ⟨n.take q.length, n.drop q.length, (List.take_append_drop _ _).symm, by rw [List.length_take]; omega⟩
    subst hp
    have e : (p ++ r ++ 61 :: v).take q.length = p := by
      rw [← hr, List.append_assoc, List.take_left]
    have e2 : (p ++ r ++ 61 :: v).getD q.length 0 = (r ++ 61 :: v).getD 0 0 := by
      rw [← hr, List.append_assoc, List.getD_eq_getElem?_getD, List.getElem?_append_right (Nat.le_refl _), Nat.sub_self, ← List.getD_eq_getElem?_getD]
    rw [e, e2]
    by_cases c3 : compareBytes p q = 0
    · have hpq := cb_eq _ _ c3
      subst hpq
      rw [if_pos c3, List.append_assoc, cb_app]
      cases r with
      | nil => rfl
      | cons y r =>
        have hy : y ≠ 61 := fun h => hn (by rw [h]; simp)
        show cmpByte y 61 = compareBytes (y :: (r ++ [61])) [61]
        unfold cmpByte compareBytes
        by_cases d1 : y < 61
        · rw [if_pos d1, if_pos d1]
        · by_cases d2 : 61 < y
          · rw [if_neg d1, if_pos d2, if_neg d1, if_pos d2]
          · exact absurd (UInt8.le_antisymm (UInt8.not_lt.1 d2) (UInt8.not_lt.1 d1)) hy
    · rw [if_neg c3, List.append_assoc, cb_samelen p q _ _ hr c3]

/-! ## pairs -/
def eqAt (x : List UInt8) : Int := indexByte x 61
def keyOf (x : List UInt8) : List UInt8 := x.take (eqAt x + 1).toNat
def nameOf (x : List UInt8) : List UInt8 := x.take (eqAt x).toNat
def valOf (x : List UInt8) : List UInt8 := x.drop ((eqAt x).toNat + 1)
def valid (x : List UInt8) : Bool := decide (0 < eqAt x)

theorem eqAt_none {x : List UInt8} (h : eqAt x = -1) : 61 ∉ x := by
  intro m
  obtain ⟨i, hi⟩ := List.mem_iff_getElem?.1 m
  exact indexByte_none h i hi

theorem split_of {x : List UInt8} {i : Nat} (h : eqAt x = i) : x = x.take i ++ 61 :: x.drop (i + 1) ∧ 61 ∉ x.take i ∧ i < x.length := by
  obtain ⟨h1, h2⟩ := indexByte_some h
  have hl : i < x.length := by
    obtain ⟨hl, _⟩ := List.getElem?_eq_some_iff.1 h1; exact hl
  refine ⟨?_, fun m => ?_, hl⟩
  · have e : x.drop i = 61 :: x.drop (i + 1) := by
      rw [List.drop_eq_getElem_cons hl]
      have : x[i] = 61 := by
        rw [List.getElem?_eq_getElem hl] at h1; exact Option.some.inj h1
      rw [this]
    rw [← e, List.take_append_drop]
  · obtain ⟨k, hk⟩ := List.mem_iff_getElem?.1 m
    rw [List.getElem?_take] at hk
    split at hk
    · rename_i c; exact h2 k c hk
    · cases hk

theorem valid_at {x : List UInt8} (h : valid x = true) : ∃ i : Nat, eqAt x = i ∧ 0 < i := by
  have : 0 < eqAt x := of_decide_eq_true h
  exact ⟨(eqAt x).toNat, by omega, by omega⟩

theorem key_valid {x : List UInt8} (h : valid x = true) : keyOf x = nameOf x ++ [61] ∧ 61 ∉ nameOf x ∧ nameOf x ≠ [] ∧ x = nameOf x ++ 61 :: valOf x := by
  obtain ⟨i, hi, h0⟩ := valid_at h
  obtain ⟨h1, h2, h3⟩ := split_of hi
  have en : nameOf x = x.take i := by unfold nameOf; rw [hi]; rfl
  have ev : valOf x = x.drop (i + 1) := by unfold valOf; rw [hi]; rfl
  rw [en, ev]
  refine ⟨?_, h2, ?_, h1⟩
  · unfold keyOf
    rw [hi, show ((i : Int) + 1).toNat = i + 1 from by omega]
    have hg : x[i]? = some 61 := (indexByte_some hi).1
    rw [List.take_add_one, hg]; rfl
  · intro e
    have := congrArg List.length e
    rw [List.length_take, List.length_nil, Nat.min_eq_left (by omega)] at this
    omega

theorem name_of_key {x y : List UInt8} (hx : valid x = true) (hy : valid y = true) (h : keyOf x = keyOf y) : nameOf x = nameOf y := by
  rw [(key_valid hx).1, (key_valid hy).1] at h
  exact List.append_cancel_right h

/-- a key that ends a nonempty name is a valid pair's -/
theorem valid_of_key {x : List UInt8} {nm : List UInt8} (h : keyOf x = nm ++ [61]) (hn : nm ≠ []) : valid x = true ∧ nameOf x = nm := by
  have hg := indexByte_ge x 61
  by_cases c : eqAt x = -1
  · exfalso
    unfold keyOf at h
    rw [c] at h
    simp at h
  · obtain ⟨i, hi⟩ : ∃ i : Nat, eqAt x = i := ⟨(eqAt x).toNat, by unfold eqAt at c ⊢; omega⟩
    have hk : keyOf x = x.take i ++ [61] := by
      unfold keyOf
      rw [hi, show ((i : Int) + 1).toNat = i + 1 from by omega, List.take_add_one, (indexByte_some hi).1]; rfl
    rw [hk] at h
    have e := List.append_cancel_right h
    have hl := (split_of hi).2.2
    have h0 : 0 < i := by
      rcases Nat.eq_zero_or_pos i with z | z
      · subst z; simp at e; exact absurd e.symm (by simpa using hn)
      · exact z
    refine ⟨by unfold valid; rw [hi]; exact decide_eq_true (by omega), ?_⟩
    unfold nameOf; rw [hi]; exact e

/-! ## the thinning -/
def isName (q : List UInt8) (y : List UInt8) : Bool := valid y && nameOf y == q
/-- the last pair of that name -/
def look (L : List (List UInt8)) (q : List UInt8) : Option (List UInt8) := (L.filter (isName q)).getLast?

def ddStep (up : List UInt8 → List UInt8) (st : List (List UInt8) × List UInt8) (x : List UInt8) : List (List UInt8) × List UInt8 :=
  if valid x then (if compareBytes (up st.2) (up (nameOf x)) = 0 then (st.1.dropLast ++ [x], st.2) else (st.1 ++ [x], nameOf x)) else st
def dd (up : List UInt8 → List UInt8) (L : List (List UInt8)) : List (List UInt8) × List UInt8 := L.foldl (ddStep up) ([], [])

theorem dd_snoc (up : List UInt8 → List UInt8) (L : List (List UInt8)) (x : List UInt8) : dd up (L ++ [x]) = ddStep up (dd up L) x := by
  unfold dd; rw [List.foldl_append]; rfl

structure Thin (L : List (List UInt8)) (st : List (List UInt8) × List UInt8) : Prop where
  sub : ∀ y ∈ st.1, y ∈ L ∧ valid y = true
  inc : st.1.Pairwise (fun x y => blt (keyOf x) (keyOf y))
  last : (st.1 = [] ∧ st.2 = []) ∨ ∃ A y, st.1 = A ++ [y] ∧ st.2 = nameOf y
  ans : ∀ q, (st.1.filter (isName q)) = (look L q).toList

theorem Thin.nil : Thin [] ([], []) := ⟨fun _ h => (List.not_mem_nil h).elim, List.Pairwise.nil, Or.inl ⟨rfl, rfl⟩, fun _ => rfl⟩

theorem look_snoc (L : List (List UInt8)) (x : List UInt8) (q : List UInt8) : look (L ++ [x]) q = if isName q x then some x else look L q := by
  unfold look
  rw [List.filter_append]
  by_cases c : isName q x = true
  · rw [if_pos c, List.filter_cons_of_pos c]; simp
  · rw [if_neg c, List.filter_cons_of_neg c]; simp

theorem Thin.step {L : List (List UInt8)} {st : List (List UInt8) × List UInt8} (h : Thin L st) (x : List UInt8) (hx : ∀ y ∈ L, ¬ blt (keyOf x) (keyOf y)) : Thin (L ++ [x]) (ddStep id st x) := by
  obtain ⟨acc, last⟩ := st
  unfold ddStep
  by_cases hv : valid x = true
  · rw [if_pos hv]
    obtain ⟨kx, nx, ne, _⟩ := key_valid hv
    by_cases hc : compareBytes (id last) (id (nameOf x)) = 0
    · rw [if_pos hc]
      have hln : last = nameOf x := cb_eq _ _ hc
      rcases h.last with ⟨e1, e2⟩ | ⟨A, y, e1, e2⟩
      · exfalso; simp only at e2; rw [e2] at hln; exact ne hln.symm
      · simp only at e1 e2
        subst e1
        have hy := (h.sub y (by simp)).2
        have nyx : nameOf y = nameOf x := e2.symm.trans hln
        have hky : keyOf y = keyOf x := by rw [(key_valid hy).1, kx, nyx]
        have inc := h.inc
        simp only [List.pairwise_append] at inc
        simp only [List.dropLast_concat]
        refine ⟨fun z hz => ?_, ?_, Or.inr ⟨A, x, rfl, hln⟩, fun q => ?_⟩
        · simp only [List.mem_append, List.mem_singleton] at hz ⊢
          rcases hz with hz | rfl
          · have := h.sub z (by simp [hz]); exact ⟨Or.inl this.1, this.2⟩
          · exact ⟨Or.inr rfl, hv⟩
        · rw [List.pairwise_append]
          refine ⟨inc.1, List.pairwise_singleton _ _, fun a ha b hb => ?_⟩
          rw [List.mem_singleton] at hb; subst hb
          have := inc.2.2 a ha y (by simp)
          rw [hky] at this; exact this
        · have ans := h.ans q
          simp only [List.filter_append] at ans ⊢
          rw [look_snoc]
          by_cases cq : isName q x = true
          · rw [if_pos cq, List.filter_cons_of_pos cq]
            have cy : isName q y = true := by
              unfold isName at cq ⊢; rw [hy, nyx]; simpa [hv] using cq
            have hA : A.filter (isName q) = [] := by
              rw [List.filter_eq_nil_iff]
              intro a ha
              have := inc.2.2 a ha y (by simp)
              intro hq
              unfold isName at hq cy
              simp only [Bool.and_eq_true, beq_iff_eq] at hq cy
              have e : keyOf a = keyOf y := by rw [(key_valid hq.1).1, (key_valid hy).1, hq.2, cy.2]
              rw [e] at this
              exact blt_irr _ this
            rw [hA]; rfl
          · rw [if_neg cq, List.filter_cons_of_neg cq, List.filter_nil, List.append_nil]
            have cy : isName q y = false := by
              cases c : isName q y
              · rfl
              · exfalso; apply cq; unfold isName at c ⊢; rw [hv, ← nyx]; simpa [hy] using c
            rw [List.filter_cons_of_neg (by rw [cy]; decide), List.filter_nil, List.append_nil] at ans
            exact ans
    · rw [if_neg hc]
      have strict : ∀ a ∈ acc, blt (keyOf a) (keyOf x) := by
        intro a ha
        have ha2 := h.sub a ha
        -- the last of acc lies below x, and a does not lie above it
        rcases h.last with ⟨e1, _⟩ | ⟨A, y, e1, e2⟩
        · simp only at e1; rw [e1] at ha; cases ha
        · simp only at e1 e2
          have hyv := h.sub y (by rw [e1]; simp)
          have hyx : blt (keyOf y) (keyOf x) := by
            rcases blt_tri (keyOf y) (keyOf x) with c | c | c
            · exact c
            · exfalso; apply hc
              have : last = nameOf x := by rw [e2]; exact name_of_key hyv.2 hv c
              rw [this]; exact cb_refl _
            · exact absurd c (hx y hyv.1)
          have inc := h.inc
          simp only at inc
          rw [e1] at ha inc
          rw [List.pairwise_append] at inc
          rw [List.mem_append, List.mem_singleton] at ha
          rcases ha with ha | rfl
          · exact cb_trans _ _ _ (inc.2.2 a ha y (by simp)) hyx
          · exact hyx
      refine ⟨fun z hz => ?_, ?_, Or.inr ⟨acc, x, rfl, rfl⟩, fun q => ?_⟩
      · simp only [List.mem_append, List.mem_singleton] at hz ⊢
        rcases hz with hz | rfl
        · have := h.sub z hz; exact ⟨Or.inl this.1, this.2⟩
        · exact ⟨Or.inr rfl, hv⟩
      · rw [List.pairwise_append]
        refine ⟨h.inc, List.pairwise_singleton _ _, fun a ha b hb => ?_⟩
        rw [List.mem_singleton] at hb; subst hb
        exact strict a ha
      · have ans := h.ans q
        simp only [List.filter_append] at ans ⊢
        rw [look_snoc]
        by_cases cq : isName q x = true
        · rw [if_pos cq, List.filter_cons_of_pos cq]
          have hA : acc.filter (isName q) = [] := by
            rw [List.filter_eq_nil_iff]
            intro a ha hq
            have := strict a ha
            unfold isName at hq cq
            simp only [Bool.and_eq_true, beq_iff_eq] at hq cq
            have e : keyOf a = keyOf x := by rw [(key_valid hq.1).1, kx, hq.2, cq.2]
            rw [e] at this
            exact blt_irr _ this
          rw [hA]; rfl
        · rw [if_neg cq, List.filter_cons_of_neg cq, List.filter_nil, List.append_nil]
          exact ans
  · rw [if_neg hv]
    refine ⟨fun z hz => ⟨List.mem_append_left _ (h.sub z hz).1, (h.sub z hz).2⟩, h.inc, h.last, fun q => ?_⟩
    rw [look_snoc, if_neg (by unfold isName; simp [hv])]
    exact h.ans q

theorem thin_of_sorted : ∀ (L : List (List UInt8)), L.Pairwise (fun x y => ¬ blt (keyOf y) (keyOf x)) → Thin L (dd id L) := by
  intro L
  have key : ∀ (k : Nat), k ≤ L.length → L.Pairwise (fun x y => ¬ blt (keyOf y) (keyOf x)) → Thin (L.take k) (dd id (L.take k)) := by
    intro k
    induction k with
    | zero => intro _ _; exact Thin.nil
    | succ k ih =>
      intro hk hp
      have ht : L.take (k + 1) = L.take k ++ [L[k]'(by omega)] := by rw [List.take_succ_eq_append_getElem (by omega)]
      rw [ht, dd_snoc]
      refine (ih (by omega) hp).step _ (fun y hy => ?_)
      have hp' : (L.take k ++ [L[k]'(by omega)]).Pairwise (fun x y => ¬ blt (keyOf y) (keyOf x)) := by rw [← ht]; exact hp.sublist (List.take_sublist _ _)
      rw [List.pairwise_append] at hp'
      exact hp'.2.2 y hy _ (by simp)
  intro hp
  have := key L.length (Nat.le_refl _) hp
  rwa [List.take_length] at this

/-- what is asked of a name hangs on the pairs of its key alone -/
theorem look_congr {L M : List (List UInt8)} (h : ∀ k, L.filter (fun x => keyOf x == k) = M.filter (fun x => keyOf x == k)) (q : List UInt8) : look L q = look M q := by
  have e : ∀ N : List (List UInt8), (q ≠ [] ∧ 61 ∉ q → N.filter (isName q) = N.filter (fun x => keyOf x == q ++ [61])) ∧ (¬ (q ≠ [] ∧ 61 ∉ q) → N.filter (isName q) = []) := by
    intro N
    refine ⟨fun ⟨h1, h2⟩ => ?_, fun hn => ?_⟩
    · apply List.filter_congr
      intro x _
      rw [Bool.eq_iff_iff]
      unfold isName
      simp only [Bool.and_eq_true, beq_iff_eq]
      constructor
      · rintro ⟨a, b⟩; rw [(key_valid a).1, b]
      · intro a; exact valid_of_key a h1
    · rw [List.filter_eq_nil_iff]
      intro x _ hx
      unfold isName at hx
      simp only [Bool.and_eq_true, beq_iff_eq] at hx
      obtain ⟨_, h2, h3, _⟩ := key_valid hx.1
      rw [hx.2] at h2 h3
      exact hn ⟨h3, h2⟩
  unfold look
  by_cases c : q ≠ [] ∧ 61 ∉ q
  · rw [(e L).1 c, (e M).1 c, h]
  · rw [(e L).2 c, (e M).2 c]

/-! ## the search -/
theorem filter_single {R : List (List UInt8)} (hR : R.Pairwise (fun x y => blt (keyOf x) (keyOf y))) (hv : ∀ y ∈ R, valid y = true) {q : List UInt8} {i : Nat} (hi : i < R.length) (hq : nameOf R[i] = q) :
    R.filter (isName q) = [R[i]] := by
  have e : R = R.take i ++ R[i] :: R.drop (i + 1) := by rw [← List.drop_eq_getElem_cons hi, List.take_append_drop]
  have vi := hv R[i] (List.getElem_mem hi)
  have hR' := hR
  rw [e, List.pairwise_append, List.pairwise_cons] at hR'
  have no : ∀ a, a ∈ R → (blt (keyOf a) (keyOf R[i]) ∨ blt (keyOf R[i]) (keyOf a)) → ¬ isName q a = true := by
    intro a ha hb hn
    unfold isName at hn
    simp only [Bool.and_eq_true, beq_iff_eq] at hn
    have : keyOf a = keyOf R[i] := by rw [(key_valid hn.1).1, (key_valid vi).1, hn.2, hq]
    rw [this] at hb
    rcases hb with hb | hb <;> exact blt_irr _ hb
  conv => lhs; rw [e]
  rw [List.filter_append, List.filter_cons_of_pos (by unfold isName; rw [vi, hq]; simp)]
  have h1 : (R.take i).filter (isName q) = [] := by
    rw [List.filter_eq_nil_iff]
    intro a ha
    exact no a (List.mem_of_mem_take ha) (Or.inl (hR'.2.2 a ha R[i] List.mem_cons_self))
  have h2 : (R.drop (i + 1)).filter (isName q) = [] := by
    rw [List.filter_eq_nil_iff]
    intro a ha
    exact no a (List.mem_of_mem_drop ha) (Or.inr (hR'.2.1.1 a ha))
  rw [h1, h2]; rfl

/-- Get's comparison at a pair of the thinned list is the comparison of the keys. -/
theorem getCmp_valid {x : List UInt8} (hv : valid x = true) {q : List UInt8} (hq : 61 ∉ q) : getCmp x q = compareBytes (keyOf x) (q ++ [61]) := by
  obtain ⟨h1, h2, _, h4⟩ := key_valid hv
  rw [h1]
  conv => lhs; rw [h4]
  exact getCmp_key _ _ _ h2 hq

theorem search_found {R : List (List UInt8)} (hR : R.Pairwise (fun x y => blt (keyOf x) (keyOf y))) (hv : ∀ y ∈ R, valid y = true) {q : List UInt8} (hq : 61 ∉ q) {i : Nat} (hi : i < R.length)
    (h : getCmp R[i] q = 0) : R.filter (isName q) = [R[i]] := by
  have vi := hv R[i] (List.getElem_mem hi)
  rw [getCmp_valid vi hq, (key_valid vi).1] at h
  exact filter_single hR hv hi (List.append_cancel_right (cb_eq _ _ h))

theorem search_none {R : List (List UInt8)} (hR : R.Pairwise (fun x y => blt (keyOf x) (keyOf y))) (hv : ∀ y ∈ R, valid y = true) {q : List UInt8} (hq : 61 ∉ q) {i : Nat} (hi : i ≤ R.length)
    (hlo : ∀ k, (hk : k < R.length) → i = k + 1 → getCmp R[k] q < 0)
    (hhi : ∀ (hk : i < R.length), 0 < getCmp R[i] q) : R.filter (isName q) = [] := by
  rw [List.filter_eq_nil_iff]
  intro a ha hn
  unfold isName at hn
  simp only [Bool.and_eq_true, beq_iff_eq] at hn
  obtain ⟨j, hj, rfl⟩ := List.mem_iff_getElem.1 ha
  have kj : keyOf R[j] = q ++ [61] := by rw [(key_valid hn.1).1, hn.2]
  rw [List.pairwise_iff_getElem] at hR
  by_cases c : j < i
  · have h1 := hlo (i - 1) (by omega) (by omega)
    rw [getCmp_valid (hv _ (List.getElem_mem _)) hq] at h1
    have h1' : blt (keyOf R[i - 1]) (keyOf R[j]) := by rw [kj]; exact h1
    by_cases e : j = i - 1
    · subst e; exact blt_irr _ h1'
    · have := hR j (i - 1) hj (by omega) (by omega)
      exact blt_irr _ (cb_trans _ _ _ this h1')
  · have h1 := hhi (by omega)
    rw [getCmp_valid (hv _ (List.getElem_mem _)) hq, cb_swap] at h1
    have h1' : blt (keyOf R[j]) (keyOf R[i]) := by rw [kj]; unfold blt; omega
    by_cases e : j = i
    · subst e; exact blt_irr _ h1'
    · have := hR i j (by omega) hj (by omega)
      exact blt_irr _ (cb_trans _ _ _ this h1')

/-! ## what the thinned list is of the input -/
structure Env (L R : List (List UInt8)) : Prop where
  valid : ∀ y ∈ R, y ∈ L ∧ valid y = true
  inc : R.Pairwise (fun x y => blt (keyOf x) (keyOf y))
  ans : ∀ q, R.filter (isName q) = (look L q).toList

theorem env_of_sorted {L M : List (List UInt8)} (hs : M.Pairwise (fun x y => ¬ blt (keyOf y) (keyOf x))) (hf : ∀ k, M.filter (fun x => keyOf x == k) = L.filter (fun x => keyOf x == k)) : Env L (dd id M).1 := by
  have h := thin_of_sorted M hs
  refine ⟨fun y hy => ⟨?_, (h.sub y hy).2⟩, h.inc, fun q => by rw [h.ans q, look_congr hf]⟩
  have h1 := (h.sub y hy).1
  have : y ∈ M.filter (fun x => keyOf x == keyOf y) := by rw [List.mem_filter]; exact ⟨h1, by simp⟩
  rw [hf, List.mem_filter] at this
  exact this.1

theorem Env.get_some {L R : List (List UInt8)} (h : Env L R) {q : List UInt8} (hq : 61 ∉ q) {i : Nat} (hi : i < R.length) (h0 : getCmp R[i] q = 0) : look L q = some R[i] := by
  have := h.ans q
  rw [search_found h.inc (fun y hy => (h.valid y hy).2) hq hi h0] at this
  cases hl : look L q with
  | none => rw [hl] at this; cases this
  | some z => rw [hl] at this; simp only [Option.toList_some, List.cons.injEq, and_true] at this; rw [this]

theorem Env.get_none {L R : List (List UInt8)} (h : Env L R) {q : List UInt8} (hq : 61 ∉ q) {i : Nat} (hi : i ≤ R.length)
    (hlo : ∀ k, (hk : k < R.length) → i = k + 1 → getCmp R[k] q < 0)
    (hhi : ∀ (hk : i < R.length), 0 < getCmp R[i] q) : look L q = none := by
  have := h.ans q
  rw [search_none h.inc (fun y hy => (h.valid y hy).2) hq hi hlo hhi] at this
  cases hl : look L q with
  | none => rfl
  | some z => rw [hl] at this; cases this
end Go.Proofs.YtmbjhfkpmgkkbaaGreatDoor.Envp
