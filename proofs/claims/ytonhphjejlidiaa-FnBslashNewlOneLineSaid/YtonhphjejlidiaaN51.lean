/-
  The walks of the printer's indent and bslashNewl. Conditions: those in each theorem.
-/
import Derived.Test.YtonhphjejlidiaaN48
import Derived.IntWalk
namespace Go.Proofs.Ytonhphjejlidiaa
set_option linter.unusedVariables false
open Go.Shelf Go.RowKit Go.Lib

/-- what indent writes: nothing, tabs in escapes, or spaces -/
def indL (f : PF) : List UInt8 := if f.mini = true then [] else if f.level = 0 then [] else if f.ind = 0 then [255] ++ List.replicate f.level 9 ++ [255] else List.replicate (f.ind * f.level) 32
def indF (kp : Bool) (f : PF) : PF := if f.mini = true then f else stepL kp { f with last := f.level } (indL f)

/-- j tabs on -/
structure AtTb (B b k r p tw : Nat) (kp : Bool) (out : List UInt8) (f : PF) (v v' : Value) (w wr : World) (j : Nat) : Prop where
  ps : PS B b k r p tw kp (out ++ List.replicate j 9) (stepL kp f (List.replicate j 9)) v' wr
  fr : FrS (S4 b k r p) v v' w wr
theorem AtTb.step {B b k r p tw : Nat} {kp : Bool} {out : List UInt8} {f : PF} {v v' v2 : Value} {w wr w2 : World} {j : Nat} (h : AtTb B b k r p tw kp out f v v' w wr j) (h1 : PS B b k r p tw kp (out ++ List.replicate j 9 ++ [9]) (stepF kp (stepL kp f (List.replicate j 9)) 9) v2 w2) (h2 : FrS (S4 b k r p) v' v2 wr w2) : AtTb B b k r p tw kp out f v v2 w w2 (j + 1) := by
  refine ⟨?_, h.fr.trans h2⟩
  rw [List.replicate_succ', ← List.append_assoc, ← stepL_snoc]
  exact h1
theorem tabs_col (kp : Bool) (f : PF) (j : Nat) : (stepL kp f (List.replicate j 9)).col ≤ f.col + 1 + j := by
  cases kp
  · show f.col ≤ _; omega
  · exact stepL_col f _ j (by simp)
theorem step_level (kp : Bool) (f : PF) (l : List UInt8) : (stepL kp f l).level = f.level ∧ (stepL kp f l).ind = f.ind ∧ (stepL kp f l).mini = f.mini := by cases kp <;> exact ⟨rfl, rfl, rfl⟩
theorem stepF_one (kp : Bool) (f : PF) (c : UInt8) : stepF kp f c = stepL kp f [c] := by
  have := stepL_snoc kp f [] c
  rw [stepL_nil] at this
  exact this

set_option maxRecDepth 20000 in
theorem ind70m (B b k r p tw : Nat) (kp : Bool) (out : List UInt8) (f : PF) (v : Value) (w : World) (h : PS B b k r p tw kp out f v w) (hm : f.mini = true) :
    Calls Try.prog 70 #[.pointer (some ⟨p, 0, none⟩)] w (PDone B b k r p tw kp (out ++ indL f) (indF kp f) v w) := by
  have e1 : indL f = [] := by unfold indL; rw [if_pos hm]
  have e2 : indF kp f = f := by unfold indF; rw [if_pos hm]
  rw [e1, e2, List.append_nil]
  have c10 : w.cell? ⟨p, 10, none⟩ = some (.bool true) := by rw [h.c]; show some (Value.bool f.mini) = _; rw [hm]
  have H := Lib.hid h
  clear h e1 e2
  go_enter Try.func70, Try.ntmps70
  go_wp2
  go_end0
  exact ⟨rfl, v, H.out, FrS.refl _ _ _⟩

set_option maxRecDepth 20000 in
theorem ind70z_false (B b k r p tw : Nat) (out : List UInt8) (f : PF) (v : Value) (w : World) (h : PS B b k r p tw false out f v w) (hm : f.mini = false) (hlev : f.level ≤ 65536) (hind : f.ind ≤ 65536) (hmul : f.ind * f.level ≤ 65536) (hl : out.length + 70000 + 4096 ≤ 1073741824) (hc : f.col + 70000 ≤ 1073741824) (h0 : f.level = 0) :
    Calls Try.prog 70 #[.pointer (some ⟨p, 0, none⟩)] w (PDone B b k r p tw false (out ++ indL f) (indF false f) v w) := by
  have e1 : indL f = [] := by unfold indL; rw [if_neg (by rw [hm]; simp), if_pos h0]
  have e2 : indF false f = { f with last := f.level } := by unfold indF; rw [if_neg (by rw [hm]; simp), e1, stepL_nil]
  rw [e1, e2, List.append_nil]
  have c10 : w.cell? ⟨p, 10, none⟩ = some (.bool false) := by rw [h.c]; show some (Value.bool f.mini) = _; rw [hm]
  have c21 : w.cell? ⟨p, 21, none⟩ = some (.int .u64 f.level) := by rw [h.c]; rfl
  have c20 : w.cell? ⟨p, 20, none⟩ = some (.int .u64 f.last) := by rw [h.c]; rfl
  have c5 : w.cell? ⟨p, 5, none⟩ = some (.int .u64 f.ind) := by rw [h.c]; rfl
  have f20 := h.f 20
  have A0 := Lib.hid (And.intro (h.set 20 (.int .u64 f.level) { f with last := f.level } rfl) (fr4_set (FrS.refl (S4 b k r p) v w) 20 (.int .u64 f.level)))
  have hl0 : (f.level : Int) = 0 := by omega
  clear h e1 e2
  go_enter Try.func70, Try.ntmps70
  go_wp2
  go_end0
  exact ⟨rfl, v, by simpa [hl0] using A0.out.1, by simpa [hl0] using A0.out.2⟩

set_option maxRecDepth 20000 in
set_option maxHeartbeats 4000000 in
theorem ind70s_false (B b k r p tw : Nat) (out : List UInt8) (f : PF) (v : Value) (w : World) (h : PS B b k r p tw false out f v w) (hm : f.mini = false) (hlev : f.level ≤ 65536) (hind : f.ind ≤ 65536) (hmul : f.ind * f.level ≤ 65536) (hl : out.length + 70000 + 4096 ≤ 1073741824) (hc : f.col + 70000 ≤ 1073741824) (h0 : ¬ f.level = 0) (h1 : ¬ f.ind = 0) :
    Calls Try.prog 70 #[.pointer (some ⟨p, 0, none⟩)] w (PDone B b k r p tw false (out ++ indL f) (indF false f) v w) := by
  have e1 : indL f = List.replicate (f.ind * f.level) 32 := by unfold indL; rw [if_neg (by rw [hm]; simp), if_neg h0, if_neg h1]
  have e2 : indF false f = stepL false { f with last := f.level } (List.replicate (f.ind * f.level) 32) := by unfold indF; rw [if_neg (by rw [hm]; simp), e1]
  rw [e1, e2]
  have c10 : w.cell? ⟨p, 10, none⟩ = some (.bool false) := by rw [h.c]; show some (Value.bool f.mini) = _; rw [hm]
  have c21 : w.cell? ⟨p, 21, none⟩ = some (.int .u64 f.level) := by rw [h.c]; rfl
  have c20 : w.cell? ⟨p, 20, none⟩ = some (.int .u64 f.last) := by rw [h.c]; rfl
  have c5 : w.cell? ⟨p, 5, none⟩ = some (.int .u64 f.ind) := by rw [h.c]; rfl
  have f20 := h.f 20
  have A0 := Lib.hid (And.intro (h.set 20 (.int .u64 f.level) { f with last := f.level } rfl) (fr4_set (FrS.refl (S4 b k r p) v w) 20 (.int .u64 f.level)))
  have hl0 : ¬ (f.level : Int) = 0 := by omega
  have hl1 : ¬ (f.ind : Int) = 0 := by omega
  have hl2 : (f.level : Int) ≤ 65536 := by omega
  have hl3 : (f.ind : Int) ≤ 65536 := by omega
  have hl4 : (f.ind : Int) * (f.level : Int) = ((f.ind * f.level : Nat) : Int) := by simp
  have hl5 : ((f.ind * f.level : Nat) : Int) ≤ 65536 := by omega
  obtain ⟨M, hM⟩ : ∃ M, M = f.ind * f.level := ⟨_, rfl⟩
  have hwm : IntKind.u64.wrap ((f.ind : Int) * (f.level : Int)) = (M : Int) := by rw [hl4, ← hM]; exact IntWalk.u64_in _ (by omega)
  have HW := Lib.hid hwm
  clear e1 e2 hl4
  rw [← hM] at hl5 hmul ⊢
  clear h hM hwm
  go_enter Try.func70, Try.ntmps70
  go_wp2_with (fail)
  generalize hW0 : w.setCell ⟨p, 20, none⟩ _ = W0 at A0 ⊢
  have d5 : W0.cell? ⟨p, 5, none⟩ = some (.int .u64 f.ind) := by rw [A0.out.1.c]; rfl
  have d21 : W0.cell? ⟨p, 21, none⟩ = some (.int .u64 f.level) := by rw [A0.out.1.c]; rfl
  have S5 := Lib.hid (spaces55 B b k r p tw false out { f with last := f.level } v M W0.drew (A0.out.1.grew (fun _ _ => rfl)) (by omega) (by show f.col + _ ≤ _; omega))
  have hwm := HW.out
  clear c10 c21 c20 c5 f20 hW0 hmul
  go_region_held3 (fun W => W.cell? ⟨p, 5, none⟩ = some (.int .u64 f.ind) ∧ W.cell? ⟨p, 21, none⟩ = some (.int .u64 f.level)) (first | (exact ⟨e5, e21⟩) | (refine ⟨?_, ?_⟩ <;> ((try simp only [World.cell?_drew]); assumption)))
    (first | (go_at_call 55; (try rw [hwm]); refine S5.out.mono ?_; rintro e w1 ⟨rfl, v1, t1, t2⟩; have e5 : w1.cell? ⟨p, 5, none⟩ = some (.int .u64 f.ind) := (by rw [t1.c]; show some (Value.int .u64 ((stepL false { f with last := f.level } (List.replicate M 32)).ind : Int)) = _; rw [(step_level _ _ _).2.1]); have e21 : w1.cell? ⟨p, 21, none⟩ = some (.int .u64 f.level) := (by rw [t1.c]; show some (Value.int .u64 ((stepL false { f with last := f.level } (List.replicate M 32)).level : Int)) = _; rw [(step_level _ _ _).1]); have A1 := Lib.hid (And.intro t1 (A0.out.2.drew.trans t2)); clear t1 t2))
  go_wp2
  go_end0
  exact ⟨rfl, v1, A1.out.1, A1.out.2⟩

set_option maxRecDepth 20000 in
set_option maxHeartbeats 8000000 in
theorem ind70t_false (B b k r p tw : Nat) (out : List UInt8) (f : PF) (v : Value) (w : World) (h : PS B b k r p tw false out f v w) (hm : f.mini = false) (hlev : f.level ≤ 65536) (hind : f.ind ≤ 65536) (hmul : f.ind * f.level ≤ 65536) (hl : out.length + 70000 + 4096 ≤ 1073741824) (hc : f.col + 70000 ≤ 1073741824) (h0 : ¬ f.level = 0) (h1 : f.ind = 0) :
    Calls Try.prog 70 #[.pointer (some ⟨p, 0, none⟩)] w (PDone B b k r p tw false (out ++ indL f) (indF false f) v w) := by
  have e1 : indL f = [255] ++ List.replicate f.level 9 ++ [255] := by unfold indL; rw [if_neg (by rw [hm]; simp), if_neg h0, if_pos h1]
  have e2 : indF false f = stepL false { f with last := f.level } ([255] ++ List.replicate f.level 9 ++ [255]) := by unfold indF; rw [if_neg (by rw [hm]; simp), e1]
  rw [e1, e2]
  have c10 : w.cell? ⟨p, 10, none⟩ = some (.bool false) := by rw [h.c]; show some (Value.bool f.mini) = _; rw [hm]
  have c21 : w.cell? ⟨p, 21, none⟩ = some (.int .u64 f.level) := by rw [h.c]; rfl
  have c20 : w.cell? ⟨p, 20, none⟩ = some (.int .u64 f.last) := by rw [h.c]; rfl
  have c5 : w.cell? ⟨p, 5, none⟩ = some (.int .u64 f.ind) := by rw [h.c]; rfl
  have f20 := h.f 20
  have A0 := Lib.hid (And.intro (h.set 20 (.int .u64 f.level) { f with last := f.level } rfl) (fr4_set (FrS.refl (S4 b k r p) v w) 20 (.int .u64 f.level)))
  have hl0 : ¬ (f.level : Int) = 0 := by omega
  have hl1 : (f.ind : Int) = 0 := by omega
  have hl2 : (f.level : Int) ≤ 65536 := by omega
  have mm := m_byteF k
  have c0 : (w.setCell ⟨p, 20, none⟩ (.int .u64 f.level)).cell? ⟨p, 0, none⟩ = some (.iface 79 (.pointer (some ⟨k, 0, none⟩))) := by rw [A0.out.1.c]; rfl
  have cb : True := trivial
  have CB := Lib.hid cb
  obtain ⟨lv, hlv⟩ : ∃ lv, lv = f.level := ⟨_, rfl⟩
  have HLV := Lib.hid hlv
  clear h e1 e2 cb hlv
  go_enter Try.func70, Try.ntmps70
  go_wp2_with (go_at_call 129; refine (byte129 B b k r p tw _ _ _ 255 _ A0.out.1 (by omega)).mono ?_; rintro e w1 ⟨rfl, vw1, t1, t2⟩; have A1 := Lib.hid (And.intro t1 (A0.out.2.trans t2)); clear t1 t2 A0)
  have S0 : Hid (AtTb B b k r p tw false (out ++ [255]) (stepF false { f with last := f.level } 255) v vw1 w w1 0) := Lib.hid ⟨by rw [List.replicate_zero, List.append_nil, stepL_nil]; exact A1.out.1, A1.out.2⟩
  clear A1 c0 c10 c21 c20 c5 f20
  go_loopg [2] (f.level) (fun g v2 wr => ∃ (j : Nat) (v' : Value), v2 = .int .u64 j ∧ (j : Int) ≤ (f.level : Int) ∧ f.level - j ≤ g ∧ Hid (AtTb B b k r p tw false (out ++ [255]) (stepF false { f with last := f.level } 255) v v' w wr j))
  case atStart => exact ⟨0, vw1, rfl, by omega, by omega, S0⟩
  case round =>
    clear S0
    obtain ⟨j, v', rfl, hj, hg, AT⟩ := hrel
    have c0 : wr.cell? ⟨p, 0, none⟩ = some (.iface 79 (.pointer (some ⟨k, 0, none⟩))) := by rw [AT.out.ps.c]; rfl
    have c21 : wr.cell? ⟨p, 21, none⟩ = some (.int .u64 f.level) := by
      rw [AT.out.ps.c]
      show some (Value.int .u64 ((stepL false (stepF false { f with last := f.level } 255) (List.replicate j 9)).level : Int)) = _
      rw [(step_level _ _ _).1]; rfl
    have tc := tabs_col false (stepF false { f with last := f.level } 255) j
    have A1 := Lib.hid (And.intro AT.out.ps AT.out.fr)
    have hlen : (out ++ [255] ++ List.replicate j 9).length + 4096 ≤ 1073741824 := by simp; omega
    have hcol : (stepL false (stepF false { f with last := f.level } 255) (List.replicate j 9)).col ≤ 1073741824 := by show f.col ≤ _; omega
    have HLEN := Lib.hid hlen
    have HCOL := Lib.hid hcol
    clear tc hlen hcol
    by_cases hlt : (j : Int) < (f.level : Int)
    · go_wp2_with (go_at_call 129; refine (byte129 B b k r p tw _ _ _ 9 _ A1.out.1 HLEN.out).mono ?_; rintro e w2 ⟨rfl, v2, t1, t2⟩; have A2 := Lib.hid (AT.out.step t1 t2); clear t1 t2)
      go_roundg (f.level - (j + 1))
      case measure => omega
      case rel => exact ⟨j + 1, v2, by go_num, by omega, Nat.le_refl _, A2⟩
    · have hjn : j = f.level := by omega
      clear AT
      go_wp2_with (go_at_call 129; refine (byte129 B b k r p tw _ _ _ 255 _ A1.out.1 HLEN.out).mono ?_; rintro e w2 ⟨rfl, v2, t1, t2⟩; have A2 := Lib.hid (And.intro t1 (A1.out.2.trans t2)); clear t1 t2)
      go_end0
      refine ⟨rfl, v2, ?_, A2.out.2⟩
      have h9 := A2.out.1
      rw [hjn, stepF_one, stepF_one, stepL_app, stepL_app] at h9
      rw [show out ++ 255 :: (List.replicate f.level 9 ++ [255]) = out ++ [255] ++ List.replicate f.level 9 ++ [255] by simp]
      exact h9

set_option maxRecDepth 20000 in
theorem ind70z_true (B b k r p tw : Nat) (out : List UInt8) (f : PF) (v : Value) (w : World) (h : PS B b k r p tw true out f v w) (hm : f.mini = false) (hlev : f.level ≤ 65536) (hind : f.ind ≤ 65536) (hmul : f.ind * f.level ≤ 65536) (hl : out.length + 70000 + 4096 ≤ 1073741824) (hc : f.col + 70000 ≤ 1073741824) (h0 : f.level = 0) :
    Calls Try.prog 70 #[.pointer (some ⟨p, 0, none⟩)] w (PDone B b k r p tw true (out ++ indL f) (indF true f) v w) := by
  have e1 : indL f = [] := by unfold indL; rw [if_neg (by rw [hm]; simp), if_pos h0]
  have e2 : indF true f = { f with last := f.level } := by unfold indF; rw [if_neg (by rw [hm]; simp), e1, stepL_nil]
  rw [e1, e2, List.append_nil]
  have c10 : w.cell? ⟨p, 10, none⟩ = some (.bool false) := by rw [h.c]; show some (Value.bool f.mini) = _; rw [hm]
  have c21 : w.cell? ⟨p, 21, none⟩ = some (.int .u64 f.level) := by rw [h.c]; rfl
  have c20 : w.cell? ⟨p, 20, none⟩ = some (.int .u64 f.last) := by rw [h.c]; rfl
  have c5 : w.cell? ⟨p, 5, none⟩ = some (.int .u64 f.ind) := by rw [h.c]; rfl
  have f20 := h.f 20
  have A0 := Lib.hid (And.intro (h.set 20 (.int .u64 f.level) { f with last := f.level } rfl) (fr4_set (FrS.refl (S4 b k r p) v w) 20 (.int .u64 f.level)))
  have hl0 : (f.level : Int) = 0 := by omega
  clear h e1 e2
  go_enter Try.func70, Try.ntmps70
  go_wp2
  go_end0
  exact ⟨rfl, v, by simpa [hl0] using A0.out.1, by simpa [hl0] using A0.out.2⟩

set_option maxRecDepth 20000 in
set_option maxHeartbeats 4000000 in
theorem ind70s_true (B b k r p tw : Nat) (out : List UInt8) (f : PF) (v : Value) (w : World) (h : PS B b k r p tw true out f v w) (hm : f.mini = false) (hlev : f.level ≤ 65536) (hind : f.ind ≤ 65536) (hmul : f.ind * f.level ≤ 65536) (hl : out.length + 70000 + 4096 ≤ 1073741824) (hc : f.col + 70000 ≤ 1073741824) (h0 : ¬ f.level = 0) (h1 : ¬ f.ind = 0) :
    Calls Try.prog 70 #[.pointer (some ⟨p, 0, none⟩)] w (PDone B b k r p tw true (out ++ indL f) (indF true f) v w) := by
  have e1 : indL f = List.replicate (f.ind * f.level) 32 := by unfold indL; rw [if_neg (by rw [hm]; simp), if_neg h0, if_neg h1]
  have e2 : indF true f = stepL true { f with last := f.level } (List.replicate (f.ind * f.level) 32) := by unfold indF; rw [if_neg (by rw [hm]; simp), e1]
  rw [e1, e2]
  have c10 : w.cell? ⟨p, 10, none⟩ = some (.bool false) := by rw [h.c]; show some (Value.bool f.mini) = _; rw [hm]
  have c21 : w.cell? ⟨p, 21, none⟩ = some (.int .u64 f.level) := by rw [h.c]; rfl
  have c20 : w.cell? ⟨p, 20, none⟩ = some (.int .u64 f.last) := by rw [h.c]; rfl
  have c5 : w.cell? ⟨p, 5, none⟩ = some (.int .u64 f.ind) := by rw [h.c]; rfl
  have f20 := h.f 20
  have A0 := Lib.hid (And.intro (h.set 20 (.int .u64 f.level) { f with last := f.level } rfl) (fr4_set (FrS.refl (S4 b k r p) v w) 20 (.int .u64 f.level)))
  have hl0 : ¬ (f.level : Int) = 0 := by omega
  have hl1 : ¬ (f.ind : Int) = 0 := by omega
  have hl2 : (f.level : Int) ≤ 65536 := by omega
  have hl3 : (f.ind : Int) ≤ 65536 := by omega
  have hl4 : (f.ind : Int) * (f.level : Int) = ((f.ind * f.level : Nat) : Int) := by simp
  have hl5 : ((f.ind * f.level : Nat) : Int) ≤ 65536 := by omega
  obtain ⟨M, hM⟩ : ∃ M, M = f.ind * f.level := ⟨_, rfl⟩
  have hwm : IntKind.u64.wrap ((f.ind : Int) * (f.level : Int)) = (M : Int) := by rw [hl4, ← hM]; exact IntWalk.u64_in _ (by omega)
  have HW := Lib.hid hwm
  clear e1 e2 hl4
  rw [← hM] at hl5 hmul ⊢
  clear h hM hwm
  go_enter Try.func70, Try.ntmps70
  go_wp2_with (fail)
  generalize hW0 : w.setCell ⟨p, 20, none⟩ _ = W0 at A0 ⊢
  have d5 : W0.cell? ⟨p, 5, none⟩ = some (.int .u64 f.ind) := by rw [A0.out.1.c]; rfl
  have d21 : W0.cell? ⟨p, 21, none⟩ = some (.int .u64 f.level) := by rw [A0.out.1.c]; rfl
  have S5 := Lib.hid (spaces55 B b k r p tw true out { f with last := f.level } v M W0.drew (A0.out.1.grew (fun _ _ => rfl)) (by omega) (by show f.col + _ ≤ _; omega))
  have hwm := HW.out
  clear c10 c21 c20 c5 f20 hW0 hmul
  go_region_held3 (fun W => W.cell? ⟨p, 5, none⟩ = some (.int .u64 f.ind) ∧ W.cell? ⟨p, 21, none⟩ = some (.int .u64 f.level)) (first | (exact ⟨e5, e21⟩) | (refine ⟨?_, ?_⟩ <;> ((try simp only [World.cell?_drew]); assumption)))
    (first | (go_at_call 55; (try rw [hwm]); refine S5.out.mono ?_; rintro e w1 ⟨rfl, v1, t1, t2⟩; have e5 : w1.cell? ⟨p, 5, none⟩ = some (.int .u64 f.ind) := (by rw [t1.c]; show some (Value.int .u64 ((stepL true { f with last := f.level } (List.replicate M 32)).ind : Int)) = _; rw [(step_level _ _ _).2.1]); have e21 : w1.cell? ⟨p, 21, none⟩ = some (.int .u64 f.level) := (by rw [t1.c]; show some (Value.int .u64 ((stepL true { f with last := f.level } (List.replicate M 32)).level : Int)) = _; rw [(step_level _ _ _).1]); have A1 := Lib.hid (And.intro t1 (A0.out.2.drew.trans t2)); clear t1 t2))
  go_wp2
  go_end0
  exact ⟨rfl, v1, A1.out.1, A1.out.2⟩

set_option maxRecDepth 20000 in
set_option maxHeartbeats 8000000 in
theorem ind70t_true (B b k r p tw : Nat) (out : List UInt8) (f : PF) (v : Value) (w : World) (h : PS B b k r p tw true out f v w) (hm : f.mini = false) (hlev : f.level ≤ 65536) (hind : f.ind ≤ 65536) (hmul : f.ind * f.level ≤ 65536) (hl : out.length + 70000 + 4096 ≤ 1073741824) (hc : f.col + 70000 ≤ 1073741824) (h0 : ¬ f.level = 0) (h1 : f.ind = 0) :
    Calls Try.prog 70 #[.pointer (some ⟨p, 0, none⟩)] w (PDone B b k r p tw true (out ++ indL f) (indF true f) v w) := by
  have e1 : indL f = [255] ++ List.replicate f.level 9 ++ [255] := by unfold indL; rw [if_neg (by rw [hm]; simp), if_neg h0, if_pos h1]
  have e2 : indF true f = stepL true { f with last := f.level } ([255] ++ List.replicate f.level 9 ++ [255]) := by unfold indF; rw [if_neg (by rw [hm]; simp), e1]
  rw [e1, e2]
  have c10 : w.cell? ⟨p, 10, none⟩ = some (.bool false) := by rw [h.c]; show some (Value.bool f.mini) = _; rw [hm]
  have c21 : w.cell? ⟨p, 21, none⟩ = some (.int .u64 f.level) := by rw [h.c]; rfl
  have c20 : w.cell? ⟨p, 20, none⟩ = some (.int .u64 f.last) := by rw [h.c]; rfl
  have c5 : w.cell? ⟨p, 5, none⟩ = some (.int .u64 f.ind) := by rw [h.c]; rfl
  have f20 := h.f 20
  have A0 := Lib.hid (And.intro (h.set 20 (.int .u64 f.level) { f with last := f.level } rfl) (fr4_set (FrS.refl (S4 b k r p) v w) 20 (.int .u64 f.level)))
  have hl0 : ¬ (f.level : Int) = 0 := by omega
  have hl1 : (f.ind : Int) = 0 := by omega
  have hl2 : (f.level : Int) ≤ 65536 := by omega
  have mm := m_byteT p
  have c0 : (w.setCell ⟨p, 20, none⟩ (.int .u64 f.level)).cell? ⟨p, 0, none⟩ = some (.iface 134 (.pointer (some ⟨p, 2, none⟩))) := by rw [A0.out.1.c]; rfl
  have cb : (stepF true { f with last := f.level } 255).col ≤ f.col + 1 := by unfold stepF addF addB; simp
  have CB := Lib.hid cb
  obtain ⟨lv, hlv⟩ : ∃ lv, lv = f.level := ⟨_, rfl⟩
  have HLV := Lib.hid hlv
  clear h e1 e2 cb hlv
  go_enter Try.func70, Try.ntmps70
  go_wp2_with (go_at_call 142; refine (byte142 B b k r p tw _ _ _ 255 _ A0.out.1 (by omega) (by show f.col ≤ _; omega)).mono ?_; rintro e w1 ⟨rfl, vw1, t1, t2⟩; have A1 := Lib.hid (And.intro t1 (A0.out.2.trans t2)); clear t1 t2 A0)
  have S0 : Hid (AtTb B b k r p tw true (out ++ [255]) (stepF true { f with last := f.level } 255) v vw1 w w1 0) := Lib.hid ⟨by rw [List.replicate_zero, List.append_nil, stepL_nil]; exact A1.out.1, A1.out.2⟩
  clear A1 c0 c10 c21 c20 c5 f20
  go_loopg [2] (f.level) (fun g v2 wr => ∃ (j : Nat) (v' : Value), v2 = .int .u64 j ∧ (j : Int) ≤ (f.level : Int) ∧ f.level - j ≤ g ∧ Hid (AtTb B b k r p tw true (out ++ [255]) (stepF true { f with last := f.level } 255) v v' w wr j))
  case atStart => exact ⟨0, vw1, rfl, by omega, by omega, S0⟩
  case round =>
    clear S0
    obtain ⟨j, v', rfl, hj, hg, AT⟩ := hrel
    have c0 : wr.cell? ⟨p, 0, none⟩ = some (.iface 134 (.pointer (some ⟨p, 2, none⟩))) := by rw [AT.out.ps.c]; rfl
    have c21 : wr.cell? ⟨p, 21, none⟩ = some (.int .u64 f.level) := by
      rw [AT.out.ps.c]
      show some (Value.int .u64 ((stepL true (stepF true { f with last := f.level } 255) (List.replicate j 9)).level : Int)) = _
      rw [(step_level _ _ _).1]; rfl
    have tc := tabs_col true (stepF true { f with last := f.level } 255) j
    have A1 := Lib.hid (And.intro AT.out.ps AT.out.fr)
    have hlen : (out ++ [255] ++ List.replicate j 9).length + 4096 ≤ 1073741824 := by simp; omega
    have hcol : (stepL true (stepF true { f with last := f.level } 255) (List.replicate j 9)).col ≤ 1073741824 := by have := CB.out; omega
    have HLEN := Lib.hid hlen
    have HCOL := Lib.hid hcol
    clear tc hlen hcol
    by_cases hlt : (j : Int) < (f.level : Int)
    · go_wp2_with (go_at_call 142; refine (byte142 B b k r p tw _ _ _ 9 _ A1.out.1 HLEN.out HCOL.out).mono ?_; rintro e w2 ⟨rfl, v2, t1, t2⟩; have A2 := Lib.hid (AT.out.step t1 t2); clear t1 t2)
      go_roundg (f.level - (j + 1))
      case measure => omega
      case rel => exact ⟨j + 1, v2, by go_num, by omega, Nat.le_refl _, A2⟩
    · have hjn : j = f.level := by omega
      clear AT
      go_wp2_with (go_at_call 142; refine (byte142 B b k r p tw _ _ _ 255 _ A1.out.1 HLEN.out HCOL.out).mono ?_; rintro e w2 ⟨rfl, v2, t1, t2⟩; have A2 := Lib.hid (And.intro t1 (A1.out.2.trans t2)); clear t1 t2)
      go_end0
      refine ⟨rfl, v2, ?_, A2.out.2⟩
      have h9 := A2.out.1
      rw [hjn, stepF_one, stepF_one, stepL_app, stepL_app] at h9
      rw [show out ++ 255 :: (List.replicate f.level 9 ++ [255]) = out ++ [255] ++ List.replicate f.level 9 ++ [255] by simp]
      exact h9

theorem ind70 (B b k r p tw : Nat) (kp : Bool) (out : List UInt8) (f : PF) (v : Value) (w : World) (h : PS B b k r p tw kp out f v w) (hlev : f.level ≤ 65536) (hind : f.ind ≤ 65536) (hmul : f.ind * f.level ≤ 65536) (hl : out.length + 70000 + 4096 ≤ 1073741824) (hc : f.col + 70000 ≤ 1073741824) :
    Calls Try.prog 70 #[.pointer (some ⟨p, 0, none⟩)] w (PDone B b k r p tw kp (out ++ indL f) (indF kp f) v w) := by
  cases hm : f.mini
  · by_cases h0 : f.level = 0
    · cases kp
      · exact ind70z_false B b k r p tw out f v w h hm hlev hind hmul hl hc h0
      · exact ind70z_true B b k r p tw out f v w h hm hlev hind hmul hl hc h0
    · by_cases h1 : f.ind = 0
      · cases kp
        · exact ind70t_false B b k r p tw out f v w h hm hlev hind hmul hl hc h0 h1
        · exact ind70t_true B b k r p tw out f v w h hm hlev hind hmul hl hc h0 h1
      · cases kp
        · exact ind70s_false B b k r p tw out f v w h hm hlev hind hmul hl hc h0 h1
        · exact ind70s_true B b k r p tw out f v w h hm hlev hind hmul hl hc h0 h1
  · exact ind70m B b k r p tw kp out f v w h hm
end Go.Proofs.Ytonhphjejlidiaa
