/-
  The walk of bufio.Writer's WriteString. Conditions: those in each theorem.
-/
import Derived.Test.YtopaaaacbegmnaaDoorCp
import Derived.WalkKit
import Derived.WalkSpells
import Derived.Deep.QuietTactic
import Derived.BigQuiet
import Derived.Deep.LoopGhost
namespace Go.Proofs.YtopaaaacbegmnaaDoor
set_option linter.unusedVariables false
open Go.Shelf Go.RowKit Go.Lib

/-- what WriteString leaves -/
def StrOut (B b k r : Nat) (out : List UInt8) (n : Nat) (v : Value) (w : World) (e : Ending) (w' : World) : Prop :=
  e = .returned (.tuple #[.int .i64 n, .nilIface]) ∧ ∃ v', BS B b k r out v' w' ∧ FrS (S3 b k r) v v' w w'

/-- the loop's head: s2 is left to write -/
structure AtW (B b k r : Nat) (out : List UInt8) (n : Nat) (v : Value) (w : World) (s2 : ByteArray) (nn : Nat) (sw : Value) (fl pend : List UInt8) (v' : Value) (rc : Array Value) (wr : World) : Prop where
  bw : BW B b k r fl pend v' rc wr
  fr : FrS (S3 b k r) v v' w wr
  left : fl ++ pend ++ s2.data.toList = out
  num : nn + s2.size = n
  sw : sw = .nilIface ∨ s2.size = 0

theorem BW.setErr {B b k r : Nat} {fl pend : List UInt8} {v : Value} {rc : Array Value} {w : World} (h : BW B b k r fl pend v rc w) : BW B b k r fl pend v rc (w.setCell ⟨k, 0, none⟩ .nilIface) := by
  have hs : ∀ i, i ≠ k → (w.setCell ⟨k, 0, none⟩ .nilIface).heap[i]? = w.heap[i]? := fun i hi => Below.heap_setCell _ _ _ _ hi
  exact ⟨h.buf.kept (hs b h.nbk) (fun g hg => hs g fun e => h.ok (e ▸ hg)), Lib.heap_setCell_same (i := 0) h.wr _, (hs r (Ne.symm h.nkr)).trans h.row, h.rsize, h.held, h.fits, h.nbk, h.nbr, h.nkr, h.ok, h.or, h.lb, h.lk, h.lr, h.lo⟩

/-- the end: nothing is left -/
theorem AtW.end0 {B b k r : Nat} {out : List UInt8} {n : Nat} {v : Value} {w : World} {s2 : ByteArray} {nn : Nat} {sw : Value} {fl pend : List UInt8} {v' : Value} {rc : Array Value} {wr : World} (h : AtW B b k r out n v w s2 nn sw fl pend v' rc wr) (hz : s2.size = 0) {e : Ending} {wf : World} {m : Nat}
    (he : e = .returned (.tuple #[.int .i64 nn, .nilIface])) (hm : m = pend.length) (hw : wf.heap = (wr.setCell ⟨k, 2, none⟩ (.int .i64 m)).heap) (h1 : wf.os = wr.os) (h2 : wf.tape = wr.tape) (h3 : wf.output = wr.output) : StrOut B b k r out n v w e wf := by
  subst hm
  have hs : s2.data.toList = [] := List.eq_nil_of_length_eq_zero (by simpa using hz)
  have hl := h.left
  rw [hs, List.append_nil] at hl
  have hc := (h.bw.count (p2 := pend) h.bw.held h.bw.fits).kept (w' := wf) (fun i _ => by rw [hw]) (fun i _ => by rw [hw])
  have hf := h.fr.setCell (a := ⟨k, 2, none⟩) (.inr (.inl rfl)) (.int .i64 pend.length)
  refine ⟨by rw [he, ← h.num, hz, Nat.add_zero], v', ⟨fl, pend, rc, hl.symm, hc⟩, ⟨h1.trans h.fr.os, h2.trans h.fr.tape, h3.trans h.fr.output, by rw [hw]; exact hf.size, fun i hi hn hv => by rw [hw]; exact hf.block i hi hn hv, h.fr.own⟩⟩
/-- the end: what is left fits -/
theorem AtW.end1 {B b k r : Nat} {out : List UInt8} {n : Nat} {v : Value} {w : World} {s2 : ByteArray} {nn : Nat} {sw : Value} {fl pend : List UInt8} {v' : Value} {rc : Array Value} {wr : World} (h : AtW B b k r out n v w s2 nn sw fl pend v' rc wr) {e : Ending} {wf : World} {p : Nat}
    (he : e = .returned (.tuple #[.int .i64 (nn + s2.size : Nat), .nilIface])) (hp : p = pend.length) (hfit : p + s2.size ≤ 4096) (hw : wf.heap = ((wr.setRow r (rc.toList.take p ++ Lib.byteCells s2.data.toList ++ rc.toList.drop (p + s2.size)).toArray).setCell ⟨k, 2, none⟩ (.int .i64 (p + s2.size : Nat))).heap) (h1 : wf.os = wr.os) (h2 : wf.tape = wr.tape) (h3 : wf.output = wr.output) : StrOut B b k r out n v w e wf := by
  subst hp
  have hsl : s2.data.toList.length = s2.size := by simp
  have hcp := h.bw.copied (m := s2.data.toList) (by omega)
  rw [hsl] at hcp
  have hc := hcp.kept (w' := wf) (fun i _ => by rw [hw]) (fun i _ => by rw [hw])
  have hf := (h.fr.setRow (r := r) (.inr (.inr rfl)) (rc.toList.take pend.length ++ Lib.byteCells s2.data.toList ++ rc.toList.drop (pend.length + s2.size)).toArray).setCell (a := ⟨k, 2, none⟩) (.inr (.inl rfl)) (.int .i64 (pend.length + s2.size : Nat))
  refine ⟨by rw [he, h.num], v', ⟨fl, pend ++ s2.data.toList, _, by rw [← List.append_assoc]; exact h.left.symm, hc⟩, ⟨h1.trans h.fr.os, h2.trans h.fr.tape, h3.trans h.fr.output, by rw [hw]; exact hf.size, fun i hi hn hv => by rw [hw]; exact hf.block i hi hn hv, h.fr.own⟩⟩

theorem FrS.same {S : Nat → Prop} {v v' : Value} {w w1 W : World} (h : FrS S v v' w w1) (hh : W.heap = w1.heap) (h1 : W.os = w1.os) (h2 : W.tape = w1.tape) (h3 : W.output = w1.output) : FrS S v v' w W :=
  ⟨h1.trans h.os, h2.trans h.tape, h3.trans h.output, by rw [hh]; exact h.size, fun i hi hn hv => by rw [hh]; exact h.block i hi hn hv, h.own⟩

/-- what a flush inside leaves -/
def FlOut (B b k r : Nat) (fl : List UInt8) (v : Value) (w : World) (e : Ending) (w' : World) : Prop :=
  e = .returned .nilIface ∧ ∃ v' rc', BW B b k r fl [] v' rc' w' ∧ FrS (S3 b k r) v v' w w'

theorem AtW.flush {B b k r : Nat} {out : List UInt8} {n : Nat} {v : Value} {w : World} {s2 : ByteArray} {nn : Nat} {sw : Value} {fl pend : List UInt8} {v' : Value} {rc : Array Value} {wr : World} (h : AtW B b k r out n v w s2 nn sw fl pend v' rc wr) (hB : B ≤ w.heap.size) (hlo : out.length + 4096 ≤ 1073741824)
    (p m : Nat) (hp : p = pend.length) (hm : p + m = 4096) (hms : m ≤ s2.size) (W : World) (hw : W.heap = ((wr.setRow r (rc.toList.take p ++ (Lib.byteCells (s2.data.toList.take m) ++ rc.toList.drop 4096)).toArray).setCell ⟨k, 2, none⟩ (.int .i64 4096)).heap) (h1 : W.os = wr.os) (h2 : W.tape = wr.tape) (h3 : W.output = wr.output) :
    Calls Tryd.prog 21 #[.pointer (some ⟨k, 0, none⟩)] W (FlOut B b k r (fl ++ (pend ++ s2.data.toList.take m)) v w) := by
  subst hp
  have hsl : (s2.data.toList.take m).length = m := by rw [List.length_take]; have : s2.data.toList.length = s2.size := by simp
                                                      omega
  have hcp := h.bw.copied (m := s2.data.toList.take m) (by omega)
  rw [hsl, hm, List.append_assoc] at hcp
  have hc := hcp.kept (w' := W) (fun i _ => by rw [hw]; rfl) (fun i _ => by rw [hw]; rfl)
  have hf := (h.fr.setRow (r := r) (.inr (.inr rfl)) (rc.toList.take pend.length ++ (Lib.byteCells (s2.data.toList.take m) ++ rc.toList.drop 4096)).toArray).setCell (a := ⟨k, 2, none⟩) (.inr (.inl rfl)) (.int .i64 4096)
  have hf2 := hf.same hw h1 h2 h3
  have hll := congrArg List.length h.left
  simp only [List.length_append] at hll
  exact (bw_flush B b k r fl _ v' _ W hc (Nat.le_trans hB hf2.size) (by omega)).mono fun e w' ⟨he, v3, rc3, h4, h5⟩ => ⟨he, v3, rc3, h4, hf2.trans h5⟩

theorem AtW.flush0 {B b k r : Nat} {out : List UInt8} {n : Nat} {v : Value} {w : World} {s2 : ByteArray} {nn : Nat} {sw : Value} {fl pend : List UInt8} {v' : Value} {rc : Array Value} {wr : World} (h : AtW B b k r out n v w s2 nn sw fl pend v' rc wr) (hB : B ≤ w.heap.size) (hlo : out.length + 4096 ≤ 1073741824)
    (hp : 4096 = pend.length) (W : World) (hw : W.heap = (wr.setCell ⟨k, 2, none⟩ (.int .i64 4096)).heap) (h1 : W.os = wr.os) (h2 : W.tape = wr.tape) (h3 : W.output = wr.output) :
    Calls Tryd.prog 21 #[.pointer (some ⟨k, 0, none⟩)] W (FlOut B b k r (fl ++ (pend ++ s2.data.toList.take 0)) v w) := by
  have hcp := h.bw.count (p2 := pend) h.bw.held h.bw.fits
  rw [← hp] at hcp
  have hc := hcp.kept (w' := W) (fun i _ => by rw [hw]; rfl) (fun i _ => by rw [hw]; rfl)
  have hf := h.fr.setCell (a := ⟨k, 2, none⟩) (.inr (.inl rfl)) (.int .i64 4096)
  have hf2 := hf.same hw h1 h2 h3
  have hll := congrArg List.length h.left
  simp only [List.length_append] at hll
  rw [List.take_zero, List.append_nil]
  exact (bw_flush B b k r fl _ v' _ W hc (Nat.le_trans hB hf2.size) (by omega)).mono fun e w' ⟨he, v3, rc3, h4, h5⟩ => ⟨he, v3, rc3, h4, hf2.trans h5⟩

/-- behind a flush inside -/
theorem AtW.next {B b k r : Nat} {out : List UInt8} {n : Nat} {v : Value} {w : World} {s2 : ByteArray} {nn : Nat} {sw : Value} {fl pend : List UInt8} {v' : Value} {rc : Array Value} {wr : World} (h : AtW B b k r out n v w s2 nn sw fl pend v' rc wr) (hs : sw = .nilIface) (m : Nat) (hms : m ≤ s2.size)
    {v3 : Value} {rc3 : Array Value} {w3 : World} (h4 : BW B b k r (fl ++ (pend ++ s2.data.toList.take m)) [] v3 rc3 w3) (h5 : FrS (S3 b k r) v v3 w w3) : AtW B b k r out n v w (s2.extract m s2.size) (nn + m) sw (fl ++ (pend ++ s2.data.toList.take m)) [] v3 rc3 w3 := by
  have hx : (s2.extract m s2.size).data.toList = s2.data.toList.drop m := by
    simp [ByteArray.data_extract, Array.toList_extract, List.extract_eq_take_drop]
    rw [List.take_of_length_le (by simp)]
  have hz : (s2.extract m s2.size).size = s2.size - m := by simp
  refine ⟨h4, h5, ?_, by have := h.num; omega, .inl hs⟩
  rw [hx, List.append_nil, ← h.left]
  simp only [List.append_assoc, List.take_append_drop]

theorem least_one (p : String → Bool) (f : String → String) (s : String) : (Instr.least (List.partition p [s]).snd <|> Instr.least (List.map f (List.partition p [s]).fst)).isSome = true := by
  rw [List.partition_eq_filter_filter]
  cases hp : p s with
  | true => simp [List.filter, hp, Instr.least]
  | false => simp [List.filter, hp, Instr.least]
/-- the keeping sink has no WriteString -/
theorem missing_ws : (Instr.missingMethod #[("WriteString", 66)] Tryd.t29.methods).isSome = true := by
  have h : (List.map (fun x => x.fst) (List.filter (fun x : String × TypeId => match x with | (name, sig) => !Tryd.t29.methods.any fun m => m.name == name && m.sig == sig) #[("WriteString", 66)].toList)) = ["WriteString"] := by kernel_rfl
  unfold Instr.missingMethod
  simp only [h]
  exact least_one _ _ _
theorem ta_fails (b : Nat) (w : World) : (Instr.typeAssert (.iface 29 (.pointer (some ⟨b, 0, none⟩))) 60 145 true).run Tryd.prog w = .ok (.tuple #[.nilIface, .bool false]) w := by
  obtain ⟨m, hm⟩ : ∃ m, Instr.missingMethod #[("WriteString", 66)] Tryd.t29.methods = some m := Option.isSome_iff_exists.1 missing_ws
  have hz : (zeroValue 145).run Tryd.prog w = .ok .nilIface w := by kernel_rfl
  unfold Instr.typeAssert
  simp [hm, hz]

set_option maxRecDepth 20000 in
set_option maxHeartbeats 4000000 in
theorem bw_str0 (B b k r : Nat) (fl pend : List UInt8) (v : Value) (rc : Array Value) (s : ByteArray) (w : World) (h : BW B b k r fl pend v rc w) (hB : B ≤ w.heap.size) (hl : fl.length + pend.length + s.size + 4096 ≤ 1073741824) :
    Calls Tryd.prog 91 #[.pointer (some ⟨k, 0, none⟩), .string s] w (StrOut B b k r (fl ++ pend ++ s.data.toList) s.size v w) := by
  have mixed : Tryd.prog.follows .mixedOrders = true := by kernel_rfl
  have A0 : Hid (AtW B b k r (fl ++ pend ++ s.data.toList) s.size v w s 0 .nilIface fl pend v rc w) := Lib.hid ⟨h, FrS.refl _ _ _, rfl, by omega, .inl rfl⟩
  obtain ⟨out, hout⟩ : ∃ out, out = fl ++ pend ++ s.data.toList := ⟨_, rfl⟩
  have hlo : out.length + 4096 ≤ 1073741824 := by rw [hout]; simp only [List.length_append]; have : s.data.toList.length = s.size := by simp
                                                  omega
  rw [← hout] at A0 ⊢
  have hss : s.size ≤ 1073741824 := by omega
  clear h hl hout
  go_enter Tryd.func91, Tryd.ntmps91
  go_wp2
  go_loopg [1, 6, 7, 8] (2 * s.size + 1) (fun g v1 v6 v7 v8 wr => ∃ (s2 : ByteArray) (nn : Nat) (fl pend : List UInt8) (v' : Value) (rc : Array Value) (tb : Bool), v1 = .string s2 ∧ v7 = .bool tb ∧ v8 = .int .i64 nn ∧ 2 * s2.size + (if pend = [] then 0 else 1) ≤ g ∧ Hid (AtW B b k r out s.size v w s2 nn v6 fl pend v' rc wr))
  case atStart => exact ⟨s, 0, fl, pend, v, rc, true, rfl, rfl, rfl, by split <;> omega, A0⟩
  case round =>
    clear A0
    obtain ⟨s2, nn, fl2, pend2, v', rc2, tb, rfl, rfl, rfl, hg, AT⟩ := hrel
    have h := AT.out.bw
    have c0 := h.c0
    have c1 := h.c1
    have c2 := h.c2
    have c3 := h.c3
    have hf := h.fits
    have nkr := h.nkr
    have fk := h.f 2
    obtain ⟨n, hn⟩ : ∃ n, n = pend2.length := ⟨_, rfl⟩
    rw [← hn] at c2 hf
    have HN := Lib.hid hn
    have AV := Lib.hid (fun W (c1 : W.cell? ⟨k, 1, none⟩ = some (.slice (some ⟨r, 0, none⟩) 4096 4096)) (c2 : W.cell? ⟨k, 2, none⟩ = some (.int .i64 n)) => bw_avail k n r W c1 c2 hf)
    have hnn : (nn : Int) ≤ 1073741824 := by have := AT.out.num; omega
    by_cases hex : (4096 - n : Int) < (s2.size : Int)
    · by_cases hn0 : n = 0
      · have hp : pend2 = [] := List.eq_nil_of_length_eq_zero (by omega)
        subst hp
        have hs2 : ¬ s2.size = 0 := by omega
        have hu6 : u6 = .nilIface := AT.out.sw.resolve_right hs2
        subst hu6
        subst hn0
        have hms : 4096 ≤ s2.size := by omega
        have FL := Lib.hid (AT.out.flush hB hlo 0 4096 hn rfl hms)
        have ta : ∀ w, (Instr.typeAssert (.iface 29 (.pointer (some ⟨b, 0, none⟩))) 60 145 true).run Tryd.prog w = .ok (.tuple #[.nilIface, .bool false]) w := fun w => ta_fails b w
        have hm2 : (4096 : Int) ≤ (s2.size : Int) := by omega
        have hbig : (4096 : Int) < (s2.size : Int) := by omega
        have hsi : (s2.size : Int) ≤ 1073741824 := by have := AT.out.num; omega
        have CF : Hid (∀ d ty, (Builtin.copy_ #[26, 9] ty #[.slice (some ⟨r, 0, none⟩) 4096 4096, .string s2]).run Tryd.prog (wr.drewN d).drew = .ok (goInt 4096) ((wr.drewN d).drew.setRow r (rc2.toList.take 0 ++ Lib.byteCells (s2.data.toList.take 4096) ++ rc2.toList.drop (0 + 4096)).toArray)) := Lib.hid fun d ty => ((h.drewN d).kept (w' := (wr.drewN d).drew) (fun _ _ => rfl) (fun _ _ => rfl)).cp_part s2 0 4096 4096 hn hms (by omega) ty
        clear h hn hs2
        cases tb with
        | true =>
          go_wp2_with (first | (go_at_call 88; refine (AV.out _ c1 c2).mono ?_; rintro e w1 ⟨rfl, d, hw1⟩; have d0 : w1.cell? ⟨k, 0, none⟩ = some .nilIface := (by rw [hw1]; exact c0); have d1 : w1.cell? ⟨k, 1, none⟩ = some (.slice (some ⟨r, 0, none⟩) 4096 4096) := (by rw [hw1]; exact c1); have d2 : w1.cell? ⟨k, 2, none⟩ = some (.int .i64 0) := (by rw [hw1]; exact c2); have ek : w1.frozen? ⟨k, 2, none⟩ = false := (by rw [hw1]; exact fk); have cf : ∀ ty, (Builtin.copy_ #[26, 9] ty #[.slice (some ⟨r, 0, none⟩) 4096 4096, .string s2]).run Tryd.prog w1.drew = .ok (goInt 4096) (w1.drew.setRow r (rc2.toList.take 0 ++ Lib.byteCells (s2.data.toList.take 4096) ++ rc2.toList.drop (0 + 4096)).toArray) := (by rw [hw1]; exact CF.out d); have g2 : ∀ x, (w1.drew.setRow r x).cell? ⟨k, 2, none⟩ = some (.int .i64 0) := (fun x => (World.cell?_of_block (a := ⟨k, 2, none⟩) (setRow_other _ _ _ _ nkr)).trans d2); have gf : ∀ x, (w1.drew.setRow r x).frozen? ⟨k, 2, none⟩ = false := (fun x => (World.frozen?_of_block (a := ⟨k, 2, none⟩) (setRow_other _ _ _ _ nkr)).trans ek); have d3 : w1.cell? ⟨k, 3, none⟩ = some (.iface 29 (.pointer (some ⟨b, 0, none⟩))) := (by rw [hw1]; exact c3); have HW := Lib.hid hw1; clear hw1 AV c0 c1 c2 c3 fk CF) | (go_at_call 92; refine (bw_buffered k 0 w1 d2).mono ?_; rintro e w2 ⟨rfl, hw2⟩; rw [hw2]; clear hw2))
          go_big_region
          go_wp2_with (go_at_call 21; refine (FL.out _ ?_ ?_ ?_ ?_).mono ?_)
          · rw [HW.out]; rfl
          · rw [HW.out]; rfl
          · rw [HW.out]; rfl
          · rw [HW.out]; rfl
          rintro e w3 ⟨rfl, v3, rc3, h4, h5⟩
          have HN4 := Lib.hid (AT.out.next rfl 4096 hms h4 h5)
          clear h4 h5
          go_wp2
          go_roundg (2 * (s2.size - 4096))
          case rel => exact ⟨_, nn + 4096, _, [], v3, rc3, _, rfl, rfl, by go_num, by simp, HN4⟩
          case measure => simp at hg; omega
        | false =>
          go_wp2_with (first | (go_at_call 88; refine (AV.out _ c1 c2).mono ?_; rintro e w1 ⟨rfl, d, hw1⟩; have d0 : w1.cell? ⟨k, 0, none⟩ = some .nilIface := (by rw [hw1]; exact c0); have d1 : w1.cell? ⟨k, 1, none⟩ = some (.slice (some ⟨r, 0, none⟩) 4096 4096) := (by rw [hw1]; exact c1); have d2 : w1.cell? ⟨k, 2, none⟩ = some (.int .i64 0) := (by rw [hw1]; exact c2); have ek : w1.frozen? ⟨k, 2, none⟩ = false := (by rw [hw1]; exact fk); have cf : ∀ ty, (Builtin.copy_ #[26, 9] ty #[.slice (some ⟨r, 0, none⟩) 4096 4096, .string s2]).run Tryd.prog w1.drew = .ok (goInt 4096) (w1.drew.setRow r (rc2.toList.take 0 ++ Lib.byteCells (s2.data.toList.take 4096) ++ rc2.toList.drop (0 + 4096)).toArray) := (by rw [hw1]; exact CF.out d); have g2 : ∀ x, (w1.drew.setRow r x).cell? ⟨k, 2, none⟩ = some (.int .i64 0) := (fun x => (World.cell?_of_block (a := ⟨k, 2, none⟩) (setRow_other _ _ _ _ nkr)).trans d2); have gf : ∀ x, (w1.drew.setRow r x).frozen? ⟨k, 2, none⟩ = false := (fun x => (World.frozen?_of_block (a := ⟨k, 2, none⟩) (setRow_other _ _ _ _ nkr)).trans ek); have d3 : w1.cell? ⟨k, 3, none⟩ = some (.iface 29 (.pointer (some ⟨b, 0, none⟩))) := (by rw [hw1]; exact c3); have HW := Lib.hid hw1; clear hw1 AV c0 c1 c2 c3 fk CF) | (go_at_call 92; refine (bw_buffered k 0 w1 d2).mono ?_; rintro e w2 ⟨rfl, hw2⟩; rw [hw2]; clear hw2))
          go_big_region
          go_wp2_with (go_at_call 21; refine (FL.out _ ?_ ?_ ?_ ?_).mono ?_)
          · rw [HW.out]; rfl
          · rw [HW.out]; rfl
          · rw [HW.out]; rfl
          · rw [HW.out]; rfl
          rintro e w3 ⟨rfl, v3, rc3, h4, h5⟩
          have HN4 := Lib.hid (AT.out.next rfl 4096 hms h4 h5)
          clear h4 h5
          go_wp2
          go_roundg (2 * (s2.size - 4096))
          case rel => exact ⟨_, nn + 4096, _, [], v3, rc3, _, rfl, rfl, by go_num, by simp, HN4⟩
          case measure => simp at hg; omega
      · obtain ⟨m, hm⟩ : ∃ m, 4096 - n = m := ⟨_, rfl⟩
        have hnm : n + m = 4096 := by omega
        have hms : m ≤ s2.size := by omega
        have hpe : pend2 ≠ [] := by rintro rfl; simp at hn; omega
        have hs2 : ¬ s2.size = 0 := by omega
        have hu6 : u6 = .nilIface := AT.out.sw.resolve_right hs2
        subst hu6
        have FL := Lib.hid (AT.out.flush hB hlo n m hn hnm hms)
        have hni : (0 : Int) < (n : Int) := by omega
        have hn0i : ¬ (n : Int) = 0 := by omega
        have hmi : (n : Int) + (m : Int) = 4096 := by omega
        have hm2 : (m : Int) ≤ (s2.size : Int) := by omega
        have hsi : (s2.size : Int) ≤ 1073741824 := by have := AT.out.num; omega
        by_cases hm0 : m = 0
        · have hn4 : n = 4096 := by omega
          subst hn4
          have FL0 := Lib.hid (AT.out.flush0 hB hlo hn)
          have CZ := fun W a c ty => cp_zero W a c s2 ty
          clear h hn hs2 FL hmi hm2 hms hnm
          go_wp2_with (first | (go_at_call 88; refine (AV.out _ c1 c2).mono ?_; rintro e w1 ⟨rfl, d, hw1⟩; have d0 : w1.cell? ⟨k, 0, none⟩ = some .nilIface := (by rw [hw1]; exact c0); have d1 : w1.cell? ⟨k, 1, none⟩ = some (.slice (some ⟨r, 0, none⟩) 4096 4096) := (by rw [hw1]; exact c1); have d2 : w1.cell? ⟨k, 2, none⟩ = some (.int .i64 4096) := (by rw [hw1]; exact c2); have ek : w1.frozen? ⟨k, 2, none⟩ = false := (by rw [hw1]; exact fk); have HW := Lib.hid hw1; clear hw1 AV c0 c1 c2 c3 fk) | (go_at_call 92; refine (bw_buffered k 4096 w1 d2).mono ?_; rintro e w2 ⟨rfl, hw2⟩; rw [hw2]; clear hw2))
          go_big_region
          go_wp2_with (go_at_call 21; refine (FL0.out _ ?_ ?_ ?_ ?_).mono ?_)
          · rw [HW.out]; rfl
          · rw [HW.out]; rfl
          · rw [HW.out]; rfl
          · rw [HW.out]; rfl
          rintro e w3 ⟨rfl, v3, rc3, h4, h5⟩
          have h6 := AT.out.next rfl 0 (Nat.zero_le _) h4 h5
          rw [show s2.extract 0 s2.size = s2 by simp, Nat.add_zero] at h6
          have HN4 := Lib.hid h6
          clear h4 h5 h6
          go_wp2
          go_roundg (2 * s2.size)
          case rel => exact ⟨_, nn, _, [], v3, rc3, _, rfl, rfl, rfl, by simp, HN4⟩
          case measure => simp [hpe] at hg; omega
        · have hlt : (n : Int) < 4096 := by omega
          have CF : Hid (∀ d ty, (Builtin.copy_ #[26, 9] ty #[.slice (some ⟨r, n, none⟩) m m, .string s2]).run Tryd.prog (wr.drewN d).drew = .ok (goInt m) ((wr.drewN d).drew.setRow r (rc2.toList.take n ++ Lib.byteCells (s2.data.toList.take m) ++ rc2.toList.drop (n + m)).toArray)) := Lib.hid fun d ty => ((h.drewN d).kept (w' := (wr.drewN d).drew) (fun _ _ => rfl) (fun _ _ => rfl)).cp_part s2 n m m hn hms (by omega) ty
          clear h hn hs2
          go_wp2_with (first | (go_at_call 88; refine (AV.out _ c1 c2).mono ?_; rintro e w1 ⟨rfl, d, hw1⟩; have d0 : w1.cell? ⟨k, 0, none⟩ = some .nilIface := (by rw [hw1]; exact c0); have d1 : w1.cell? ⟨k, 1, none⟩ = some (.slice (some ⟨r, 0, none⟩) 4096 4096) := (by rw [hw1]; exact c1); have d2 : w1.cell? ⟨k, 2, none⟩ = some (.int .i64 n) := (by rw [hw1]; exact c2); have ek : w1.frozen? ⟨k, 2, none⟩ = false := (by rw [hw1]; exact fk); have cf : ∀ ty, (Builtin.copy_ #[26, 9] ty #[.slice (some ⟨r, n, none⟩) m m, .string s2]).run Tryd.prog w1.drew = .ok (goInt m) (w1.drew.setRow r (rc2.toList.take n ++ Lib.byteCells (s2.data.toList.take m) ++ rc2.toList.drop (n + m)).toArray) := (by rw [hw1]; exact CF.out d); have g2 : ∀ x, (w1.drew.setRow r x).cell? ⟨k, 2, none⟩ = some (.int .i64 n) := (fun x => (World.cell?_of_block (a := ⟨k, 2, none⟩) (setRow_other _ _ _ _ nkr)).trans d2); have gf : ∀ x, (w1.drew.setRow r x).frozen? ⟨k, 2, none⟩ = false := (fun x => (World.frozen?_of_block (a := ⟨k, 2, none⟩) (setRow_other _ _ _ _ nkr)).trans ek); have HW := Lib.hid hw1; clear hw1 AV c0 c1 c2 c3 fk CF) | (go_at_call 92; refine (bw_buffered k n w1 d2).mono ?_; rintro e w2 ⟨rfl, hw2⟩; rw [hw2]; clear hw2))
          go_big_region
          go_wp2_with (go_at_call 21; refine (FL.out _ ?_ ?_ ?_ ?_).mono ?_)
          · rw [HW.out]; rfl
          · rw [HW.out]; rfl
          · rw [HW.out]; rfl
          · rw [HW.out]; rfl
          rintro e w3 ⟨rfl, v3, rc3, h4, h5⟩
          have HN4 := Lib.hid (AT.out.next rfl m hms h4 h5)
          clear h4 h5
          go_wp2
          go_roundg (2 * (s2.size - m))
          case rel => exact ⟨_, nn + m, _, [], v3, rc3, _, rfl, rfl, by go_num, by simp, HN4⟩
          case measure => simp [hpe] at hg; omega
    · by_cases hz : s2.size = 0
      · have CN := fun W a d c ty => cp_none W a d c s2 hz ty
        have hzi : (s2.size : Int) = 0 := by omega
        clear h hn
        by_cases hfull : n = 4096
        · subst hfull
          go_wp2_with (go_at_call 88; refine (AV.out _ c1 c2).mono ?_; rintro e w1 ⟨rfl, d, hw1⟩; have d0 : w1.cell? ⟨k, 0, none⟩ = some .nilIface := (by rw [hw1]; exact c0); have d1 : w1.cell? ⟨k, 1, none⟩ = some (.slice (some ⟨r, 0, none⟩) 4096 4096) := (by rw [hw1]; exact c1); have d2 : w1.cell? ⟨k, 2, none⟩ = some (.int .i64 4096) := (by rw [hw1]; exact c2); have ek : w1.frozen? ⟨k, 2, none⟩ = false := (by rw [hw1]; exact fk); have HW := Lib.hid hw1; clear hw1 AV c0 c1 c2 c3 fk)
          go_big_region
          go_wp2
          go_ret2
          exact AT.out.end0 hz rfl HN.out (by rw [HW.out]; rfl) (by rw [HW.out]; rfl) (by rw [HW.out]; rfl) (by rw [HW.out]; rfl)
        · have hni : (n : Int) < 4096 := by omega
          go_wp2_with (go_at_call 88; refine (AV.out _ c1 c2).mono ?_; rintro e w1 ⟨rfl, d, hw1⟩; have d0 : w1.cell? ⟨k, 0, none⟩ = some .nilIface := (by rw [hw1]; exact c0); have d1 : w1.cell? ⟨k, 1, none⟩ = some (.slice (some ⟨r, 0, none⟩) 4096 4096) := (by rw [hw1]; exact c1); have d2 : w1.cell? ⟨k, 2, none⟩ = some (.int .i64 n) := (by rw [hw1]; exact c2); have ek : w1.frozen? ⟨k, 2, none⟩ = false := (by rw [hw1]; exact fk); have HW := Lib.hid hw1; clear hw1 AV c0 c1 c2 c3 fk)
          go_big_region
          go_wp2
          go_ret2
          exact AT.out.end0 hz rfl HN.out (by rw [HW.out]; rfl) (by rw [HW.out]; rfl) (by rw [HW.out]; rfl) (by rw [HW.out]; rfl)
      · have hni : (n : Int) < 4096 := by omega
        have CF : Hid (∀ d ty, (Builtin.copy_ #[26, 9] ty #[.slice (some ⟨r, n, none⟩) (4096 - n) (4096 - n), .string s2]).run Tryd.prog (wr.drewN d).drew = .ok (goInt s2.size) ((wr.drewN d).drew.setRow r (rc2.toList.take n ++ Lib.byteCells s2.data.toList ++ rc2.toList.drop (n + s2.size)).toArray)) := Lib.hid fun d ty => ((h.drewN d).kept (w' := (wr.drewN d).drew) (fun _ _ => rfl) (fun _ _ => rfl)).cp_fit s2 n (4096 - n) (4096 - n) hn (by omega) (by omega) ty
        have hfit : n + s2.size ≤ 4096 := by omega
        clear h hn
        go_wp2_with (go_at_call 88; refine (AV.out _ c1 c2).mono ?_; rintro e w1 ⟨rfl, d, hw1⟩; have d0 : w1.cell? ⟨k, 0, none⟩ = some .nilIface := (by rw [hw1]; exact c0); have d1 : w1.cell? ⟨k, 1, none⟩ = some (.slice (some ⟨r, 0, none⟩) 4096 4096) := (by rw [hw1]; exact c1); have d2 : w1.cell? ⟨k, 2, none⟩ = some (.int .i64 n) := (by rw [hw1]; exact c2); have ek : w1.frozen? ⟨k, 2, none⟩ = false := (by rw [hw1]; exact fk); have cf : ∀ ty, (Builtin.copy_ #[26, 9] ty #[.slice (some ⟨r, n, none⟩) (4096 - n) (4096 - n), .string s2]).run Tryd.prog w1.drew = .ok (goInt s2.size) (w1.drew.setRow r (rc2.toList.take n ++ Lib.byteCells s2.data.toList ++ rc2.toList.drop (n + s2.size)).toArray) := (by rw [hw1]; exact CF.out d); have g2 : ∀ x, (w1.drew.setRow r x).cell? ⟨k, 2, none⟩ = some (.int .i64 n) := (fun x => (World.cell?_of_block (a := ⟨k, 2, none⟩) (setRow_other _ _ _ _ nkr)).trans d2); have gf : ∀ x, (w1.drew.setRow r x).frozen? ⟨k, 2, none⟩ = false := (fun x => (World.frozen?_of_block (a := ⟨k, 2, none⟩) (setRow_other _ _ _ _ nkr)).trans ek); have HW := Lib.hid hw1; clear hw1 AV c0 c1 c2 c3 fk CF)
        go_big_region
        go_wp2
        go_ret2
        exact AT.out.end1 (by simp) HN.out hfit (by rw [HW.out, List.append_assoc]; rfl) (by rw [HW.out]; rfl) (by rw [HW.out]; rfl) (by rw [HW.out]; rfl)

theorem bw_str (B b k r : Nat) (out : List UInt8) (v : Value) (s : ByteArray) (w : World) (h : BS B b k r out v w) (hB : B ≤ w.heap.size) (hl : out.length + s.size + 4096 ≤ 1073741824) :
    Calls Tryd.prog 91 #[.pointer (some ⟨k, 0, none⟩), .string s] w (StrOut B b k r (out ++ s.data.toList) s.size v w) := by
  obtain ⟨fl, pend, rc, rfl, h⟩ := h
  rw [List.length_append] at hl
  exact bw_str0 B b k r fl pend v rc s w h hB hl
end Go.Proofs.YtopaaaacbegmnaaDoor
