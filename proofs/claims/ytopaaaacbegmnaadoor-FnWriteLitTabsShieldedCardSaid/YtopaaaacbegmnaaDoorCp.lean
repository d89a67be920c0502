/-
  copy from a string into a row: a part of the string, where the row ends ahead of it. Conditions: those in each theorem.
-/
import Derived.Test.YtopaaaacbegmnaaDoorBw2
namespace Go.Proofs.YtopaaaacbegmnaaDoor
set_option linter.unusedVariables false
open Go.Shelf Go.RowKit Go.Lib

theorem run_copy_part {P : Program} (w : World) (dT sT ty elem : TypeId) (g o dLen dCap : Nat) (s : ByteArray) (cur : Array Value) (t : TypeId)
    (hu : P.underlying dT = some (.slice elem)) (hs : (P.info? elem).map (·.size) = some 1) (hg : w.heap[g]? = some (.cells cur t (0, 0))) (hle : dLen ≤ s.size) (hfit : o + dLen ≤ cur.size) :
    (Builtin.copy_ #[dT, sT] ty #[.slice (some ⟨g, o, none⟩) dLen dCap, .string s]).run P w =
      .ok (goInt dLen) (w.setRow g (cur.toList.take o ++ Lib.byteCells (s.data.toList.take dLen) ++ cur.toList.drop (o + dLen)).toArray) := by
  have hlen : (Lib.byteCells (s.data.toList.take dLen)).length = dLen := by rw [Lib.byteCells_length, List.length_take, ← Lib.size_eq]; omega
  have hst := run_storeCells_at P g o t (Lib.byteCells (s.data.toList.take dLen)) 0 cur w hg (by rw [hlen]; simpa using hfit) (Lib.byteCells_one _)
  have hmin : Nat.min s.size dLen = dLen := Nat.min_eq_right hle
  have htk : List.take dLen (List.map (fun b : UInt8 => Value.int IntKind.u8 (b.toNat : Int)) s.data.toList) = Lib.byteCells (s.data.toList.take dLen) := by
    rw [← List.map_take]; rfl
  rw [hlen] at hst
  simp only [Nat.add_zero] at hst
  cases hq : P.info? elem with
  | none => simp [hq] at hs
  | some i =>
    simp [Builtin.copy_, run_underlying hu, Builtin.lenOf, Builtin.firstCells, sizeOf, typeInfo, hq, hmin]
    rw [htk, hst]
    simp [Result.andThen]

/-- the row's cells behind the copy of m bytes to place n -/
theorem BW.copied {B b k r : Nat} {fl pend m : List UInt8} {v : Value} {rc : Array Value} {w : World} (h : BW B b k r fl pend v rc w) (hm : pend.length + m.length ≤ 4096) :
    BW B b k r fl (pend ++ m) v (rc.toList.take pend.length ++ Lib.byteCells m ++ rc.toList.drop (pend.length + m.length)).toArray ((w.setRow r (rc.toList.take pend.length ++ Lib.byteCells m ++ rc.toList.drop (pend.length + m.length)).toArray).setCell ⟨k, 2, none⟩ (.int .i64 (pend.length + m.length : Nat))) := by
  have hbm : (Lib.byteCells m).length = m.length := Lib.byteCells_length m
  have hbp : (Lib.byteCells pend).length = pend.length := Lib.byteCells_length pend
  have hrl : rc.toList.length = 4096 := Array.length_toList.trans h.rsize
  have hs : ∀ i, i ≠ r → (w.setRow r (rc.toList.take pend.length ++ Lib.byteCells m ++ rc.toList.drop (pend.length + m.length)).toArray).heap[i]? = w.heap[i]? := fun i hi => setRow_other _ _ _ _ hi
  have h1 : BW B b k r fl pend v (rc.toList.take pend.length ++ Lib.byteCells m ++ rc.toList.drop (pend.length + m.length)).toArray (w.setRow r (rc.toList.take pend.length ++ Lib.byteCells m ++ rc.toList.drop (pend.length + m.length)).toArray) :=
    ⟨h.buf.kept (hs b h.nbr) (fun g hg => hs g fun e => h.or (e ▸ hg)), (hs k h.nkr).trans h.wr, setRow_heap _ _ _ _ _ _ h.row, by
      rw [h.held]; simp only [List.size_toArray, List.length_append, hbp, hbm, List.length_drop, hrl]; omega, by
      rw [h.held, List.toList_toArray, List.append_assoc, List.take_append_of_le_length (by rw [hbp]; exact Nat.le_refl _), List.take_of_length_le (by rw [hbp]; exact Nat.le_refl _)], h.fits, h.nbk, h.nbr, h.nkr, h.ok, h.or, h.lb, h.lk, h.lr, h.lo⟩
  have e : (pend ++ m).length = pend.length + m.length := List.length_append
  have h2 := h1.count (p2 := pend ++ m) (by
    rw [e, h.held, List.toList_toArray, List.take_append_of_le_length (by rw [List.length_append, hbp, hbm]; exact Nat.le_refl _), List.take_of_length_le (by rw [List.length_append, hbp, hbm]; exact Nat.le_refl _), Lib.byteCells_append]) (by omega)
  rw [e] at h2
  exact h2
theorem hinfo5' : (Tryd.prog.info? 5).map (·.size) = some 1 := by kernel_rfl
theorem BW.cp_fit {B b k r : Nat} {fl pend : List UInt8} {v : Value} {rc : Array Value} {w : World} (h : BW B b k r fl pend v rc w) (s : ByteArray) (n d c : Nat) (hn : n = pend.length) (hd : s.size ≤ d) (hf : n + d ≤ 4096) (ty : TypeId) :
    (Builtin.copy_ #[26, 9] ty #[.slice (some ⟨r, n, none⟩) d c, .string s]).run Tryd.prog w = .ok (goInt s.size) (w.setRow r (rc.toList.take n ++ Lib.byteCells s.data.toList ++ rc.toList.drop (n + s.size)).toArray) := by
  subst hn
  exact Lib.run_copy_row_string (P := Tryd.prog) w 26 9 ty 5 r _ d c s rc 5 Tryd.underlying26 hinfo5' h.row hd (by rw [h.rsize]; omega)
theorem BW.cp_part {B b k r : Nat} {fl pend : List UInt8} {v : Value} {rc : Array Value} {w : World} (h : BW B b k r fl pend v rc w) (s : ByteArray) (n d c : Nat) (hn : n = pend.length) (hd : d ≤ s.size) (hf : n + d ≤ 4096) (ty : TypeId) :
    (Builtin.copy_ #[26, 9] ty #[.slice (some ⟨r, n, none⟩) d c, .string s]).run Tryd.prog w = .ok (goInt d) (w.setRow r (rc.toList.take n ++ Lib.byteCells (s.data.toList.take d) ++ rc.toList.drop (n + d)).toArray) := by
  subst hn
  exact run_copy_part (P := Tryd.prog) w 26 9 ty 5 r _ d c s rc 5 Tryd.underlying26 hinfo5' h.row hd (by rw [h.rsize]; omega)
theorem cp_none (w : World) (a : Option Addr) (d c : Nat) (s : ByteArray) (hd : s.size = 0) (ty : TypeId) :
    (Builtin.copy_ #[26, 9] ty #[.slice a d c, .string s]).run Tryd.prog w = .ok (goInt 0) w :=
  Lib.run_copy_empty_string (P := Tryd.prog) w 26 9 ty 5 a d c s Tryd.underlying26 (by kernel_rfl) hd
theorem cp_zero (w : World) (a : Option Addr) (c : Nat) (s : ByteArray) (ty : TypeId) :
    (Builtin.copy_ #[26, 9] ty #[.slice a 0 c, .string s]).run Tryd.prog w = .ok (goInt 0) w := by
  have hs := hinfo5'
  cases hq : Tryd.prog.info? 5 with
  | none => simp [hq] at hs
  | some i =>
    cases a <;> simp [Builtin.copy_, run_underlying Tryd.underlying26, Builtin.lenOf, Builtin.firstCells, sizeOf, typeInfo, hq, storeCells]
end Go.Proofs.YtopaaaacbegmnaaDoor
