/-
  Plain law: what a pair that is appended at the end changes of the environment. No program in sight; no condition beyond those in each theorem.
-/
import Derived.Test.YthihppocokkoiaaDoorEnvP
namespace Go.Proofs.YthihppocokkoiaaDoor.Envp
open Go.Lib

theorem ib_pair : ∀ (n v : List UInt8), 61 ∉ n → indexByte (n ++ 61 :: v) 61 = (n.length : Int)
  | [], v, _ => by simp [indexByte]
  | x :: n, v, h => by
    have hx : ¬ x = 61 := fun e => h (by simp [e])
    have ih := ib_pair n v (fun m => h (List.mem_cons_of_mem _ m))
    simp only [List.cons_append, indexByte, ih]
    simp [hx]
theorem pair_name {n v : List UInt8} (h : 61 ∉ n) (hn : n ≠ []) (q : List UInt8) : isName q (n ++ 61 :: v) = (n == q) := by
  have e : eqAt (n ++ 61 :: v) = (n.length : Int) := ib_pair n v h
  have hp : 0 < n.length := List.length_pos_iff.2 hn
  unfold isName valid nameOf
  rw [e, Int.toNat_natCast, decide_eq_true (by omega), Bool.true_and, List.take_left]
theorem look_app (L : List (List UInt8)) {n v : List UInt8} (h : 61 ∉ n) (hn : n ≠ []) (q : List UInt8) : look (L ++ [n ++ 61 :: v]) q = if (n == q) = true then some (n ++ 61 :: v) else look L q := by
  rw [look_snoc, pair_name h hn]
end Go.Proofs.YthihppocokkoiaaDoor.Envp
