/-
  A map from text to text that a call makes, said key by key. Conditions: those in each theorem.
-/
import Derived.Test.YthihppocokkoiaaDoorLwA
import Derived.Maps.OwnSet
import Derived.Maps.StringElems
import Derived.StringKeys
namespace Go.Proofs.YthihppocokkoiaaDoor
set_option linter.unusedVariables false
open Go.Shelf Go.RowKit Go.Lib Go.Sort

/-- block b is a map of at most n entries that holds f -/
def SMap (w : World) (b n : Nat) (f : List UInt8 → Option (List UInt8)) : Prop :=
  ∃ D : DataW Unit, w.ownsMap Tryd.prog 9 (plainElem Tryd.prog 9) b n D ∧ Maps.IsMap D ∧ ∀ k, Maps.has D (.string k) = (f k).isSome ∧ ∀ v, f k = some v → ∀ z, D.atKey (.string k) z = .lit (.string v)

theorem zero9 (w : World) : (zeroValue 9).run Tryd.prog w = .ok (.string ⟨#[]⟩) w := by kernel_rfl
theorem smap_made (w : World) : SMap (w.alloc (.map #[] 0)) w.heap.size 0 (fun _ => none) :=
  ⟨.map [], World.ownsMap_made w _ _ _, Maps.isMap_empty, fun k => ⟨rfl, fun v h => by cases h⟩⟩
theorem SMap.look {w : World} {b n : Nat} {f : List UInt8 → Option (List UInt8)} (h : SMap w b n f) (s : ByteArray) (hs : s.size ≤ maxLen) : ∃ x : ByteArray, (Instr.lookup 31 (.map (some b)) (.string s) true).run Tryd.prog w = .ok (.tuple #[.string x, .bool (f s.data.toList).isSome]) w ∧ ∀ v, f s.data.toList = some v → x = ⟨v.toArray⟩ := by
  obtain ⟨D, ho, hm, hf⟩ := h
  obtain ⟨v, ps, hr, hR⟩ := ho.look_ok (Maps.string_keyed Tryd.underlying9) Tryd.underlying31 (zero9 w) (plainElem_string (s := ⟨#[]⟩) Tryd.underlying9 (by decide)) (WideMaps.keyOf_string_mk Tryd.underlying9 hs)
  obtain ⟨x, rfl, hz, _⟩ := plainElem_string_inv Tryd.underlying9 hR
  refine ⟨x, by rw [hr, (hf _).1], fun v hv => ?_⟩
  have h1 := (hf _).2 v hv (.lit (.string (⟨#[]⟩ : ByteArray).data.toList))
  have h2 := congrArg Prod.fst hz
  simp only at h2
  rw [h1] at h2
  have h3 : v = x.data.toList := by simpa using h2
  rw [h3]
theorem SMap.put {w : World} {b n : Nat} {f : List UInt8 → Option (List UInt8)} (h : SMap w b n f) (hn : n < maxLen) (s x : ByteArray) (hs : s.size ≤ maxLen) (hx : x.size ≤ maxLen) : ∃ w', (Instr.mapUpdate 31 (.map (some b)) (.string s) (.string x)).run Tryd.prog w = .ok () w' ∧ SMap w' b (n + 1) (fun k => if k = s.data.toList then some x.data.toList else f k) ∧ w.grownBy w' (some b) := by
  obtain ⟨D, ho, hm, hf⟩ := h
  obtain ⟨w', hr, ho', hg⟩ := ho.update (Maps.string_keyed Tryd.underlying9) Tryd.underlying31 hn (WideMaps.keyOf_string_mk Tryd.underlying9 hs) (plainElem_string Tryd.underlying9 hx)
  refine ⟨w', hr, ⟨_, ho', hm.put _ _, fun k => ?_⟩, hg⟩
  by_cases e : k = s.data.toList
  · subst e
    rw [Maps.has_put_same hm (by trivial)]
    refine ⟨by simp, fun v hv z => ?_⟩
    rw [Maps.atKey_put_same hm (by trivial)]
    have hv' : (if s.data.toList = s.data.toList then some x.data.toList else f s.data.toList) = some v := hv
    rw [if_pos rfl] at hv'
    rw [Option.some.inj hv']
  · have hne : (Lit.string k) ≠ .string s.data.toList := fun h => e (by injection h)
    rw [Maps.has_put_other hne]
    have e2 : (fun k => if k = s.data.toList then some x.data.toList else f k) k = f k := if_neg e
    rw [e2]
    refine ⟨(hf k).1, fun v hv z => ?_⟩
    rw [Maps.atKey_put_other hne]
    exact (hf k).2 v hv z
theorem SMap.kept {w w' : World} {b n : Nat} {f : List UInt8 → Option (List UInt8)} (h : SMap w b n f) (hb : w'.heap[b]? = w.heap[b]?) : SMap w' b n f := by
  obtain ⟨D, ⟨es, cl, h1, h2⟩, hm, hf⟩ := h
  exact ⟨D, ⟨es, cl, hb.trans h1, h2⟩, hm, hf⟩
theorem SMap.mono {w : World} {b n m : Nat} {f : List UInt8 → Option (List UInt8)} (h : SMap w b n f) (hm : n ≤ m) : SMap w b m f := by
  obtain ⟨D, ho, hi, hf⟩ := h
  exact ⟨D, ho.mono hm, hi, hf⟩
theorem SMap.lt {w : World} {b n : Nat} {f : List UInt8 → Option (List UInt8)} (h : SMap w b n f) : b < w.heap.size := by
  obtain ⟨D, ho, _⟩ := h
  exact ho.lt
theorem SMap.size {w : World} {b n : Nat} {f : List UInt8 → Option (List UInt8)} (h : SMap w b n f) (ty : TypeId) : ∃ m : Nat, (Builtin.len_ #[31] ty #[.map (some b)]).run Tryd.prog w = .ok (.int .i64 m) w ∧ m ≤ n := by
  obtain ⟨D, ho, _⟩ := h
  exact ⟨_, ho.len Tryd.underlying31 ty, ho.size_le⟩
end Go.Proofs.YthihppocokkoiaaDoor
