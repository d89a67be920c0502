/-
  The base that is written before '#': strconv.ParseInt at base 10, 8 bits; strings.TrimSpace and strings.HasPrefix at this seat. Conditions: those in each theorem.
-/
import Derived.Test.YtopaaaacbegmnaaDoorPi
import Derived.Test.YtopaaaacbegmnaaDoorLg
import Derived.Test.YtopaaaacbegmnaaDoorIx
import Derived.Test.YtopaaaacbegmnaaDoorShelf2
import Derived.Lib.SmallJoins
namespace Go.Proofs.YtopaaaacbegmnaaDoor
set_option linter.unusedVariables false
open Go.Shelf Go.RowKit Go.Lib

theorem uB8 (l : List UInt8) (h : l ≠ []) : Lib.parseUintB 8 l = Lib.parseUintM 255 0 l := if_neg h
theorem basD_nil : basD 0 [] = 0 := rfl
/-- signless: what ParseUint says, what the base is -/
theorem bas_signless (l : List UInt8) : (∀ v, signlessC 128 (Lib.parseUintB 8 l) = .ok v → basD 0 l = if 2 ≤ v ∧ v ≤ 64 then v.toNat else 0) ∧ ((∀ v, signlessC 128 (Lib.parseUintB 8 l) ≠ .ok v) → basD 0 l = 0) := by
  by_cases h0 : l = []
  · subst h0
    exact ⟨fun v e => (by cases e), fun _ => rfl⟩
  · rw [uB8 l h0]
    obtain ⟨k1, k2⟩ := basD_of l 0 (by omega)
    cases hM : Lib.parseUintM 255 0 l with
    | ok u =>
      have k := k1 u hM
      constructor
      · intro v e
        simp only [signlessC] at e
        split at e
        · cases e
        · cases e
          rw [k]
          by_cases c : 2 ≤ u ∧ u ≤ 64
          · rw [if_pos c, if_pos (by omega)]; rfl
          · rw [if_neg c, if_neg (by omega)]
      · intro h
        rw [k]
        by_cases c : 128 ≤ u
        · rw [if_neg (by omega)]
        · exact absurd (by simp only [signlessC]; rw [if_neg c]) (h (u : Int))
    | range => exact ⟨fun v e => (by cases e), fun _ => k2 (fun u e => by rw [hM] at e; cases e)⟩
    | _ => exact ⟨fun v e => (by cases e), fun _ => k2 (fun u e => by rw [hM] at e; cases e)⟩
theorem bas_of (l : List UInt8) : (∀ v, Lib.parseIntB 8 l = .ok v → bas l = if 2 ≤ v ∧ v ≤ 64 then v.toNat else 0) ∧ ((∀ v, Lib.parseIntB 8 l ≠ .ok v) → bas l = 0) := by
  cases l with
  | nil => exact ⟨fun v e => (by cases e), fun _ => rfl⟩
  | cons c r =>
    by_cases h43 : c = 43
    · subst h43
      rw [parseIntB_plus]
      exact bas_signless r
    · by_cases h45 : c = 45
      · subst h45
        rw [parseIntB_minus]
        refine ⟨fun v e => ?_, fun _ => rfl⟩
        show 0 = _
        cases hM : Lib.parseUintB 8 r with
        | ok u =>
          rw [hM] at e
          simp only [signedC] at e
          split at e
          · cases e
          · cases e
            rw [if_neg (by omega)]
        | range => rw [hM] at e; cases e
        | _ => rw [hM] at e; cases e
      · have n1 : c.toNat ≠ 43 := fun h => h43 (UInt8.toNat_inj.1 h)
        have n2 : c.toNat ≠ 45 := fun h => h45 (UInt8.toNat_inj.1 h)
        rw [parseIntB_plain 8 c r n1 n2]
        have hb : bas (c :: r) = basD 0 (c :: r) := by
          show (if c = 43 then _ else if c = 45 then _ else _) = _
          rw [if_neg h43, if_neg h45]
        rw [hb]
        exact bas_signless (c :: r)

/-- what ParseInt(p, 10, 8) hands back, as the base wants it -/
def BaseOut (n : Nat) (w : World) (e : Ending) (w' : World) : Prop :=
  (∃ v er, e = .returned (.tuple #[.int .i64 v, er]) ∧ ((er = .nilIface ∧ n = if 2 ≤ v ∧ v ≤ 64 then v.toNat else 0) ∨ ((∃ te pe, er = .iface te pe) ∧ n = 0))) ∧ Below w.heap.size w w'
theorem base25 (p : ByteArray) (w : World) (hs : p.size ≤ 1073741824) (hE : ErrT w) : Calls Tryd.prog 25 #[.string p, .int .i64 10, .int .i64 8] w (BaseOut (bas p.data.toList) w) := by
  obtain ⟨k1, k2⟩ := bas_of p.data.toList
  obtain ⟨t1, p1, h1⟩ := hE.syn
  obtain ⟨t2, p2, h2⟩ := hE.rng
  cases hM : Lib.parseIntB 8 p.data.toList with
  | ok v =>
    refine (Any.strconv_ParseInt_10_at8_ok { Tryd.lays174 with } p (by omega) v hM w).mono ?_
    rintro e w' ⟨rfl, hw⟩
    refine ⟨⟨v, .nilIface, rfl, .inl ⟨rfl, k1 v hM⟩⟩, ?_⟩
    rcases hw with rfl | ⟨t, rfl⟩
    · exact Below.refl _ _
    · exact bytesW_below w t
  | range =>
    refine (Any.strconv_ParseInt_10_at8_range { Tryd.lays174 with } p (by omega) hM (.iface t2 p2) w h2 (.inr ⟨t2, p2, rfl⟩)).mono ?_
    rintro e w' ⟨N, rfl, _, _, hb⟩
    exact ⟨⟨_, _, rfl, .inr ⟨⟨_, _, rfl⟩, k2 (fun v e => by rw [hM] at e; cases e)⟩⟩, hb⟩
  | _ =>
    refine (Any.strconv_ParseInt_10_at8_syntax { Tryd.lays174 with } p (by omega) hM (.iface t1 p1) w h1 (.inr ⟨t1, p1, rfl⟩)).mono ?_
    rintro e w' ⟨N, rfl, _, _, hb⟩
    exact ⟨⟨_, _, rfl, .inr ⟨⟨_, _, rfl⟩, k2 (fun v e => by rw [hM] at e; cases e)⟩⟩, hb⟩

/-- the tables and variables that atoi reads -/
structure AtT (w : World) : Prop where
  sp : Lib.TabIs Tryd.prog w "strings.asciiSpace" .u8 Lib.asciiSpaceTab
  u8 : Lib.Utf8Tabs 5 6 w
  ws : Lib.WhiteTab 2 w
  er : ErrT w
theorem spX : Space.Extra Tryd.prog Tryd.lays163_ren := ⟨by kernel_rfl⟩
theorem AtT.below {w w' : World} (h : AtT w) (hb : Below w.heap.size w w') : AtT w' :=
  ⟨Go.Joins.tab_stays spX.gNamed h.sp hb (Nat.le_refl _), Utf8Tabs_below h.u8 hb, WhiteTab_below h.ws hb, h.er.below hb⟩
theorem trim22 (s : ByteArray) (w : World) (hs : s.size ≤ 1073741824) (hT : AtT w) : Calls Tryd.prog 22 #[.string s] w fun e w' => e = .returned (.string ⟨(Lib.trimSpaceD s.data.toList).toArray⟩) ∧ Below w.heap.size w w' :=
  Any.strings_TrimSpace_any { Tryd.lays163 with } spX s w (by omega) hT.sp hT.u8 hT.ws
theorem pre23 (s p : ByteArray) (b : Bool) (hb : Lib.hasPrefix s.data.toList p.data.toList = b) (w : World) : Calls Tryd.prog 23 #[.string s, .string p] w fun e w' => e = .returned (.bool b) ∧ w' = w := by
  rw [← hb]
  exact Any.strings_HasPrefix { Tryd.lays99 with } s p w
end Go.Proofs.YtopaaaacbegmnaaDoor
