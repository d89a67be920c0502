/-
  The walk of the laws' model zzB17NamesModel: the names collected by ordered insertion. Conditions: those in each theorem.
-/
import Derived.Test.YtmbjhfkpmgkkbaaGreatDoorNb
import Derived.Maps.AppendAt
namespace Go.Proofs.YtmbjhfkpmgkkbaaGreatDoor
set_option linter.unusedVariables false
open Go.Shelf Go.RowKit Go.Lib Go.Sort

theorem ib_step (s : ByteArray) (k : Nat) (h : k < s.size) (hne : s[k] ≠ 61) (HF : ∀ j, j < k → s.data.toList[j]? ≠ some 61) : ∀ j, j < k + 1 → s.data.toList[j]? ≠ some 61 := by
  intro j hj
  by_cases e : j = k
  · subst e; rw [Lib.data_getElem? s j h]; intro h2; exact hne (Option.some.inj h2)
  · exact HF j (by omega)
theorem ib_hit : ∀ (l : List UInt8) (k : Nat), (∀ j, j < k → l[j]? ≠ some 61) → l[k]? = some 61 → indexByte l 61 = k := by
  intro l k
  induction l generalizing k with
  | nil => intro _ h; simp at h
  | cons x l ih =>
    intro h1 h2
    cases k with
    | zero =>
      simp only [List.getElem?_cons_zero, Option.some.injEq] at h2
      subst h2
      simp [indexByte]
    | succ k =>
      have h0 := h1 0 (by omega)
      simp only [List.getElem?_cons_zero, ne_eq, Option.some.injEq] at h0
      have := ih k (fun j hj => by have := h1 (j + 1) (by omega); simpa using this) (by simpa using h2)
      simp [indexByte, h0, this]
theorem ib_none : ∀ (l : List UInt8), (∀ j, j < l.length → l[j]? ≠ some 61) → indexByte l 61 = -1 := by
  intro l
  induction l with
  | nil => intro _; rfl
  | cons x l ih =>
    intro h1
    have h0 := h1 0 (by simp)
    simp only [List.getElem?_cons_zero, ne_eq, Option.some.injEq] at h0
    have := ih (fun j hj => by have := h1 (j + 1) (by simpa using hj); simpa using this)
    simp [indexByte, h0, this]

theorem take_map {P : List ByteArray} {k : Nat} (hk : k < P.length) {x : ByteArray} (hx : x = P.getD k ByteArray.empty) : (P.take (k + 1)).map (·.data.toList) = (P.take k).map (·.data.toList) ++ [x.data.toList] := by
  rw [List.take_succ_eq_append_getElem hk, List.map_append, List.map_cons, List.map_nil, hx]
  simp [List.getD, List.getElem?_eq_getElem hk]

/-- the model's state: what it has collected lies in its own row -/
structure St (B : Nat) (L : List (List UInt8)) (p : List UInt8) (O : List (List UInt8)) (v : Value) (w wr : World) : Prop where
  mod : Nbp.Mod L p O
  own : wr.ownsRow B 9 1 v O.length (O.map encStr)
  nil : v = .slice none 0 0 ↔ O = []
  below : Below B w wr
/-- what the model hands back -/
def ModOut (w : World) (L : List (List UInt8)) (p : List UInt8) (e : Ending) (w' : World) : Prop := ∃ v O, e = .returned v ∧ St w.heap.size L p O v w w'

theorem own_below {w w' : World} {B e size n : Nat} {v : Value} {xs : List Value} (h : w.ownsRow B e size v n xs) (hb : Below w.heap.size w w') : w'.ownsRow B e size v n xs := by
  refine ⟨h.1, ?_⟩
  rcases h.2 with hr | ⟨g, cap, cur, hv, hg, hh, r⟩
  · exact .inl hr
  · exact .inr ⟨g, cap, cur, hv, hg, (hb.block g (Array.getElem?_eq_some_iff.1 hh).1).trans hh, r⟩

/-- the row while its tail is moved up by one place: below m as it was, from m on one further -/
structure ShAt (O : List (List UInt8)) (m cap : Nat) (cs : Array Value) : Prop where
  size : cs.size = cap
  lo : ∀ j (h : j < O.length), j < m → cs[j]? = some (encStr O[j])
  hi : ∀ j (h : j < O.length), m ≤ j → cs[j + 1]? = some (encStr O[j])
theorem sh_start {O : List (List UInt8)} {cap : Nat} {cs : Array Value} {y : Value} (hs : cs.size = cap * 1) (ht : cs.toList.take ((O.length + 1) * 1) = O.map encStr ++ [y]) : ShAt O O.length cap cs := by
  refine ⟨by omega, fun j h _ => ?_, fun j h h2 => by omega⟩
  have h1 : (cs.toList.take ((O.length + 1) * 1))[j]? = (O.map encStr ++ [y])[j]? := by rw [ht]
  rw [List.getElem?_take_of_lt (by omega), Array.getElem?_toList] at h1
  rw [h1, List.getElem?_append_left (by simpa using h)]
  simp [h]
theorem sh_step {O : List (List UInt8)} {m m1 cap : Nat} {cs : Array Value} (h : ShAt O m cap cs) (hm : m1 + 1 = m) (hl : m1 < O.length) (hc : O.length < cap) : ShAt O m1 cap (cs.setIfInBounds m (encStr O[m1])) := by
  refine ⟨by simp [h.size], fun j hj hlt => ?_, fun j hj hge => ?_⟩
  · rw [Array.getElem?_setIfInBounds_ne (by omega)]; exact h.lo j hj (by omega)
  · by_cases e : j = m1
    · subst e
      rw [hm, Array.getElem?_setIfInBounds_self_of_lt (by rw [h.size]; omega)]
    · rw [Array.getElem?_setIfInBounds_ne (by omega)]; exact h.hi j hj (by omega)
theorem sh_end {O : List (List UInt8)} {k cap : Nat} {cs : Array Value} (n : List UInt8) (h : ShAt O k cap cs) (hk : k ≤ O.length) (hc : O.length < cap) :
    (cs.setIfInBounds k (encStr n)).toList.take ((O.take k ++ n :: O.drop k).length * 1) = (O.take k ++ n :: O.drop k).map encStr := by
  have hl : (O.take k ++ n :: O.drop k).length = O.length + 1 := by simp; omega
  rw [hl]
  apply List.ext_getElem?
  intro j
  by_cases hj : j < O.length + 1
  · rw [List.getElem?_take_of_lt (by omega), Array.getElem?_toList, List.getElem?_map]
    have hk2 : (O.take k).length = k := by simp; omega
    by_cases c1 : j < k
    · rw [Array.getElem?_setIfInBounds_ne (by omega), h.lo j (by omega) c1, List.getElem?_append_left (by omega), List.getElem?_take_of_lt c1, List.getElem?_eq_getElem (by omega)]; rfl
    · by_cases c2 : j = k
      · subst c2
        rw [Array.getElem?_setIfInBounds_self_of_lt (by rw [h.size]; omega), List.getElem?_append_right (by omega), hk2, Nat.sub_self]; rfl
      · obtain ⟨i, rfl⟩ : ∃ i, j = i + 1 := ⟨j - 1, by omega⟩
        rw [Array.getElem?_setIfInBounds_ne (by omega), h.hi i (by omega) (by omega), List.getElem?_append_right (by omega), hk2, show i + 1 - k = (i - k) + 1 from by omega, List.getElem?_cons_succ, List.getElem?_drop, show k + (i - k) = i from by omega, List.getElem?_eq_getElem (by omega)]; rfl
  · rw [List.getElem?_eq_none (by simp; omega), List.getElem?_eq_none (by simp; omega)]
/-- the row with the name in its place is owned -/
theorem sh_own {O : List (List UInt8)} {k cap g B : Nat} {cs : Array Value} {W : World} (n : List UInt8) (h : ShAt O k cap cs) (hk : k ≤ O.length) (hc : O.length < cap) (hm : cap ≤ maxLen) (hB : B ≤ g) (hh : W.heap[g]? = some (.cells cs 9 (0, 0))) :
    (W.setCell ⟨g, k, none⟩ (encStr n)).ownsRow B 9 1 (.slice (some ⟨g, 0, none⟩) (O.length + 1) cap) (O.take k ++ n :: O.drop k).length ((O.take k ++ n :: O.drop k).map encStr) := by
  have hl : (O.take k ++ n :: O.drop k).length = O.length + 1 := by simp; omega
  refine ⟨by simp, .inr ⟨g, cap, cs.setIfInBounds k (encStr n), by rw [hl], hB, heap_set hh k _, by omega, hm, by simp [h.size], sh_end n h hk hc⟩⟩

/-- a slice of its own, opened -/
theorem own_open {w : World} {B : Nat} {v : Value} {O : List (List UInt8)} (h : w.ownsRow B 9 1 v O.length (O.map encStr)) :
    ∃ a cap, v = .slice a O.length cap ∧ ∀ j (hj : j < O.length), ∃ g, a = some ⟨g, 0, none⟩ ∧ w.cell? ⟨g, j, none⟩ = some (.string ⟨O[j].toArray⟩) := by
  rcases h.2 with ⟨rfl, h0⟩ | ⟨g, cap, cur, rfl, hB, hg, h1, h2, h3, h4⟩
  · exact ⟨none, 0, by rw [h0], fun j hj => by omega⟩
  · refine ⟨some ⟨g, 0, none⟩, cap, rfl, fun j hj => ⟨g, rfl, ?_⟩⟩
    have := (holds_of_block (ss := O) hg (by simpa using h4) j (by simpa using hj)).1
    rw [Nat.zero_add, getElem!_pos O.toArray j (by simpa using hj)] at this
    simpa [encStr] using this
theorem inf9z : ∃ i, Tryz.prog.info? 9 = some i ∧ i.zero = some (.string ⟨#[]⟩) ∧ i.size = 1 ∧ i.bytes = 16 := info_parts info9z
theorem newsN {w : World} {cs : Array Value} {t : TypeId} (ad : Addr) (had : ad = ⟨w.heap.size, 0, none⟩) : ∀ j u, cs.toList[j]? = some u → (w.alloc (.cells cs t)).cell? (ad.add j) = some u := by
  intro j u hj
  subst had
  rw [show (⟨w.heap.size, 0, none⟩ : Addr).add j = ⟨w.heap.size, j, none⟩ by simp [Addr.add]; intro h; exact h.symm]
  rw [cell_heap (World.alloc_heap_new w (.cells cs t)) j u (by simpa using hj)]

set_option maxRecDepth 100000 in
set_option maxHeartbeats 8000000 in
theorem model10 (a : Option Addr) (c : Nat) (P : List ByteArray) (q : ByteArray) (w : World) (hv : Texts w (.slice a P.length c) P) (hS : Small P) :
    Calls Tryz.prog 10 #[.slice a P.length c, .string q] w (ModOut w (P.map (·.data.toList)) q.data.toList) := by
  have HT := Lib.hid hv
  have HS := Lib.hid hS.2
  have hn : (P.length : Int) ≤ 1048576 := by have := hS.1; omega
  clear hv hS
  obtain ⟨i9, hi9, hz9, hs9, hb9⟩ := inf9z
  have ST0 : Hid (St w.heap.size ((P.take 0).map (·.data.toList)) q.data.toList [] (.slice none 0 0) w w) := Lib.hid ⟨by simpa using Nbp.Mod.nil _, World.ownsRow_nil _ _ _ _, by simp, Below.refl _ _⟩
  go_enter Tryz.func10, Tryz.ntmps10
  go_wp2
  go_loopg [5, 6] (P.length) (fun g v5 v6 wr => ∃ (O : List (List UInt8)) (k : Nat), v6 = .int .i64 k ∧ (k : Int) ≤ (P.length : Int) ∧ P.length - k ≤ g ∧ (O.length : Int) ≤ (k : Int) ∧ Hid (St w.heap.size ((P.take k).map (·.data.toList)) q.data.toList O v5 w wr))
  case atStart => exact ⟨[], 0, rfl, by omega, by omega, by simp, ST0⟩
  case round =>
    clear ST0
    obtain ⟨O, k, rfl, hk, hg, hOk, ST⟩ := hrel
    by_cases hlt : (k : Int) < (P.length : Int)
    · have hkn : k < P.length := by omega
      obtain ⟨bb, off, rfl, hcell⟩ := texts_cells (texts_below HT.out ST.out.below) (by rintro rfl; simp at hkn)
      have hx := hcell k hkn
      have hsz := HS.out k hkn
      obtain ⟨x, hxp⟩ : ∃ x, x = P.getD k ByteArray.empty := ⟨_, rfl⟩
      rw [← hxp] at hx hsz
      have hxs : (x.size : Int) ≤ 1048576 := by omega
      have TM := Lib.hid (take_map hkn hxp)
      clear hcell hxp hsz
      go_wp2
      go_loop [8, 9] (fun v8 v9 => ∃ j : Nat, v8 = .int .i64 (-1) ∧ v9 = .int .i64 j ∧ (j : Int) ≤ (x.size : Int) ∧ Hid (∀ i, i < j → x.data.toList[i]? ≠ some 61)) (fun v8 v9 => x.size - (intOf v9).toNat)
      case atStart => exact ⟨0, by first | rfl | go_num, by go_num, by omega, Lib.hid fun i hi => by omega⟩
      case round =>
        obtain ⟨j, rfl, rfl, hj, HF⟩ := hrel
        by_cases hjl : (j : Int) < (x.size : Int)
        · have hj' : j < x.size := by omega
          by_cases c61 : x[j] = 61
          · have c' : ((x[j].toNat : Nat) : Int) = 61 := by rw [c61]; rfl
            have EQ : Hid (Envp.eqAt x.data.toList = (j : Int)) := Lib.hid (ib_hit _ j HF.out (by rw [Lib.data_getElem? x j hj', c61]))
            clear c61
            by_cases hj0 : j = 0
            · subst hj0
              have ST2 : Hid (St w.heap.size ((P.take (k + 1)).map (·.data.toList)) q.data.toList O u5 w wr) := Lib.hid (by
                rw [TM.out]
                exact ⟨ST.out.mod.skip (Or.inl (by unfold Envp.valid; rw [EQ.out]; rfl)), ST.out.own, ST.out.nil, ST.out.below⟩)
              go_wp2
              go_roundg (P.length - (k + 1))
              case measure => omega
              case rel => exact ⟨O, k + 1, by go_num, by omega, Nat.le_refl _, by omega, ST2⟩
            · have hjp : (0 : Int) < (j : Int) := by omega
              have hjn : ¬ (j : Int) ≤ 0 := by omega
              have hj0' : (0 : Int) ≤ (j : Int) := by omega
              have hval : Envp.valid x.data.toList = true := by unfold Envp.valid; rw [EQ.out]; exact decide_eq_true hjp
              obtain ⟨nm, hnm⟩ : ∃ nm, nm = x.extract 0 j := ⟨_, rfl⟩
              have NML : Hid (nm.data.toList = Envp.nameOf x.data.toList ∧ Envp.valid x.data.toList = true) := Lib.hid ⟨by
                rw [hnm, extract_data, List.drop_zero, Nat.sub_zero]
                unfold Envp.nameOf
                rw [EQ.out, Int.toNat_natCast], hval⟩
              have hnms : nm.size ≤ 1073741824 := by rw [hnm, ByteArray.size_extract]; omega
              have HN := Lib.hid hnm.symm
              have PR := Lib.hid (fun W r hr => pre13 nm q W r hr hnms)
              clear hval hnm hnms
              cases hpre : q.data.toList.isPrefixOf nm.data.toList with
              | false =>
                have PF := Lib.hid (fun W => PR.out W false (Lib.hid hpre))
                have ST2 : Hid (∀ wr', Below wr.heap.size wr wr' → St w.heap.size ((P.take (k + 1)).map (·.data.toList)) q.data.toList O u5 w wr') := Lib.hid (fun wr' hb => by
                  rw [TM.out]
                  rw [NML.out.1] at hpre
                  exact ⟨ST.out.mod.skip (Or.inr hpre), own_below ST.out.own hb, ST.out.nil, ST.out.below.trans (hb.mono ST.out.below.size)⟩)
                clear hpre PR
                go_wp2_with (go_at_call 13; go_must (rw [HN.out]); refine (PF.out _).mono ?_; rintro e w2 ⟨rfl, hb⟩; have ST3 := Lib.hid (ST2.out _ hb); clear hb ST2)
                go_roundg (P.length - (k + 1))
                case measure => omega
                case rel => exact ⟨O, k + 1, by go_num, by omega, Nat.le_refl _, by omega, ST3⟩
              | true =>
                have PF := Lib.hid (fun W => PR.out W true (Lib.hid hpre))
                have ST2 : Hid (∀ wr', Below wr.heap.size wr wr' → St w.heap.size ((P.take k).map (·.data.toList)) q.data.toList O u5 w wr') := Lib.hid (fun wr' hb => ⟨ST.out.mod, own_below ST.out.own hb, ST.out.nil, ST.out.below.trans (hb.mono ST.out.below.size)⟩)
                have HPR := Lib.hid hpre
                clear hpre PR
                go_wp2_with (go_at_call 13; go_must (rw [HN.out]); refine (PF.out _).mono ?_; rintro e w2 ⟨rfl, hb⟩; have ST3 := Lib.hid (ST2.out _ hb); clear hb ST2 ST)
                have ⟨ao, co, hu5, hcl⟩ := own_open ST3.out.own
                subst hu5
                have CL := Lib.hid hcl
                clear hcl
                go_loop [11] (fun v11 => ∃ kk : Nat, v11 = .int .i64 kk ∧ (kk : Int) ≤ (O.length : Int) ∧ Hid (∀ j (h : j < O.length), j < kk → O[j] < Envp.nameOf x.data.toList)) (fun v11 => O.length - (intOf v11).toNat)
                case atStart => exact ⟨0, rfl, by omega, Lib.hid fun j h hj => by omega⟩
                case round =>
                  obtain ⟨kk, rfl, hkk, LO⟩ := hrel
                  by_cases hkl : (kk : Int) < (O.length : Int)
                  · have hkl' : kk < O.length := by omega
                    obtain ⟨g, hao, hcy⟩ := CL.out kk hkl'
                    subst hao
                    obtain ⟨yb, hyb⟩ : ∃ b : ByteArray, b = ⟨O[kk].toArray⟩ := ⟨_, rfl⟩
                    rw [← hyb] at hcy
                    have hbl : Op.bytesLess yb.toList nm.toList = decide (O[kk] < Envp.nameOf x.data.toList) := by
                      rw [bytesLess_eq, Lib.toList_data, Lib.toList_data, NML.out.1, hyb]
                    have hbe : (yb.toList == nm.toList) = decide (O[kk] = Envp.nameOf x.data.toList) := by
                      rw [Lib.toList_data, Lib.toList_data, NML.out.1, hyb]
                      by_cases e : O[kk] = Envp.nameOf x.data.toList <;> simp [e]
                    clear hyb
                    by_cases hlt2 : O[kk] < Envp.nameOf x.data.toList
                    · have LO2 : Hid (∀ j (h : j < O.length), j < kk + 1 → O[j] < Envp.nameOf x.data.toList) := Lib.hid fun j h hj => by
                        by_cases e : j = kk
                        · subst e; exact hlt2
                        · exact LO.out j h (by omega)
                      rw [decide_eq_true hlt2] at hbl
                      clear hbe hlt2
                      go_wp2
                      go_round
                      case rel => exact ⟨kk + 1, by go_num, by omega, LO2⟩
                      case measure => simp [intOf]; omega
                    · rw [decide_eq_false hlt2] at hbl
                      have AT : Hid (Nbp.At O (Envp.nameOf x.data.toList) kk) := Lib.hid ⟨by omega, LO.out, fun h => hlt2⟩
                      by_cases heq : O[kk] = Envp.nameOf x.data.toList
                      · rw [decide_eq_true heq] at hbe
                        have ST4 : Hid (St w.heap.size ((P.take (k + 1)).map (·.data.toList)) q.data.toList O (.slice (some ⟨g, 0, none⟩) O.length co) w w2) := Lib.hid (by
                          rw [TM.out]
                          exact ⟨ST3.out.mod.hit (by rw [← heq]; exact List.getElem_mem hkl'), ST3.out.own, ST3.out.nil, ST3.out.below⟩)
                        clear heq hlt2
                        go_wp2
                        go_roundg (P.length - (k + 1))
                        case measure => omega
                        case rel => exact ⟨O, k + 1, by go_num, by omega, Nat.le_refl _, by omega, ST4⟩
                      · rw [decide_eq_false heq] at hbe
                        have NE : Hid (∀ h : kk < O.length, O[kk] ≠ Envp.nameOf x.data.toList) := Lib.hid fun h => heq
                        clear heq hlt2
                        have INS : Hid (∀ (g' cap' : Nat) (cs : Array Value) (W : World), ShAt O kk cap' cs → O.length < cap' → cap' ≤ maxLen → w.heap.size ≤ g' → W.heap[g']? = some (.cells cs 9 (0, 0)) → Below w.heap.size w W → St w.heap.size ((P.take (k + 1)).map (·.data.toList)) q.data.toList (O.take kk ++ Envp.nameOf x.data.toList :: O.drop kk) (.slice (some ⟨g', 0, none⟩) (O.length + 1) cap') w (W.setCell ⟨g', kk, none⟩ (.string nm))) := Lib.hid (fun g' cap' cs W h1 h2 h3 h4 h5 h6 => by
                          have hnb : Value.string nm = encStr (Envp.nameOf x.data.toList) := by rw [← NML.out.1]
                          rw [hnb, TM.out]
                          refine ⟨ST3.out.mod.put NML.out.2 (by rw [← NML.out.1]; exact HPR.out) AT.out NE.out, sh_own _ h1 AT.out.le h2 h3 h4 h5, ?_, h6.setCell h4 _⟩
                          constructor
                          · intro e; cases e
                          · intro e; simp at e)
                        have hkO : (kk : Int) ≤ (O.length : Int) := by have := AT.out.le; omega
                        have hOb : (O.length : Int) ≤ 1048576 := by omega
                        have OWN := Lib.hid ST3.out.own
                        have BEL := Lib.hid ST3.out.below
                        clear ST3 AT NE TM HPR NML CL HN EQ HF PF
                        go_wp2_with (at_builtin; refine wpList_append_own _ rfl _ _ 22 rfl w.heap.size 9 i9 (.string ⟨#[]⟩) 1 16 Tryz.underlying22 hi9 hz9 hs9 hb9 rfl (by decide) _ _ _ rfl (OWN.out.alloc _) ⟨w2.heap.size, 0, none⟩ 1 1 [.string ⟨#[]⟩] rfl rfl (newsN (cs := #[.string ⟨#[]⟩]) _ rfl) (fun u hu => by rw [List.mem_singleton.1 hu]; rfl) (by unfold maxLen; omega) (by omega) (by have := BEL.out.size; simp; omega) ?_)
                        intro v1 w3 hown1 hgrow1 _
                        obtain ⟨g', cap', rfl⟩ := ownsRow_succ hown1
                        have B1 : Hid (Below w.heap.size w w3) := Lib.hid ((BEL.out.alloc BEL.out.size _).grown hgrow1 (by have := BEL.out.size; simp; omega) (fun j e => (OWN.out.lt _ e).1))
                        obtain ⟨cur, hB1, hh1, hc1, hm1, hs1, ht1⟩ : ∃ cur, w.heap.size ≤ g' ∧ w3.heap[g']? = some (.cells cur 9 (0, 0)) ∧ O.length + 1 ≤ cap' ∧ cap' ≤ maxLen ∧ cur.size = cap' * 1 ∧ cur.toList.take ((O.length + 1) * 1) = O.map encStr ++ [.string ⟨#[]⟩] := by
                          rcases hown1.2 with ⟨h0, _⟩ | ⟨g1, cap1, cur, hv1, r1, r2, r3, r4, r5, r6⟩
                          · cases h0
                          · cases hv1; exact ⟨cur, r1, r2, r3, r4, r5, r6⟩
                        have SH0 := Lib.hid (sh_start hs1 ht1)
                        have HH0 := Lib.hid hh1
                        have HM := Lib.hid (And.intro hm1 hB1)
                        have hcO : (O.length : Int) + 1 ≤ (cap' : Int) := by omega
                        clear hown1 hgrow1 hB1 hh1 hs1 ht1 OWN BEL hm1
                        go_wp2
                        go_loopg [12] (O.length) (fun g v12 wr => ∃ (m : Nat) (cs : Array Value), v12 = .int .i64 m ∧ (kk : Int) ≤ (m : Int) ∧ (m : Int) ≤ (O.length : Int) ∧ m - kk ≤ g ∧ Hid (ShAt O m cap' cs) ∧ Hid (wr.heap[g']? = some (.cells cs 9 (0, 0))) ∧ Hid (Below w.heap.size w wr))
                        case atStart => exact ⟨O.length, cur, by go_num, by omega, by omega, by omega, SH0, HH0, B1⟩
                        case round =>
                          clear SH0 HH0 B1
                          obtain ⟨m, cs, rfl, hm2, hm3, hmg, SH, HH, BB⟩ := hrel
                          by_cases hmk : (kk : Int) < (m : Int)
                          · obtain ⟨m1, hm1⟩ : ∃ q, q + 1 = m := ⟨m - 1, by omega⟩
                            have hm1l : m1 < O.length := by omega
                            have zm1 : (m : Int) - 1 = (m1 : Int) := by omega
                            have p1 : (0 : Int) ≤ (m1 : Int) := by omega
                            have p2 : (m1 : Int) < (O.length : Int) + 1 := by omega
                            have p3 : (m : Int) < (O.length : Int) + 1 := by omega
                            have hy1 : wr.cell? ⟨g', m1, none⟩ = some (.string ⟨O[m1].toArray⟩) := cell_heap HH.out m1 _ (SH.out.lo m1 hm1l (by omega))
                            have hmc : m < cs.size := by rw [SH.out.size]; omega
                            have hy2 : wr.cell? ⟨g', m, none⟩ = some cs[m] := cell_heap HH.out m _ (Array.getElem?_eq_getElem hmc)
                            have hf2 : wr.frozen? ⟨g', m, none⟩ = false := frozen_heap HH.out m
                            have SH2 : Hid (ShAt O m1 cap' (cs.setIfInBounds m (.string ⟨O[m1].toArray⟩))) := Lib.hid (sh_step SH.out hm1 hm1l (by omega))
                            have HH2 : Hid ((wr.setCell ⟨g', m, none⟩ (.string ⟨O[m1].toArray⟩)).heap[g']? = some (.cells (cs.setIfInBounds m (.string ⟨O[m1].toArray⟩)) 9 (0, 0))) := Lib.hid (heap_set HH.out m _)
                            have BB2 : Hid (Below w.heap.size w (wr.setCell ⟨g', m, none⟩ (.string ⟨O[m1].toArray⟩))) := Lib.hid (BB.out.setCell HM.out.2 _)
                            generalize (⟨O[m1].toArray⟩ : ByteArray) = yb2 at hy1 SH2 HH2 BB2
                            generalize cs.setIfInBounds m (.string yb2) = cs2 at SH2 HH2
                            generalize cs[m] = old at hy2
                            have hM1 := Lib.hid hm1
                            clear hm1 hmc SH HH BB hm1l
                            go_wp2
                            have hM2 := hM1.out
                            go_roundg (m1 - kk)
                            case measure => omega
                            case rel => exact ⟨m1, cs2, by go_num, by omega, by omega, Nat.le_refl _, SH2, HH2, BB2⟩
                          · have hmk2 : m = kk := by omega
                            subst hmk2
                            have hmc : m < cs.size := by rw [SH.out.size]; omega
                            have hy2 : wr.cell? ⟨g', m, none⟩ = some cs[m] := cell_heap HH.out m _ (Array.getElem?_eq_getElem hmc)
                            have hf2 : wr.frozen? ⟨g', m, none⟩ = false := frozen_heap HH.out m
                            have p3 : (m : Int) < (O.length : Int) + 1 := by omega
                            have FIN := Lib.hid (INS.out g' cap' cs wr SH.out (by omega) HM.out.1 HM.out.2 HH.out BB.out)
                            have hlen2 : ((O.take m ++ Envp.nameOf x.data.toList :: O.drop m).length : Int) ≤ ((k + 1 : Nat) : Int) := by simp; omega
                            generalize cs[m] = old at hy2
                            generalize O.take m ++ Envp.nameOf x.data.toList :: O.drop m = O2 at FIN hlen2
                            clear SH HH BB INS hmc
                            go_wp2
                            go_roundg (P.length - (k + 1))
                            case measure => omega
                            case rel => exact ⟨O2, k + 1, by go_num, by omega, Nat.le_refl _, hlen2, FIN⟩
                  · have AT : Hid (Nbp.At O (Envp.nameOf x.data.toList) kk) := Lib.hid ⟨by omega, LO.out, fun h => by omega⟩
                    have NE : Hid (∀ h : kk < O.length, O[kk] ≠ Envp.nameOf x.data.toList) := Lib.hid fun h => by omega
                    have INS : Hid (∀ (g' cap' : Nat) (cs : Array Value) (W : World), ShAt O kk cap' cs → O.length < cap' → cap' ≤ maxLen → w.heap.size ≤ g' → W.heap[g']? = some (.cells cs 9 (0, 0)) → Below w.heap.size w W → St w.heap.size ((P.take (k + 1)).map (·.data.toList)) q.data.toList (O.take kk ++ Envp.nameOf x.data.toList :: O.drop kk) (.slice (some ⟨g', 0, none⟩) (O.length + 1) cap') w (W.setCell ⟨g', kk, none⟩ (.string nm))) := Lib.hid (fun g' cap' cs W h1 h2 h3 h4 h5 h6 => by
                      have hnb : Value.string nm = encStr (Envp.nameOf x.data.toList) := by rw [← NML.out.1]
                      rw [hnb, TM.out]
                      refine ⟨ST3.out.mod.put NML.out.2 (by rw [← NML.out.1]; exact HPR.out) AT.out NE.out, sh_own _ h1 AT.out.le h2 h3 h4 h5, ?_, h6.setCell h4 _⟩
                      constructor
                      · intro e; cases e
                      · intro e; simp at e)
                    have hkO : (kk : Int) ≤ (O.length : Int) := by have := AT.out.le; omega
                    have hOb : (O.length : Int) ≤ 1048576 := by omega
                    have OWN := Lib.hid ST3.out.own
                    have BEL := Lib.hid ST3.out.below
                    clear ST3 AT NE TM HPR NML CL HN EQ HF PF
                    go_wp2_with (at_builtin; refine wpList_append_own _ rfl _ _ 22 rfl w.heap.size 9 i9 (.string ⟨#[]⟩) 1 16 Tryz.underlying22 hi9 hz9 hs9 hb9 rfl (by decide) _ _ _ rfl (OWN.out.alloc _) ⟨w2.heap.size, 0, none⟩ 1 1 [.string ⟨#[]⟩] rfl rfl (newsN (cs := #[.string ⟨#[]⟩]) _ rfl) (fun u hu => by rw [List.mem_singleton.1 hu]; rfl) (by unfold maxLen; omega) (by omega) (by have := BEL.out.size; simp; omega) ?_)
                    intro v1 w3 hown1 hgrow1 _
                    obtain ⟨g', cap', rfl⟩ := ownsRow_succ hown1
                    have B1 : Hid (Below w.heap.size w w3) := Lib.hid ((BEL.out.alloc BEL.out.size _).grown hgrow1 (by have := BEL.out.size; simp; omega) (fun j e => (OWN.out.lt _ e).1))
                    obtain ⟨cur, hB1, hh1, hc1, hm1, hs1, ht1⟩ : ∃ cur, w.heap.size ≤ g' ∧ w3.heap[g']? = some (.cells cur 9 (0, 0)) ∧ O.length + 1 ≤ cap' ∧ cap' ≤ maxLen ∧ cur.size = cap' * 1 ∧ cur.toList.take ((O.length + 1) * 1) = O.map encStr ++ [.string ⟨#[]⟩] := by
                      rcases hown1.2 with ⟨h0, _⟩ | ⟨g1, cap1, cur, hv1, r1, r2, r3, r4, r5, r6⟩
                      · cases h0
                      · cases hv1; exact ⟨cur, r1, r2, r3, r4, r5, r6⟩
                    have SH0 := Lib.hid (sh_start hs1 ht1)
                    have HH0 := Lib.hid hh1
                    have HM := Lib.hid (And.intro hm1 hB1)
                    have hcO : (O.length : Int) + 1 ≤ (cap' : Int) := by omega
                    clear hown1 hgrow1 hB1 hh1 hs1 ht1 OWN BEL hm1
                    go_wp2
                    go_loopg [12] (O.length) (fun g v12 wr => ∃ (m : Nat) (cs : Array Value), v12 = .int .i64 m ∧ (kk : Int) ≤ (m : Int) ∧ (m : Int) ≤ (O.length : Int) ∧ m - kk ≤ g ∧ Hid (ShAt O m cap' cs) ∧ Hid (wr.heap[g']? = some (.cells cs 9 (0, 0))) ∧ Hid (Below w.heap.size w wr))
                    case atStart => exact ⟨O.length, cur, by go_num, by omega, by omega, by omega, SH0, HH0, B1⟩
                    case round =>
                      clear SH0 HH0 B1
                      obtain ⟨m, cs, rfl, hm2, hm3, hmg, SH, HH, BB⟩ := hrel
                      by_cases hmk : (kk : Int) < (m : Int)
                      · exfalso; omega
                      · have hmk2 : m = kk := by omega
                        subst hmk2
                        have hmc : m < cs.size := by rw [SH.out.size]; omega
                        have hy2 : wr.cell? ⟨g', m, none⟩ = some cs[m] := cell_heap HH.out m _ (Array.getElem?_eq_getElem hmc)
                        have hf2 : wr.frozen? ⟨g', m, none⟩ = false := frozen_heap HH.out m
                        have p3 : (m : Int) < (O.length : Int) + 1 := by omega
                        have FIN := Lib.hid (INS.out g' cap' cs wr SH.out (by omega) HM.out.1 HM.out.2 HH.out BB.out)
                        have hlen2 : ((O.take m ++ Envp.nameOf x.data.toList :: O.drop m).length : Int) ≤ ((k + 1 : Nat) : Int) := by simp; omega
                        generalize cs[m] = old at hy2
                        generalize O.take m ++ Envp.nameOf x.data.toList :: O.drop m = O2 at FIN hlen2
                        clear SH HH BB INS hmc
                        go_wp2
                        go_roundg (P.length - (k + 1))
                        case measure => omega
                        case rel => exact ⟨O2, k + 1, by go_num, by omega, Nat.le_refl _, hlen2, FIN⟩
          · have HF2 := Lib.hid (ib_step x j hj' c61 HF.out)
            have c' : ¬ ((x[j].toNat : Nat) : Int) = 61 := fun h => c61 (Lib.byte_eq_of_toNat h)
            clear c61
            go_wp2
            go_round
            case rel => exact ⟨j + 1, rfl, by go_num, by omega, HF2⟩
            case measure => simp [intOf]; omega
        · have EQ : Hid (Envp.eqAt x.data.toList = -1) := Lib.hid (ib_none _ (fun i hi => HF.out i (by simp at hi; omega)))
          have ST2 : Hid (St w.heap.size ((P.take (k + 1)).map (·.data.toList)) q.data.toList O u5 w wr) := Lib.hid (by
            rw [TM.out]
            exact ⟨ST.out.mod.skip (Or.inl (by unfold Envp.valid; rw [EQ.out]; rfl)), ST.out.own, ST.out.nil, ST.out.below⟩)
          go_wp2
          go_roundg (P.length - (k + 1))
          case measure => omega
          case rel => exact ⟨O, k + 1, by go_num, by omega, Nat.le_refl _, by omega, ST2⟩
    · have hkk : k = P.length := by omega
      have FE := ST.out
      rw [hkk, List.take_length] at FE
      have FI := Lib.hid FE
      clear ST hkk FE
      go_wp2
      go_ret
      exact ⟨u5, O, rfl, FI.out⟩
end Go.Proofs.YtmbjhfkpmgkkbaaGreatDoor
