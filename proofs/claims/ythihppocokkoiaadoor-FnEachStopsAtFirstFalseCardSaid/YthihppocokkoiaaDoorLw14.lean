/-
  The walk of FnEachYieldsDistinctNamesInKeyOrderWithLastValues. Conditions: those in each theorem.
-/
import Derived.Test.YthihppocokkoiaaDoorLwW
namespace Go.Proofs.YthihppocokkoiaaDoor
set_option linter.unusedVariables false
open Go.Shelf Go.RowKit Go.Lib Go.Sort

theorem texts_cells14 {w : World} {a : Option Addr} {c : Nat} {P : List ByteArray} (hv : Texts w (.slice a P.length c) P) : P ≠ [] → ∃ b off, a = some ⟨b, off, none⟩ ∧ ∀ j, j < P.length → w.cell? ⟨b, off + j, none⟩ = some (.string (P.getD j ByteArray.empty)) := fun hne => by
  obtain ⟨a', c', h, hc⟩ := hv
  cases h
  obtain ⟨b, off, h1, _, h2⟩ := hc hne
  exact ⟨b, off, h1, h2⟩
/-- the cells of an owned row -/
theorem row_cells {w : World} {B e size : Nat} {v : Value} {n : Nat} {xs : List Value} (h : w.ownsRow B e size v n xs) (hs : 0 < size) : ∃ a cap, v = .slice a n cap ∧ ∀ j, j < n → ∃ g, a = some ⟨g, 0, none⟩ ∧ g < w.heap.size ∧ ∀ m, m < size → w.cell? ⟨g, j * size + m, none⟩ = xs[j * size + m]? := by
  rcases h.2 with ⟨rfl, rfl⟩ | ⟨g, cap, cur, rfl, hg, hh, r⟩
  · exact ⟨none, 0, rfl, fun j hj => by omega⟩
  · refine ⟨_, cap, rfl, fun j hj => ⟨g, rfl, (Array.getElem?_eq_some_iff.1 hh).1, fun m hm => ?_⟩⟩
    refine h.cellAt _ ?_
    have : (j + 1) * size ≤ n * size := Nat.mul_le_mul_right _ (by omega)
    rw [Nat.add_mul] at this
    omega
theorem strAll_at (vs : List ByteArray) (j : Nat) (hj : j < vs.length) (m : Nat) (hm : m < 9) : (strAll vs)[j * 9 + m]? = (strCs vs[j])[m]? := by
  have e : vs = vs.take j ++ vs[j] :: vs.drop (j + 1) := by rw [← List.drop_eq_getElem_cons hj, List.take_append_drop]
  conv => lhs; rw [e]
  unfold strAll
  rw [List.flatMap_append, List.flatMap_cons]
  have l : ((vs.take j).flatMap strCs).length = j * 9 := by
    have := strAll_len (vs.take j)
    unfold strAll at this
    rw [this, List.length_take, Nat.min_eq_left (by omega)]
  rw [List.getElem?_append_right (by omega), l, show j * 9 + m - j * 9 = m by omega]
  rw [List.getElem?_append_left (by show m < 9; exact hm)]

theorem each_rows {w w' : World} {R : List (List UInt8)} {stop : Int} {e : Ending} {n : Nat} (hn : calls stop R.length = n) (h : EachDone w R stop e w') : ∃ an cn av cv, e = .returned (.tuple #[.slice an n cn, .slice av n cv]) ∧ Below w.heap.size w w' ∧
    (∀ j (hj : j < R.length), j < n → ∃ g, an = some ⟨g, 0, none⟩ ∧ g < w'.heap.size ∧ w'.cell? ⟨g, j, none⟩ = some (.string (nameB R[j]))) ∧
    (∀ j (hj : j < R.length), j < n → ∃ g, av = some ⟨g, 0, none⟩ ∧ g < w'.heap.size ∧ ∀ m, m < 9 → w'.cell? ⟨g, j * 9 + m, none⟩ = (strCs (valB R[j]))[m]?) := by
  obtain ⟨E, vn, vv, rfl, _, _, on, ov, hB⟩ := h
  rw [hn] at on ov
  obtain ⟨an, cn, rfl, hcn⟩ := row_cells on (by omega)
  obtain ⟨av, cv, rfl, hcv⟩ := row_cells ov (by omega)
  refine ⟨an, cn, av, cv, rfl, hB, fun j hj hjn => ?_, fun j hj hjn => ?_⟩
  · obtain ⟨g, h1, h2, h3⟩ := hcn j hjn
    refine ⟨g, h1, h2, ?_⟩
    have := h3 0 (by omega)
    rw [Nat.mul_one, Nat.add_zero] at this
    rw [this, List.getElem?_map, List.getElem?_map, List.getElem?_take_of_lt hjn, List.getElem?_eq_getElem hj]; rfl
  · obtain ⟨g, h1, h2, h3⟩ := hcv j hjn
    refine ⟨g, h1, h2, fun m hm => ?_⟩
    rw [h3 m hm, strAll_at _ j (by simp; omega) m hm]
    simp
/-- loop 1: the map's block, the names met so far -/
structure Met (L : List (List UInt8)) (bm k d : Nat) (w1 w : World) : Prop where
  map : SMap w bm k (vals (L.take k))
  names : ∃ N, Names (L.take k) N ∧ N.length = d
  below : Below w1.heap.size w1 w
theorem grown_below {B : Nat} {w1 w w' : World} (h : Below B w1 w) {b : Nat} (hB : B ≤ w1.heap.size) (hb : B ≤ b) (g : w.grownBy w' (some b)) : Below B w1 w' :=
  ⟨g.os.trans h.os, g.tape.trans h.tape, g.output.trans h.output, Nat.le_trans h.size g.size, fun i hi => (g.block i (by have := h.size; omega) (fun e => by injection e with e; omega)).trans (h.block i hi)⟩

theorem below_drewN {B : Nat} {w w' : World} (h : Below B w w') (n : Nat) : Below B w (w'.drewN n) := ⟨h.os, h.tape, h.output, h.size, h.block⟩
set_option maxRecDepth 20000 in
set_option maxHeartbeats 8000000 in
theorem law14 (a : Option Addr) (c : Nat) (P : List ByteArray) (w : World) (hv : Texts w (.slice a P.length c) P) :
    Calls Tryd.prog 14 #[.slice a P.length c] w fun e w' => e = .returned (.bool true) ∧ Below w.heap.size w w' := by
  have B64 := Lib.hid (bytes64 a c P w (texts_cells14 hv))
  have HV := Lib.hid hv
  clear hv
  go_enter Tryd.func14, Tryd.ntmps14
  go_wp2_with (go_at_call 64; refine B64.out.mono ?_; rintro e w' ⟨⟨b, rfl, hb⟩, rfl⟩; have HB := Lib.hid hb; clear hb B64)
  · go_ret
    exact ⟨rfl, Below.refl _ _⟩
  have hb1 : (!b) = false := by assumption
  have HS := Lib.hid (HB.out (by simpa using hb1))
  have hp : (P.length : Int) ≤ 1048576 := by have := HS.out.1; omega
  clear HB hb1
  have S56 := Lib.hid (size56 a c P 0 w (by omega) HS.out (texts_cells14 HV.out))
  go_wp2_with (go_at_call 56; refine S56.out.mono ?_; rintro e w' ⟨⟨b2, rfl, _⟩, rfl⟩; clear S56)
  · go_ret
    exact ⟨rfl, Below.refl _ _⟩
  have hmm := @run_makeMap Tryd.prog
  have C58 := Lib.hid (clone58 _ P w HV.out HS.out.1)
  go_wp2_with (go_at_call 58; refine C58.out.mono ?_; rintro e w1 ⟨⟨v', rfl, hT⟩, hB1⟩; obtain ⟨a3, c3, hv', hc'⟩ := hT; subst hv'; have HT : Hid (Texts w1 (.slice a3 P.length c3) P) := Lib.hid ⟨a3, c3, rfl, hc'⟩; have HB1 := Lib.hid hB1; clear hc' hB1 HV C58)
  obtain ⟨L, hL⟩ : ∃ L, L = P.map (·.data.toList) := ⟨_, rfl⟩
  have HL := Lib.hid hL
  clear hL
  have e0 : vals (L.take 0) = fun _ => none := by funext q; simp [vals, Envp.look]
  have M0 : Hid (Met L w1.heap.size 0 0 w1 (w1.alloc (.map #[] 0))) := Lib.hid ⟨by rw [e0]; exact smap_made w1, ⟨[], by simpa using names_nil, rfl⟩, (Below.refl _ _).alloc (Nat.le_refl _) _⟩
  clear e0
  have hw1 : w.heap.size ≤ w1.heap.size := HB1.out.size
  clear hmm
  generalize hW : w1.alloc (.map #[] 0) = W2 at M0 ⊢
  clear hW
  go_loopg [4, 5] (P.length) (fun g v4 v5 wr => ∃ d k : Nat, v4 = .int .i64 d ∧ v5 = .int .i64 k ∧ (k : Int) ≤ (P.length : Int) ∧ (d : Int) ≤ (k : Int) ∧ P.length - k ≤ g ∧ Hid (Met L w1.heap.size k d w1 wr))
  case atStart => exact ⟨0, 0, rfl, rfl, by omega, by omega, by omega, M0⟩
  case round =>
    clear M0
    obtain ⟨d, k, rfl, rfl, hk, hd, hg, MT⟩ := hrel
    by_cases hlt : (k : Int) < (P.length : Int)
    · have hkn : k < P.length := by omega
      obtain ⟨b0, o0, rfl, hc0⟩ := texts_cells14 (texts_below HT.out MT.out.below) (by rintro rfl; simp at hkn)
      have hx := hc0 k hkn
      have hsz : (P.getD k ByteArray.empty).size ≤ 1048576 := HS.out.2 k hkn
      have hLk : k < L.length := by rw [HL.out, List.length_map]; exact hkn
      have hLe : L[k] = (P.getD k ByteArray.empty).data.toList := by
        simp only [HL.out, List.getElem_map]
        rw [List.getD_eq_getElem?_getD, List.getElem?_eq_getElem hkn]; rfl
      have TK : Hid (L.take (k + 1) = L.take k ++ [(P.getD k ByteArray.empty).data.toList]) := Lib.hid (by rw [List.take_succ_eq_append_getElem hLk, hLe])
      obtain ⟨s, hs⟩ : ∃ s, s = P.getD k ByteArray.empty := ⟨_, rfl⟩
      rw [← hs] at hx hsz TK
      clear hc0 hs hLe hLk
      have E57 := Lib.hid (eq57 s wr (by omega))
      obtain ⟨j, hj⟩ : ∃ j, j = Envp.eqAt s.data.toList := ⟨_, rfl⟩
      rw [← hj] at E57
      by_cases hj0 : j ≤ 0
      · have hva : Envp.valid s.data.toList = false := by unfold Envp.valid; rw [← hj]; simp; omega
        have M2 : Hid (Met L w1.heap.size (k + 1) d w1 wr) := Lib.hid (by
          obtain ⟨m1, ⟨N, n1, n2⟩, m3⟩ := MT.out
          refine ⟨?_, ⟨N, ?_, n2⟩, m3⟩
          · rw [TK.out, vals_old hva]; exact m1.mono (by omega)
          · rw [TK.out]; exact names_old n1 hva)
        clear hva hj MT TK
        go_wp2_with (go_at_call 57; refine E57.out.mono ?_; rintro e w' ⟨rfl, rfl⟩; clear E57)
        go_roundg (P.length - (k + 1))
        case measure => omega
        case rel => exact ⟨d, k + 1, by go_num, by go_num, by omega, by omega, Nat.le_refl _, M2⟩
      · have hva : Envp.valid s.data.toList = true := by unfold Envp.valid; rw [← hj]; simp; omega
        obtain ⟨i, hi, hi0⟩ := Envp.valid_at hva
        obtain ⟨en, ev⟩ := cut_named hi
        have hsp := (Envp.split_of hi).2.2
        have hsl : s.data.toList.length = s.size := by simp
        have his : (i : Int) + 1 ≤ (s.size : Int) := by omega
        clear hsl
        obtain rfl : j = (i : Int) := by rw [hj, hi]
        have nmE : (s.extract 0 i).data.toList = Envp.nameOf s.data.toList := by have := congrArg (fun b : ByteArray => b.data.toList) en; simpa [nameB] using this.symm
        have vlE : (s.extract (i + 1) s.size).data.toList = Envp.valOf s.data.toList := by have := congrArg (fun b : ByteArray => b.data.toList) ev; simpa [valB] using this.symm
        have sz1 : (s.extract 0 i).size ≤ 1048576 := by rw [ByteArray.size_extract]; omega
        have sz2 : (s.extract (i + 1) s.size).size ≤ 1048576 := by rw [ByteArray.size_extract]; omega
        obtain ⟨x, hlook, _⟩ := MT.out.map.look (s.extract 0 i) (by unfold maxLen; omega)
        obtain ⟨W3, hput, hSM, hgr⟩ := MT.out.map.put (by unfold maxLen; omega) (s.extract 0 i) (s.extract (i + 1) s.size) (by unfold maxLen; omega) (by unfold maxLen; omega)
        obtain ⟨bb, hbb⟩ : ∃ bb, bb = (vals (L.take k) (s.extract 0 i).data.toList).isSome := ⟨_, rfl⟩
        rw [← hbb] at hlook
        have M2 : Hid (Met L w1.heap.size (k + 1) (if bb then d else d + 1) w1 W3) := Lib.hid (by
          obtain ⟨m1, ⟨N, n1, n2⟩, m3⟩ := MT.out
          rw [nmE] at hbb hSM
          rw [vlE] at hSM
          refine ⟨by rw [TK.out, vals_put hva]; exact hSM, ?_, grown_below m3 (Nat.le_refl _) (Nat.le_refl _) hgr⟩
          rw [TK.out]
          cases bb with
          | true => exact ⟨N, names_hit n1 hva hbb.symm, by simpa using n2⟩
          | false => exact ⟨_, names_new n1 hva hbb.symm, by simp [n2]⟩)
        clear hva hi en ev hsp nmE vlE sz1 sz2 hSM hgr hbb MT TK hj
        cases bb with
        | true =>
          go_wp2_with (go_at_call 57; refine E57.out.mono ?_; rintro e w' ⟨rfl, rfl⟩; clear E57)
          go_roundg (P.length - (k + 1))
          case measure => omega
          case rel => exact ⟨d, k + 1, by go_num, by go_num, by omega, by omega, Nat.le_refl _, M2⟩
        | false =>
          go_wp2_with (go_at_call 57; refine E57.out.mono ?_; rintro e w' ⟨rfl, rfl⟩; clear E57)
          go_roundg (P.length - (k + 1))
          case measure => omega
          case rel => exact ⟨d + 1, k + 1, by go_num, by go_num, by omega, by omega, Nat.le_refl _, M2⟩
    · obtain rfl : k = P.length := by omega
      have hLl : L.length = P.length := by rw [HL.out, List.length_map]
      have hmt := MT.out
      have SM : Hid (SMap wr w1.heap.size P.length (vals L)) := Lib.hid (by have h := hmt.map; rw [List.take_of_length_le (by omega)] at h; exact h)
      have NM : Hid (∀ R, Envp.Env L R → R.length = d) := Lib.hid fun R hE => by
        obtain ⟨N, n1, n2⟩ := hmt.names
        rw [List.take_of_length_le (by omega)] at n1
        rw [env_count hE n1, n2]
      have BW := Lib.hid hmt.below
      have DE := Lib.hid (door63 false (.slice a3 P.length c3) 0 (Envp.Env L) wr (Lib.hid fun W hW => (env_any _ P W (texts_below (texts_below HT.out hmt.below) hW) (fun s hs => by have := small_mem HS.out s hs; omega) HS.out.1).mono (by
        rintro e w' ⟨sv, R, he, hE, hB, hRow⟩
        rw [← HL.out] at hE
        refine ⟨sv, R, he, ⟨fun y hy => (hE.valid y hy).2, fun y hy => ?_, by have := env_length hE; have := HS.out.1; omega⟩, hE, hB, hRow⟩
        have hy2 := (hE.valid y hy).1
        rw [HL.out] at hy2
        obtain ⟨s, hs, rfl⟩ := List.mem_map.1 hy2
        have := small_mem HS.out s hs
        rw [Array.length_toList]; show s.size ≤ _; omega)))
      clear hmt MT hLl hlt hk hg
      go_wp2_with (go_at_call 63; refine DE.out.mono ?_; rintro e W4 ⟨R, hE, hG, hD⟩; obtain ⟨an, cn, av, cv, rfl, hB, na, va⟩ := each_rows (n := R.length) (by unfold calls; rw [if_pos (by omega)]) hD; obtain rfl : R.length = d := NM.out R hE; have HE := Lib.hid hE; have HB4 := Lib.hid hB; have NA := Lib.hid na; have VA := Lib.hid va; clear hE hB na va hD NM DE)
      have SM4 : Hid (SMap W4 w1.heap.size P.length (vals L)) := Lib.hid (SM.out.kept (HB4.out.block _ SM.out.lt))
      have LT : Hid (w1.heap.size < W4.heap.size) := Lib.hid (by have := SM.out.lt; have := HB4.out.size; omega)
      have HZ : Hid (∀ y ∈ R, (nameB y).size ≤ 1073741824) := Lib.hid fun y hy => by
        have h1 := hG.2.1 y hy
        have h2 : (nameB y).size = (Envp.nameOf y).length := by simp [nameB, ByteArray.size]
        have h3 : (Envp.nameOf y).length ≤ y.length := by unfold Envp.nameOf; rw [List.length_take]; omega
        omega
      have hR : (R.length : Int) ≤ 1073741824 := by have := hG.2.2; omega
      clear SM hG
      go_loopg [13] (R.length) (fun g v13 wr => ∃ k : Nat, v13 = .int .i64 k ∧ (k : Int) ≤ (R.length : Int) ∧ R.length - k ≤ g ∧ Hid (Below W4.heap.size W4 wr))
      case atStart => exact ⟨0, rfl, by omega, by omega, Lib.hid (Below.refl _ _)⟩
      case round =>
        obtain ⟨k, rfl, hk, hg, B5⟩ := hrel
        by_cases hlt : (k : Int) < (R.length : Int)
        · cases k with
          | zero =>
          have hkn : 0 < R.length := by omega
          obtain ⟨gn, rfl, hgn, hcn⟩ := NA.out (0) hkn hkn
          obtain ⟨gv, rfl, hgv, hcv⟩ := VA.out (0) hkn hkn
          have hxn : wr.cell? ⟨gn, 0, none⟩ = some (.string (nameB R[0])) := (World.cell?_of_block (w := W4) (B5.out.block gn hgn)).trans hcn
          have hxv : Hid (∀ m, m < 9 → wr.cell? ⟨gv, (0) * 9 + m, none⟩ = (strCs (valB R[0]))[m]?) := Lib.hid fun m hm => (World.cell?_of_block (w := W4) (B5.out.block gv hgv)).trans (hcv m hm)
          have hsn : (nameB R[0]).size ≤ 1073741824 := HZ.out _ (List.getElem_mem hkn)
          obtain ⟨x, hlook, hval⟩ := (SM4.out.kept (B5.out.block _ LT.out)).look (nameB R[0]) (by unfold maxLen; omega)
          have hvv : vals L (nameB R[0]).data.toList = some (Envp.valOf R[0]) := by have := env_val HE.out hkn; simpa [nameB] using this
          have hxe : x = valB R[0] := hval _ hvv
          rw [hvv] at hlook
          subst hxe
          have hlook2 : (Instr.lookup 31 (.map (some w1.heap.size)) (.string (nameB R[0])) true).run Tryd.prog wr = .ok (.tuple #[.string (valB R[0]), .bool true]) wr := hlook
          clear hlook hval hvv
          generalize nameB R[0] = nm at hxn hsn hlook2
          generalize valB R[0] = vl at hxv hlook2
          have r0 : wr.cell? ⟨gv, 0, none⟩ = some (.bool true) := hxv.out 0 (by omega)
          have r1 : wr.cell? ⟨gv, 1, none⟩ = some (.bool false) := hxv.out 1 (by omega)
          have r2 : wr.cell? ⟨gv, 2, none⟩ = some (.bool true) := hxv.out 2 (by omega)
          have r3 : wr.cell? ⟨gv, 3, none⟩ = some (.bool false) := hxv.out 3 (by omega)
          have r4 : wr.cell? ⟨gv, 4, none⟩ = some (.int .u8 1) := hxv.out 4 (by omega)
          have r5 : wr.cell? ⟨gv, 5, none⟩ = some (.string vl) := hxv.out 5 (by omega)
          have r6 : wr.cell? ⟨gv, 6, none⟩ = some (.slice none 0 0) := hxv.out 6 (by omega)
          have r7 : wr.cell? ⟨gv, 7, none⟩ = some (.map none) := hxv.out 7 (by omega)
          have r8 : wr.cell? ⟨gv, 8, none⟩ = some (.slice none 0 0) := hxv.out 8 (by omega)
          have S61 : Hid (∀ W : World, Calls Tryd.prog 61 #[.agg #[.bool true, .bool false, .bool true, .bool false, .int .u8 1, .string vl, .slice none 0 0, .map none, .slice none 0 0], .string vl] W fun e w' => e = .returned (.bool true) ∧ Below W.heap.size W w') := Lib.hid fun W => str61 vl W
          clear hcn hcv hxv SM4
          go_wp2_with (go_at_call 61; refine (S61.out _).mono ?_; rintro e W6 ⟨rfl, hb6⟩; have B6 := Lib.hid (B5.out.trans (hb6.mono B5.out.size)); clear hb6 S61)
          go_quiet (fail)
          go_wp2
          go_roundg (R.length - (0 + 1))
          case measure => omega
          case rel => exact ⟨0 + 1, by go_num, by omega, Nat.le_refl _, Lib.hid (below_drewN B6.out _)⟩
          | succ k =>
          have hkn : k + 1 < R.length := by omega
          obtain ⟨gn, rfl, hgn, hcn⟩ := NA.out (k + 1) hkn hkn
          obtain ⟨gv, rfl, hgv, hcv⟩ := VA.out (k + 1) hkn hkn
          have hxn : wr.cell? ⟨gn, k + 1, none⟩ = some (.string (nameB R[k + 1])) := (World.cell?_of_block (w := W4) (B5.out.block gn hgn)).trans hcn
          have hxv : Hid (∀ m, m < 9 → wr.cell? ⟨gv, (k + 1) * 9 + m, none⟩ = (strCs (valB R[k + 1]))[m]?) := Lib.hid fun m hm => (World.cell?_of_block (w := W4) (B5.out.block gv hgv)).trans (hcv m hm)
          have hsn : (nameB R[k + 1]).size ≤ 1073741824 := HZ.out _ (List.getElem_mem hkn)
          obtain ⟨x, hlook, hval⟩ := (SM4.out.kept (B5.out.block _ LT.out)).look (nameB R[k + 1]) (by unfold maxLen; omega)
          have hvv : vals L (nameB R[k + 1]).data.toList = some (Envp.valOf R[k + 1]) := by have := env_val HE.out hkn; simpa [nameB] using this
          have hxe : x = valB R[k + 1] := hval _ hvv
          rw [hvv] at hlook
          subst hxe
          have hlook2 : (Instr.lookup 31 (.map (some w1.heap.size)) (.string (nameB R[k + 1])) true).run Tryd.prog wr = .ok (.tuple #[.string (valB R[k + 1]), .bool true]) wr := hlook
          clear hlook hval hvv
          have hk0 : k < R.length := by omega
          obtain ⟨gn2, hgn2, _, hcn2⟩ := NA.out k hk0 hk0
          obtain rfl : gn = gn2 := by injection hgn2 with hgn2; injection hgn2
          have hxp : wr.cell? ⟨gn, k, none⟩ = some (.string (nameB R[k])) := (World.cell?_of_block (w := W4) (B5.out.block gn hgn)).trans hcn2
          have hsp : (nameB R[k]).size ≤ 1073741824 := HZ.out _ (List.getElem_mem hk0)
          have hcmp : compareBytes ((nameB R[k]).data.toList ++ [61]) ((nameB R[k + 1]).data.toList ++ [61]) < 0 := env_inc HE.out hkn
          have KC : Hid (∀ W : World, Calls Tryd.prog 65 #[.string (nameB R[k]), .string (nameB R[k + 1])] W fun e w' => e = .returned (.int .i64 (compareBytes ((nameB R[k]).data.toList ++ [61]) ((nameB R[k + 1]).data.toList ++ [61]))) ∧ w' = W) := Lib.hid fun W => (key65 _ _ W (by omega) (by omega)).mono fun e w' h => ⟨h.1, h.2.symm⟩
          generalize nameB R[k] = np at hxp KC hcmp hsp
          generalize nameB R[k + 1] = nm at hxn KC hcmp hsn hlook2
          generalize compareBytes (np.data.toList ++ [61]) (nm.data.toList ++ [61]) = cmp at KC hcmp
          have hcmp2 : ¬ (0 : Int) ≤ cmp := by omega
          clear hcn2 hgn2
          generalize valB R[k + 1] = vl at hxv hlook2
          have r0 : wr.cell? ⟨gv, (k + 1) * 9, none⟩ = some (.bool true) := hxv.out 0 (by omega)
          have r1 : wr.cell? ⟨gv, (k + 1) * 9 + 1, none⟩ = some (.bool false) := hxv.out 1 (by omega)
          have r2 : wr.cell? ⟨gv, (k + 1) * 9 + 2, none⟩ = some (.bool true) := hxv.out 2 (by omega)
          have r3 : wr.cell? ⟨gv, (k + 1) * 9 + 3, none⟩ = some (.bool false) := hxv.out 3 (by omega)
          have r4 : wr.cell? ⟨gv, (k + 1) * 9 + 4, none⟩ = some (.int .u8 1) := hxv.out 4 (by omega)
          have r5 : wr.cell? ⟨gv, (k + 1) * 9 + 5, none⟩ = some (.string vl) := hxv.out 5 (by omega)
          have r6 : wr.cell? ⟨gv, (k + 1) * 9 + 6, none⟩ = some (.slice none 0 0) := hxv.out 6 (by omega)
          have r7 : wr.cell? ⟨gv, (k + 1) * 9 + 7, none⟩ = some (.map none) := hxv.out 7 (by omega)
          have r8 : wr.cell? ⟨gv, (k + 1) * 9 + 8, none⟩ = some (.slice none 0 0) := hxv.out 8 (by omega)
          have S61 : Hid (∀ W : World, Calls Tryd.prog 61 #[.agg #[.bool true, .bool false, .bool true, .bool false, .int .u8 1, .string vl, .slice none 0 0, .map none, .slice none 0 0], .string vl] W fun e w' => e = .returned (.bool true) ∧ Below W.heap.size W w') := Lib.hid fun W => str61 vl W
          clear hcn hcv hxv SM4
          go_wp2_with (go_at_call 61; refine (S61.out _).mono ?_; rintro e W6 ⟨rfl, hb6⟩; have B6 := Lib.hid (B5.out.trans (hb6.mono B5.out.size)); clear hb6 S61)
          have hxn6 : W6.cell? ⟨gn, k + 1, none⟩ = some (.string nm) := (World.cell?_of_block (w := W4) (B6.out.block gn hgn)).trans ((World.cell?_of_block (w := W4) (B5.out.block gn hgn)).symm.trans hxn)
          have hxp6 : W6.cell? ⟨gn, k, none⟩ = some (.string np) := (World.cell?_of_block (w := W4) (B6.out.block gn hgn)).trans ((World.cell?_of_block (w := W4) (B5.out.block gn hgn)).symm.trans hxp)
          clear hxn hxp
          have hgu : (0 : Int) < (k : Int) + 1 := by omega
          have e11 : (k : Int) + 1 - 1 = (k : Int) := by omega
          have hk9 : (k : Int) < (R.length : Int) := by omega
          go_quiet (first | (go_at_call 65; refine Calls.quiet_of_same (KC.out _)))
          go_wp2
          go_roundg (R.length - (k + 1 + 1))
          case measure => omega
          case rel => exact ⟨k + 1 + 1, by go_num, by omega, Nat.le_refl _, Lib.hid (below_drewN B6.out _)⟩
        · go_wp2
          go_ret
          exact ⟨rfl, HB1.out.trans (((BW.out.trans (HB4.out.mono BW.out.size)).trans (B5.out.mono (Nat.le_trans BW.out.size HB4.out.size))).mono hw1)⟩
end Go.Proofs.YthihppocokkoiaaDoor
