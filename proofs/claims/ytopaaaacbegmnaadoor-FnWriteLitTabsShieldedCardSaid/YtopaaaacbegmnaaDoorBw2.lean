/-
  The walk of bufio.Writer's WriteByte. Conditions: those in each theorem.
-/
import Derived.Test.YtopaaaacbegmnaaDoorBw
namespace Go.Proofs.YtopaaaacbegmnaaDoor
set_option linter.unusedVariables false
open Go.Shelf Go.RowKit Go.Lib

set_option maxRecDepth 20000 in
set_option maxHeartbeats 2000000 in
/-- there is room in the row -/
theorem bw_byte_room (B b k r : Nat) (fl pend : List UInt8) (v : Value) (rc : Array Value) (c : UInt8) (w : World) (h : BW B b k r fl pend v rc w) (hn : pend.length < 4096) :
    Calls Tryd.prog 90 #[.pointer (some ⟨k, 0, none⟩), .int .u8 (c.toNat : Int)] w (EmitOut B b k r (fl ++ pend ++ [c]) v w) := by
  have c0 := h.c0
  have c1 := h.c1
  have c2 := h.c2
  have hr0 := Lib.cell_of_heap h.row pend.length
  obtain ⟨old, hr1⟩ : ∃ old, rc[pend.length]? = some old := ⟨_, Array.getElem?_eq_getElem (by rw [h.rsize]; exact hn)⟩
  rw [hr1] at hr0
  have nkr := h.nkr
  have fr := Lib.frozen_of_heap h.row pend.length
  have fk := h.f 2
  have H := Lib.hid h
  obtain ⟨n, hn1⟩ : ∃ n, n = pend.length := ⟨_, rfl⟩
  rw [← hn1] at c2 hn hr0 fr
  have HN := Lib.hid hn1
  clear h hn1 hr1
  have hni : (n : Int) < 4096 := by omega
  have AV := Lib.hid (bw_avail k n r w c1 c2 (by omega))
  have mixed : Tryd.prog.follows .mixedOrders = true := by kernel_rfl
  go_enter Tryd.func90, Tryd.ntmps90
  go_wp2_with (go_at_call 88; refine AV.out.mono ?_; rintro e w1 ⟨rfl, d, hw1⟩; have d0 : w1.cell? ⟨k, 0, none⟩ = some .nilIface := (by rw [hw1]; exact c0); have d1 : w1.cell? ⟨k, 1, none⟩ = some (.slice (some ⟨r, 0, none⟩) 4096 4096) := (by rw [hw1]; exact c1); have d2 : w1.cell? ⟨k, 2, none⟩ = some (.int .i64 n) := (by rw [hw1]; exact c2); have dr : w1.cell? ⟨r, n, none⟩ = some old := (by rw [hw1]; exact hr0); have er : w1.frozen? ⟨r, n, none⟩ = false := (by rw [hw1]; exact fr); have ek : w1.frozen? ⟨k, 2, none⟩ = false := (by rw [hw1]; exact fk); have g2 : ∀ x, (w1.drew.setCell ⟨r, n, none⟩ x).cell? ⟨k, 2, none⟩ = some (.int .i64 n) := (fun x => (World.cell?_of_block (a := ⟨k, 2, none⟩) (Below.heap_setCell _ _ _ _ nkr)).trans d2); have gf : ∀ x, (w1.drew.setCell ⟨r, n, none⟩ x).frozen? ⟨k, 2, none⟩ = false := (fun x => (World.frozen?_of_block (a := ⟨k, 2, none⟩) (Below.heap_setCell _ _ _ _ nkr)).trans ek); have HW := Lib.hid hw1; clear hw1 AV c0 c1 c2 hr0 fr fk)
  go_big_region
  go_wp2
  go_ret
  have h1 : BW B b k r fl pend v rc w1.drew := by rw [HW.out]; exact (H.out.drewN d).kept (fun _ _ => rfl) (fun _ _ => rfl)
  have h2 := h1.put c (by rw [← HN.out]; exact hn)
  rw [← HN.out] at h2
  have f1 : FrS (S3 b k r) v v w w1.drew := by rw [HW.out]; exact (FrS.toDrew _ _ _ d).drew
  exact ⟨rfl, v, ⟨fl, pend ++ [c], _, by rw [List.append_assoc], h2⟩, (f1.setCell (a := ⟨r, n, none⟩) (.inr (.inr rfl)) _).setCell (a := ⟨k, 2, none⟩) (.inr (.inl rfl)) _⟩

set_option maxRecDepth 20000 in
set_option maxHeartbeats 2000000 in
/-- the row is full: it is flushed first -/
theorem bw_byte_full (B b k r : Nat) (fl pend : List UInt8) (v : Value) (rc : Array Value) (c : UInt8) (w : World) (h : BW B b k r fl pend v rc w) (hB : B ≤ w.heap.size) (hl : fl.length + 4096 ≤ 1073741824) (hn : pend.length = 4096) :
    Calls Tryd.prog 90 #[.pointer (some ⟨k, 0, none⟩), .int .u8 (c.toNat : Int)] w (EmitOut B b k r (fl ++ pend ++ [c]) v w) := by
  have c0 := h.c0
  have H := Lib.hid h
  have AV := Lib.hid (bw_avail k 4096 r w h.c1 (by rw [← hn]; exact h.c2) (by omega))
  have FL : Hid (∀ d, Calls Tryd.prog 21 #[.pointer (some ⟨k, 0, none⟩)] (w.drewN d) (BwOut B b k r (fl ++ pend) [] v (w.drewN d))) := Lib.hid fun d => bw_flush B b k r fl pend v rc _ (h.drewN d) hB hl
  have mixed : Tryd.prog.follows .mixedOrders = true := by kernel_rfl
  clear h
  go_enter Tryd.func90, Tryd.ntmps90
  go_wp2_with (first | (go_at_call 88; refine AV.out.mono ?_; rintro e w1 ⟨rfl, d, hw1⟩; rw [hw1]; clear hw1 AV) | (go_at_call 21; refine (FL.out _).mono ?_; rintro e w2 ⟨rfl, v', rc', h2, hf2⟩; have d0 := h2.c0; have d1 := h2.c1; have d2 : w2.cell? ⟨k, 2, none⟩ = some (.int .i64 0) := h2.c2; have nkr := h2.nkr; have ek := h2.f 2; have er := Lib.frozen_of_heap h2.row 0; obtain ⟨old, dr⟩ : ∃ old, w2.cell? ⟨r, 0, none⟩ = some old := (by rw [Lib.cell_of_heap h2.row]; exact ⟨_, Array.getElem?_eq_getElem (by rw [h2.rsize]; omega)⟩); have g2 : ∀ x, (w2.drew.setCell ⟨r, 0, none⟩ x).cell? ⟨k, 2, none⟩ = some (.int .i64 0) := (fun x => (World.cell?_of_block (a := ⟨k, 2, none⟩) (Below.heap_setCell _ _ _ _ nkr)).trans d2); have gf : ∀ x, (w2.drew.setCell ⟨r, 0, none⟩ x).frozen? ⟨k, 2, none⟩ = false := (fun x => (World.frozen?_of_block (a := ⟨k, 2, none⟩) (Below.heap_setCell _ _ _ _ nkr)).trans ek); have H2 := Lib.hid h2; have HF := Lib.hid hf2; clear h2 hf2 FL))
  go_big_region
  go_wp2
  go_ret
  have h2 := (H2.out.put c (by simp)).kept (w' := ((w2.setCell ⟨r, 0, none⟩ (.int .u8 (c.toNat : Int))).setCell ⟨k, 2, none⟩ (.int .i64 1)).drew) (fun _ _ => rfl) (fun _ _ => rfl)
  have f1 : FrS (S3 b k r) v v' w w2 := FrS.ofDrew HF.out
  exact ⟨rfl, v', ⟨fl ++ pend, [c], _, rfl, h2⟩, ((f1.setCell (a := ⟨r, 0, none⟩) (.inr (.inr rfl)) _).setCell (a := ⟨k, 2, none⟩) (.inr (.inl rfl)) _).drew⟩

theorem bw_byte (B b k r : Nat) (out : List UInt8) (v : Value) (c : UInt8) (w : World) (h : BS B b k r out v w) (hB : B ≤ w.heap.size) (hl : out.length + 4096 ≤ 1073741824) :
    Calls Tryd.prog 90 #[.pointer (some ⟨k, 0, none⟩), .int .u8 (c.toNat : Int)] w (EmitOut B b k r (out ++ [c]) v w) := by
  obtain ⟨fl, pend, rc, rfl, h⟩ := h
  have := h.fits
  rw [List.length_append] at hl
  by_cases hn : pend.length < 4096
  · exact bw_byte_room B b k r fl pend v rc c w h hn
  · exact bw_byte_full B b k r fl pend v rc c w h hB (by omega) (by omega)
end Go.Proofs.YtopaaaacbegmnaaDoor
