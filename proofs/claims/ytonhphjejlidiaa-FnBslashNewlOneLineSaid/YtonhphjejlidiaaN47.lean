/-
  The walks of zzPos, spacedString and spacedToken. Conditions: those in each theorem.
-/
import Derived.Test.YtonhphjejlidiaaN46
import Derived.Test.YtonhphjejlidiaaL5
namespace Go.Proofs.Ytonhphjejlidiaa
set_option linter.unusedVariables false
open Go.Shelf Go.RowKit Go.Lib

set_option maxRecDepth 20000 in
theorem pos45 (line col lc : Nat) (w : World) (h1 : line ≤ 262143) (h2 : col ≤ 16383) (hor : bits .or .u32 ((line : Int) * 16384) (col : Int) = (lc : Int)) :
    Calls Try.prog 45 #[.int .u64 line, .int .u64 col] w fun e w' => e = .returned (.agg #[.int .u32 0, .int .u32 lc]) ∧ w' = w.alloc (.cells #[.int .u32 0, .int .u32 lc] 43) := by
  have hN := heap_alloc_new w (.cells #[.int .u32 0, .int .u32 lc] 43)
  have k0 : (w.alloc (.cells #[.int .u32 0, .int .u32 lc] 43)).cell? ⟨w.heap.size, 0, none⟩ = some (.int .u32 0) := by rw [Lib.cell_of_heap hN]; rfl
  have k1 : (w.alloc (.cells #[.int .u32 0, .int .u32 lc] 43)).cell? ⟨w.heap.size, 1, none⟩ = some (.int .u32 lc) := by rw [Lib.cell_of_heap hN]; rfl
  have hi1 : (line : Int) ≤ 262143 := by omega
  have hi2 : (col : Int) ≤ 16383 := by omega
  go_enter Try.func45, Try.ntmps45
  go_wp2
  refine bodyPost_ret (v := .agg #[.int .u32 0, .int .u32 lc]) ?_ rfl ⟨rfl, rfl⟩
  simp [results, Try.results45, go_sem, k0, k1]

set_option maxRecDepth 20000 in
set_option maxHeartbeats 4000000 in
theorem str47 (B b k r p tw : Nat) (kp : Bool) (out out2 : List UInt8) (f f2 : PF) (v : Value) (o lc : Nat) (s : ByteArray) (w : World) (h : PS B b k r p tw kp out f v w) (h54 : ∀ W, PS B b k r p tw kp out f v W → Calls Try.prog 54 #[.pointer (some ⟨p, 0, none⟩), .agg #[.int .u32 o, .int .u32 lc]] W (PDone B b k r p tw kp out2 f2 v W)) (hl : out2.length + s.size + 4096 ≤ 1073741824) (hc : f2.col + s.size + 1 ≤ 1073741824) :
    Calls Try.prog 47 #[.pointer (some ⟨p, 0, none⟩), .string s, .agg #[.int .u32 o, .int .u32 lc]] w (PDone B b k r p tw kp (out2 ++ s.data.toList) { stepL kp f2 s.data.toList with ws := 1 } v w) := by
  have hg := fun (x : Obj) => h.grew (w' := w.alloc x) (fun i hi => Below.heap_alloc _ _ i hi)
  have S54 := Lib.hid fun x => h54 _ (hg x)
  clear h h54 hg
  cases kp
  · have mm := m_strF k
    go_enter Try.func47, Try.ntmps47
    go_wp2_with (first | (go_at_call 54; refine (S54.out _).mono ?_; rintro e w1 ⟨rfl, v1, t1, t2⟩; have c0 : w1.cell? ⟨p, 0, none⟩ = some (.iface 79 (.pointer (some ⟨k, 0, none⟩))) := (by rw [t1.c]; rfl); have O1 := Lib.hid (And.intro t1 (((FrS.refl (S4 b k r p) v w).alloc _).trans t2)); have WB := Lib.hid (str130 B b k r p tw out2 f2 v1 s w1 t1 hl); clear t1 t2 S54) | (go_at_call 130; refine WB.out.mono ?_; rintro e w2 ⟨rfl, v2, t1, t2⟩; have c13 : w2.cell? ⟨p, 13, none⟩ = some (.int .u8 f2.ws) := (by rw [t1.c]; rfl); have f13 := t1.f 13; have O2 := Lib.hid (And.intro t1 (O1.out.2.trans t2)); clear t1 t2 O1 c0 WB))
    go_end0
    exact ⟨rfl, v2, O2.out.1.set 13 _ { stepL false f2 s.data.toList with ws := 1 } rfl, fr4_set O2.out.2 13 _⟩
  · have mm := m_strT p
    go_enter Try.func47, Try.ntmps47
    go_wp2_with (first | (go_at_call 54; refine (S54.out _).mono ?_; rintro e w1 ⟨rfl, v1, t1, t2⟩; have c0 : w1.cell? ⟨p, 0, none⟩ = some (.iface 134 (.pointer (some ⟨p, 2, none⟩))) := (by rw [t1.c]; rfl); have O1 := Lib.hid (And.intro t1 (((FrS.refl (S4 b k r p) v w).alloc _).trans t2)); have WB := Lib.hid (str143 B b k r p tw out2 f2 v1 s w1 t1 hl hc); clear t1 t2 S54) | (go_at_call 143; refine WB.out.mono ?_; rintro e w2 ⟨rfl, v2, t1, t2⟩; have c13 : w2.cell? ⟨p, 13, none⟩ = some (.int .u8 f2.ws) := (by rw [t1.c]; rfl); have f13 := t1.f 13; have O2 := Lib.hid (And.intro t1 (O1.out.2.trans t2)); clear t1 t2 O1 c0 WB))
    go_end0
    exact ⟨rfl, v2, O2.out.1.set 13 _ { stepL true f2 s.data.toList with ws := 1 } rfl, fr4_set O2.out.2 13 _⟩

set_option maxRecDepth 20000 in
set_option maxHeartbeats 4000000 in
theorem tok44 (B b k r p tw : Nat) (kp : Bool) (out out2 : List UInt8) (f f2 : PF) (v : Value) (o lc : Nat) (s : ByteArray) (w : World) (h : PS B b k r p tw kp out f v w) (hmini : f.mini = false) (h54 : ∀ W, PS B b k r p tw kp out f v W → Calls Try.prog 54 #[.pointer (some ⟨p, 0, none⟩), .agg #[.int .u32 o, .int .u32 lc]] W (PDone B b k r p tw kp out2 f2 v W)) (hl : out2.length + s.size + 4096 ≤ 1073741824) (hc : f2.col + s.size + 1 ≤ 1073741824) :
    Calls Try.prog 44 #[.pointer (some ⟨p, 0, none⟩), .string s, .agg #[.int .u32 o, .int .u32 lc]] w (PDone B b k r p tw kp (out2 ++ s.data.toList) { stepL kp f2 s.data.toList with ws := 1 } v w) := by
  have hg := fun (x : Obj) => h.grew (w' := w.alloc x) (fun i hi => Below.heap_alloc _ _ i hi)
  have S54 := Lib.hid fun x => h54 _ (hg x)
  have c10 : ∀ x, (w.alloc x).cell? ⟨p, 10, none⟩ = some (.bool false) := fun x => by rw [(hg x).c]; show some (Value.bool f.mini) = _; rw [hmini]
  clear h h54 hg
  cases kp
  · have mm := m_strF k
    go_enter Try.func44, Try.ntmps44
    go_wp2_with (first | (go_at_call 54; refine (S54.out _).mono ?_; rintro e w1 ⟨rfl, v1, t1, t2⟩; have c0 : w1.cell? ⟨p, 0, none⟩ = some (.iface 79 (.pointer (some ⟨k, 0, none⟩))) := (by rw [t1.c]; rfl); have O1 := Lib.hid (And.intro t1 (((FrS.refl (S4 b k r p) v w).alloc _).trans t2)); have WB := Lib.hid (str130 B b k r p tw out2 f2 v1 s w1 t1 hl); clear t1 t2 S54) | (go_at_call 130; refine WB.out.mono ?_; rintro e w2 ⟨rfl, v2, t1, t2⟩; have c13 : w2.cell? ⟨p, 13, none⟩ = some (.int .u8 f2.ws) := (by rw [t1.c]; rfl); have f13 := t1.f 13; have O2 := Lib.hid (And.intro t1 (O1.out.2.trans t2)); clear t1 t2 O1 c0 WB))
    go_end0
    exact ⟨rfl, v2, O2.out.1.set 13 _ { stepL false f2 s.data.toList with ws := 1 } rfl, fr4_set O2.out.2 13 _⟩
  · have mm := m_strT p
    go_enter Try.func44, Try.ntmps44
    go_wp2_with (first | (go_at_call 54; refine (S54.out _).mono ?_; rintro e w1 ⟨rfl, v1, t1, t2⟩; have c0 : w1.cell? ⟨p, 0, none⟩ = some (.iface 134 (.pointer (some ⟨p, 2, none⟩))) := (by rw [t1.c]; rfl); have O1 := Lib.hid (And.intro t1 (((FrS.refl (S4 b k r p) v w).alloc _).trans t2)); have WB := Lib.hid (str143 B b k r p tw out2 f2 v1 s w1 t1 hl hc); clear t1 t2 S54) | (go_at_call 143; refine WB.out.mono ?_; rintro e w2 ⟨rfl, v2, t1, t2⟩; have c13 : w2.cell? ⟨p, 13, none⟩ = some (.int .u8 f2.ws) := (by rw [t1.c]; rfl); have f13 := t1.f 13; have O2 := Lib.hid (And.intro t1 (O1.out.2.trans t2)); clear t1 t2 O1 c0 WB))
    go_end0
    exact ⟨rfl, v2, O2.out.1.set 13 _ { stepL true f2 s.data.toList with ws := 1 } rfl, fr4_set O2.out.2 13 _⟩
end Go.Proofs.Ytonhphjejlidiaa
