/-
  The walk of symMergeCmpFunc where the first run holds one element: the row ends merged. Conditions: at most 2 to the 30 elements, the second run rises, the comparison reads and orders by the keys.
-/
import Derived.Test.YtmbjhfkpmgkkbaaGreatDoorSortA
namespace Go.Proofs.YtmbjhfkpmgkkbaaGreatDoor
set_option linter.unusedVariables false
open Go.Shelf Go.RowKit Go.Lib Go.Sort
variable {α κ : Type} [Inhabited α] [DecidableEq κ]

/-- what a merge leaves -/
def Merged (klt : κ → κ → Prop) (key : α → κ) (enc : α → Value) (w0 : World) (blk off : Nat) (d : Array α) (a b : Nat) (w' : World) : Prop :=
  ∃ d', Stb.Mer key d d' a b ∧ Stb.Srt klt key d' a b ∧ SW enc w0 blk off d' w'

set_option maxHeartbeats 4000000 in
set_option maxRecDepth 100000 in
theorem sym_left {klt : κ → κ → Prop} {key : α → κ} (O : Stb.KO klt) (enc : α → Value) (cf : α → α → Int) (hcf : ∀ x y, cf x y < 0 ↔ klt (key x) (key y)) (g : Nat) (cb : Array Value) (blk off cap a m b : Nat) (d0 d : Array α) (w0 w : World)
    (eg : ∀ args w, (callFunc g args).run Tryz.prog w = .ok (.enter g args) w) (hcmp : CmpLays1 Tryz.prog g cb enc cf blk off d0.size w0)
    (R : Row1 enc w0 blk off d0) (hs : d0.size = d.size) (S : SW enc w0 blk off d w) (ham : m = a + 1) (hmb : m < b) (hb : b ≤ d.size) (hsz : d.size ≤ 1073741824) (s2 : Stb.Srt klt key d m b) :
    Calls Tryz.prog 34 #[.slice (some ⟨blk, off, none⟩) d.size cap, .int .i64 a, .int .i64 m, .int .i64 b, .func (.func g) #[] cb] w fun e w' => e = .returned (.tuple #[]) ∧ Merged klt key enc w0 blk off d a b w' := by
  have hcl0 := R.hO.cells
  simp only [Value.cells] at hcl0
  have hst := R.hO.store Tryz.prog
  have mixed : Tryz.prog.follows .mixedOrders = true := by kernel_rfl
  have S0 : Aside (SW enc w0 blk off d w) := S
  have HC : Aside _ := hcmp
  have CF : Aside _ := hcf
  have SRT : Aside _ := s2
  have AM : Aside (m = a + 1) := ham
  have t0 : (((m : Nat) : Int) - ((a : Nat) : Int) == 1) = true := beq_iff_eq.2 (by omega)
  have am1 : (a : Int) < (m : Int) := by omega
  have mb1 : (m : Int) < (b : Int) := by omega
  have bd1 : (b : Int) ≤ (d.size : Int) := by omega
  have HS : Aside (d.size = d0.size) := hs.symm
  clear S hcmp hcf s2 ham hs hmb hb
  go_enter Tryz.func34, Tryz.ntmps34
  go_wp2
  go_loopg [10, 11] (b - m) (fun g1 vi vj wr => ∃ (i j : Nat), vi = .int .i64 i ∧ vj = .int .i64 j ∧ (m : Int) ≤ (i : Int) ∧ (i : Int) ≤ (j : Int) ∧ (j : Int) ≤ (b : Int) ∧ j - i ≤ g1 ∧ Aside (i = m ∨ klt (key d[i - 1]!) (key d[a]!)) ∧ Aside (j = b ∨ ¬ klt (key d[j]!) (key d[a]!)) ∧ Aside (SW enc w0 blk off d wr))
  case atStart => exact ⟨m, b, by go_num, by go_num, by omega, by omega, by omega, by omega, Or.inl rfl, Or.inl rfl, S0⟩
  case round =>
    clear S0
    obtain ⟨i, j, rfl, rfl, him, hij, hjb, hg1, HI, HJ, S1⟩ := hrel
    by_cases hlt : i < j
    · have hltz : (i : Int) < (j : Int) := by omega
      obtain ⟨h, hh⟩ : ∃ h, h = (i + j) / 2 := ⟨_, rfl⟩
      have zh : ((i : Int) + (j : Int)) / 2 = (h : Int) := by omega
      have h1 : (i : Int) ≤ (h : Int) := by omega
      have h2 : (h : Int) < (j : Int) := by omega
      have pa : (0 : Int) ≤ (h : Int) := by omega
      have ba : (h : Int) < (d.size : Int) := by omega
      have pc : (0 : Int) ≤ (a : Int) := by omega
      have bc : (a : Int) < (d.size : Int) := by omega
      obtain ⟨x, hx⟩ : ∃ x, x = d[h]! := ⟨_, rfl⟩
      obtain ⟨y, hy⟩ : ∃ y, y = d[a]! := ⟨_, rfl⟩
      have la := S1.out.cl R HS.out h (by omega)
      have lb := S1.out.cl R HS.out a (by omega)
      rw [← hx] at la
      rw [← hy] at lb
      have hc := S1.out.cmp HC.out HS.out x y
      have hv0 := CF.out x y
      rw [hx, hy] at hv0
      have hk : cf x y < 0 ↔ klt (key d[h]!) (key d[a]!) := by rw [hx, hy]; exact hv0
      clear hv0
      by_cases hv : cf x y < 0
      · have HI' : Aside (h + 1 = m ∨ klt (key d[h + 1 - 1]!) (key d[a]!)) := Or.inr (by rw [Nat.add_sub_cancel]; exact hk.1 hv)
        have hd : decide (cf x y < 0) = true := decide_eq_true hv
        clear hx hy hk hh
        go_wp2_with fail
        go_quiet_grown (first | (go_at_fn g; refine Calls.grown_of (hc _ _)))
        have S2 : Aside (SW enc w0 blk off d (grow (wr.drewN nq) osq)) := S1.out.grown nq osq
        clear la lb hc S1
        generalize grow (wr.drewN nq) osq = w2 at S2 ⊢
        clear nq osq
        go_wp2
        go_roundg (j - (h + 1))
        case measure => omega
        case rel => exact ⟨h + 1, j, by go_num, rfl, by omega, by omega, hjb, Nat.le_refl _, HI', HJ, S2⟩
      · have HJ' : Aside (h = b ∨ ¬ klt (key d[h]!) (key d[a]!)) := Or.inr (fun c => hv (hk.2 c))
        have hd : decide (cf x y < 0) = false := decide_eq_false hv
        clear hx hy hk hh
        go_wp2_with fail
        go_quiet_grown (first | (go_at_fn g; refine Calls.grown_of (hc _ _)))
        have S2 : Aside (SW enc w0 blk off d (grow (wr.drewN nq) osq)) := S1.out.grown nq osq
        clear la lb hc S1
        generalize grow (wr.drewN nq) osq = w2 at S2 ⊢
        clear nq osq
        go_wp2
        go_roundg (h - i)
        case measure => omega
        case rel => exact ⟨i, h, rfl, by go_num, him, by omega, by omega, Nat.le_refl _, HI, HJ', S2⟩
    · have hltz : ¬ (i : Int) < (j : Int) := by omega
      have hje : j = i := by omega
      rw [hje] at HJ
      have hib : (i : Int) ≤ (b : Int) := by omega
      clear hje hij hjb hg1
      have FIN : ∀ dk W, Stb.Rot d dk a (a + 1) i → SW enc w0 blk off dk W → Merged klt key enc w0 blk off d a b W := fun dk W hr hS => by
        have hm : m = a + 1 := AM
        have s2 : Stb.Srt klt key d m b := SRT
        have h1 : i = m ∨ klt (key d[i - 1]!) (key d[a]!) := HI
        have h2 : i = b ∨ ¬ klt (key d[i]!) (key d[a]!) := HJ
        rw [hm] at s2 h1
        have := Stb.ins_left O s2 (by omega) (by omega) (by omega) h1 h2 hr
        exact ⟨dk, this.1, this.2, hS⟩
      have FN : Aside _ := FIN
      have hia : (a : Int) + 1 ≤ (i : Int) := by omega
      clear FIN HI HJ SRT AM CF HC
      go_wp2
      go_loopg [13] (i - a) (fun g2 vk wr2 => ∃ (k : Nat) (dk : Array α), vk = .int .i64 k ∧ (a : Int) ≤ (k : Int) ∧ (k : Int) + 1 ≤ (i : Int) ∧ i - k ≤ g2 ∧ Aside (dk.size = d.size) ∧ Aside (Stb.Rot d dk a (a + 1) (k + 1)) ∧ Aside (SW enc w0 blk off dk wr2))
      case atStart => exact ⟨a, d, by go_num, by omega, by omega, by omega, rfl, Stb.Rot.idr d a (a + 1), S1⟩
      case round =>
        clear S1
        obtain ⟨k, dk, rfl, hak, hki, hg2, HZ, HR, S1⟩ := hrel
        by_cases hk : k + 1 < i
        · have hkz : (k : Int) < (i : Int) - 1 := by omega
          obtain ⟨k1, hk1⟩ : ∃ q, q = k + 1 := ⟨_, rfl⟩
          have ea : ((k : Int) + 1).toNat = k1 := by omega
          have pa : (0 : Int) ≤ (k : Int) + 1 := by omega
          have ba : (k : Int) + 1 < (d.size : Int) := by omega
          have ra : IntKind.i64.wrap ((k : Int) + 1) = (k : Int) + 1 := by rw [IntKind.wrap_i64]; omega
          have pc : (0 : Int) ≤ (k : Int) := by omega
          have bc : (k : Int) < (d.size : Int) := by omega
          have hs' : dk.size = d0.size := by rw [HZ, HS]
          have hps : k < dk.size := by rw [HZ]; omega
          have hqs : k1 < dk.size := by rw [HZ]; omega
          obtain ⟨x, hx⟩ : ∃ x, x = dk[k]! := ⟨_, rfl⟩
          obtain ⟨y, hy⟩ : ∃ x, x = dk[k1]! := ⟨_, rfl⟩
          have S3 : Aside (SW enc w0 blk off (swp dk k k1) ((wr.setCell ⟨blk, off + k, none⟩ (enc y)).setCell ⟨blk, off + k1, none⟩ (enc x)).drew) := by
            rw [hx, hy]; exact S1.out.swapped R k k1 hps hqs
          have HR3 : Aside (Stb.Rot d (swp dk k k1) a (a + 1) (k + 1 + 1)) := by rw [hk1]; exact Stb.rot_step_right (by omega) (by omega) HR
          have HZ3 : Aside ((swp dk k k1).size = d.size) := by show _ = _; rw [size_swp]; exact HZ
          have ca := S1.out.c1 R hs' k hps
          have cb' := S1.out.c1 R hs' k1 hqs
          have fa := S1.out.f1 R hs' k hps
          have fb := S1.out.f1 R hs' k1 hqs
          obtain ⟨u, cc⟩ := S1.out.c2 R hs' k k1 hps hqs (enc y)
          rw [← hx] at ca
          rw [← hy] at cb'
          clear hx hy hk1 hps hqs hs' S1 HR HZ
          go_wp2_with fail
          go_big_region
          clear ca cb' fa fb cc ea ra
          generalize ((wr.setCell ⟨blk, off + k, none⟩ (enc y)).setCell ⟨blk, off + k1, none⟩ (enc x)).drew = w3 at S3 ⊢
          go_wp2
          go_roundg (i - (k + 1))
          case measure => omega
          case rel => exact ⟨k + 1, _, by go_num, by omega, by omega, Nat.le_refl _, HZ3, HR3, S3⟩
        · have hkz : ¬ (k : Int) < (i : Int) - 1 := by omega
          have hke : k + 1 = i := by omega
          rw [hke] at HR
          have G : Aside _ := FN.out dk _ HR S1
          clear hke HR HZ S1
          go_wp2
          exact bodyPost_ret (results_none rfl _ _ _) rfl ⟨rfl, G⟩
end Go.Proofs.YtmbjhfkpmgkkbaaGreatDoor
