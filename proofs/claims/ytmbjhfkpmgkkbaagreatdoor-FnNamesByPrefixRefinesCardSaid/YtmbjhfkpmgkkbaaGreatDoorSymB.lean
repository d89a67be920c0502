/-
  The walk of symMergeCmpFunc at two runs of more than one element each, by the induction's hypothesis: the row ends merged. Conditions: at most 2 to the 30 elements, both runs rise, the comparison reads and orders by the keys.
-/
import Derived.Test.YtmbjhfkpmgkkbaaGreatDoorSymR
namespace Go.Proofs.YtmbjhfkpmgkkbaaGreatDoor
set_option linter.unusedVariables false
open Go.Shelf Go.RowKit Go.Lib Go.Sort
variable {α κ : Type} [Inhabited α] [DecidableEq κ]

set_option maxHeartbeats 8000000 in
set_option maxRecDepth 100000 in
theorem sym_big {klt : κ → κ → Prop} {key : α → κ} (O : Stb.KO klt) (enc : α → Value) (cf : α → α → Int) (hcf : ∀ x y, cf x y < 0 ↔ klt (key x) (key y)) (g : Nat) (cb : Array Value) (blk off cap a m b : Nat) (d0 d : Array α) (w0 w : World)
    (eg : ∀ args w, (callFunc g args).run Tryz.prog w = .ok (.enter g args) w) (hcmp : CmpLays1 Tryz.prog g cb enc cf blk off d0.size w0)
    (R : Row1 enc w0 blk off d0) (hs : d0.size = d.size) (S : SW enc w0 blk off d w) (ham : a < m) (hne1 : m ≠ a + 1) (hmb : m < b) (hne2 : b ≠ m + 1) (hb : b ≤ d.size) (hsz : d.size ≤ 1073741824) (s1 : Stb.Srt klt key d a m) (s2 : Stb.Srt klt key d m b)
    (hmm : (a + b) / 2 < m)
    (IH : ∀ (a' m' b' : Nat) (d' : Array α) (W : World), b' - a' < b - a → a' < m' → m' < b' → b' ≤ d.size → d'.size = d.size → Stb.Srt klt key d' a' m' → Stb.Srt klt key d' m' b' → SW enc w0 blk off d' W →
      Calls Tryz.prog 34 #[.slice (some ⟨blk, off, none⟩) d.size cap, .int .i64 a', .int .i64 m', .int .i64 b', .func (.func g) #[] cb] W fun e w' => e = .returned (.tuple #[]) ∧ Merged klt key enc w0 blk off d' a' b' w') :
    Calls Tryz.prog 34 #[.slice (some ⟨blk, off, none⟩) d.size cap, .int .i64 a, .int .i64 m, .int .i64 b, .func (.func g) #[] cb] w fun e w' => e = .returned (.tuple #[]) ∧ Merged klt key enc w0 blk off d a b w' := by
  have hcl0 := R.hO.cells
  simp only [Value.cells] at hcl0
  have hst := R.hO.store Tryz.prog
  have mixed : Tryz.prog.follows .mixedOrders = true := by kernel_rfl
  have S0 : Aside (SW enc w0 blk off d w) := S
  have HC : Aside _ := hcmp
  have CF : Aside _ := hcf
  have SRT1 : Aside _ := s1
  have SRT2 : Aside _ := s2
  have IHA : Aside _ := IH
  have t0 : (((m : Nat) : Int) - ((a : Nat) : Int) == 1) = false := beq_eq_false_iff_ne.2 (by omega)
  have t1 : (((b : Nat) : Int) - ((m : Nat) : Int) == 1) = false := beq_eq_false_iff_ne.2 (by omega)
  obtain ⟨mid, hmid⟩ : ∃ x, x = (a + b) / 2 := ⟨_, rfl⟩
  obtain ⟨n, hn⟩ : ∃ x, x = mid + m := ⟨_, rfl⟩
  obtain ⟨p, hp⟩ : ∃ x, x = n - 1 := ⟨_, rfl⟩
  obtain ⟨lo, hlo⟩ : ∃ x, x = n - b := ⟨_, rfl⟩
  have zmid : ((a : Int) + (b : Int)) / 2 = (mid : Int) := by omega
  have zn : (mid : Int) + (m : Int) = (n : Int) := by omega
  have zp : (n : Int) - 1 = (p : Int) := by omega
  have zlo : (n : Int) - (b : Int) = (lo : Int) := by omega
  have q1 : (a : Int) < (m : Int) := by omega
  have q2 : (m : Int) < (b : Int) := by omega
  have q3 : (b : Int) ≤ (d.size : Int) := by omega
  have q4 : (mid : Int) < (m : Int) := by omega
  have q5 : (a : Int) ≤ (lo : Int) := by omega
  have q6 : (n : Int) ≤ (lo : Int) + (b : Int) := by omega
  have q7 : (n : Int) ≤ 2147483648 := by omega
  have q8 : (lo : Int) ≤ (mid : Int) := by omega
  have q9 : (mid : Int) < (b : Int) := by omega
  have q10 : (a : Int) < (mid : Int) := by omega
  have q11 : (p : Int) + 1 = (n : Int) := by omega
  have q12 : (mid : Int) + (m : Int) ≤ (n : Int) := by omega
  have q13 : (n : Int) ≤ (mid : Int) + (m : Int) := by omega
  have q14 : (p : Int) + 1 ≤ (n : Int) := by omega
  have q15 : (n : Int) ≤ (p : Int) + 1 := by omega
  have QLO : Aside (lo = a ∨ n = lo + b) := by right; omega
  have HS : Aside (d.size = d0.size) := hs.symm
  clear S hcmp hcf s1 s2 ham hs hmb hb IH hmid hn hp hlo hne1 hne2 hmm q11
  go_enter Tryz.func34, Tryz.ntmps34
  go_wp2
  go_loopg [20, 21] (n) (fun g1 vi vj wr => ∃ (i j : Nat), vi = .int .i64 i ∧ vj = .int .i64 j ∧ (lo : Int) ≤ (i : Int) ∧ (i : Int) ≤ (j : Int) ∧ (j : Int) ≤ (mid : Int) ∧ j - i ≤ g1 ∧ Aside (i = lo ∨ ¬ klt (key d[n - i]!) (key d[i - 1]!)) ∧ Aside (j = mid ∨ klt (key d[n - j - 1]!) (key d[j]!)) ∧ Aside (SW enc w0 blk off d wr))
  case atStart => exact ⟨lo, mid, by go_num, by go_num, by omega, by omega, by omega, by omega, Or.inl rfl, Or.inl rfl, S0⟩
  case round =>
    clear S0
    obtain ⟨i, j, rfl, rfl, him, hij, hjb, hg1, HI, HJ, S1⟩ := hrel
    by_cases hlt : i < j
    · have hltz : (i : Int) < (j : Int) := by omega
      obtain ⟨h, hh⟩ : ∃ h, h = (i + j) / 2 := ⟨_, rfl⟩
      have zh : ((i : Int) + (j : Int)) / 2 = (h : Int) := by omega
      have h1 : (i : Int) ≤ (h : Int) := by omega
      have h2 : (h : Int) < (j : Int) := by omega
      obtain ⟨q, hq⟩ : ∃ q, q = p - h := ⟨_, rfl⟩
      have zq : (p : Int) - (h : Int) = (q : Int) := by omega
      have pa : (0 : Int) ≤ (h : Int) := by omega
      have ba : (h : Int) < (d.size : Int) := by omega
      have pc : (0 : Int) ≤ (q : Int) := by omega
      have bc : (q : Int) < (d.size : Int) := by omega
      have rq : IntKind.i64.wrap ((q : Int)) = (q : Int) := by rw [IntKind.wrap_i64]; omega
      have hqn : q = n - h - 1 := by omega
      obtain ⟨x, hx⟩ : ∃ x, x = d[q]! := ⟨_, rfl⟩
      obtain ⟨y, hy⟩ : ∃ y, y = d[h]! := ⟨_, rfl⟩
      have la := S1.out.cl R HS.out q (by omega)
      have lb := S1.out.cl R HS.out h (by omega)
      rw [← hx] at la
      rw [← hy] at lb
      have hc := S1.out.cmp HC.out HS.out x y
      have hv0 := CF.out x y
      rw [hx, hy] at hv0
      have hk : cf x y < 0 ↔ klt (key d[q]!) (key d[h]!) := by rw [hx, hy]; exact hv0
      clear hv0
      by_cases hv : cf x y < 0
      · have HJ' : Aside (h = mid ∨ klt (key d[n - h - 1]!) (key d[h]!)) := Or.inr (by rw [← hqn]; exact hk.1 hv)
        have hd : decide (cf x y < 0) = true := decide_eq_true hv
        clear hx hy hk hh hq hqn
        go_wp2_with fail
        go_quiet_grown (first | (go_at_fn g; refine Calls.grown_of (hc _ _)))
        have S2 : Aside (SW enc w0 blk off d (grow (wr.drewN nq) osq)) := S1.out.grown nq osq
        clear la lb hc S1 zq
        generalize grow (wr.drewN nq) osq = w2 at S2 ⊢
        clear nq osq
        go_wp2
        go_roundg (h - i)
        case measure => omega
        case rel => exact ⟨i, h, rfl, by go_num, him, by omega, by omega, Nat.le_refl _, HI, HJ', S2⟩
      · have HI' : Aside (h + 1 = lo ∨ ¬ klt (key d[n - (h + 1)]!) (key d[h + 1 - 1]!)) := Or.inr (by rw [Nat.add_sub_cancel, show n - (h + 1) = q from by omega]; exact fun c => hv (hk.2 c))
        have hd : decide (cf x y < 0) = false := decide_eq_false hv
        clear hx hy hk hh hq hqn
        go_wp2_with fail
        go_quiet_grown (first | (go_at_fn g; refine Calls.grown_of (hc _ _)))
        have S2 : Aside (SW enc w0 blk off d (grow (wr.drewN nq) osq)) := S1.out.grown nq osq
        clear la lb hc S1 zq
        generalize grow (wr.drewN nq) osq = w2 at S2 ⊢
        clear nq osq
        go_wp2
        go_roundg (j - (h + 1))
        case measure => omega
        case rel => exact ⟨h + 1, j, by go_num, rfl, by omega, by omega, hjb, Nat.le_refl _, HI', HJ, S2⟩
    · have hltz : ¬ (i : Int) < (j : Int) := by omega
      have hje : j = i := by omega
      rw [hje] at HJ
      have hib : (i : Int) ≤ (mid : Int) := by omega
      obtain ⟨e, he⟩ : ∃ x, x = n - i := ⟨_, rfl⟩
      have ze : (n : Int) - (i : Int) = (e : Int) := by omega
      have y1 : (i : Int) ≤ (m : Int) := by omega
      have y2 : (m : Int) ≤ (e : Int) := by omega
      have y3 : (e : Int) ≤ (b : Int) := by omega
      have y4 : (i : Int) ≤ (mid : Int) := by omega
      have y5 : (mid : Int) ≤ (e : Int) := by omega
      have y6 : (a : Int) ≤ (i : Int) := by omega
      have y7 : (e : Int) + (i : Int) ≤ (n : Int) := by omega
      have y8 : (n : Int) ≤ (e : Int) + (i : Int) := by omega
      have EMID : Aside (mid = i + (e - m)) := by show _ = _; omega
      have X1 : Aside (i = a ∨ e = b ∨ ¬ klt (key d[e]!) (key d[i - 1]!)) := by
        rcases QLO.out with c | c
        · rcases HI.out with c2 | c2
          · left; omega
          · right; right; rw [he]; exact c2
        · rcases HI.out with c2 | c2
          · right; left; omega
          · right; right; rw [he]; exact c2
      have X2 : Aside (i = m ∨ e = m ∨ klt (key d[e - 1]!) (key d[i]!)) := by
        rcases HJ.out with c | c
        · right; left; omega
        · right; right; rw [he]; exact c
      have FIN : Aside (∀ d1 d2 d3 W, Stb.Rot d d1 i m e → Stb.Mer key d1 d2 a mid → Stb.Srt klt key d2 a mid → Stb.Mer key d2 d3 mid b → Stb.Srt klt key d3 mid b → SW enc w0 blk off d3 W → Merged klt key enc w0 blk off d a b W) :=
        (fun d1 d2 d3 W r m2 t2 m3 t3 hS => by
          have := Stb.join O (by omega) (by omega) (by omega) (by omega) (by omega) EMID.out SRT1.out SRT2.out X1.out X2.out r m2 t2 m3 t3
          exact ⟨d3, this.1, this.2, hS⟩)
      have RUNS : Aside (∀ d1, Stb.Rot d d1 i m e → Stb.Srt klt key d1 a i ∧ Stb.Srt klt key d1 i mid ∧ Stb.Srt klt key d1 mid e ∧ Stb.Srt klt key d1 e b) :=
        (fun d1 r => Stb.join_runs (by omega) (by omega) (by omega) (by omega) EMID.out SRT1.out SRT2.out r)
      clear hje hij hjb hg1 he HI HJ X1 X2 SRT1 SRT2 EMID QLO CF HC
      by_cases c1 : i < m ∧ m < e
      · have c2 : (i : Int) < (m : Int) := by omega
        have c3 : (m : Int) < (e : Int) := by omega
        clear c1
        go_wp2_with fail
        refine (rotate_s enc blk off cap i m e d0 d w0 _ _ R HS.out.symm S1.out (by omega) (by omega) (by omega) hsz).mono ?_
        rintro e1 w2 ⟨rfl, hR⟩
        obtain ⟨d1, hr, hS2⟩ := hR
        have S2 : Aside _ := hS2
        have HR1 : Aside (Stb.Rot d d1 i m e) := hr
        have Z1 : Aside (d1.size = d.size) := hr.size
        clear hr hS2 S1
        have RR := RUNS.out _ HR1.out
        have RA : Aside _ := RR
        clear RR
        by_cases l1 : a < i ∧ i < mid
        · have l2 : (a : Int) < (i : Int) := by omega
          have l3 : (i : Int) < (mid : Int) := by omega
          clear l1
          go_wp2_with fail
          all_goals
            refine (IHA.out a i mid d1 _ (by omega) (by omega) (by omega) (by omega) Z1.out RA.out.1 RA.out.2.1 S2.out).mono ?_
            rintro e1 w3 ⟨rfl, hM⟩
            obtain ⟨d2, m2, u2, hS3⟩ := hM
            have S3 : Aside _ := hS3
            have M2 : Aside (Stb.Mer key d1 d2 a mid) := m2
            have U2 : Aside (Stb.Srt klt key d2 a mid) := u2
            clear m2 u2 hS3
            have Z2 : Aside (d2.size = d.size) := M2.out.size.trans Z1.out
            have RB : Aside (Stb.Srt klt key d2 mid e ∧ Stb.Srt klt key d2 e b) := ⟨RA.out.2.2.1.congr (fun k k1 _ => M2.out.out k (Or.inr k1)), RA.out.2.2.2.congr (fun k k1 _ => M2.out.out k (Or.inr (by omega)))⟩
            by_cases r1 : mid < e ∧ e < b
            · have r2 : (mid : Int) < (e : Int) := by omega
              have r3 : (e : Int) < (b : Int) := by omega
              clear r1
              go_wp2_with fail
              all_goals
                refine (IHA.out mid e b d2 _ (by omega) (by omega) (by omega) (by omega) Z2.out RB.out.1 RB.out.2 S3.out).mono ?_
                rintro e1 w4 ⟨rfl, hM⟩
                obtain ⟨d3, m3, u3, hS4⟩ := hM
                have G : Aside _ := FIN.out _ _ _ _ HR1.out M2.out U2.out m3 u3 hS4
                clear m3 u3 hS4
                go_wp2
                all_goals (go_end0; exact ⟨rfl, G⟩)
            · have U3 : Aside (Stb.Srt klt key d2 mid b) := by
                by_cases c : e = mid
                · have := RB.out.2; rw [c] at this; exact this
                · have hc : e = b := by omega
                  have := RB.out.1; rw [hc] at this; exact this
              have G : Aside _ := FIN.out _ _ _ _ HR1.out M2.out U2.out (Stb.Mer.refl _ _ _ _) U3.out S3.out
              by_cases r2 : (mid : Int) < (e : Int)
              · have r3 : ¬ (e : Int) < (b : Int) := by omega
                go_wp2
                all_goals (go_end0; exact ⟨rfl, G⟩)
              · go_wp2
                all_goals (go_end0; exact ⟨rfl, G⟩)
        · have l2 : ¬ ((a : Int) < (i : Int) ∧ (i : Int) < (mid : Int)) := by omega
          have U2 : Aside (Stb.Srt klt key d1 a mid) := by
            by_cases c : i = a
            · have := RA.out.2.1; rw [c] at this; exact this
            · have hc : i = mid := by omega
              have := RA.out.1; rw [hc] at this; exact this
          have M2 : Aside (Stb.Mer key d1 d1 a mid) := Stb.Mer.refl _ _ _ _
          have S3 : Aside _ := S2
          have Z2 : Aside (d1.size = d.size) := M2.out.size.trans Z1.out
          have RB : Aside (Stb.Srt klt key d1 mid e ∧ Stb.Srt klt key d1 e b) := ⟨RA.out.2.2.1.congr (fun k k1 _ => M2.out.out k (Or.inr k1)), RA.out.2.2.2.congr (fun k k1 _ => M2.out.out k (Or.inr (by omega)))⟩
          by_cases l3 : (a : Int) < (i : Int)
          · have l4 : ¬ (i : Int) < (mid : Int) := by omega
            by_cases r1 : mid < e ∧ e < b
            · have r2 : (mid : Int) < (e : Int) := by omega
              have r3 : (e : Int) < (b : Int) := by omega
              clear r1
              go_wp2_with fail
              all_goals
                refine (IHA.out mid e b d1 _ (by omega) (by omega) (by omega) (by omega) Z2.out RB.out.1 RB.out.2 S3.out).mono ?_
                rintro e1 w4 ⟨rfl, hM⟩
                obtain ⟨d3, m3, u3, hS4⟩ := hM
                have G : Aside _ := FIN.out _ _ _ _ HR1.out M2.out U2.out m3 u3 hS4
                clear m3 u3 hS4
                go_wp2
                all_goals (go_end0; exact ⟨rfl, G⟩)
            · have U3 : Aside (Stb.Srt klt key d1 mid b) := by
                by_cases c : e = mid
                · have := RB.out.2; rw [c] at this; exact this
                · have hc : e = b := by omega
                  have := RB.out.1; rw [hc] at this; exact this
              have G : Aside _ := FIN.out _ _ _ _ HR1.out M2.out U2.out (Stb.Mer.refl _ _ _ _) U3.out S3.out
              by_cases r2 : (mid : Int) < (e : Int)
              · have r3 : ¬ (e : Int) < (b : Int) := by omega
                go_wp2
                all_goals (go_end0; exact ⟨rfl, G⟩)
              · go_wp2
                all_goals (go_end0; exact ⟨rfl, G⟩)
          · skip
            by_cases r1 : mid < e ∧ e < b
            · have r2 : (mid : Int) < (e : Int) := by omega
              have r3 : (e : Int) < (b : Int) := by omega
              clear r1
              go_wp2_with fail
              all_goals
                refine (IHA.out mid e b d1 _ (by omega) (by omega) (by omega) (by omega) Z2.out RB.out.1 RB.out.2 S3.out).mono ?_
                rintro e1 w4 ⟨rfl, hM⟩
                obtain ⟨d3, m3, u3, hS4⟩ := hM
                have G : Aside _ := FIN.out _ _ _ _ HR1.out M2.out U2.out m3 u3 hS4
                clear m3 u3 hS4
                go_wp2
                all_goals (go_end0; exact ⟨rfl, G⟩)
            · have U3 : Aside (Stb.Srt klt key d1 mid b) := by
                by_cases c : e = mid
                · have := RB.out.2; rw [c] at this; exact this
                · have hc : e = b := by omega
                  have := RB.out.1; rw [hc] at this; exact this
              have G : Aside _ := FIN.out _ _ _ _ HR1.out M2.out U2.out (Stb.Mer.refl _ _ _ _) U3.out S3.out
              by_cases r2 : (mid : Int) < (e : Int)
              · have r3 : ¬ (e : Int) < (b : Int) := by omega
                go_wp2
                all_goals (go_end0; exact ⟨rfl, G⟩)
              · go_wp2
                all_goals (go_end0; exact ⟨rfl, G⟩)
      · have HR1 : Aside (Stb.Rot d d i m e) := by
          by_cases c : i = m
          · rw [c]; exact Stb.Rot.idl d m e
          · rw [show e = m from by omega]; exact Stb.Rot.idr d i m
        have S2 : Aside _ := S1
        clear S1
        by_cases c2 : (i : Int) < (m : Int)
        · have c3 : ¬ (m : Int) < (e : Int) := by omega
          have RR := RUNS.out _ HR1.out
          have RA : Aside _ := RR
          clear RR
          by_cases l1 : a < i ∧ i < mid
          · have l2 : (a : Int) < (i : Int) := by omega
            have l3 : (i : Int) < (mid : Int) := by omega
            clear l1
            go_wp2_with fail
            all_goals
              refine (IHA.out a i mid d _ (by omega) (by omega) (by omega) (by omega) rfl RA.out.1 RA.out.2.1 S2.out).mono ?_
              rintro e1 w3 ⟨rfl, hM⟩
              obtain ⟨d2, m2, u2, hS3⟩ := hM
              have S3 : Aside _ := hS3
              have M2 : Aside (Stb.Mer key d d2 a mid) := m2
              have U2 : Aside (Stb.Srt klt key d2 a mid) := u2
              clear m2 u2 hS3
              have Z2 : Aside (d2.size = d.size) := M2.out.size
              have RB : Aside (Stb.Srt klt key d2 mid e ∧ Stb.Srt klt key d2 e b) := ⟨RA.out.2.2.1.congr (fun k k1 _ => M2.out.out k (Or.inr k1)), RA.out.2.2.2.congr (fun k k1 _ => M2.out.out k (Or.inr (by omega)))⟩
              by_cases r1 : mid < e ∧ e < b
              · have r2 : (mid : Int) < (e : Int) := by omega
                have r3 : (e : Int) < (b : Int) := by omega
                clear r1
                go_wp2_with fail
                all_goals
                  refine (IHA.out mid e b d2 _ (by omega) (by omega) (by omega) (by omega) Z2.out RB.out.1 RB.out.2 S3.out).mono ?_
                  rintro e1 w4 ⟨rfl, hM⟩
                  obtain ⟨d3, m3, u3, hS4⟩ := hM
                  have G : Aside _ := FIN.out _ _ _ _ HR1.out M2.out U2.out m3 u3 hS4
                  clear m3 u3 hS4
                  go_wp2
                  all_goals (go_end0; exact ⟨rfl, G⟩)
              · have U3 : Aside (Stb.Srt klt key d2 mid b) := by
                  by_cases c : e = mid
                  · have := RB.out.2; rw [c] at this; exact this
                  · have hc : e = b := by omega
                    have := RB.out.1; rw [hc] at this; exact this
                have G : Aside _ := FIN.out _ _ _ _ HR1.out M2.out U2.out (Stb.Mer.refl _ _ _ _) U3.out S3.out
                by_cases r2 : (mid : Int) < (e : Int)
                · have r3 : ¬ (e : Int) < (b : Int) := by omega
                  go_wp2
                  all_goals (go_end0; exact ⟨rfl, G⟩)
                · go_wp2
                  all_goals (go_end0; exact ⟨rfl, G⟩)
          · have l2 : ¬ ((a : Int) < (i : Int) ∧ (i : Int) < (mid : Int)) := by omega
            have U2 : Aside (Stb.Srt klt key d a mid) := by
              by_cases c : i = a
              · have := RA.out.2.1; rw [c] at this; exact this
              · have hc : i = mid := by omega
                have := RA.out.1; rw [hc] at this; exact this
            have M2 : Aside (Stb.Mer key d d a mid) := Stb.Mer.refl _ _ _ _
            have S3 : Aside _ := S2
            have RB : Aside (Stb.Srt klt key d mid e ∧ Stb.Srt klt key d e b) := ⟨RA.out.2.2.1.congr (fun k k1 _ => M2.out.out k (Or.inr k1)), RA.out.2.2.2.congr (fun k k1 _ => M2.out.out k (Or.inr (by omega)))⟩
            by_cases l3 : (a : Int) < (i : Int)
            · have l4 : ¬ (i : Int) < (mid : Int) := by omega
              by_cases r1 : mid < e ∧ e < b
              · have r2 : (mid : Int) < (e : Int) := by omega
                have r3 : (e : Int) < (b : Int) := by omega
                clear r1
                go_wp2_with fail
                all_goals
                  refine (IHA.out mid e b d _ (by omega) (by omega) (by omega) (by omega) rfl RB.out.1 RB.out.2 S3.out).mono ?_
                  rintro e1 w4 ⟨rfl, hM⟩
                  obtain ⟨d3, m3, u3, hS4⟩ := hM
                  have G : Aside _ := FIN.out _ _ _ _ HR1.out M2.out U2.out m3 u3 hS4
                  clear m3 u3 hS4
                  go_wp2
                  all_goals (go_end0; exact ⟨rfl, G⟩)
              · have U3 : Aside (Stb.Srt klt key d mid b) := by
                  by_cases c : e = mid
                  · have := RB.out.2; rw [c] at this; exact this
                  · have hc : e = b := by omega
                    have := RB.out.1; rw [hc] at this; exact this
                have G : Aside _ := FIN.out _ _ _ _ HR1.out M2.out U2.out (Stb.Mer.refl _ _ _ _) U3.out S3.out
                by_cases r2 : (mid : Int) < (e : Int)
                · have r3 : ¬ (e : Int) < (b : Int) := by omega
                  go_wp2
                  all_goals (go_end0; exact ⟨rfl, G⟩)
                · go_wp2
                  all_goals (go_end0; exact ⟨rfl, G⟩)
            · skip
              by_cases r1 : mid < e ∧ e < b
              · have r2 : (mid : Int) < (e : Int) := by omega
                have r3 : (e : Int) < (b : Int) := by omega
                clear r1
                go_wp2_with fail
                all_goals
                  refine (IHA.out mid e b d _ (by omega) (by omega) (by omega) (by omega) rfl RB.out.1 RB.out.2 S3.out).mono ?_
                  rintro e1 w4 ⟨rfl, hM⟩
                  obtain ⟨d3, m3, u3, hS4⟩ := hM
                  have G : Aside _ := FIN.out _ _ _ _ HR1.out M2.out U2.out m3 u3 hS4
                  clear m3 u3 hS4
                  go_wp2
                  all_goals (go_end0; exact ⟨rfl, G⟩)
              · have U3 : Aside (Stb.Srt klt key d mid b) := by
                  by_cases c : e = mid
                  · have := RB.out.2; rw [c] at this; exact this
                  · have hc : e = b := by omega
                    have := RB.out.1; rw [hc] at this; exact this
                have G : Aside _ := FIN.out _ _ _ _ HR1.out M2.out U2.out (Stb.Mer.refl _ _ _ _) U3.out S3.out
                by_cases r2 : (mid : Int) < (e : Int)
                · have r3 : ¬ (e : Int) < (b : Int) := by omega
                  go_wp2
                  all_goals (go_end0; exact ⟨rfl, G⟩)
                · go_wp2
                  all_goals (go_end0; exact ⟨rfl, G⟩)
        · skip
          have RR := RUNS.out _ HR1.out
          have RA : Aside _ := RR
          clear RR
          by_cases l1 : a < i ∧ i < mid
          · have l2 : (a : Int) < (i : Int) := by omega
            have l3 : (i : Int) < (mid : Int) := by omega
            clear l1
            go_wp2_with fail
            all_goals
              refine (IHA.out a i mid d _ (by omega) (by omega) (by omega) (by omega) rfl RA.out.1 RA.out.2.1 S2.out).mono ?_
              rintro e1 w3 ⟨rfl, hM⟩
              obtain ⟨d2, m2, u2, hS3⟩ := hM
              have S3 : Aside _ := hS3
              have M2 : Aside (Stb.Mer key d d2 a mid) := m2
              have U2 : Aside (Stb.Srt klt key d2 a mid) := u2
              clear m2 u2 hS3
              have Z2 : Aside (d2.size = d.size) := M2.out.size
              have RB : Aside (Stb.Srt klt key d2 mid e ∧ Stb.Srt klt key d2 e b) := ⟨RA.out.2.2.1.congr (fun k k1 _ => M2.out.out k (Or.inr k1)), RA.out.2.2.2.congr (fun k k1 _ => M2.out.out k (Or.inr (by omega)))⟩
              by_cases r1 : mid < e ∧ e < b
              · have r2 : (mid : Int) < (e : Int) := by omega
                have r3 : (e : Int) < (b : Int) := by omega
                clear r1
                go_wp2_with fail
                all_goals
                  refine (IHA.out mid e b d2 _ (by omega) (by omega) (by omega) (by omega) Z2.out RB.out.1 RB.out.2 S3.out).mono ?_
                  rintro e1 w4 ⟨rfl, hM⟩
                  obtain ⟨d3, m3, u3, hS4⟩ := hM
                  have G : Aside _ := FIN.out _ _ _ _ HR1.out M2.out U2.out m3 u3 hS4
                  clear m3 u3 hS4
                  go_wp2
                  all_goals (go_end0; exact ⟨rfl, G⟩)
              · have U3 : Aside (Stb.Srt klt key d2 mid b) := by
                  by_cases c : e = mid
                  · have := RB.out.2; rw [c] at this; exact this
                  · have hc : e = b := by omega
                    have := RB.out.1; rw [hc] at this; exact this
                have G : Aside _ := FIN.out _ _ _ _ HR1.out M2.out U2.out (Stb.Mer.refl _ _ _ _) U3.out S3.out
                by_cases r2 : (mid : Int) < (e : Int)
                · have r3 : ¬ (e : Int) < (b : Int) := by omega
                  go_wp2
                  all_goals (go_end0; exact ⟨rfl, G⟩)
                · go_wp2
                  all_goals (go_end0; exact ⟨rfl, G⟩)
          · have l2 : ¬ ((a : Int) < (i : Int) ∧ (i : Int) < (mid : Int)) := by omega
            have U2 : Aside (Stb.Srt klt key d a mid) := by
              by_cases c : i = a
              · have := RA.out.2.1; rw [c] at this; exact this
              · have hc : i = mid := by omega
                have := RA.out.1; rw [hc] at this; exact this
            have M2 : Aside (Stb.Mer key d d a mid) := Stb.Mer.refl _ _ _ _
            have S3 : Aside _ := S2
            have RB : Aside (Stb.Srt klt key d mid e ∧ Stb.Srt klt key d e b) := ⟨RA.out.2.2.1.congr (fun k k1 _ => M2.out.out k (Or.inr k1)), RA.out.2.2.2.congr (fun k k1 _ => M2.out.out k (Or.inr (by omega)))⟩
            by_cases l3 : (a : Int) < (i : Int)
            · have l4 : ¬ (i : Int) < (mid : Int) := by omega
              by_cases r1 : mid < e ∧ e < b
              · have r2 : (mid : Int) < (e : Int) := by omega
                have r3 : (e : Int) < (b : Int) := by omega
                clear r1
                go_wp2_with fail
                all_goals
                  refine (IHA.out mid e b d _ (by omega) (by omega) (by omega) (by omega) rfl RB.out.1 RB.out.2 S3.out).mono ?_
                  rintro e1 w4 ⟨rfl, hM⟩
                  obtain ⟨d3, m3, u3, hS4⟩ := hM
                  have G : Aside _ := FIN.out _ _ _ _ HR1.out M2.out U2.out m3 u3 hS4
                  clear m3 u3 hS4
                  go_wp2
                  all_goals (go_end0; exact ⟨rfl, G⟩)
              · have U3 : Aside (Stb.Srt klt key d mid b) := by
                  by_cases c : e = mid
                  · have := RB.out.2; rw [c] at this; exact this
                  · have hc : e = b := by omega
                    have := RB.out.1; rw [hc] at this; exact this
                have G : Aside _ := FIN.out _ _ _ _ HR1.out M2.out U2.out (Stb.Mer.refl _ _ _ _) U3.out S3.out
                by_cases r2 : (mid : Int) < (e : Int)
                · have r3 : ¬ (e : Int) < (b : Int) := by omega
                  go_wp2
                  all_goals (go_end0; exact ⟨rfl, G⟩)
                · go_wp2
                  all_goals (go_end0; exact ⟨rfl, G⟩)
            · skip
              by_cases r1 : mid < e ∧ e < b
              · have r2 : (mid : Int) < (e : Int) := by omega
                have r3 : (e : Int) < (b : Int) := by omega
                clear r1
                go_wp2_with fail
                all_goals
                  refine (IHA.out mid e b d _ (by omega) (by omega) (by omega) (by omega) rfl RB.out.1 RB.out.2 S3.out).mono ?_
                  rintro e1 w4 ⟨rfl, hM⟩
                  obtain ⟨d3, m3, u3, hS4⟩ := hM
                  have G : Aside _ := FIN.out _ _ _ _ HR1.out M2.out U2.out m3 u3 hS4
                  clear m3 u3 hS4
                  go_wp2
                  all_goals (go_end0; exact ⟨rfl, G⟩)
              · have U3 : Aside (Stb.Srt klt key d mid b) := by
                  by_cases c : e = mid
                  · have := RB.out.2; rw [c] at this; exact this
                  · have hc : e = b := by omega
                    have := RB.out.1; rw [hc] at this; exact this
                have G : Aside _ := FIN.out _ _ _ _ HR1.out M2.out U2.out (Stb.Mer.refl _ _ _ _) U3.out S3.out
                by_cases r2 : (mid : Int) < (e : Int)
                · have r3 : ¬ (e : Int) < (b : Int) := by omega
                  go_wp2
                  all_goals (go_end0; exact ⟨rfl, G⟩)
                · go_wp2
                  all_goals (go_end0; exact ⟨rfl, G⟩)
end Go.Proofs.YtmbjhfkpmgkkbaaGreatDoor
