/-
  The walks of stableCmpFunc and SortStableFunc: the row ends in rising order of the keys, equal keys in their old order. Conditions: at most 2 to the 30 elements, the comparison reads and orders by the keys.
-/
import Derived.Test.YtmbjhfkpmgkkbaaGreatDoorSym
import Derived.Test.YtmbjhfkpmgkkbaaGreatDoorShelf
import Derived.Test.YtmbjhfkpmgkkbaaGreatDoorSortI
namespace Go.Proofs.YtmbjhfkpmgkkbaaGreatDoor
set_option linter.unusedVariables false
open Go.Shelf Go.RowKit Go.Lib Go.Sort
variable {α κ : Type} [Inhabited α] [DecidableEq κ]

theorem merge_part {klt : κ → κ → Prop} {key : α → κ} {enc : α → Value} {w0 : World} {blk off : Nat} {d d1 : Array α} {n a b : Nat} {W : World} (hm : Merged klt key enc w0 blk off d1 a b W) (M : Stb.Mer key d d1 0 n) (hb : b ≤ n) :
    ∃ d2, Stb.Mer key d1 d2 a b ∧ Stb.Srt klt key d2 a b ∧ Stb.Mer key d d2 0 n ∧ SW enc w0 blk off d2 W := by
  obtain ⟨d2, m, s, hS⟩ := hm
  exact ⟨d2, m, s, M.trans (m.mono (Nat.zero_le _) hb), hS⟩

set_option maxHeartbeats 8000000 in
set_option maxRecDepth 100000 in
theorem stable_s {klt : κ → κ → Prop} {key : α → κ} (O : Stb.KO klt) (enc : α → Value) (cf : α → α → Int) (hcf : ∀ x y, cf x y < 0 ↔ klt (key x) (key y)) (g : Nat) (cb : Array Value) (blk off cap : Nat) (d : Array α) (w0 : World)
    (eg : ∀ args w, (callFunc g args).run Tryz.prog w = .ok (.enter g args) w) (hcmp : CmpLays1 Tryz.prog g cb enc cf blk off d.size w0) (R : Row1 enc w0 blk off d) (hsz : d.size ≤ 1073741824) (w : World) (S : SW enc w0 blk off d w) :
    Calls Tryz.prog 25 #[.slice (some ⟨blk, off, none⟩) d.size cap, .int .i64 d.size, .func (.func g) #[] cb] w fun e w' => e = .returned (.tuple #[]) ∧ Merged klt key enc w0 blk off d 0 d.size w' := by
  obtain ⟨n, hn⟩ : ∃ n, n = d.size := ⟨_, rfl⟩
  have INS : Aside (∀ (a b : Nat) (dk : Array α) (W : World), a ≤ b → b ≤ n → Stb.Mer key d dk 0 n → SW enc w0 blk off dk W →
      Calls Tryz.prog 33 #[.slice (some ⟨blk, off, none⟩) n cap, .int .i64 a, .int .i64 b, .func (.func g) #[] cb] W fun e w' => e = .returned (.tuple #[]) ∧ Merged klt key enc w0 blk off dk a b w') :=
    (fun a b dk W h1 h2 M hS => by
      have hz : d.size = dk.size := M.size.symm
      have h := Tryz.insertionSortCmpFunc_s enc cf g cb blk off cap a b d dk w0 W eg hcmp R hz hS h1 (by omega) (by omega)
      rw [← hz, ← hn] at h
      refine h.mono fun e w' ⟨he, hS'⟩ => ⟨he, _, ?_, ?_, hS'⟩
      · exact (Stb.insertion_mer O (ltOf cf) (fun x y => by rw [← hcf]; exact decide_eq_true_iff) dk a b (by omega)).1
      · exact (Stb.insertion_mer O (ltOf cf) (fun x y => by rw [← hcf]; exact decide_eq_true_iff) dk a b (by omega)).2)
  have SYM : Aside (∀ (a m b : Nat) (dk : Array α) (W : World), a < m → m < b → b ≤ n → Stb.Mer key d dk 0 n → Stb.Srt klt key dk a m → Stb.Srt klt key dk m b → SW enc w0 blk off dk W →
      Calls Tryz.prog 34 #[.slice (some ⟨blk, off, none⟩) n cap, .int .i64 a, .int .i64 m, .int .i64 b, .func (.func g) #[] cb] W fun e w' => e = .returned (.tuple #[]) ∧ Merged klt key enc w0 blk off dk a b w') :=
    (fun a m b dk W h1 h2 h3 M s1 s2 hS => by
      have h := symMerge_s O enc cf hcf g cb blk off cap d w0 eg hcmp R hsz (b - a) a m b dk W (Nat.le_refl _) h1 h2 (by omega) M.size s1 s2 hS
      rw [← hn] at h; exact h)
  have hnb : (n : Int) ≤ 1073741824 := by omega
  have S0 : Aside (SW enc w0 blk off d w) := S
  rw [← hn]
  clear S hcmp R eg hsz hcf hn
  go_enter Tryz.func25, Tryz.ntmps25
  go_wp2
  go_loopg [7, 8] (n + 20) (fun g1 va vb wr => ∃ (x y : Nat) (dk : Array α), va = .int .i64 x ∧ vb = .int .i64 y ∧ (y : Int) ≤ (x : Int) + 20 ∧ (x : Int) + 20 ≤ (y : Int) ∧ (x : Int) ≤ (n : Int) ∧ n + 20 - x ≤ g1 ∧ Aside (∃ q, x = q * 20 ∧ Stb.Done klt key dk 20 q) ∧ Aside (Stb.Mer key d dk 0 n) ∧ Aside (SW enc w0 blk off dk wr))
  case atStart => exact ⟨0, 20, d, by go_num, by go_num, by omega, by omega, by omega, by omega, ⟨0, by omega, Stb.Done.zero _ _⟩, Stb.Mer.refl _ _ _ _, S0⟩
  case round =>
    clear S0
    obtain ⟨x, y, dk, rfl, rfl, y1, y2, x1, hg1, DN, MR, S1⟩ := hrel
    by_cases hlt : y ≤ n
    · have hltz : (y : Int) ≤ (n : Int) := by omega
      obtain ⟨z, hz⟩ : ∃ z, z = y + 20 := ⟨_, rfl⟩
      have zz : (y : Int) + 20 = (z : Int) := by omega
      have z1 : (z : Int) ≤ (y : Int) + 20 := by omega
      have z2 : (y : Int) + 20 ≤ (z : Int) := by omega
      have hyx : y = x + 20 := by omega
      have HY := Lib.hid hyx
      clear hz hyx
      go_wp2_with fail
      refine (INS.out x y dk _ (by omega) (by omega) MR.out S1.out).mono ?_
      rintro e1 w2 ⟨rfl, hM⟩
      obtain ⟨d2, m2, s2, M2, hS2⟩ := merge_part hM MR.out (by omega)
      have MR2 : Aside _ := M2
      have S2 : Aside _ := hS2
      have DN2 : Aside (∃ q, y = q * 20 ∧ Stb.Done klt key d2 20 q) := by
        obtain ⟨q, hq, hD⟩ := DN.out
        rw [HY.out] at m2 s2
        exact ⟨q + 1, by rw [HY.out, hq]; omega, hD.step hq m2 s2⟩
      clear hM m2 s2 M2 hS2 DN MR S1
      go_wp2
      go_roundg (n + 20 - y)
      case measure => omega
      case rel => exact ⟨y, z, d2, rfl, by go_num, z1, z2, hltz, Nat.le_refl _, DN2, MR2, S2⟩
    · have hltz : ¬ (y : Int) ≤ (n : Int) := by omega
      have y3 : (n : Int) < (x : Int) + 20 := by omega
      clear y1 y2 hg1
      go_wp2_with fail
      refine (INS.out x n dk _ (by omega) (by omega) MR.out S1.out).mono ?_
      rintro e1 w2 ⟨rfl, hM⟩
      obtain ⟨d2, m2, s2, M2, hS2⟩ := merge_part hM MR.out (Nat.le_refl _)
      have MR2 : Aside _ := M2
      have S2 : Aside _ := hS2
      have CH : Aside (Stb.Chunks klt key d2 20 0 n) := by
        obtain ⟨q, hq, hD⟩ := DN.out
        exact Stb.Chunks.of_done (hD.keep hq m2) hq (by omega) s2
      clear hM m2 s2 M2 hS2 DN MR S1
      go_wp2
      go_loopg [6] (n + n) (fun g1 vs wr => ∃ (bs : Nat) (dk : Array α), vs = .int .i64 bs ∧ (20 : Int) ≤ (bs : Int) ∧ (bs : Int) ≤ 2147483648 ∧ n - bs ≤ g1 ∧ Aside (Stb.Chunks klt key dk bs 0 n) ∧ Aside (Stb.Mer key d dk 0 n) ∧ Aside (SW enc w0 blk off dk wr))
      case atStart => exact ⟨20, d2, by go_num, by omega, by omega, by omega, CH, MR2, S2⟩
      case round =>
        clear CH MR2 S2
        obtain ⟨bs, dk, rfl, b1, b2, hg1, CH, MR, S1⟩ := hrel
        by_cases hbs : bs < n
        · have hbz : (bs : Int) < (n : Int) := by omega
          obtain ⟨bt, hbt⟩ : ∃ z, z = 2 * bs := ⟨_, rfl⟩
          have zb : 2 * (bs : Int) = (bt : Int) := by omega
          have zb2 : (bs : Int) * 2 = (bt : Int) := by omega
          have t1 : (bt : Int) ≤ 2147483648 := by omega
          have t2 : (20 : Int) ≤ (bt : Int) := by omega
          have t3 : (bs : Int) < (bt : Int) := by omega
          have BT := Lib.hid hbt
          clear hbt
          go_wp2
          go_loopg [7, 8] (n + n) (fun g2 va vb wr => ∃ (x y : Nat) (d2 : Array α), va = .int .i64 x ∧ vb = .int .i64 y ∧ (y : Int) ≤ (x : Int) + (bt : Int) ∧ (x : Int) + (bt : Int) ≤ (y : Int) ∧ (x : Int) ≤ (n : Int) ∧ n + n - x ≤ g2 ∧ Aside (∃ q, x = q * bt ∧ Stb.Done klt key d2 bt q) ∧ Aside (Stb.Chunks klt key d2 bs x n) ∧ Aside (Stb.Mer key d d2 0 n) ∧ Aside (SW enc w0 blk off d2 wr))
          case atStart => exact ⟨0, bt, dk, by go_num, by go_num, by omega, by omega, by omega, by omega, ⟨0, by omega, Stb.Done.zero _ _⟩, CH, MR, S1⟩
          case round =>
            clear S1 CH MR
            obtain ⟨x, y, d2, rfl, rfl, y1, y2, x1, hg2, DN, CH, MR, S1⟩ := hrel
            obtain ⟨m, hm⟩ : ∃ z, z = x + bs := ⟨_, rfl⟩
            have zm : (x : Int) + (bs : Int) = (m : Int) := by omega
            by_cases hlt : y ≤ n
            · have hltz : (y : Int) ≤ (n : Int) := by omega
              obtain ⟨z, hz⟩ : ∃ z, z = y + bt := ⟨_, rfl⟩
              have zz : (y : Int) + (bt : Int) = (z : Int) := by omega
              have z1 : (z : Int) ≤ (y : Int) + (bt : Int) := by omega
              have z2 : (y : Int) + (bt : Int) ≤ (z : Int) := by omega
              have hyx : y = x + 2 * bs := by have := BT.out; omega
              have hyt : y = x + bt := by omega
              have s1 : Stb.Srt klt key d2 x m := by
                have := CH.out.first; rw [Nat.min_eq_left (by omega), ← hm] at this; exact this
              have s2 : Stb.Srt klt key d2 m y := by
                have := CH.out.second; rw [Nat.min_eq_left (by omega), ← hm, ← hyx] at this; exact this
              have CALL := Lib.hid (fun W hW => SYM.out x m y d2 W (by omega) (by omega) hlt MR.out s1 s2 hW)
              have HY := Lib.hid hyx
              have HT := Lib.hid hyt
              clear hz hyx hyt hm s1 s2
              go_wp2_with fail
              refine (CALL.out _ S1.out).mono ?_
              rintro e1 w2 ⟨rfl, hM⟩
              obtain ⟨d3, m3, s3, M3, hS3⟩ := merge_part hM MR.out (by omega)
              have MR3 : Aside _ := M3
              have S3 : Aside _ := hS3
              have DN3 : Aside (∃ q, y = q * bt ∧ Stb.Done klt key d3 bt q) := by
                obtain ⟨q, hq, hD⟩ := DN.out
                have m3' := m3
                have s3' := s3
                rw [HT.out] at m3' s3'
                exact ⟨q + 1, by rw [HT.out, hq, Nat.add_mul, Nat.one_mul], hD.step hq m3' s3'⟩
              have CH3 : Aside (Stb.Chunks klt key d3 bs y n) := by
                rw [HY.out] at m3 ⊢
                exact CH.out.step m3
              clear hM m3 s3 M3 hS3 DN MR S1 CALL CH
              go_wp2
              go_roundg (n + n - y)
              case measure => omega
              case rel => exact ⟨y, z, d3, rfl, by go_num, z1, z2, hltz, Nat.le_refl _, DN3, CH3, MR3, S3⟩
            · have hltz : ¬ (y : Int) ≤ (n : Int) := by omega
              have y3 : (n : Int) < (x : Int) + (bt : Int) := by omega
              by_cases hmn : m < n
              · have hmz : (m : Int) < (n : Int) := by omega
                have s1 : Stb.Srt klt key d2 x m := by
                  have := CH.out.first; rw [Nat.min_eq_left (by omega), ← hm] at this; exact this
                have s2 : Stb.Srt klt key d2 m n := by
                  have := CH.out.second; have h2 := BT.out; rw [Nat.min_eq_right (by omega), ← hm] at this; exact this
                have CALL := Lib.hid (fun W hW => SYM.out x m n d2 W (by omega) hmn (Nat.le_refl _) MR.out s1 s2 hW)
                clear hm s1 s2 y1 y2 hg2
                go_wp2_with fail
                refine (CALL.out _ S1.out).mono ?_
                rintro e1 w2 ⟨rfl, hM⟩
                obtain ⟨d3, m3, s3, M3, hS3⟩ := merge_part hM MR.out (Nat.le_refl _)
                have MR3 : Aside _ := M3
                have S3 : Aside _ := hS3
                have CH3 : Aside (Stb.Chunks klt key d3 bt 0 n) := by
                  obtain ⟨q, hq, hD⟩ := DN.out
                  exact Stb.Chunks.of_done (hD.keep hq m3) hq (by omega) s3
                clear hM m3 s3 M3 hS3 DN MR S1 CALL CH
                go_wp2
                go_roundg (n - bt)
                case measure => omega
                case rel => exact ⟨bt, d3, by go_num, t2, t1, Nat.le_refl _, CH3, MR3, S3⟩
              · have hmz : ¬ (m : Int) < (n : Int) := by omega
                have CH3 : Aside (Stb.Chunks klt key d2 bt 0 n) := by
                  obtain ⟨q, hq, hD⟩ := DN.out
                  have s3 : Stb.Srt klt key d2 x n := by
                    have := CH.out.first; rw [Nat.min_eq_right (by omega)] at this; exact this
                  exact Stb.Chunks.of_done hD hq (by omega) s3
                clear hm y1 y2 hg2 DN CH
                go_wp2
                go_roundg (n - bt)
                case measure => omega
                case rel => exact ⟨bt, d2, by go_num, t2, t1, Nat.le_refl _, CH3, MR, S1⟩
        · have hbz : ¬ (bs : Int) < (n : Int) := by omega
          have G : Aside (Merged klt key enc w0 blk off d 0 n wr) := ⟨dk, MR.out, by
            have := CH.out.first; rw [Nat.min_eq_right (by omega)] at this; exact this, S1.out⟩
          clear CH MR S1
          go_wp2
          all_goals (go_end0; exact ⟨rfl, G⟩)
end Go.Proofs.YtmbjhfkpmgkkbaaGreatDoor
