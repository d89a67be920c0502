/-
  How often the tape has been asked never shrinks: along a run of the monad, a step of a goroutine, a step of the machine, a call. Conditions: none.
-/
import Derived.Lib.QuietBelow
import Derived.Calls
import Derived.Lone
import Derived.StepT
namespace Go.Proofs.YthihppocokkoiaaDoor
set_option linter.unusedVariables false
set_option linter.unusedSimpArgs false

def worldOf {α : Type} : Result α → World
  | .ok _ w => w
  | .halt _ w => w
theorem ask_drawn {α : Type} (a : Ask α) : ∀ w : World, w.drawn ≤ (w.ask a).2.drawn := by
  induction a with
  | done a => intro w; simp [World.ask]
  | ask what range k ih =>
    intro w
    unfold World.ask
    simp only
    split
    · exact ih _ _
    · exact Nat.le_trans (Nat.le_succ _) (ih _ { w with drawn := w.drawn + 1 })
theorem sys_drawn (w : World) (c : Sys) : w.drawn ≤ (w.sys c).2.drawn := by
  have h := ask_drawn (Kernel.perform c w.os) w
  unfold World.sys
  split
  · exact Nat.le_refl _
  · rename_i e
    rw [e] at h
    exact h
theorem viewStore_drawn {p : Program} {w : World} {at_ : Addr} {u : TypeId} {k : Addr} {v : Value} {b : Bool} {r : World × List Addr} (h : w.viewStore p at_ u k v b = .ok r) : r.1.drawn = w.drawn := by
  unfold World.viewStore at h
  simp only [bind, Except.bind, pure, Except.pure, throw, throwThe, MonadExceptOf.throw] at h
  repeat' split at h
  all_goals (first | (cases h; done) | (injection h with h; subst h; rfl) | skip)
theorem farStore_drawn {p : Program} {w : World} {a : Addr} {v : Value} {b : Bool} {r : World × List Addr} (h : w.farStore p a v b = .ok r) : r.1.drawn = w.drawn := by
  unfold World.farStore at h
  split at h
  · split at h
    · rename_i e
      injection h with h; subst h; exact viewStore_drawn e
    · cases h
  · cases h
theorem freeze_drawn (w : World) (a : Addr) (n : Nat) : (w.freeze a n).drawn = w.drawn := by unfold World.freeze; split <;> rfl

theorem run_drawn {α : Type} (p : Program) (s : Sem α) : ∀ w : World, w.drawn ≤ (worldOf (s.run p w)).drawn := by
  induction s with
  | pure a => intro w; exact Nat.le_refl _
  | load m a k ih =>
    intro w
    simp only [Sem.run]
    split
    · exact ih _ _
    · split
      · exact ih _ _
      · exact Nat.le_refl _
  | store m a v k ih =>
    intro w
    have key : ∀ (x : Value), (∀ cs, x ≠ .agg cs) → (∀ cs, x ≠ .tuple cs) → w.drawn ≤ (worldOf (Sem.run p (.store m a x k) w)).drawn := by
      intro x h1 h2
      rw [Sem.run]
      · split
        · split
          · exact Nat.le_refl _
          · exact ih (w.setCell a x)
        · split
          · rename_i e
            have h3 := farStore_drawn e
            exact Nat.le_trans (Nat.le_of_eq h3.symm) (ih _)
          · exact Nat.le_refl _
      · intro cs e; exact h1 cs e
      · intro cs e; exact h2 cs e
    cases v
    case agg cs => exact Nat.le_refl _
    case tuple cs => exact Nat.le_refl _
    all_goals exact key _ (fun _ h => by cases h) (fun _ h => by cases h)
  | new o k ih => intro w; exact ih _ { w with heap := w.heap.push o }
  | shape r k ih => intro w; exact ih _ _
  | freeze a n k ih => intro w; have := ih (w.freeze a n); rw [freeze_drawn] at this; exact this
  | frozen a k ih => intro w; exact ih _ _
  | getObj r k ih =>
    intro w
    simp only [Sem.run]
    split
    · exact Nat.le_refl _
    · exact ih _ _
    · exact Nat.le_refl _
  | setObj r o k ih =>
    intro w
    simp only [Sem.run]
    split
    · exact Nat.le_refl _
    · exact ih { w with heap := w.heap.setIfInBounds r o }
    · exact Nat.le_refl _
  | choose q k ih =>
    intro w
    simp only [Sem.run]
    split
    · exact ih _ _
    · exact Nat.le_trans (Nat.le_succ _) (ih _ { w with drawn := w.drawn + 1 })
  | sys c k ih => intro w; exact Nat.le_trans (sys_drawn w c) (ih _ _)
  | program k ih => intro w; exact ih _ _
  | mark m k ih => intro w; exact ih _
  | halt h => intro w; exact Nat.le_refl _

theorem run_ok {α : Type} {p : Program} {s : Sem α} {w w' : World} {v : α} (h : s.run p w = .ok v w') : w.drawn ≤ w'.drawn := by
  have := run_drawn p s w; rw [h] at this; exact this
theorem run_halt {α : Type} {p : Program} {s : Sem α} {w w' : World} {v : Halt} (h : s.run p w = .halt v w') : w.drawn ≤ w'.drawn := by
  have := run_drawn p s w; rw [h] at this; exact this

/-- the world a goroutine's step leaves -/
def gw : GStep → World
  | .go _ w _ => w
  | .comm _ _ _ _ w _ => w
  | .spawn _ _ w _ => w
  | .count _ w _ => w
  | .timer _ _ w _ => w
  | .alone _ _ w _ => w
  | .newcoro _ _ _ w _ => w
  | .coroswitch _ _ _ w _ => w
  | .collect _ w _ => w
  | .watch _ w _ => w
  | .ended _ w _ => w
theorem gw_after (es : Array Event) (s : GStep) : gw (GStep.after es s) = gw s := by cases s <;> rfl
theorem gw_throw (fr : Frame) (m : String) (w : World) : gw (endThrow fr m w) = w := rfl
theorem gw_dieOf (fr : Frame) (a : List ByteArray) (m : String) (b : Bool) (w : World) : gw (dieOf fr a m b w) = w := rfl
theorem gw_printing (p : Program) (fr : Frame) (v : Value) (w : World) : gw (endPrinting p fr v w) = w := by
  unfold endPrinting; simp only; split <;> rfl
theorem gw_return (p : Program) (main : Bool) (fr : Frame) (cs : List Frame) (d : Option Dying) (v : Value) (w : World) : gw (doReturn p main fr cs d v w) = w := by
  unfold doReturn
  repeat' split
  all_goals rfl
theorem gw_with (w : World) (fd : Nat) (text : ByteArray) (o : Outcome) : w.drawn ≤ (gw (endWith w fd text o)).drawn := by
  unfold endWith
  have h := sys_drawn w (.write fd text)
  simp only
  split
  · rename_i e; rw [e] at h; split <;> exact h
  · rename_i e; rw [e] at h; exact h
  · rename_i e; rw [e] at h; exact h


theorem fatal_drawn (p : Program) (fr : Frame) (cs : List Frame) (d : Option Dying) (m : String) (w : World) : w.drawn ≤ (gw (endFatal p fr cs d m w)).drawn := by
  unfold endFatal
  simp only
  split
  · rw [gw_dieOf]; exact run_ok (by assumption)
  · exact run_halt (by assumption)
  · exact run_halt (by assumption)
theorem writeOn_drawn (p : Program) (fr : Frame) (d : Dying) (f : Fatal) (w : World) : w.drawn ≤ (gw (writeOn p fr d f w)).drawn := by
  unfold writeOn
  split
  · exact Nat.le_refl _
  · simp only [Sem.runT_eq]
    split
    all_goals (rename_i e; injection e with e1 e2; first | exact run_ok e1 | exact run_halt e1)
theorem die_drawn (p : Program) (fr : Frame) (d : Dying) (w : World) : w.drawn ≤ (gw (die p fr d w)).drawn := by
  unfold die
  split
  · exact writeOn_drawn _ _ _ _ _
  · split
    · split
      · exact Nat.le_refl _
      · exact gw_with _ _ _ _
    · simp only [Sem.runT_eq]
      split
      · exact Nat.le_refl _
      · split
        all_goals (first | exact Nat.le_refl _ | exact run_ok (by assumption) | exact run_halt (by assumption) | (dsimp only [gw]; exact run_ok (by assumption)) | (rw [gw_return]; first | exact Nat.le_refl _ | exact run_ok (by assumption)) | (rw [gw_throw]; first | exact Nat.le_refl _ | exact run_ok (by assumption) | exact run_halt (by assumption)) | (rw [gw_printing]; first | exact Nat.le_refl _ | exact run_ok (by assumption) | exact run_halt (by assumption)))
      · rw [gw_after]
        split
        all_goals (first | exact Nat.le_refl _ | exact run_ok (by assumption) | exact run_halt (by assumption) | (dsimp only [gw]; exact run_ok (by assumption)) | (rw [gw_return]; first | exact Nat.le_refl _ | exact run_ok (by assumption)) | (rw [gw_throw]; first | exact Nat.le_refl _ | exact run_ok (by assumption) | exact run_halt (by assumption)) | (rw [gw_printing]; first | exact Nat.le_refl _ | exact run_ok (by assumption) | exact run_halt (by assumption)))
      · exact Nat.le_refl _
theorem deferred_drawn (p : Program) (fr : Frame) (cs : List Frame) (dy : Option Dying) (d : Deferred) (w : World) : w.drawn ≤ (gw (callDeferred p fr cs dy d w)).drawn := by
  unfold callDeferred
  simp only [Sem.runT_eq]
  repeat' split
  all_goals (try rw [gw_after])
  all_goals (try split)
  all_goals (first | (first | exact Nat.le_refl _ | exact run_ok (by assumption) | exact run_halt (by assumption) | (dsimp only [gw]; exact run_ok (by assumption)) | (rw [gw_return]; first | exact Nat.le_refl _ | exact run_ok (by assumption)) | (rw [gw_throw]; first | exact Nat.le_refl _ | exact run_ok (by assumption) | exact run_halt (by assumption)) | (rw [gw_printing]; first | exact Nat.le_refl _ | exact run_ok (by assumption) | exact run_halt (by assumption))) | (exact Nat.le_trans (run_halt (by assumption)) (fatal_drawn _ _ _ _ _ _)))
theorem early_drawn (p : Program) (fr : Frame) (cs : List Frame) (dy : Option Dying) (g : Nat) (w : World) : w.drawn ≤ (gw (early p fr cs dy g w)).drawn := by
  unfold early
  simp only
  repeat' split
  all_goals (first | exact Nat.le_refl _ | exact run_ok (by assumption) | exact run_halt (by assumption) | (dsimp only [gw]; exact run_ok (by assumption)) | (rw [gw_return]; first | exact Nat.le_refl _ | exact run_ok (by assumption)) | (rw [gw_throw]; first | exact Nat.le_refl _ | exact run_ok (by assumption) | exact run_halt (by assumption)) | (rw [gw_printing]; first | exact Nat.le_refl _ | exact run_ok (by assumption) | exact run_halt (by assumption)))
theorem unwind_drawn (p : Program) (main : Bool) (fr : Frame) (cs : List Frame) (dy : Option Dying) (w : World) : w.drawn ≤ (gw (unwind p main fr cs dy w)).drawn := by
  unfold unwind
  split
  · simp only [Sem.runT_eq, gw_after]
    split
    all_goals (first | exact Nat.le_refl _ | exact run_ok (by assumption) | exact run_halt (by assumption) | (dsimp only [gw]; exact run_ok (by assumption)) | (rw [gw_return]; first | exact Nat.le_refl _ | exact run_ok (by assumption)) | (rw [gw_throw]; first | exact Nat.le_refl _ | exact run_ok (by assumption) | exact run_halt (by assumption)) | (rw [gw_printing]; first | exact Nat.le_refl _ | exact run_ok (by assumption) | exact run_halt (by assumption)))
  · exact deferred_drawn _ _ _ _ _ _
  · simp only [Sem.runT_eq]
    repeat' split
    all_goals (try rw [gw_after])
    all_goals (try split)
    all_goals (first | exact Nat.le_refl _ | exact run_ok (by assumption) | exact run_halt (by assumption) | (dsimp only [gw]; exact run_ok (by assumption)) | (rw [gw_return]; first | exact Nat.le_refl _ | exact run_ok (by assumption)) | (rw [gw_throw]; first | exact Nat.le_refl _ | exact run_ok (by assumption) | exact run_halt (by assumption)) | (rw [gw_printing]; first | exact Nat.le_refl _ | exact run_ok (by assumption) | exact run_halt (by assumption)))
set_option maxHeartbeats 4000000 in
theorem apply_drawn (p : Program) (listen : Bool) (fr : Frame) (cs : List Frame) (dy : Option Dying) (s : Sem Next) (w : World) : w.drawn ≤ (gw (stepG.apply p listen fr cs dy s w)).drawn := by
  unfold stepG.apply
  obtain ⟨es, hes⟩ : ∃ es, (if listen = true then s.runT p w #[] else (s.run p w, #[])) = (s.run p w, es) := by
    cases listen
    · exact ⟨_, rfl⟩
    · exact ⟨s.events p w #[], by simp only [if_true, Sem.runT_eq]⟩
  simp only [hes, gw_after]
  split
  all_goals (repeat' split)
  all_goals (first | (first | exact Nat.le_refl _ | exact run_ok (by assumption) | exact run_halt (by assumption) | (dsimp only [gw]; exact run_ok (by assumption)) | (rw [gw_return]; first | exact Nat.le_refl _ | exact run_ok (by assumption)) | (rw [gw_throw]; first | exact Nat.le_refl _ | exact run_ok (by assumption) | exact run_halt (by assumption)) | (rw [gw_printing]; first | exact Nat.le_refl _ | exact run_ok (by assumption) | exact run_halt (by assumption))) | exact Nat.le_trans (run_halt (by assumption)) (fatal_drawn _ _ _ _ _ _) | exact Nat.le_trans (run_halt (by assumption)) (early_drawn _ _ _ _ _ _) | skip)
theorem oper_drawn (p : Program) (listen : Bool) (fr : Frame) (cs : List Frame) (dy : Option Dying) (w : World) : w.drawn ≤ (gw (stepG.oper p listen fr cs dy w)).drawn := by
  unfold stepG.oper
  repeat' split
  all_goals (first | exact Nat.le_refl _ | exact apply_drawn _ _ _ _ _ _ _)
theorem elim_drawn {α : Type} (o : Option α) {a : GStep} {f : α → GStep} {n : Nat} (h1 : n ≤ (gw a).drawn) (h2 : ∀ x, n ≤ (gw (f x)).drawn) : n ≤ (gw (o.elim a f)).drawn := by
  cases o with
  | none => exact h1
  | some x => exact h2 x
set_option maxHeartbeats 4000000 in
theorem exec_drawn (p : Program) (main listen : Bool) (fr : Frame) (cs : List Frame) (dy : Option Dying) (w : World) : w.drawn ≤ (gw (stepG.exec p main listen fr cs dy w)).drawn := by
  unfold stepG.exec
  simp only [Sem.runT_eq]
  repeat' split
  all_goals (try rw [gw_after])
  all_goals (try split)
  all_goals (first | (first | exact Nat.le_refl _ | exact run_ok (by assumption) | exact run_halt (by assumption) | (dsimp only [gw]; exact run_ok (by assumption)) | (rw [gw_return]; first | exact Nat.le_refl _ | exact run_ok (by assumption)) | (rw [gw_throw]; first | exact Nat.le_refl _ | exact run_ok (by assumption) | exact run_halt (by assumption)) | (rw [gw_printing]; first | exact Nat.le_refl _ | exact run_ok (by assumption) | exact run_halt (by assumption))) | exact apply_drawn _ _ _ _ _ _ _ | exact oper_drawn _ _ _ _ _ _ | exact Nat.le_trans (run_ok (by assumption)) (apply_drawn _ _ _ _ _ _ _) | (refine elim_drawn _ ?_ (fun _ => ?_) <;> (try rw [gw_after]) <;> (first | (first | exact Nat.le_refl _ | exact run_ok (by assumption) | exact run_halt (by assumption) | (dsimp only [gw]; exact run_ok (by assumption)) | (rw [gw_return]; first | exact Nat.le_refl _ | exact run_ok (by assumption)) | (rw [gw_throw]; first | exact Nat.le_refl _ | exact run_ok (by assumption) | exact run_halt (by assumption)) | (rw [gw_printing]; first | exact Nat.le_refl _ | exact run_ok (by assumption) | exact run_halt (by assumption))) | exact apply_drawn _ _ _ _ _ _ _)) | skip)
theorem stepG_drawn (p : Program) (main : Bool) (g : Goroutine) (w : World) (listen : Bool) : w.drawn ≤ (gw (stepG p main g w listen)).drawn := by
  unfold stepG
  simp only
  split
  · exact die_drawn _ _ _ _
  · exact exec_drawn _ _ _ _ _ _ _
  · exact unwind_drawn _ _ _ _ _ _

/-- what a step of the machine leaves, where it goes on -/
def NextD (n : Nat) : Stepped → Prop
  | .next m => n ≤ m.world.drawn
  | .ended _ _ => True
theorem waitingAt_drawn {rest : Rest} {cases : Array CommCase} {w w' : World} (h : waitingAt rest cases w = some w') : w'.drawn = w.drawn := by
  unfold waitingAt at h
  repeat' split at h
  all_goals (first | (cases h; done) | (injection h with h; subst h; rfl))
theorem communicate_drawn (p : Program) (rest : Rest) (gs : Array Goroutine) (i : Nat) (g : Goroutine) (cases : Array CommCase) (blocking : Bool)
    (shape : CommShape) (w : World) (m' : Machine) (h : (communicate p rest gs i g cases blocking shape w).1 = .next m') : w.drawn ≤ m'.world.drawn := by
  unfold communicate at h
  simp only [] at h
  repeat' first
    | (simp at h; done)
    | (simp only [Stepped.next.injEq] at h; subst h; (first | exact Nat.le_refl _ | (dsimp only; exact Nat.le_refl _) | (dsimp only; exact run_ok (by assumption)) | (dsimp only; exact Nat.le_of_eq (waitingAt_drawn (by assumption)).symm) | (dsimp only; exact Nat.le_trans (run_ok (by assumption)) (run_ok (by assumption))) | (dsimp only; exact Nat.le_trans (run_ok (by assumption)) (run_halt (by assumption)))))
    | split at h
theorem look_drawn (p : Program) (gs : Array Goroutine) (rest : Rest) (w : World) (m' : Machine)
    (h : look p gs rest w = .next m') : w.drawn ≤ m'.world.drawn := by
  unfold look at h
  simp only [] at h
  repeat' first
    | (simp at h; done)
    | (simp only [Stepped.next.injEq] at h; subst h; (first | exact Nat.le_refl _ | (dsimp only; exact Nat.le_refl _) | (dsimp only; exact run_ok (by assumption)) | (dsimp only; exact Nat.le_of_eq (waitingAt_drawn (by assumption)).symm) | (dsimp only; exact Nat.le_trans (run_ok (by assumption)) (run_ok (by assumption))) | (dsimp only; exact Nat.le_trans (run_ok (by assumption)) (run_halt (by assumption)))))
    | split at h
theorem serve_drawn (p : Program) (m m' : Machine) (k : Nat) (h : serve p m k = .next m') : m.world.drawn ≤ m'.world.drawn := by
  unfold serve at h
  simp only [] at h
  repeat' first
    | (simp at h; done)
    | (simp only [Stepped.next.injEq] at h; subst h; (first | exact Nat.le_refl _ | (dsimp only; exact Nat.le_refl _) | (dsimp only; exact run_ok (by assumption)) | (dsimp only; exact Nat.le_of_eq (waitingAt_drawn (by assumption)).symm) | (dsimp only; exact Nat.le_trans (run_ok (by assumption)) (run_ok (by assumption))) | (dsimp only; exact Nat.le_trans (run_ok (by assumption)) (run_halt (by assumption)))))
    | split at h
theorem retime_drawn (m : Machine) (k : Nat) (t : Timer) (a b : Nat) : (retime m k t a b).2.world.drawn = m.world.drawn := by
  unfold retime drain
  simp only
  repeat' split
  all_goals rfl
theorem opened_drawn {m m' : Machine} {v : Addr} (h : timerOp.opened m v = some m') : m'.world.drawn = m.world.drawn := by
  unfold timerOp.opened at h
  repeat' split at h
  all_goals (first | (cases h; done) | (injection h with h; subst h; rfl))
theorem named_drawn {m : Machine} {v : Addr} {f : Nat → Timer → Value × Machine} {r : Value × Machine} (hf : ∀ k t, (f k t).2.world.drawn = m.world.drawn) (h : timerOp.named m v f = .ok r) : r.2.world.drawn = m.world.drawn := by
  unfold timerOp.named at h
  split at h
  · injection h with h; subst h; exact hf _ _
  · cases h
theorem timerOp_drawn {m : Machine} {op : TimerOp} {r : Value × Machine} (h : timerOp m op = .ok r) : m.world.drawn ≤ r.2.world.drawn := by
  unfold timerOp at h
  split at h
  · split at h
    · injection h with h; subst h; exact Nat.le_refl _
    · split at h
      · split at h
        · cases h
        · injection h with h; subst h; exact Nat.le_refl _
      · cases h
  · exact Nat.le_of_eq (named_drawn (fun k t => retime_drawn _ _ _ _ _) h).symm
  · split at h
    · rename_i e
      have h1 := opened_drawn e
      exact Nat.le_of_eq (named_drawn (fun k t => (retime_drawn _ _ _ _ _).trans h1) h).symm
    · cases h
  · injection h with h; subst h; exact Nat.le_refl _
theorem throw_drawn {fr : Frame} {s : String} {w w' : World} {g : Goroutine} {es : Array Event} (h : endThrow fr s w = .go g w' es) : w.drawn ≤ w'.drawn := by
  have h2 := congrArg gw h
  rw [gw_throw] at h2
  simp only [gw] at h2
  rw [h2]
  exact Nat.le_refl _
theorem runT_drawn (p : Program) (m m' : Machine) (i : Nat) (b : Bool) (h : (runT p m i b).1 = .next m') : m.world.drawn ≤ m'.world.drawn := by
  simp only [runT] at h
  revert h
  generalize m.gs.swapAt! _ _ = gg
  have hs := stepG_drawn p (i == 0) gg.1 m.world b
  revert hs
  generalize stepG p _ gg.1 m.world b = s
  intro hs h
  cases s <;> simp only [] at h
  all_goals (simp only [gw] at hs)
  all_goals first
    | (simp at h; done)
    | (exact Nat.le_trans hs (communicate_drawn _ _ _ _ _ _ _ _ _ _ h))
    | (exact Nat.le_trans hs (look_drawn _ _ _ _ _ h))
    | (simp only [Stepped.next.injEq] at h; subst h; exact hs)
    | (repeat' first
        | (simp at h; done)
        | (simp only [Stepped.next.injEq] at h; subst h; first | exact hs | (dsimp only; exact Nat.le_trans hs (timerOp_drawn (r := (_, _)) (by assumption))) | (dsimp only; exact Nat.le_trans hs (throw_drawn (by assumption))))
        | split at h)
theorem run_adv {α : Type} {p : Program} {s : Sem α} {w1 w' : World} {gs : Array Goroutine} {rest : Rest} {k : Nat} {v : α} (h : s.run p (({ world := w1, gs := gs, rest := rest } : Machine).advanceTo k).world = .ok v w') : w1.drawn ≤ w'.drawn := run_ok (w := (({ world := w1, gs := gs, rest := rest } : Machine).advanceTo k).world) h
set_option maxHeartbeats 4000000 in
theorem askOn_goroutine_drawn (p : Program) (m m' : Machine) (i : Nat) (h : askOn p m = .goroutine m' i) : m.world.drawn ≤ m'.world.drawn := by
  unfold askOn at h
  simp only [] at h
  repeat' first
    | (simp at h; done)
    | (simp only [Move.goroutine.injEq] at h; obtain ⟨h, _⟩ := h; subst h; ((dsimp only [Machine.advanceTo]; repeat (first | exact Nat.le_refl _ | refine Nat.le_trans (run_ok (by assumption)) ?_ | refine Nat.le_trans (run_adv (by assumption)) ?_))); done)
    | split at h
set_option maxHeartbeats 4000000 in
theorem askOn_machine_drawn (p : Program) (m m' : Machine) (ops : Array MemOp) (h : askOn p m = .machine (.next m') ops) : m.world.drawn ≤ m'.world.drawn := by
  unfold askOn at h
  simp only [] at h
  repeat' first
    | (simp at h; done)
    | (simp only [Move.machine.injEq] at h; have h2 := serve_drawn _ _ _ _ h.1; refine Nat.le_trans ?_ h2; ((dsimp only [Machine.advanceTo]; repeat (first | exact Nat.le_refl _ | refine Nat.le_trans (run_ok (by assumption)) ?_ | refine Nat.le_trans (run_adv (by assumption)) ?_))); done)
    | (simp only [Move.machine.injEq, Stepped.next.injEq] at h; obtain ⟨h, _⟩ := h; subst h; ((dsimp only [Machine.advanceTo]; repeat (first | exact Nat.le_refl _ | refine Nat.le_trans (run_ok (by assumption)) ?_ | refine Nat.le_trans (run_adv (by assumption)) ?_))); done)
    | split at h
def MoveD (n : Nat) : Move → Prop
  | .goroutine m _ => n ≤ m.world.drawn
  | .machine s _ => NextD n s
theorem askOn_drawn (p : Program) (m : Machine) : MoveD m.world.drawn (askOn p m) := by
  cases h : askOn p m with
  | goroutine m' i => exact askOn_goroutine_drawn p m m' i h
  | machine s ops =>
    cases s with
    | next m' => exact askOn_machine_drawn p m m' ops h
    | ended o w => trivial
theorem MoveD.mono {n k : Nat} {v : Move} (h : MoveD n v) (hk : k ≤ n) : MoveD k v := by
  cases v with
  | goroutine m i => exact Nat.le_trans hk h
  | machine s ops =>
    cases s with
    | next m' => exact Nat.le_trans hk h
    | ended o w => trivial
theorem ask_drawn2 (p : Program) (m : Machine) : MoveD m.world.drawn (ask p m) := by
  unfold ask
  split
  · split
    · trivial
    · split
      · rename_i w1 e1 x m1 e2
        exact (askOn_drawn p _).mono (Nat.le_trans (run_ok e1) (look_drawn _ _ _ _ _ e2))
      · rename_i w1 e1 x hne
        show NextD _ _
        cases hl : look p m.gs m.rest w1 with
        | next m1 => exact absurd hl (hne m1)
        | ended o w => trivial
    · rename_i e1 _
      exact (askOn_drawn p _).mono (run_ok (by assumption))
  · exact askOn_drawn p m
theorem move_drawn (p : Program) (m : Machine) : MoveD m.world.drawn (move p m) := by
  unfold move
  repeat' split
  all_goals (first | exact Nat.le_refl _ | trivial | exact ask_drawn2 p _)
theorem step_drawn {p : Program} {m m' : Machine} (h : step p m = .next m') : m.world.drawn ≤ m'.world.drawn := by
  unfold step stepT at h
  have hm := move_drawn p m
  cases hv : move p m with
  | goroutine m1 i =>
    rw [hv] at h hm
    exact Nat.le_trans hm (runT_drawn p m1 m' i true h)
  | machine s ops =>
    rw [hv] at h hm
    simp only at h
    subst h
    exact hm
theorem steps_drawn {p : Program} : ∀ (n : Nat) {m m' : Machine}, runN p n m = .next m' → m.world.drawn ≤ m'.world.drawn
  | 0, m, m', h => by simp only [runN, Stepped.next.injEq] at h; subst h; exact Nat.le_refl _
  | n + 1, m, m', h => by
    unfold runN at h
    cases hs : step p m with
    | next m1 => rw [hs] at h; exact Nat.le_trans (step_drawn hs) (steps_drawn n h)
    | ended o w => rw [hs] at h; cases h
/-- A CALL NEVER TAKES BACK A QUESTION OF THE TAPE. -/
theorem Calls_drawn {p : Program} {f : FuncId} {args : Array Value} {w : World} {R : Ending → World → Prop} (h : Calls p f args w R) (hR : ∀ e w', R e w' → e ≠ .outgrown) : Calls p f args w fun e w' => R e w' ∧ w.drawn ≤ w'.drawn := by
  intro cs
  obtain ⟨e, w', fr, hr, hc, hf, hl⟩ := h cs
  refine ⟨e, w', fr, ⟨hr, ?_⟩, hc, hf, hl⟩
  cases e with
  | outgrown => exact absurd rfl (hR _ _ hr)
  | returned v =>
    obtain ⟨n, hn⟩ := hc
    exact steps_drawn n hn
  | panicked c =>
    obtain ⟨n, hn⟩ := hc
    exact steps_drawn n hn
end Go.Proofs.YthihppocokkoiaaDoor
