import PyProof.Rows.All
import Wide.All
import OpenK.AllK
import Wide.FinOn
import Lean
import PySem.Challenge.RW_qu0026_01
set_option Elab.async false
set_option linter.all false
section
open PySem PyProof.Rows
namespace Mine
open PySem.Sre PySem.Builtin.Re

/-! the regex machine: steps -/
def iter : Nat → Sre.M → Sre.M
  | 0, m => m
  | n + 1, m => iter n m.step
theorem iter_add (a b : Nat) (m : Sre.M) : iter (a + b) m = iter b (iter a m) := by
  induction a generalizing m with
  | zero => simp [iter]
  | succ a ih => rw [Nat.succ_add]; exact ih m.step
theorem step_done {m : Sre.M} (h : m.outcome.isSome = true) : m.step = m := by
  unfold Sre.M.step; rw [if_pos h]
theorem iter_done {m : Sre.M} (h : m.outcome.isSome = true) : ∀ n, iter n m = m
  | 0 => rfl
  | n + 1 => by show iter n m.step = m; rw [step_done h]; exact iter_done h n
theorem runFor_iter : ∀ (n : Nat) (m : Sre.M), m.runFor n = iter n m
  | 0, m => rfl
  | n + 1, m => by
    unfold Sre.M.runFor
    by_cases h : m.outcome.isSome = true
    · rw [if_pos h, iter_done h]
    · rw [if_neg h]; exact runFor_iter n m.step

theorem drive {M : Model} {A : Around} {E : Value → Shared → Prop} {s : Shared} {Q : Sre.M → Shared → Prop} :
    ∀ (turns : Nat) (m : Sre.M) (k : Nat), (iter k m).outcome.isSome = true → k ≤ 4 * turns → 0 < turns → Q (iter k m) s → wpAny M A (reDrive turns m) Q E s
  | 0, _, _, _, _, h, _ => absurd h (Nat.lt_irrefl 0)
  | t + 1, m, k, ho, hk, _, hQ => by
    show wpAny M A (if (m.runFor reTurnSteps).outcome.isSome = true then pure (m.runFor reTurnSteps) else (do rule "sre.turn"; reDrive t (m.runFor reTurnSteps))) Q E s
    have e : m.runFor reTurnSteps = iter 4 m := runFor_iter 4 m
    rw [e]
    by_cases h : (iter 4 m).outcome.isSome = true
    · rw [if_pos h]
      refine wpAny_pure ?_
      have : iter 4 m = iter k m := by
        rcases Nat.le_total k 4 with hl | hl
        · obtain ⟨d, hd⟩ := Nat.le.dest hl
          rw [← hd, iter_add, iter_done ho]
        · obtain ⟨d, rfl⟩ := Nat.le.dest hl
          rw [iter_add, iter_done h]
      rw [this]; exact hQ
    · rw [if_neg h]
      refine wpAny_bind (wpAny_rule ?_)
      have hk4 : 4 < k := by
        rcases Nat.lt_or_ge 4 k with hl | hl
        · exact hl
        · exfalso
          apply h
          obtain ⟨d, e⟩ := Nat.le.dest hl
          rw [← e, iter_add, iter_done ho]; exact ho
      obtain ⟨d, rfl⟩ := Nat.le.dest (Nat.le_of_lt hk4)
      rw [iter_add] at ho hQ
      exact drive t _ d ho (by omega) (by omega) hQ

theorem quiet_loop {M : Model} {A : Around} {E : Value → Shared → Prop} {s : Shared} (c : Nat → Bool) (nm : Nat → String) (f : Nat → PUnit → Sem (ForInStep PUnit))
    (hf : ∀ i u, f i u = if c i = true then (do rule (nm i); pure (ForInStep.yield ⟨⟩)) else pure (ForInStep.yield ⟨⟩)) :
    ∀ (l : List Nat) (Q : PUnit → Shared → Prop), Q ⟨⟩ s → wpAny M A (forIn l (⟨⟩ : PUnit) f) Q E s
  | [], Q, h => wpAny_pure h
  | a :: l, Q, h => by
    rw [List.forIn_cons, hf]
    refine wpAny_bind ?_
    by_cases hc : c a = true
    · rw [if_pos hc]
      exact wpAny_bind (wpAny_rule (wpAny_pure (quiet_loop c nm f hf l Q h)))
    · rw [if_neg hc]
      exact (wpAny_pure (quiet_loop c nm f hf l Q h))

theorem run_end {M : Model} {A : Around} {E : Value → Shared → Prop} {s : Shared} {Q : Option Sre.M → Shared → Prop} {m m' : Sre.M} (k : Nat) (h : iter k m = m') (hk : k ≤ 2 ^ 66)
    (hm : (m'.outcome = some .matched ∧ Q (some m') s) ∨ (m'.outcome = some .failed ∧ Q none s)) : wpAny M A (reRunToEnd m) Q E s := by
  subst h
  unfold reRunToEnd
  refine wpAny_bind (drive (2 ^ 64) m k ?_ (by omega) (by decide) ?_)
  · rcases hm with h | h <;> rw [h.1] <;> rfl
  refine wpAny_bind (quiet_loop (fun i => (iter k m).seen.has i) (fun i => Sre.names.getD i "") _ (fun _ _ => rfl) _ _ ?_)
  rcases hm with h | h
  · rw [h.1]; exact wpAny_pure h.2
  · rw [h.1]; exact wpAny_pure h.2
end Mine
end
section
open PySem PyProof.Rows
namespace Mine
open PySem.Sre PySem.Builtin.Re

/-- a machine state with the parts that turn -/
abbrev mk (code text : Array Nat) (lim last start : Nat) (must : Bool) (pc pos handed : Nat) (outer : Bool) (marks : Array (Option Nat)) (lm li : Int) (fs : List Sre.Frame) (wt : Nat) (ans : Option Bool) (se : Sre.Seen) (out : Option Sre.Outcome) : Sre.M :=
  { code := code, text := text, lim := lim, start := start, lastStart := last, wholeText := false, mustAdvance := must, pc := pc, pos := pos, handed := handed, outermost := outer, marks := marks,
    lastmark := lm, lastindex := li, loops := #[], inner := none, frames := fs, weight := wt, answer := ans, seen := se, outcome := out }

abbrev gb (pc pos : Nat) (o : Bool) (n : Nat) (lm li : Int) : Sre.Frame := { wait := .giveBack, pc := pc, pos := pos, outermost := o, count := n, kept := { lastmark := lm, lastindex := li, whole := false, marks := #[] } }
abbrev nx (pc pos : Nat) (o : Bool) : Sre.Frame := { wait := .nextStart, pc := pc, pos := pos, outermost := o }

section
variable {code text : Array Nat} {lim last st : Nat} {must : Bool} {pc pos hd : Nat} {o : Bool} {mks : Array (Option Nat)} {lm li : Int} {fs : List Sre.Frame} {wt : Nat} {se : Sre.Seen}

theorem exec_of (hpc : pc < code.size) : Sre.M.step (mk code text lim last st must pc pos hd o mks lm li fs wt none se none) = Sre.M.exec (mk code text lim last st must pc pos hd o mks lm li fs wt none se none) := by
  show (if pc < code.size then _ else _) = _
  rw [if_pos hpc]

theorem at_ok (hpc : pc < code.size) (h0 : code.getD pc 0 = 6) (h1 : code.getD (pc + 1) 0 = 0) :
    ∃ se', Sre.M.step (mk code text lim last st must pc 0 hd o mks lm li fs wt none se none) = mk code text lim last st must (pc + 2) 0 hd o mks lm li fs wt none se' none := by
  refine ⟨(se.add 6).add 43, ?_⟩
  rw [exec_of hpc]
  show (match ops[code.getD pc 0]? with | none => _ | some op => _) = _
  rw [h0]
  show (match Sre.M.isAt _ (code.getD (pc + 1) 0) with | .error why => _ | .ok yes => _) = _
  rw [h1]
  show mk code text lim last st must (pc + 2) 0 hd o mks lm li fs wt none (((se.add (code.getD pc 0)).add (43 + code.getD (pc + 1) 0))) none = _
  rw [h0, h1]
theorem at_no (hpc : pc < code.size) (h0 : code.getD pc 0 = 6) (h1 : code.getD (pc + 1) 0 = 0) (hp : 0 < pos) :
    ∃ se', Sre.M.step (mk code text lim last st must pc pos hd o mks lm li fs wt none se none) = mk code text lim last st must pc pos hd o mks lm li fs wt (some false) se' none := by
  refine ⟨(se.add 6).add 43, ?_⟩
  obtain ⟨p, rfl⟩ : ∃ p, pos = p + 1 := ⟨pos - 1, by omega⟩
  rw [exec_of hpc]
  show (match ops[code.getD pc 0]? with | none => _ | some op => _) = _
  rw [h0]
  show (match Sre.M.isAt _ (code.getD (pc + 1) 0) with | .error why => _ | .ok yes => _) = _
  rw [h1]
  show mk code text lim last st must pc (p + 1) hd o mks lm li fs wt (some false) (((se.add (code.getD pc 0)).add (43 + code.getD (pc + 1) 0))) none = _
  rw [h0, h1]
theorem lit_ok {c : Nat} (hpc : pc < code.size) (h0 : code.getD pc 0 = 16) (h1 : code.getD (pc + 1) 0 = c) (hp : pos < lim) (hc : text.getD pos 0 = c) :
    ∃ se', Sre.M.step (mk code text lim last st must pc pos hd o mks lm li fs wt none se none) = mk code text lim last st must (pc + 2) (pos + 1) hd o mks lm li fs wt none se' none := by
  refine ⟨se.add (code.getD pc 0), ?_⟩
  rw [exec_of hpc]
  have ha : Sre.accepts code pc (text.getD pos 0) (se.add (code.getD pc 0)) = .ok (true, se.add (code.getD pc 0)) := by
    unfold Sre.accepts
    rw [h0]
    show Except.ok (text.getD pos 0 == code.getD (pc + 1) 0, _) = _
    rw [h1, hc, beq_self_eq_true]
  have hw : Sre.itemWidth code pc = 2 := by unfold Sre.itemWidth; rw [h0]; rfl
  show (match ops[code.getD pc 0]? with | none => _ | some op => _) = _
  have e0 : ops[code.getD pc 0]? = some Op.LITERAL := by rw [h0]; rfl
  rw [e0]
  show (if pos ≥ lim then _ else _) = _
  rw [if_neg (by omega)]
  show (match Sre.accepts code pc (text.getD pos 0) (se.add (code.getD pc 0)) with | .error why => _ | .ok (false, seen) => _ | .ok (true, seen) => _) = _
  rw [ha]
  show mk code text lim last st must (pc + Sre.itemWidth code pc) (pos + 1) hd o mks lm li fs wt none _ none = _
  rw [hw]
theorem lit_no {c : Nat} (hpc : pc < code.size) (h0 : code.getD pc 0 = 16) (h1 : code.getD (pc + 1) 0 = c) (hc : pos < lim → text.getD pos 0 ≠ c) :
    ∃ se', Sre.M.step (mk code text lim last st must pc pos hd o mks lm li fs wt none se none) = mk code text lim last st must pc pos hd o mks lm li fs wt (some false) se' none := by
  refine ⟨se.add (code.getD pc 0), ?_⟩
  rw [exec_of hpc]
  show (match ops[code.getD pc 0]? with | none => _ | some op => _) = _
  have e0 : ops[code.getD pc 0]? = some Op.LITERAL := by rw [h0]; rfl
  rw [e0]
  show (if pos ≥ lim then _ else _) = _
  by_cases hp : pos ≥ lim
  · rw [if_pos hp]; rfl
  · have ha : Sre.accepts code pc (text.getD pos 0) (se.add (code.getD pc 0)) = .ok (false, se.add (code.getD pc 0)) := by
      unfold Sre.accepts
      rw [h0]
      show Except.ok (text.getD pos 0 == code.getD (pc + 1) 0, _) = _
      rw [h1, beq_eq_false_iff_ne.mpr (hc (by omega))]
    rw [if_neg hp]
    show (match Sre.accepts code pc (text.getD pos 0) (se.add (code.getD pc 0)) with | .error why => _ | .ok (false, seen) => _ | .ok (true, seen) => _) = _
    rw [ha]
    rfl
theorem rep_ok {skip least most n : Nat} (hpc : pc < code.size) (h0 : code.getD pc 0 = 24) (h1 : code.getD (pc + 1) 0 = skip) (h2 : code.getD (pc + 2) 0 = least) (h3 : code.getD (pc + 3) 0 = most)
    (hp : pos + least ≤ lim) (hw : wt ≤ 100) (hr : ∀ se, ∃ se1, Sre.run code text (pc + 4) (min most (lim - pos)) pos 0 se = .ok (n, se1)) (hn : least ≤ n) :
    ∃ se', Sre.M.step (mk code text lim last st must pc pos hd o mks lm li fs wt none se none) = mk code text lim last st must (pc + 1 + skip) (pos + n) (pos + n) o mks lm li (gb pc (pos + n) o n lm li :: fs) (wt + 1) none se' none := by
  obtain ⟨se1, hs⟩ := hr ((se.add (code.getD pc 0)).add (code.getD (pc + 4) 0))
  refine ⟨se1, ?_⟩
  have hroom : ((lim : Int) - pos).toNat = lim - pos := by omega
  rw [exec_of hpc]
  show (match ops[code.getD pc 0]? with | none => _ | some op => _) = _
  have e0 : ops[code.getD pc 0]? = some Op.REPEAT_ONE := by rw [h0]; rfl
  rw [e0]
  show (if ((code.getD (pc + 2) 0 : Nat) : Int) > ((lim : Int) - pos) then _ else _) = _
  rw [h2, if_neg (by omega)]
  show (match Sre.run code text (pc + 4) (min (code.getD (pc + 3) 0) ((lim : Int) - pos).toNat) pos 0 ((se.add (code.getD pc 0)).add (code.getD (pc + 4) 0)) with | .error why => _ | .ok (n, seen) => _) = _
  rw [hroom, h3, hs]
  show (if n < code.getD (pc + 2) 0 then _ else _) = _
  rw [h2, if_neg (by omega)]
  show (if wt + 1 + 0 > 16777216 then _ else _) = _
  rw [if_neg (by omega)]
  show mk code text lim last st must (pc + 1 + code.getD (pc + 1) 0) (pos + n) (pos + n) o mks lm li (gb pc (pos + n) o n lm li :: fs) (wt + 1) none se1 none = _
  rw [h1]
theorem rep_no {least most n : Nat} (hpc : pc < code.size) (h0 : code.getD pc 0 = 24) (h2 : code.getD (pc + 2) 0 = least) (h3 : code.getD (pc + 3) 0 = most)
    (hp : pos ≤ lim) (hr : pos + least ≤ lim → (∀ se, ∃ se1, Sre.run code text (pc + 4) (min most (lim - pos)) pos 0 se = .ok (n, se1)) ∧ n < least) :
    ∃ se', Sre.M.step (mk code text lim last st must pc pos hd o mks lm li fs wt none se none) = mk code text lim last st must pc pos hd o mks lm li fs wt (some false) se' none := by
  have hroom : ((lim : Int) - pos).toNat = lim - pos := by omega
  by_cases hq : pos + least ≤ lim
  · obtain ⟨hr, hn⟩ := hr hq
    obtain ⟨se1, hs⟩ := hr ((se.add (code.getD pc 0)).add (code.getD (pc + 4) 0))
    refine ⟨se1, ?_⟩
    rw [exec_of hpc]
    show (match ops[code.getD pc 0]? with | none => _ | some op => _) = _
    have e0 : ops[code.getD pc 0]? = some Op.REPEAT_ONE := by rw [h0]; rfl
    rw [e0]
    show (if ((code.getD (pc + 2) 0 : Nat) : Int) > ((lim : Int) - pos) then _ else _) = _
    rw [h2, if_neg (by omega)]
    show (match Sre.run code text (pc + 4) (min (code.getD (pc + 3) 0) ((lim : Int) - pos).toNat) pos 0 ((se.add (code.getD pc 0)).add (code.getD (pc + 4) 0)) with | .error why => _ | .ok (n, seen) => _) = _
    rw [hroom, h3, hs]
    show (if n < code.getD (pc + 2) 0 then _ else _) = _
    rw [h2, if_pos hn]
    rfl
  · refine ⟨se.add (code.getD pc 0), ?_⟩
    rw [exec_of hpc]
    show (match ops[code.getD pc 0]? with | none => _ | some op => _) = _
    have e0 : ops[code.getD pc 0]? = some Op.REPEAT_ONE := by rw [h0]; rfl
    rw [e0]
    show (if ((code.getD (pc + 2) 0 : Nat) : Int) > ((lim : Int) - pos) then _ else _) = _
    rw [h2, if_pos (by omega)]
    rfl
theorem mark_0 {a b : Option Nat} (hpc : pc < code.size) (h0 : code.getD pc 0 = 17) (h1 : code.getD (pc + 1) 0 = 0) :
    ∃ se', Sre.M.step (mk code text lim last st must pc pos hd o #[a, b] (-1) li fs wt none se none) = mk code text lim last st must (pc + 2) pos hd o #[some pos, b] 0 li fs wt none se' none := by
  refine ⟨se.add (code.getD pc 0), ?_⟩
  rw [exec_of hpc]
  show (match ops[code.getD pc 0]? with | none => _ | some op => _) = _
  have e0 : ops[code.getD pc 0]? = some Op.MARK := by rw [h0]; rfl
  rw [e0]
  show Sre.M.mark _ (code.getD (pc + 1) 0) = _
  rw [h1]
  rfl
theorem mark_1 {a b : Option Nat} (hpc : pc < code.size) (h0 : code.getD pc 0 = 17) (h1 : code.getD (pc + 1) 0 = 1) :
    ∃ se', Sre.M.step (mk code text lim last st must pc pos hd o #[a, b] 0 li fs wt none se none) = mk code text lim last st must (pc + 2) pos hd o #[a, some pos] 1 1 fs wt none se' none := by
  refine ⟨se.add (code.getD pc 0), ?_⟩
  rw [exec_of hpc]
  show (match ops[code.getD pc 0]? with | none => _ | some op => _) = _
  have e0 : ops[code.getD pc 0]? = some Op.MARK := by rw [h0]; rfl
  rw [e0]
  show Sre.M.mark _ (code.getD (pc + 1) 0) = _
  rw [h1]
  rfl
theorem succ_ok (hpc : pc < code.size) (h0 : code.getD pc 0 = 1) (hm : must = true → pos ≠ st) :
    ∃ se', Sre.M.step (mk code text lim last st must pc pos hd o mks lm li fs wt none se none) = mk code text lim last st must pc pos pos o mks lm li fs wt (some true) se' none := by
  refine ⟨se.add (code.getD pc 0), ?_⟩
  rw [exec_of hpc]
  show (match ops[code.getD pc 0]? with | none => _ | some op => _) = _
  have e0 : ops[code.getD pc 0]? = some Op.SUCCESS := by rw [h0]; rfl
  rw [e0]
  show (if (o && ((false && (pos != lim)) || (must && (pos == st)))) = true then _ else _) = _
  rw [if_neg]
  · rfl
  · cases must with
    | false => simp
    | true => simp [hm rfl]

/-! answers handed down -/
theorem back_yes {f : Sre.Frame} (hf : f.wait = .giveBack ∨ f.wait = .nextStart) (hk : f.kept.marks.size = 0) :
    Sre.M.step (mk code text lim last st must pc pos hd o mks lm li (f :: fs) (wt + 1) (some true) se none) = mk code text lim last st must f.pc f.pos hd f.outermost mks lm li fs wt (some true) se none := by
  have hwt : wt + 1 - (1 + f.kept.marks.size) = wt := by omega
  obtain ⟨w, fpc, fp, fo, fc, fk, fl, fb⟩ := f
  show Sre.M.resume (mk code text lim last st must fpc fp hd fo mks lm li fs (wt + 1 - (1 + fk.marks.size)) none se none) _ true = _
  dsimp only at hk hwt hf
  rw [hwt]
  rcases hf with rfl | rfl <;> rfl
theorem back_end {b : Bool} : Sre.M.step (mk code text lim last st must pc pos hd o mks lm li [] wt (some b) se none) = mk code text lim last st must pc pos hd o mks lm li [] wt (some b) se (some (if b then .matched else .failed)) := rfl
theorem back_gb_end {fpc fp n : Nat} {fo : Bool} {l i : Int} {least : Nat} (h2 : code.getD (fpc + 2) 0 = least) (hn : n ≤ least) :
    Sre.M.step (mk code text lim last st must pc pos hd o mks lm li (gb fpc fp fo n l i :: fs) (wt + 1) (some false) se none) = mk code text lim last st must fpc fp hd fo mks l i fs wt (some false) se none := by
  show (if (n : Int) - 1 < ((code.getD (fpc + 2) 0 : Nat) : Int) then _ else _) = _
  rw [h2, if_pos (by omega)]
  rfl
theorem back_gb {fpc fp n : Nat} {fo : Bool} {l i : Int} {least skip : Nat} (h1 : code.getD (fpc + 1) 0 = skip) (h2 : code.getD (fpc + 2) 0 = least) (hn : least < n + 1) (hw : wt ≤ 100) :
    Sre.M.step (mk code text lim last st must pc pos hd o mks lm li (gb fpc fp fo (n + 1) l i :: fs) (wt + 1) (some false) se none) = mk code text lim last st must (fpc + 1 + skip) (fp - 1) (fp - 1) fo mks l i (gb fpc (fp - 1) fo n l i :: fs) (wt + 1) none se none := by
  show (if ((n + 1 : Nat) : Int) - 1 < ((code.getD (fpc + 2) 0 : Nat) : Int) then _ else _) = _
  rw [h2, if_neg (by omega)]
  show (if wt + 1 + 0 > 16777216 then _ else _) = _
  rw [if_neg (by omega)]
  show mk code text lim last st must (fpc + 1 + code.getD (fpc + 1) 0) (fp - 1) (fp - 1) fo mks l i ({ gb fpc (fp - 1) fo n l i with count := ((n + 1 : Nat) : Int) - 1 } :: fs) (wt + 1) none se none = _
  rw [h1]
  have : (((n + 1 : Nat) : Int) - 1) = n := by omega
  rw [this]
theorem back_nx_end {fpc fp : Nat} {fo : Bool} (h : last ≤ fp) :
    Sre.M.step (mk code text lim last st must pc pos hd o mks lm li (nx fpc fp fo :: fs) (wt + 1) (some false) se none) = mk code text lim last st must fpc fp hd fo mks lm li fs wt (some false) se none := by
  show (if fp < last then _ else _) = _
  rw [if_neg (by omega)]
  rfl
theorem back_nx {fpc fp : Nat} {fo : Bool} (h : fp < last) (hw : wt ≤ 100) (hh : ∀ m : Sre.M, m.code = code → m.hasFirstSet = false) :
    Sre.M.step (mk code text lim last st must pc pos hd o mks lm li (nx fpc fp fo :: fs) (wt + 1) (some false) se none) = mk code text lim last (fp + 1) false fpc (fp + 1) (fp + 1) false mks (-1) (-1) (nx fpc (fp + 1) false :: fs) (wt + 1) none se none := by
  show (if fp < last then _ else _) = _
  rw [if_pos h]
  show (if (!Sre.M.hasFirstSet _) = true then _ else _) = _
  rw [hh _ rfl]
  show (if wt + 1 + 0 > 16777216 then _ else _) = _
  rw [if_neg (by omega)]
  rfl
end
end Mine
end
section
open PySem PyProof.Rows
namespace Mine
open PySem.Sre PySem.Builtin.Re

/-! sets -/
def SetIs (code : Array Nat) (i f : Nat) (yes : Bool) (c : Nat) (r : Bool) : Prop := ∀ seen, ∃ seen', Sre.inSet code c f i yes seen = .ok (r, seen')
section
variable {code : Array Nat} {i f : Nat} {yes : Bool} {c : Nat} {r : Bool}
theorem SetIs.fail (h : code.getD i 0 = 0) : SetIs code i (f + 1) yes c (!yes) := fun seen => by
  refine ⟨seen.add 0, ?_⟩
  unfold Sre.inSet
  dsimp only [Nat.add_zero]
  rw [h]; rfl
theorem SetIs.neg (h : code.getD i 0 = 21) (k : SetIs code (i + 1) f (!yes) c r) : SetIs code i (f + 1) yes c r := fun seen => by
  obtain ⟨se, e⟩ := k (seen.add 21)
  refine ⟨se, ?_⟩
  unfold Sre.inSet
  dsimp only [Nat.add_zero]
  rw [h]; exact e
theorem SetIs.lit {x : Nat} (h : code.getD i 0 = 16) (h1 : code.getD (i + 1) 0 = x) (k : c ≠ x → SetIs code (i + 2) f yes c r) (hr : c = x → r = yes) : SetIs code i (f + 1) yes c r := fun seen => by
  by_cases hc : c = x
  · refine ⟨seen.add 16, ?_⟩
    unfold Sre.inSet
    dsimp only [Nat.add_zero]
    rw [h]
    show (if (c == code.getD (i + 1) 0) = true then _ else _) = _
    rw [h1, if_pos (by simp [hc]), hr hc]
  · obtain ⟨se, e⟩ := k hc (seen.add 16)
    refine ⟨se, ?_⟩
    unfold Sre.inSet
    dsimp only [Nat.add_zero]
    rw [h]
    show (if (c == code.getD (i + 1) 0) = true then _ else _) = _
    rw [h1, if_neg (by simp [hc])]; exact e
theorem SetIs.cat (h : code.getD i 0 = 8) (h1 : code.getD (i + 1) 0 = 12) (k : Unicode.isSpace c = false → SetIs code (i + 2) f yes c r) (hr : Unicode.isSpace c = true → r = yes) : SetIs code i (f + 1) yes c r := fun seen => by
  have hcat : Sre.category 12 c = .ok (Unicode.isSpace c) := by
    show Except.ok (Unicode.isSpace c != false) = _
    cases Unicode.isSpace c <;> rfl
  cases hc : Unicode.isSpace c with
  | true =>
    refine ⟨(seen.add 8).add 67, ?_⟩
    unfold Sre.inSet
    dsimp only [Nat.add_zero]
    rw [h]
    show (Sre.category (code.getD (i + 1) 0) c >>= fun b => if b = true then Except.ok (yes, (seen.add 8).add (55 + code.getD (i + 1) 0)) else Sre.inSet code c f (i + 2) yes ((seen.add 8).add (55 + code.getD (i + 1) 0))) = _
    rw [h1]
    rw [hcat, hc, hr hc]
    rfl
  | false =>
    obtain ⟨se, e⟩ := k hc ((seen.add 8).add 67)
    refine ⟨se, ?_⟩
    unfold Sre.inSet
    dsimp only [Nat.add_zero]
    rw [h]
    show (Sre.category (code.getD (i + 1) 0) c >>= fun b => if b = true then Except.ok (yes, (seen.add 8).add (55 + code.getD (i + 1) 0)) else Sre.inSet code c f (i + 2) yes ((seen.add 8).add (55 + code.getD (i + 1) 0))) = _
    rw [h1]
    rw [hcat, hc]
    exact e
theorem SetIs.chars {b : Bool} (h : code.getD i 0 = 9) (hb : (decide (c < 256) && (code.getD (i + (1 + c / 32)) 0).testBit (c % 32)) = b) (k : b = false → SetIs code (i + 9) f yes c r) (hr : b = true → r = yes) : SetIs code i (f + 1) yes c r := fun seen => by
  cases b with
  | true =>
    refine ⟨seen.add 9, ?_⟩
    unfold Sre.inSet
    dsimp only [Nat.add_zero]
    rw [h]
    show (if (decide (c < 256) && (code.getD (i + (1 + c / 32)) 0).testBit (c % 32)) = true then _ else _) = _
    rw [hb, if_pos rfl, hr rfl]
  | false =>
    obtain ⟨se, e⟩ := k rfl (seen.add 9)
    refine ⟨se, ?_⟩
    unfold Sre.inSet
    dsimp only [Nat.add_zero]
    rw [h]
    show (if (decide (c < 256) && (code.getD (i + (1 + c / 32)) 0).testBit (c % 32)) = true then _ else _) = _
    rw [hb, if_neg Bool.false_ne_true]; exact e
end

/-- the item at i takes a sign as P says -/
def AccIs (code : Array Nat) (i : Nat) (P : Nat → Bool) : Prop := ∀ c seen, ∃ seen', Sre.accepts code i c seen = .ok (P c, seen')
theorem AccIs.of {code : Array Nat} {i : Nat} {P : Nat → Bool} (h : code.getD i 0 = 13) (k : ∀ c, SetIs code (i + 2) code.size true c (P c)) : AccIs code i P := fun c seen => by
  obtain ⟨se, e⟩ := k c seen
  refine ⟨se, ?_⟩
  unfold Sre.accepts
  dsimp only
  rw [h]; exact e

theorem getD_mid (a b : List Nat) (x : Nat) : (a ++ x :: b).toArray.getD a.length 0 = x := by simp
/-- a run over signs -/
theorem run_list {code : Array Nat} {i : Nat} {P : Nat → Bool} (H : AccIs code i P) {c : List Nat} : ∀ (b a : List Nat) (n found : Nat) (seen : Sre.Seen), b.length ≤ n → (∀ x ∈ b, P x = true) → (b.length < n → ∃ x r, c = x :: r ∧ P x = false) →
    ∃ se, Sre.run code (a ++ b ++ c).toArray i n a.length found seen = .ok (found + b.length, se)
  | [], a, 0, found, seen, _, _, _ => ⟨seen, rfl⟩
  | [], a, n + 1, found, seen, _, _, hc => by
    obtain ⟨x, r, rfl, hx⟩ := hc (by simp)
    obtain ⟨se, e⟩ := H x seen
    refine ⟨se, ?_⟩
    unfold Sre.run
    have hg : (a ++ [] ++ x :: r).toArray.getD a.length 0 = x := by simp
    rw [hg, e, hx]
    rfl
  | y :: b, a, n + 1, found, seen, hn, hb, hc => by
    obtain ⟨se, e⟩ := H y seen
    obtain ⟨se', e'⟩ := run_list H b (a ++ [y]) n (found + 1) se (by simpa using hn) (fun x hx => hb x (List.mem_cons_of_mem _ hx)) (fun h => hc (by simpa using h))
    refine ⟨se', ?_⟩
    unfold Sre.run
    have hg : (a ++ y :: b ++ c).toArray.getD a.length 0 = y := by simp
    rw [hg, e, hb y (List.mem_cons_self ..)]
    have e2 : a ++ [y] ++ b ++ c = a ++ y :: b ++ c := by simp
    rw [e2, List.length_append] at e'
    show Sre.run code (a ++ y :: b ++ c).toArray i n (a.length + 1) (found + 1) se = _
    rw [show a.length + 1 = a.length + [y].length from rfl, e', List.length_cons]
    congr 2; omega

/-! reaching -/
def Ends (k : Nat) (m : Sre.M) (P : Sre.M → Prop) : Prop := ∃ j, j ≤ k ∧ P (iter j m)
theorem Ends.step {k : Nat} {m m' : Sre.M} {P : Sre.M → Prop} (h : m.step = m') (hn : Ends k m' P) : Ends (k + 1) m P := by
  obtain ⟨j, hj, hp⟩ := hn
  exact ⟨j + 1, by omega, by show P (iter j m.step); rw [h]; exact hp⟩
theorem Ends.here {k : Nat} {m : Sre.M} {P : Sre.M → Prop} (h : P m) : Ends k m P := ⟨0, Nat.zero_le _, h⟩
theorem Ends.mono {k k' : Nat} {m : Sre.M} {P : Sre.M → Prop} (h : Ends k m P) (hk : k ≤ k') : Ends k' m P := let ⟨j, hj, hp⟩ := h; ⟨j, by omega, hp⟩

theorem run_ends {M : Model} {A : Around} {E : Value → Shared → Prop} {s : Shared} {Q : Option Sre.M → Shared → Prop} {m : Sre.M} {P : Sre.M → Prop} {k : Nat} (h : Ends k m P) (hk : k ≤ 2 ^ 66)
    (hm : ∀ m', P m' → (m'.outcome = some .matched ∧ Q (some m') s) ∨ (m'.outcome = some .failed ∧ Q none s)) : wpAny M A (reRunToEnd m) Q E s := by
  obtain ⟨j, hj, hp⟩ := h
  exact run_end j rfl (by omega) (hm _ hp)

/-- all the later starts of a pattern that is bound to the text's start fall -/
theorem starts_fall {code text : Array Nat} {lim last : Nat} {body : Nat} (hpc : body < code.size) (h0 : code.getD body 0 = 6) (h1 : code.getD (body + 1) 0 = 0) (hh : ∀ m : Sre.M, m.code = code → m.hasFirstSet = false) :
    ∀ (d fp st : Nat) (must : Bool) (pc pos hd : Nat) (o : Bool) (mks : Array (Option Nat)) (lm li : Int) (fo : Bool) (se : Sre.Seen), last - fp = d →
      Ends (2 * d + 2) (mk code text lim last st must pc pos hd o mks lm li [nx body fp fo] 1 (some false) se none) (fun m => m.outcome = some .failed)
  | 0, fp, st, must, pc, pos, hd, o, mks, lm, li, fo, se, h => by
    refine .step (back_nx_end (by omega)) (.step back_end (.here rfl))
  | d + 1, fp, st, must, pc, pos, hd, o, mks, lm, li, fo, se, h => by
    refine .mono (.step (back_nx (by omega) (by omega) hh) ?_) (Nat.le_refl (2 * d + 3 + 1))
    obtain ⟨se', e⟩ := at_no (text := text) (lim := lim) (last := last) (st := fp + 1) (must := false) (pos := fp + 1) (hd := fp + 1) (o := false) (mks := mks) (lm := -1) (li := -1) (fs := [nx body (fp + 1) false]) (wt := 1) (se := se) hpc h0 h1 (by omega)
    exact .step e (starts_fall hpc h0 h1 hh d (fp + 1) _ _ _ _ _ _ _ _ _ _ _ (by omega))
section
variable {code text : Array Nat} {lim last st : Nat} {must : Bool} {pc pos hd : Nat} {o : Bool} {mks : Array (Option Nat)} {lm li : Int} {fs : List Sre.Frame} {wt : Nat} {se : Sre.Seen} {n : Nat} {P : Sre.M → Prop}
theorem eAt (hpc : pc < code.size) (h0 : code.getD pc 0 = 6) (h1 : code.getD (pc + 1) 0 = 0) (k : ∀ se, Ends n (mk code text lim last st must (pc + 2) 0 hd o mks lm li fs wt none se none) P) :
    Ends (n + 1) (mk code text lim last st must pc 0 hd o mks lm li fs wt none se none) P := by obtain ⟨se', e⟩ := at_ok hpc h0 h1; exact .step e (k se')
theorem eAtNo (hpc : pc < code.size) (h0 : code.getD pc 0 = 6) (h1 : code.getD (pc + 1) 0 = 0) (hp : 0 < pos) (k : ∀ se, Ends n (mk code text lim last st must pc pos hd o mks lm li fs wt (some false) se none) P) :
    Ends (n + 1) (mk code text lim last st must pc pos hd o mks lm li fs wt none se none) P := by obtain ⟨se', e⟩ := at_no hpc h0 h1 hp; exact .step e (k se')
theorem eLit {c : Nat} (hpc : pc < code.size) (h0 : code.getD pc 0 = 16) (h1 : code.getD (pc + 1) 0 = c) (hp : pos < lim) (hc : text.getD pos 0 = c) (k : ∀ se, Ends n (mk code text lim last st must (pc + 2) (pos + 1) hd o mks lm li fs wt none se none) P) :
    Ends (n + 1) (mk code text lim last st must pc pos hd o mks lm li fs wt none se none) P := by obtain ⟨se', e⟩ := lit_ok hpc h0 h1 hp hc; exact .step e (k se')
theorem eLitNo {c : Nat} (hpc : pc < code.size) (h0 : code.getD pc 0 = 16) (h1 : code.getD (pc + 1) 0 = c) (hc : pos < lim → text.getD pos 0 ≠ c) (k : ∀ se, Ends n (mk code text lim last st must pc pos hd o mks lm li fs wt (some false) se none) P) :
    Ends (n + 1) (mk code text lim last st must pc pos hd o mks lm li fs wt none se none) P := by obtain ⟨se', e⟩ := lit_no hpc h0 h1 hc; exact .step e (k se')
theorem eRep {skip least most j : Nat} (hpc : pc < code.size) (h0 : code.getD pc 0 = 24) (h1 : code.getD (pc + 1) 0 = skip) (h2 : code.getD (pc + 2) 0 = least) (h3 : code.getD (pc + 3) 0 = most)
    (hp : pos + least ≤ lim) (hw : wt ≤ 100) (hr : ∀ se, ∃ se1, Sre.run code text (pc + 4) (min most (lim - pos)) pos 0 se = .ok (j, se1)) (hn : least ≤ j)
    (k : ∀ se, Ends n (mk code text lim last st must (pc + 1 + skip) (pos + j) (pos + j) o mks lm li (gb pc (pos + j) o j lm li :: fs) (wt + 1) none se none) P) :
    Ends (n + 1) (mk code text lim last st must pc pos hd o mks lm li fs wt none se none) P := by obtain ⟨se', e⟩ := rep_ok hpc h0 h1 h2 h3 hp hw hr hn; exact .step e (k se')
theorem eRepNo {least most j : Nat} (hpc : pc < code.size) (h0 : code.getD pc 0 = 24) (h2 : code.getD (pc + 2) 0 = least) (h3 : code.getD (pc + 3) 0 = most)
    (hp : pos ≤ lim) (hr : pos + least ≤ lim → (∀ se, ∃ se1, Sre.run code text (pc + 4) (min most (lim - pos)) pos 0 se = .ok (j, se1)) ∧ j < least)
    (k : ∀ se, Ends n (mk code text lim last st must pc pos hd o mks lm li fs wt (some false) se none) P) :
    Ends (n + 1) (mk code text lim last st must pc pos hd o mks lm li fs wt none se none) P := by obtain ⟨se', e⟩ := rep_no hpc h0 h2 h3 hp hr; exact .step e (k se')
theorem eMark0 {a b : Option Nat} (hpc : pc < code.size) (h0 : code.getD pc 0 = 17) (h1 : code.getD (pc + 1) 0 = 0) (k : ∀ se, Ends n (mk code text lim last st must (pc + 2) pos hd o #[some pos, b] 0 li fs wt none se none) P) :
    Ends (n + 1) (mk code text lim last st must pc pos hd o #[a, b] (-1) li fs wt none se none) P := by obtain ⟨se', e⟩ := mark_0 hpc h0 h1; exact .step e (k se')
theorem eMark1 {a b : Option Nat} (hpc : pc < code.size) (h0 : code.getD pc 0 = 17) (h1 : code.getD (pc + 1) 0 = 1) (k : ∀ se, Ends n (mk code text lim last st must (pc + 2) pos hd o #[a, some pos] 1 1 fs wt none se none) P) :
    Ends (n + 1) (mk code text lim last st must pc pos hd o #[a, b] 0 li fs wt none se none) P := by obtain ⟨se', e⟩ := mark_1 hpc h0 h1; exact .step e (k se')
theorem eSucc (hpc : pc < code.size) (h0 : code.getD pc 0 = 1) (hm : must = true → pos ≠ st) (k : ∀ se, Ends n (mk code text lim last st must pc pos pos o mks lm li fs wt (some true) se none) P) :
    Ends (n + 1) (mk code text lim last st must pc pos hd o mks lm li fs wt none se none) P := by obtain ⟨se', e⟩ := succ_ok hpc h0 hm; exact .step e (k se')
theorem eYes {f : Sre.Frame} (hf : f.wait = .giveBack ∨ f.wait = .nextStart) (hk : f.kept.marks.size = 0) (k : Ends n (mk code text lim last st must f.pc f.pos hd f.outermost mks lm li fs wt (some true) se none) P) :
    Ends (n + 1) (mk code text lim last st must pc pos hd o mks lm li (f :: fs) (wt + 1) (some true) se none) P := .step (back_yes hf hk) k
theorem eEnd {b : Bool} (k : P (mk code text lim last st must pc pos hd o mks lm li [] wt (some b) se (some (if b then .matched else .failed)))) :
    Ends (n + 1) (mk code text lim last st must pc pos hd o mks lm li [] wt (some b) se none) P := .step back_end (.here k)
theorem eGbEnd {fpc fp j : Nat} {fo : Bool} {l i : Int} {least : Nat} (h2 : code.getD (fpc + 2) 0 = least) (hn : j ≤ least) (k : Ends n (mk code text lim last st must fpc fp hd fo mks l i fs wt (some false) se none) P) :
    Ends (n + 1) (mk code text lim last st must pc pos hd o mks lm li (gb fpc fp fo j l i :: fs) (wt + 1) (some false) se none) P := .step (back_gb_end h2 hn) k
theorem eGb {fpc fp j : Nat} {fo : Bool} {l i : Int} {least skip : Nat} (h1 : code.getD (fpc + 1) 0 = skip) (h2 : code.getD (fpc + 2) 0 = least) (hn : least < j + 1) (hw : wt ≤ 100)
    (k : Ends n (mk code text lim last st must (fpc + 1 + skip) (fp - 1) (fp - 1) fo mks l i (gb fpc (fp - 1) fo j l i :: fs) (wt + 1) none se none) P) :
    Ends (n + 1) (mk code text lim last st must pc pos hd o mks lm li (gb fpc fp fo (j + 1) l i :: fs) (wt + 1) (some false) se none) P := .step (back_gb h1 h2 hn hw) k
end
end Mine
end
section
open PySem PyProof.Rows
namespace Mine
open PySem.Sre PySem.Builtin.Re

def cTok : Array Nat := #[14, 4, 0, 1, 4294967295, 6, 0, 24, 9, 0, 4294967295, 13, 4, 8, 12, 0, 1, 17, 0, 24, 19, 1, 4294967295, 13, 14, 21, 9, 0, 671092736, 0, 0, 0, 0, 0, 0, 8, 12, 0, 1, 17, 1, 1]
def cQuo : Array Nat := #[14, 4, 0, 3, 4294967295, 6, 0, 24, 9, 0, 4294967295, 13, 4, 8, 12, 0, 1, 16, 61, 24, 9, 0, 4294967295, 13, 4, 8, 12, 0, 1, 16, 34, 17, 0, 24, 12, 0, 4294967295, 13, 7, 21, 16, 34, 16, 92, 0, 1, 23, 19, 0, 4294967295, 16, 92, 2, 24, 12, 0, 4294967295, 13, 7, 21, 16, 34, 16, 92, 0, 1, 18, 17, 1, 16, 34, 1]
def cVal : Array Nat := #[14, 4, 0, 1, 4294967295, 6, 0, 24, 9, 0, 4294967295, 13, 4, 8, 12, 0, 1, 16, 61, 24, 9, 0, 4294967295, 13, 4, 8, 12, 0, 1, 17, 0, 24, 14, 0, 4294967295, 13, 9, 21, 8, 12, 16, 59, 16, 44, 0, 1, 17, 1, 1]
def cJunk : Array Nat := #[14, 4, 0, 0, 4294967295, 6, 0, 24, 13, 0, 4294967295, 13, 8, 16, 61, 8, 12, 16, 59, 0, 1, 1]
def cDec : Array Nat := #[14, 8, 1, 3, 3, 1, 1, 61, 0, 16, 61, 24, 16, 2, 2, 13, 11, 9, 0, 67043328, 126, 126, 0, 0, 0, 0, 0, 1, 1]

abbrev pSp (c : Nat) : Bool := Unicode.isSpace c
def pTok (c : Nat) : Bool := !(pSp c || c == 44 || c == 59 || c == 61)
def pVal (c : Nat) : Bool := !(pSp c || c == 59 || c == 44)
def pJunk (c : Nat) : Bool := c == 61 || pSp c || c == 59
def pHex (c : Nat) : Bool := (48 ≤ c && c ≤ 57) || (65 ≤ c && c ≤ 70) || (97 ≤ c && c ≤ 102)

theorem noFirst_tok : ∀ m : Sre.M, m.code = cTok → m.hasFirstSet = false := fun m h => by unfold Sre.M.hasFirstSet; rw [h]; rfl
theorem noFirst_quo : ∀ m : Sre.M, m.code = cQuo → m.hasFirstSet = false := fun m h => by unfold Sre.M.hasFirstSet; rw [h]; rfl
theorem noFirst_val : ∀ m : Sre.M, m.code = cVal → m.hasFirstSet = false := fun m h => by unfold Sre.M.hasFirstSet; rw [h]; rfl
theorem noFirst_junk : ∀ m : Sre.M, m.code = cJunk → m.hasFirstSet = false := fun m h => by unfold Sre.M.hasFirstSet; rw [h]; rfl
theorem noFirst_dec : ∀ m : Sre.M, m.code = cDec → m.hasFirstSet = false := fun m h => by unfold Sre.M.hasFirstSet; rw [h]; rfl

theorem acc_sp {code : Array Nat} {i : Nat} (h : code.getD i 0 = 13) (h1 : code.getD (i + 2) 0 = 8) (h2 : code.getD (i + 2 + 1) 0 = 12) (h3 : code.getD (i + 2 + 2) 0 = 0) (hs : 2 ≤ code.size) : AccIs code i pSp := by
  refine AccIs.of h fun c => ?_
  obtain ⟨f, hf⟩ : ∃ f, code.size = f + 1 + 1 := ⟨code.size - 2, by omega⟩
  rw [hf]
  refine SetIs.cat h1 h2 (fun e => ?_) (fun e => e)
  show SetIs code (i + 2 + 2) (f + 1) true c (Unicode.isSpace c)
  rw [e]
  exact SetIs.fail (yes := true) h3
theorem chars_tok : ∀ c, (decide (c < 256) && (cTok.getD (26 + (1 + c / 32)) 0).testBit (c % 32)) = (c == 44 || c == 59 || c == 61) := by
  intro c
  by_cases h : c < 256
  · have : ∀ c, c < 256 → (decide (c < 256) && (cTok.getD (26 + (1 + c / 32)) 0).testBit (c % 32)) = (c == 44 || c == 59 || c == 61) := by decide +kernel
    exact this c h
  · have h1 : (c == 44 || c == 59 || c == 61) = false := by simp; omega
    rw [h1]; simp [h]
theorem acc_tok : AccIs cTok 23 pTok := by
  refine AccIs.of rfl fun c => ?_
  show SetIs cTok 25 42 true c (pTok c)
  refine SetIs.neg rfl ?_
  refine SetIs.chars rfl (chars_tok c) (fun e => ?_) (fun e => ?_)
  · refine SetIs.cat rfl rfl (fun e' => ?_) (fun e' => ?_)
    · have : pTok c = true := by unfold pTok pSp; rw [e', Bool.false_or, e]; rfl
      rw [this]
      exact SetIs.fail (yes := false) rfl
    · unfold pTok pSp; rw [e']; rfl
  · unfold pTok; rw [Bool.or_assoc, Bool.or_assoc, ← Bool.or_assoc (c == 44), e, Bool.or_true]
theorem acc_val : AccIs cVal 35 pVal := by
  refine AccIs.of rfl fun c => ?_
  show SetIs cVal 37 49 true c (pVal c)
  refine SetIs.neg rfl ?_
  refine SetIs.cat rfl rfl (fun e' => ?_) (fun e' => ?_)
  · refine SetIs.lit (x := 59) rfl rfl (fun e1 => ?_) (fun e1 => ?_)
    · refine SetIs.lit (x := 44) rfl rfl (fun e2 => ?_) (fun e2 => ?_)
      · have : pVal c = true := by unfold pVal pSp; rw [e']; simp [e1, e2]
        rw [this]
        exact SetIs.fail (yes := false) rfl
      · unfold pVal; rw [e2]; simp
    · unfold pVal; rw [e1]; simp
  · unfold pVal pSp; rw [e']; rfl
theorem acc_junk : AccIs cJunk 11 pJunk := by
  refine AccIs.of rfl fun c => ?_
  show SetIs cJunk 13 22 true c (pJunk c)
  refine SetIs.lit (x := 61) rfl rfl (fun e1 => ?_) (fun e1 => by unfold pJunk; rw [e1]; rfl)
  refine SetIs.cat rfl rfl (fun e' => ?_) (fun e' => by unfold pJunk pSp; rw [e']; simp)
  refine SetIs.lit (x := 59) rfl rfl (fun e2 => ?_) (fun e2 => by unfold pJunk; rw [e2]; simp)
  have : pJunk c = false := by unfold pJunk pSp; rw [e']; simp [e1, e2]
  rw [this]
  exact SetIs.fail (yes := true) rfl
theorem chars_dec : ∀ c, (decide (c < 256) && (cDec.getD (17 + (1 + c / 32)) 0).testBit (c % 32)) = pHex c := by
  intro c
  by_cases h : c < 256
  · have : ∀ c, c < 256 → (decide (c < 256) && (cDec.getD (17 + (1 + c / 32)) 0).testBit (c % 32)) = pHex c := by decide +kernel
    exact this c h
  · have h1 : pHex c = false := by unfold pHex; simp; omega
    rw [h1]; simp [h]
theorem acc_dec : AccIs cDec 15 pHex := by
  refine AccIs.of rfl fun c => ?_
  show SetIs cDec 17 29 true c (pHex c)
  refine SetIs.chars rfl (chars_dec c) (fun e => ?_) (fun e => e)
  rw [e]
  exact SetIs.fail (yes := true) rfl

/-! the searches -/
abbrev Hit (a b e : Nat) (m : Sre.M) : Prop := m.outcome = some .matched ∧ m.start = a ∧ m.handed = b ∧ m.lastmark = 1 ∧ m.lastindex = 1 ∧ m.marks = #[some e, some b]
abbrev Miss (m : Sre.M) : Prop := m.outcome = some .failed
abbrev Hit0 (a b : Nat) (m : Sre.M) : Prop := m.outcome = some .matched ∧ m.start = a ∧ m.handed = b ∧ m.lastmark = -1 ∧ m.lastindex = -1 ∧ m.marks = #[]

theorem start_tok {text : Array Nat} {lim : Nat} (h : 1 ≤ lim) : ∃ se, Sre.forSearch cTok text 1 0 lim false = mk cTok text lim lim 0 false 5 0 0 true #[none, none] (-1) (-1) [nx 5 0 true] 1 none se none := by
  refine ⟨({} : Sre.Seen).add 14, ?_⟩
  show (if (decide (0 > lim) || decide (lim - 0 < 1)) = true then _ else _) = _
  rw [if_neg (by simp; omega)]
  rfl
theorem run0 {code text : Array Nat} {i : Nat} {P : Nat → Bool} (H : AccIs code i P) (b c : List Nat) (n : Nat) (ht : text = (b ++ c).toArray) (hn : n = b.length + c.length) (hb : ∀ x ∈ b, P x = true) (hc : ∀ x ∈ c.head?, P x = false) :
    ∀ se, ∃ se1, Sre.run code text i n 0 0 se = .ok (b.length, se1) := by
  intro se
  obtain ⟨se1, e⟩ := run_list H (c := c) b [] n 0 se (by omega) hb (fun h => by
    cases c with
    | nil => simp at hn; omega
    | cons x r => exact ⟨x, r, rfl, hc x rfl⟩)
  exact ⟨se1, by rw [ht]; simpa using e⟩
theorem runAt {code text : Array Nat} {i : Nat} {P : Nat → Bool} (H : AccIs code i P) (a b c : List Nat) (p n : Nat) (ht : text = (a ++ b ++ c).toArray) (hp : p = a.length) (hn : n = b.length + c.length) (hb : ∀ x ∈ b, P x = true) (hc : ∀ x ∈ c.head?, P x = false) :
    ∀ se, ∃ se1, Sre.run code text i n p 0 se = .ok (b.length, se1) := by
  intro se
  obtain ⟨se1, e⟩ := run_list H (c := c) b a n 0 se (by omega) hb (fun h => by
    cases c with
    | nil => simp at hn; omega
    | cons x r => exact ⟨x, r, rfl, hc x rfl⟩)
  exact ⟨se1, by rw [ht, hp]; simpa using e⟩

theorem tok_hit (tok rest : List Nat) (h0 : tok ≠ []) (h1 : ∀ x ∈ tok, pTok x = true) (h2 : ∀ x ∈ rest.head?, pTok x = false) (hl : (tok ++ rest).length ≤ 2 ^ 24) :
    Ends 20 (Sre.forSearch cTok (tok ++ rest).toArray 1 0 (tok ++ rest).length false) (Hit 0 tok.length 0) := by
  have hpos : 0 < tok.length := List.length_pos_iff.mpr h0
  have hlen : (tok ++ rest).length = tok.length + rest.length := List.length_append
  obtain ⟨se, e⟩ := start_tok (text := (tok ++ rest).toArray) (lim := (tok ++ rest).length) (by omega)
  rw [e]
  refine eAt (by decide) rfl rfl fun se => ?_
  refine eRep (skip := 9) (least := 0) (most := 4294967295) (j := 0) (by decide) rfl rfl rfl rfl (by omega) (by omega) (run0 (acc_sp rfl rfl rfl rfl (by decide)) [] (tok ++ rest) _ rfl (by simp; simp at hl; omega) (by simp) (by
      intro x hx
      cases tok with
      | nil => exact absurd rfl h0
      | cons y t =>
        have : x = y := by simpa using hx.symm
        have := h1 y (List.mem_cons_self ..)
        subst x
        unfold pTok at this
        simp at this
        exact this.1.1.1)) (by omega) fun se => ?_
  refine eMark0 (by decide) rfl rfl fun se => ?_
  refine eRep (skip := 19) (least := 1) (most := 4294967295) (j := tok.length) (by decide) rfl rfl rfl rfl (by omega) (by omega) (runAt acc_tok [] tok rest _ _ (by simp) (by simp) (by simp; simp at hl; omega) h1 h2) (by omega) fun se => ?_
  refine eMark1 (by decide) rfl rfl fun se => ?_
  refine eSucc (by decide) rfl (by simp) fun se => ?_
  refine eYes (.inl rfl) rfl (eYes (.inl rfl) rfl (eYes (.inr rfl) rfl (eEnd ?_)))
  refine ⟨rfl, rfl, ?_, rfl, rfl, ?_⟩
  · simp
  · simp
/-- the token's search falls -/
theorem tok_back (ws rest : List Nat) (h1 : ∀ x ∈ ws, pSp x = true) (h2 : ∀ x ∈ rest.head?, pTok x = false) (hl : (ws ++ rest).length ≤ 2 ^ 24) :
    ∀ (j : Nat) (a b : List Nat) (ma mb : Option Nat) (hd : Nat) (se : Sre.Seen), ws = a ++ b → a.length = j →
      Ends (3 * j + 2 * (ws ++ rest).length + 10) (mk cTok (ws ++ rest).toArray (ws ++ rest).length (ws ++ rest).length 0 false 17 j hd true #[ma, mb] (-1) (-1) [gb 7 j true j (-1) (-1), nx 5 0 true] 2 none se none) Miss := by
  have hlen : (ws ++ rest).length = ws.length + rest.length := List.length_append
  intro j
  induction j with
  | zero =>
    intro a b ma mb hd se hab ha
    refine Ends.mono (k := ((2 * (ws ++ rest).length + 2) + 1) + 1 + 1) ?_ (by omega)
    refine eMark0 (by decide) rfl rfl fun se => ?_
    refine eRepNo (least := 1) (most := 4294967295) (j := 0) (by decide) rfl rfl rfl (by omega) (fun hq => ⟨?_, by omega⟩) fun se => ?_
    · refine runAt acc_tok [] [] (ws ++ rest) _ _ (by simp) (by simp) (by simp; simp at hl; omega) (by simp) ?_
      intro x hx
      cases ws with
      | nil => exact h2 x hx
      | cons y t =>
        have : y = x := by simpa using hx
        have := h1 y (List.mem_cons_self ..)
        subst x
        unfold pTok; rw [this]; rfl
    refine eGbEnd (least := 0) rfl (by omega) ?_
    exact starts_fall (by decide) rfl rfl noFirst_tok (ws ++ rest).length 0 _ _ _ _ _ _ _ _ _ _ _ rfl
  | succ j ih =>
    intro a b ma mb hd se hab ha
    refine Ends.mono (k := (3 * j + 2 * (ws ++ rest).length + 10) + 1 + 1 + 1) ?_ (by omega)
    have hws : ws.length = a.length + b.length := by rw [hab]; simp
    refine eMark0 (by decide) rfl rfl fun se => ?_
    refine eRepNo (least := 1) (most := 4294967295) (j := 0) (by decide) rfl rfl rfl (by omega) (fun hq => ⟨?_, by omega⟩) fun se => ?_
    · refine runAt acc_tok a [] (b ++ rest) _ _ (by rw [hab]; simp) ha.symm (by simp; simp at hl; omega) (by simp) ?_
      intro x hx
      cases b with
      | nil => exact h2 x hx
      | cons y t =>
        have : y = x := by simpa using hx
        have := h1 y (by rw [hab]; simp)
        subst x
        unfold pTok; rw [this]; rfl
    refine eGb (skip := 9) (least := 0) rfl rfl (by omega) (by omega) ?_
    rcases List.eq_nil_or_concat a with rfl | ⟨a', y, rfl⟩
    · simp at ha
    · exact ih a' (y :: b) _ _ _ _ (by rw [hab]; simp) (by simp at ha; omega)
theorem tok_miss (ws rest : List Nat) (h1 : ∀ x ∈ ws, pSp x = true) (h2 : ∀ x ∈ rest.head?, pTok x = false ∧ pSp x = false) (h0 : ws ++ rest ≠ []) (hl : (ws ++ rest).length ≤ 2 ^ 24) :
    Ends (5 * (ws ++ rest).length + 20) (Sre.forSearch cTok (ws ++ rest).toArray 1 0 (ws ++ rest).length false) Miss := by
  have hpos : 0 < (ws ++ rest).length := List.length_pos_iff.mpr h0
  have hlen : (ws ++ rest).length = ws.length + rest.length := List.length_append
  obtain ⟨se, e⟩ := start_tok (text := (ws ++ rest).toArray) (lim := (ws ++ rest).length) (by omega)
  rw [e]
  refine Ends.mono (k := (3 * ws.length + 2 * (ws ++ rest).length + 10) + 1 + 1) ?_ (by omega)
  refine eAt (by decide) rfl rfl fun se => ?_
  refine eRep (skip := 9) (least := 0) (most := 4294967295) (j := ws.length) (by decide) rfl rfl rfl rfl (by omega) (by omega) (run0 (acc_sp rfl rfl rfl rfl (by decide)) ws rest _ rfl (by simp; simp at hl; omega) h1 (fun x hx => (h2 x hx).2)) (by omega) fun se => ?_
  rw [Nat.zero_add]
  exact tok_back ws rest h1 (fun x hx => (h2 x hx).1) hl ws.length ws [] none none _ _ (by simp) rfl
end Mine
end
section
open PySem PyProof.Rows
namespace Mine
open PySem.Sre PySem.Builtin.Re

theorem start_val {text : Array Nat} {lim : Nat} (h : 1 ≤ lim) : ∃ se, Sre.forSearch cVal text 1 0 lim false = mk cVal text lim lim 0 false 5 0 0 true #[none, none] (-1) (-1) [nx 5 0 true] 1 none se none := by
  refine ⟨({} : Sre.Seen).add 14, ?_⟩
  show (if (decide (0 > lim) || decide (lim - 0 < 1)) = true then _ else _) = _
  rw [if_neg (by simp; omega)]
  rfl
theorem getD_app (a b : List Nat) : (a ++ b).toArray.getD a.length 0 = b.getD 0 0 := by cases b <;> simp
theorem sp_eq : pSp 61 = false := by decide +kernel
theorem head61 (r : List Nat) : ∀ x ∈ (61 :: r).head?, pSp x = false := fun x hx => by
  have : 61 = x := by simpa using hx
  subst x; exact sp_eq
theorem val_hit (sp val rest : List Nat) (h1 : ∀ x ∈ sp, pSp x = true) (h2 : ∀ x ∈ val, pVal x = true) (h3 : ∀ x ∈ rest.head?, pVal x = false) (h4 : val = [] → ∀ x ∈ rest.head?, pSp x = false) (hl : (61 :: sp ++ val ++ rest).length ≤ 2 ^ 24) :
    Ends 20 (Sre.forSearch cVal (61 :: sp ++ val ++ rest).toArray 1 0 (61 :: sp ++ val ++ rest).length false) (Hit 0 (1 + sp.length + val.length) (1 + sp.length)) := by
  have hlen : (61 :: sp ++ val ++ rest).length = 1 + sp.length + val.length + rest.length := by simp; omega
  have hsp : ∀ x ∈ (val ++ rest).head?, pSp x = false := by
    intro x hx
    cases val with
    | nil => exact h4 rfl x hx
    | cons y t =>
      have : y = x := by simpa using hx
      have := h2 y (List.mem_cons_self ..)
      subst x
      unfold pVal at this
      simp at this
      exact this.1.1
  generalize hT : (61 :: sp ++ val ++ rest).toArray = T
  generalize hN : (61 :: sp ++ val ++ rest).length = N at hlen hl ⊢
  obtain ⟨se, e⟩ := start_val (text := T) (lim := N) (by omega)
  rw [e]
  refine eAt (by decide) rfl rfl fun se => ?_
  refine eRep (skip := 9) (least := 0) (most := 4294967295) (j := 0) (by decide) rfl rfl rfl rfl (by omega) (by omega)
    (run0 (acc_sp rfl rfl rfl rfl (by decide)) [] (61 :: sp ++ val ++ rest) _ (by rw [← hT]; simp) (by rw [hN]; simp; omega) (by simp) (head61 _)) (by omega) fun se => ?_
  refine eLit (c := 61) (by decide) rfl rfl (by omega) (by rw [← hT]; simp) fun se => ?_
  refine eRep (skip := 9) (least := 0) (most := 4294967295) (j := sp.length) (by decide) rfl rfl rfl rfl (by omega) (by omega)
    (runAt (acc_sp rfl rfl rfl rfl (by decide)) [61] sp (val ++ rest) _ _ (by rw [← hT]; simp) (by simp) (by simp; omega) h1 hsp) (by omega) fun se => ?_
  refine eMark0 (by decide) rfl rfl fun se => ?_
  refine eRep (skip := 14) (least := 0) (most := 4294967295) (j := val.length) (by decide) rfl rfl rfl rfl (by omega) (by omega)
    (runAt acc_val (61 :: sp) val rest _ _ (by rw [← hT]) (by simp; omega) (by simp; omega) h2 h3) (by omega) fun se => ?_
  refine eMark1 (by decide) rfl rfl fun se => ?_
  refine eSucc (by decide) rfl (by simp) fun se => ?_
  refine eYes (.inl rfl) rfl (eYes (.inl rfl) rfl (eYes (.inl rfl) rfl (eYes (.inr rfl) rfl (eEnd ?_))))
  refine ⟨rfl, rfl, ?_, rfl, rfl, ?_⟩
  · simp
  · simp

/-! the quoted value is never there -/
theorem start_quo {text : Array Nat} {lim : Nat} (h : 3 ≤ lim) : ∃ se, Sre.forSearch cQuo text 1 0 lim false = mk cQuo text lim (max 0 (lim - 2)) 0 false 5 0 0 true #[none, none] (-1) (-1) [nx 5 0 true] 1 none se none := by
  refine ⟨({} : Sre.Seen).add 14, ?_⟩
  show (if (decide (0 > lim) || decide (lim - 0 < 3)) = true then _ else _) = _
  rw [if_neg (by simp; omega)]
  rfl
theorem short_quo {text : Array Nat} {lim : Nat} (h : lim < 3) : Ends 1 (Sre.forSearch cQuo text 1 0 lim false) Miss := by
  have : Sre.forSearch cQuo text 1 0 lim false = mk cQuo text lim 0 0 false 5 0 0 true #[none, none] (-1) (-1) [] 0 (some false) (({} : Sre.Seen).add 14) none := by
    show (if (decide (0 > lim) || decide (lim - 0 < 3)) = true then _ else _) = _
    rw [if_pos (by simp; omega)]
    rfl
  rw [this]
  exact eEnd rfl
theorem quo_back (sp rest : List Nat) (h1 : ∀ x ∈ sp, pSp x = true) (h2 : ∀ x ∈ rest.head?, x ≠ 34) (T : Array Nat) (N : Nat) (hT : (61 :: sp ++ rest).toArray = T) (hN : (61 :: sp ++ rest).length = N) (hl : N ≤ 2 ^ 24) :
    ∀ (j : Nat) (a b : List Nat) (hd : Nat) (se : Sre.Seen), sp = a ++ b → a.length = j →
      Ends (2 * j + 2 * N + 10) (mk cQuo T N (max 0 (N - 2)) 0 false 29 (1 + j) hd true #[none, none] (-1) (-1) [gb 19 (1 + j) true j (-1) (-1), gb 7 0 true 0 (-1) (-1), nx 5 0 true] 3 none se none) Miss := by
  have hlen : N = 1 + sp.length + rest.length := by rw [← hN]; simp; omega
  intro j
  induction j with
  | zero =>
    intro a b hd se hab ha
    refine Ends.mono (k := ((2 * (max 0 (N - 2)) + 2) + 1 + 1) + 1) ?_ (by omega)
    refine eLitNo (c := 34) (by decide) rfl rfl ?_ fun se => ?_
    · intro hp
      rw [← hT]
      cases sp with
      | nil =>
        cases rest with
        | nil => simp at hlen; omega
        | cons y r => simpa using h2 y rfl
      | cons y r =>
        have := h1 y (List.mem_cons_self ..)
        intro e
        have e : y = 34 := by simpa using e
        subst e
        exact absurd this (by decide +kernel)
    refine eGbEnd (least := 0) rfl (by omega) (eGbEnd (least := 0) rfl (by omega) ?_)
    exact starts_fall (by decide) rfl rfl noFirst_quo _ 0 _ _ _ _ _ _ _ _ _ _ _ rfl
  | succ j ih =>
    intro a b hd se hab ha
    refine Ends.mono (k := (2 * j + 2 * N + 10) + 1 + 1) ?_ (by omega)
    refine eLitNo (c := 34) (by decide) rfl rfl ?_ fun se => ?_
    · intro hp
      rw [← hT]
      have hg : (61 :: sp ++ rest).toArray.getD (1 + (j + 1)) 0 = (b ++ rest).getD 0 0 := by
        rw [hab, ← ha]
        have : 61 :: (a ++ b) ++ rest = (61 :: a) ++ (b ++ rest) := by simp
        rw [this]
        have e2 : 1 + a.length = (61 :: a).length := by simp; omega
        rw [e2]
        exact getD_app _ _
      rw [hg]
      have hsl : sp.length = a.length + b.length := by rw [hab]; simp
      cases b with
      | nil =>
        cases rest with
        | nil => simp at hlen hsl; omega
        | cons y r => simpa using h2 y rfl
      | cons y r =>
        have := h1 y (by rw [hab]; simp)
        intro e
        have e : y = 34 := by simpa using e
        subst e
        exact absurd this (by decide +kernel)
    refine eGb (skip := 9) (least := 0) rfl rfl (by omega) (by omega) ?_
    rcases List.eq_nil_or_concat a with rfl | ⟨a', y, rfl⟩
    · simp at ha
    · exact ih a' (y :: b) _ _ (by rw [hab]; simp) (by simp at ha; omega)
theorem quo_miss (sp rest : List Nat) (h1 : ∀ x ∈ sp, pSp x = true) (h2 : ∀ x ∈ rest.head?, x ≠ 34 ∧ pSp x = false) (hl : (61 :: sp ++ rest).length ≤ 2 ^ 24) :
    Ends (5 * (61 :: sp ++ rest).length + 20) (Sre.forSearch cQuo (61 :: sp ++ rest).toArray 1 0 (61 :: sp ++ rest).length false) Miss := by
  by_cases h3 : (61 :: sp ++ rest).length < 3
  · exact (short_quo h3).mono (by omega)
  generalize hT : (61 :: sp ++ rest).toArray = T
  generalize hN : (61 :: sp ++ rest).length = N at hl h3 ⊢
  have hlen : N = 1 + sp.length + rest.length := by rw [← hN]; simp; omega
  obtain ⟨se, e⟩ := start_quo (text := T) (lim := N) (by omega)
  rw [e]
  refine Ends.mono (k := (2 * sp.length + 2 * N + 10) + 1 + 1 + 1 + 1) ?_ (by omega)
  refine eAt (by decide) rfl rfl fun se => ?_
  refine eRep (skip := 9) (least := 0) (most := 4294967295) (j := 0) (by decide) rfl rfl rfl rfl (by omega) (by omega)
    (run0 (acc_sp rfl rfl rfl rfl (by decide)) [] (61 :: sp ++ rest) _ (by rw [← hT]; simp) (by rw [hN]; simp; omega) (by simp) (head61 _)) (by omega) fun se => ?_
  refine eLit (c := 61) (by decide) rfl rfl (by omega) (by rw [← hT]; simp) fun se => ?_
  refine eRep (skip := 9) (least := 0) (most := 4294967295) (j := sp.length) (by decide) rfl rfl rfl rfl (by omega) (by omega)
    (runAt (acc_sp rfl rfl rfl rfl (by decide)) [61] sp rest _ _ (by rw [← hT]; simp) (by simp) (by simp; omega) h1 (fun x hx => (h2 x hx).2)) (by omega) fun se => ?_
  exact quo_back sp rest h1 (fun x hx => (h2 x hx).1) T N hT hN hl sp.length sp [] _ _ (by simp) rfl
end Mine
end
section
open PySem PyProof.Rows
namespace Mine
open PySem.Sre PySem.Builtin.Re

theorem start_junk {text : Array Nat} {p lim : Nat} {must : Bool} (h : p ≤ lim) : ∃ se, Sre.forSearch cJunk text 0 p lim must = mk cJunk text lim lim p must 5 p p true #[] (-1) (-1) [nx 5 p true] 1 none se none := by
  refine ⟨({} : Sre.Seen).add 14, ?_⟩
  show (if (decide (p > lim) || decide (lim - p < 0)) = true then _ else _) = _
  rw [if_neg (by simp; omega)]
  rfl
theorem junk_hit (junk rest : List Nat) (h1 : ∀ x ∈ junk, pJunk x = true) (h2 : ∀ x ∈ rest.head?, pJunk x = false) (hl : (junk ++ rest).length ≤ 2 ^ 24) :
    Ends 20 (Sre.forSearch cJunk (junk ++ rest).toArray 0 0 (junk ++ rest).length false) (Hit0 0 junk.length) := by
  have hlen : (junk ++ rest).length = junk.length + rest.length := List.length_append
  obtain ⟨se, e⟩ := start_junk (text := (junk ++ rest).toArray) (p := 0) (lim := (junk ++ rest).length) (must := false) (by omega)
  rw [e]
  refine eAt (by decide) rfl rfl fun se => ?_
  refine eRep (skip := 13) (least := 0) (most := 4294967295) (j := junk.length) (by decide) rfl rfl rfl rfl (by omega) (by omega)
    (run0 acc_junk junk rest _ rfl (by omega) h1 h2) (by omega) fun se => ?_
  refine eSucc (by decide) rfl (by simp) fun se => ?_
  refine eYes (.inl rfl) rfl (eYes (.inr rfl) rfl (eEnd ?_))
  refine ⟨rfl, rfl, ?_, rfl, rfl, rfl⟩
  simp
theorem junk_miss {text : Array Nat} {p lim : Nat} {must : Bool} (h : p ≤ lim) (h0 : 0 < p) : Ends (2 * lim + 20) (Sre.forSearch cJunk text 0 p lim must) Miss := by
  obtain ⟨se, e⟩ := start_junk (text := text) (must := must) h
  rw [e]
  refine Ends.mono (k := 2 * (lim - p) + 2 + 1) ?_ (by omega)
  refine eAtNo (by decide) rfl rfl h0 fun se => ?_
  exact starts_fall (by decide) rfl rfl noFirst_junk _ p _ _ _ _ _ _ _ _ _ _ _ rfl

theorem start_dec {text : Array Nat} {p lim : Nat} (h : p + 3 ≤ lim) : ∃ se, Sre.forSearch cDec text 0 p lim false = mk cDec text lim lim p false 9 p p true #[] (-1) (-1) [nx 9 p true] 1 none se none := by
  refine ⟨({} : Sre.Seen).add 14, ?_⟩
  show (if (decide (p > lim) || decide (lim - p < 3)) = true then _ else _) = _
  rw [if_neg (by simp; omega)]
  rfl
theorem short_dec {text : Array Nat} {p lim : Nat} (h : ¬ p + 3 ≤ lim) (hp : p ≤ lim) : Ends 1 (Sre.forSearch cDec text 0 p lim false) Miss := by
  have : Sre.forSearch cDec text 0 p lim false = mk cDec text lim 0 p false 9 p p true #[] (-1) (-1) [] 0 (some false) (({} : Sre.Seen).add 14) none := by
    show (if (decide (p > lim) || decide (lim - p < 3)) = true then _ else _) = _
    rw [if_pos (by simp; omega)]
    rfl
  rw [this]
  exact eEnd rfl
theorem dec_skip {P : Sre.M → Prop} {T : Array Nat} {N k : Nat} : ∀ (d q : Nat) (fo : Bool) (se : Sre.Seen), (∀ i, i < d → T.getD (q + i) 0 ≠ 61) → q + d ≤ N →
    (∀ fo se, Ends k (mk cDec T N N (q + d) false 9 (q + d) (q + d) fo #[] (-1) (-1) [nx 9 (q + d) fo] 1 none se none) P) →
    Ends (2 * d + k) (mk cDec T N N q false 9 q q fo #[] (-1) (-1) [nx 9 q fo] 1 none se none) P
  | 0, q, fo, se, _, _, h => by
    have := h fo se
    simpa using this
  | d + 1, q, fo, se, hn, hq, h => by
    refine Ends.mono (k := (2 * d + k) + 1 + 1) ?_ (by omega)
    refine eLitNo (c := 61) (by decide) rfl rfl (fun _ => by simpa using hn 0 (by omega)) fun se => ?_
    refine Ends.step (back_nx (by omega) (by omega) noFirst_dec) ?_
    refine dec_skip d (q + 1) false _ (fun i hi => ?_) (by omega) ?_
    · have := hn (i + 1) (by omega)
      rwa [show q + (i + 1) = q + 1 + i from by omega] at this
    · intro fo se
      have := h fo se
      rwa [show q + (d + 1) = q + 1 + d from by omega] at this
theorem dec_miss (a b : List Nat) (h : ∀ x ∈ b, x ≠ 61) : Ends (2 * (a ++ b).length + 20) (Sre.forSearch cDec (a ++ b).toArray 0 a.length (a ++ b).length false) Miss := by
  have hlen : (a ++ b).length = a.length + b.length := List.length_append
  by_cases h3 : a.length + 3 ≤ (a ++ b).length
  · obtain ⟨se, e⟩ := start_dec (text := (a ++ b).toArray) h3
    rw [e]
    refine Ends.mono (k := 2 * b.length + 3) ?_ (by omega)
    refine dec_skip b.length a.length true se (fun i hi => ?_) (by omega) fun fo se => ?_
    · have : (a ++ b).toArray.getD (a.length + i) 0 = b[i] := by simp [hi]
      rw [this]; exact h _ (List.getElem_mem hi)
    · refine eLitNo (c := 61) (by decide) rfl rfl (fun hp => by omega) fun se => ?_
      exact .step (back_nx_end (by omega)) (eEnd rfl)
  · exact (short_dec h3 (by omega)).mono (by omega)
theorem dec_hit (a pre rest : List Nat) (x y : Nat) (h : ∀ c ∈ pre, c ≠ 61) (hx : pHex x = true) (hy : pHex y = true) (T : List Nat) (hT : T = a ++ pre ++ 61 :: x :: y :: rest) :
    Ends (2 * T.length + 20) (Sre.forSearch cDec T.toArray 0 a.length T.length false) (Hit0 (a.length + pre.length) (a.length + pre.length + 3)) := by
  have hlen : T.length = a.length + pre.length + 3 + rest.length := by rw [hT]; simp; omega
  obtain ⟨se, e⟩ := start_dec (text := T.toArray) (p := a.length) (lim := T.length) (by omega)
  rw [e]
  refine Ends.mono (k := 2 * pre.length + 10) ?_ (by omega)
  refine dec_skip pre.length a.length true se (fun i hi => ?_) (by omega) fun fo se => ?_
  · have : T.toArray.getD (a.length + i) 0 = pre[i] := by
      have e1 : T.toArray.getD (a.length + i) 0 = (a ++ (pre ++ 61 :: x :: y :: rest))[a.length + i]?.getD 0 := by rw [hT, List.append_assoc]; simp
      rw [e1, List.getElem?_append_right (by omega), Nat.add_sub_cancel_left, List.getElem?_append_left hi, List.getElem?_eq_getElem hi]
      rfl
    rw [this]; exact h _ (List.getElem_mem hi)
  refine eLit (c := 61) (by decide) rfl rfl (by omega) ?_ fun se => ?_
  · have : a.length + pre.length = (a ++ pre).length := by simp
    rw [hT, this, getD_app]; rfl
  refine eRep (skip := 16) (least := 2) (most := 2) (j := 2) (by decide) rfl rfl rfl rfl (by omega) (by omega) ?_ (by omega) fun se => ?_
  · have hm : min 2 (T.length - (a.length + pre.length + 1)) = 2 := by omega
    rw [hm]
    intro se
    obtain ⟨se1, e⟩ := run_list acc_dec (c := rest) [x, y] (a ++ pre ++ [61]) 2 0 se (by simp) (by simp [hx, hy]) (by simp)
    refine ⟨se1, ?_⟩
    have e2 : a ++ pre ++ [61] ++ [x, y] ++ rest = T := by rw [hT]; simp
    rw [e2] at e
    have e3 : (a ++ pre ++ [61]).length = a.length + pre.length + 1 := by simp; omega
    rw [e3] at e
    simpa using e
  refine eSucc (by decide) rfl (by simp) fun se => ?_
  refine eYes (.inl rfl) rfl (eYes (.inr rfl) rfl (eEnd ?_))
  exact ⟨rfl, rfl, rfl, rfl, rfl, rfl⟩
end Mine
end
section
open PySem PySem.W PyProof.Rows
set_option maxRecDepth 100000
namespace Mine

/-- the other objects stand as they stood -/
theorem Fr.mv {h₀ h h' : Heap} {L I : Addr} {m : Str → Option Value} (F : Fr h₀ L h m) (hI : h₀.objs.size ≤ I) (hL : L ≠ I) (k : ∀ b o, b ≠ I → h.get? b = some o → h'.get? b = some o) : Fr h₀ L h' m := by
  obtain ⟨oL, a1, a2, hoL, r⟩ := F.ns
  exact ⟨⟨oL, a1, a2, k _ _ hL hoL, r⟩, fun b o e => k b o (Nat.ne_of_lt (Nat.lt_of_lt_of_le (Heap.lt_size e) hI)) (F.keep b o e), F.above⟩
theorem News.mv {h₀ h h' : Heap} {L I : Addr} {news : List (Addr × Obj)} (N : News h₀ L h news) (hn : ∀ p ∈ news, p.1 ≠ I) (k : ∀ b o, b ≠ I → h.get? b = some o → h'.get? b = some o) : News h₀ L h' news :=
  fun p hp => ⟨k _ _ (hn p hp) (N p hp).1, (N p hp).2⟩
theorem Fr.ext {h₀ h h' : Heap} {L : Addr} {m : Str → Option Value} (F : Fr h₀ L h m) (k : ∀ b o, h.get? b = some o → h'.get? b = some o) : Fr h₀ L h' m := by
  obtain ⟨oL, a1, a2, hoL, r⟩ := F.ns
  exact ⟨⟨oL, a1, a2, k _ _ hoL, r⟩, fun b o e => k b o (F.keep b o e), F.above⟩
theorem News.ext {h₀ h h' : Heap} {L : Addr} {news : List (Addr × Obj)} (N : News h₀ L h news) (k : ∀ b o, h.get? b = some o → h'.get? b = some o) : News h₀ L h' news :=
  fun p hp => ⟨k _ _ (N p hp).1, (N p hp).2⟩

def TurnPost (h₀ : Heap) (L : Addr) (J : (Str → Option Value) → List (Addr × Obj) → Prop) (I : Addr) (io : Obj) (s : Shared) (Q : Flow → Shared → Prop) (f : Flow) (s₃ : Shared) : Prop :=
  match f with
  | .ret v => Q (.ret v) s₃
  | .brk => Q .next s₃
  | _ => ∃ h' tk' m' news', s₃ = { s with heap := h', toks := tk' } ∧ Fr h₀ L h' m' ∧ News h₀ L h' ((I, io) :: news') ∧ (∀ p ∈ news', p.1 ≠ I) ∧ J m' news'

section
variable {prog : Program} {w : World} {A : Around} {E : Value → Shared → Prop} {s : Shared} {env : Env} {h₀ : Heap} {body : List Stmt} {Q : Flow → Shared → Prop}

theorem own_name {x : Str} {px : Pos} {it v : Value} {Q : Unit → Shared → Prop} (h : Q () s) : wpAny (model prog w) A (letOwnedTupleGo (.Name x px) it v) Q E s := wpAny_pure h
theorem own_tuple {es : List Expr} {k : Nat} {px : Pos} {I l : Addr} {i : Nat} {v : Value} {Q : Unit → Shared → Prop} (hI : s.heap.IsListIter I l i) (h : Q () s) : wpAny (model prog w) A (letOwnedTupleGo (.Tuple es k px) (.ref I) v) Q E s := by
  obtain ⟨o, ho, hc, hd⟩ := hI
  cases v with
  | ref a =>
    show wpAny _ _ (load I >>= fun o => _) _ _ _
    refine wpAny_bind (wpAny_load ho ?_)
    rw [hc, hd]
    show wpAny _ _ (if (_ && _) = true then _ else _) _ _ _
    rw [if_neg (by simp)]
    exact wpAny_pure h
  | _ => exact wpAny_pure h

theorem loop_walk {I : Addr} {fp : List Addr} {n : Nat} {P : Nat → Value → Prop} {St Ist : Nat → Heap → Prop} {target : Expr} {m₀ : Str → Option Value} {news₀ : List (Addr × Obj)} (W : Walks prog w A I fp [I] n P St)
    (J : Nat → (Str → Option Value) → List (Addr × Obj) → Prop) (hLI : env.locals ≠ I) (h0I : h₀.objs.size ≤ I)
    (hst : ∀ i m news h, J i m news → Fr h₀ env.locals h m → News h₀ env.locals h news → Ist i h → St i h)
    (hsi : ∀ i h, St i h → Ist i h) (hio : ∀ i h, St i h → ∃ io, h.get? I = some io)
    (hmv : ∀ i h h', Ist i h → (∀ o, h.get? I = some o → h'.get? I = some o) → Ist i h')
    (F : Fr h₀ env.locals s.heap m₀) (N : News h₀ env.locals s.heap news₀) (hn : ∀ p ∈ news₀, p.1 ≠ I) (hj : J 0 m₀ news₀) (hi0 : Ist 0 s.heap)
    (hown : ∀ (i : Nat) (v : Value) (s : Shared) (Q : Unit → Shared → Prop), St i s.heap → Q () s → wpAny (model prog w) A (letOwnedTupleGo target (.ref I) v) Q (fun _ _ => False) s)
    (turn : ∀ i v m news h tk io, i < n → P i v → J i m news → (∀ p ∈ news, p.1 ≠ I) → Fr h₀ env.locals h m → News h₀ env.locals h ((I, io) :: news) →
      wpAny (model prog w) A (assign target env v) (fun _ s₂ => wpAny (model prog w) A (execs body env) (TurnPost h₀ env.locals (J (i + 1)) I io s Q) (fun _ _ => False) s₂) (fun _ _ => False) { s with heap := h, toks := tk })
    (done : ∀ m news h tk, J n m news → Fr h₀ env.locals h m → News h₀ env.locals h news → Q .next { s with heap := h, toks := tk }) :
    codeAny (model prog w) A (.forLoop target (.ref I) body [] env) (fun r s' => match r with | .ok f => Q f s' | .error e => cameBackBy (model prog w) A env E e s') s := by
  have nE : ∀ {α : Type} {t : Sem α} {Q' : α → Shared → Prop} {E' : Value → Shared → Prop} {s' : Shared}, wpAny (model prog w) A t Q' (fun _ _ => False) s' → wpAny (model prog w) A t Q' E' s' :=
    fun h => wpAny_mono h (fun _ _ x => x) (fun _ _ x => x.elim)
  refine codeAny_forLoop_any (fun k s₁ => ∃ i m news h tk, k = n + 1 - i ∧ i ≤ n ∧ s₁ = { s with heap := h, toks := tk } ∧ Fr h₀ env.locals h m ∧ News h₀ env.locals h news ∧ (∀ p ∈ news, p.1 ≠ I) ∧ J i m news ∧ Ist i h) ?_ (n + 1 - 0)
    ⟨0, m₀, news₀, _, _, rfl, Nat.zero_le _, rfl, F, N, hn, hj, hi0⟩
  rintro k s₁ ⟨i, m, news, h, tk, rfl, hi, rfl, F₁, N₁, hnI, hJ, hit⟩
  have hS := hst i m news h hJ F₁ N₁ hit
  rcases Nat.lt_or_ge i n with hlt | hge
  · refine W.item i _ _ _ hlt hS fun v h' tk' hv st hk => ?_
    have hk' : ∀ b o, b ≠ I → h.get? b = some o → h'.get? b = some o := fun b o hb e => hk b o (by simpa using hb) e
    obtain ⟨io, hio'⟩ := hio _ _ st
    have hI0 : h₀.get? I = none := by
      cases e : h₀.get? I with
      | none => rfl
      | some o => exact absurd (Heap.lt_size e) (Nat.not_lt.mpr h0I)
    refine hown (i + 1) v _ _ st ?_ |> nE
    have N' : News h₀ env.locals h' ((I, io) :: news) := fun p hp => by
      rcases List.mem_cons.mp hp with rfl | hp
      · exact ⟨hio', Ne.symm hLI, hI0⟩
      · exact News.mv N₁ hnI hk' p hp
    refine nE (wpAny_mono (turn i v m news h' tk' io hlt hv hJ hnI (Fr.mv F₁ h0I hLI hk') N') (fun _ s₂ h₂ => nE (wpAny_mono h₂ (fun f s₃ h₃ => ?_) fun _ _ x => x)) fun _ _ x => x)
    have fin : (∃ h'' tk'' m' news', s₃ = { s with heap := h'', toks := tk'' } ∧ Fr h₀ env.locals h'' m' ∧ News h₀ env.locals h'' ((I, io) :: news') ∧ (∀ p ∈ news', p.1 ≠ I) ∧ J (i + 1) m' news') →
        ∃ k, k < n + 1 - i ∧ ∃ i m news h tk, k = n + 1 - i ∧ i ≤ n ∧ s₃ = { s with heap := h, toks := tk } ∧ Fr h₀ env.locals h m ∧ News h₀ env.locals h news ∧ (∀ p ∈ news, p.1 ≠ I) ∧ J i m news ∧ Ist i h := by
      rintro ⟨h'', tk'', m', news', rfl, F₃, N₃, hn₃, hJ₃⟩
      refine ⟨n + 1 - (i + 1), by omega, i + 1, m', news', h'', tk'', rfl, by omega, rfl, F₃, fun p hp => N₃ p (List.mem_cons_of_mem _ hp), hn₃, hJ₃, hmv _ _ _ (hsi _ _ st) fun o e => ?_⟩
      have : o = io := Option.some.inj (e.symm.trans hio')
      subst this
      exact (N₃ _ (List.mem_cons_self ..)).1
    cases f with
    | ret v => exact h₃
    | brk => exact h₃
    | next => exact fin h₃
    | cont => exact fin h₃
  · obtain rfl : i = n := by omega
    refine W.done _ _ _ hS fun h' tk' hk => ?_
    have hk' : ∀ b o, b ≠ I → h.get? b = some o → h'.get? b = some o := fun b o hb e => hk b o (by simpa using hb) e
    exact wpAny_pure (done m news h' tk' hJ (Fr.mv F₁ h0I hLI hk') (News.mv N₁ hnI hk'))

theorem for_inv {l : Addr} {items : Array Value} {target : Expr} {m₀ : Str → Option Value} {news₀ : List (Addr × Obj)} (J : Nat → (Str → Option Value) → List (Addr × Obj) → Prop)
    (hh : A.handled = none) (hl : s.heap.IsList l items) (F : Fr h₀ env.locals s.heap m₀) (N : News h₀ env.locals s.heap news₀) (hj : J 0 m₀ news₀)
    (hlist : ∀ i m news h, J i m news → Fr h₀ env.locals h m → News h₀ env.locals h news → h.IsList l items)
    (hown : ∀ (I : Addr) (i : Nat) (v : Value) (s : Shared) (Q : Unit → Shared → Prop), s.heap.IsListIter I l i → Q () s → wpAny (model prog w) A (letOwnedTupleGo target (.ref I) v) Q (fun _ _ => False) s)
    (turn : ∀ i v m news h tk I io, items[i]? = some v → J i m news → (∀ p ∈ news, p.1 ≠ I) → Fr h₀ env.locals h m → News h₀ env.locals h ((I, io) :: news) →
      wpAny (model prog w) A (assign target env v) (fun _ s₂ => wpAny (model prog w) A (execs body env) (TurnPost h₀ env.locals (J (i + 1)) I io s Q) (fun _ _ => False) s₂) (fun _ _ => False) { s with heap := h, toks := tk })
    (done : ∀ m news h tk, J items.size m news → Fr h₀ env.locals h m → News h₀ env.locals h news → Q .next { s with heap := h, toks := tk }) :
    wpAny (model prog w) A (pyIter (.ref l)) (fun it s₂ => codeAny (model prog w) A (.forLoop target it body [] env) (fun r s' => match r with | .ok f => Q f s' | .error e => cameBackBy (model prog w) A env E e s') s₂) E s := by
  obtain ⟨ol, hol, _⟩ := id hl
  obtain ⟨oL, _, _, hoL, _⟩ := id F.ns
  have hne : l ≠ s.heap.objs.size := Nat.ne_of_lt (Heap.lt_size hol)
  have hLI : env.locals ≠ s.heap.objs.size := Nat.ne_of_lt (Heap.lt_size hoL)
  have h0I : h₀.objs.size ≤ s.heap.objs.size := Nat.le_trans F.above (Nat.le_of_lt (Heap.lt_size hoL))
  refine wpAny_pyIter_list hl ?_
  exact loop_walk (Walks.list (prog := prog) (w := w) hh s.heap.objs.size l hne items) (Ist := fun i h => h.IsListIter s.heap.objs.size l i) J hLI h0I (fun i m news h hJ F₁ N₁ hI => ⟨hI, hlist i m news h hJ F₁ N₁⟩) (fun _ _ x => x.1)
    (fun _ _ x => let ⟨o, ho, _⟩ := x.1; ⟨o, ho⟩) (fun _ _ _ x e => x.at e) (F.push _) (fun p hp => ⟨Heap.get?_push_of_some _ (N p hp).1, (N p hp).2⟩) (fun p hp => Nat.ne_of_lt (Heap.lt_size (N p hp).1)) hj
    ⟨{ cls := .type "list_iterator", data := .fields #[.ref l, .int 0 0] }, Heap.get?_push_size _ rfl, rfl, rfl⟩ (fun i v s' Q' x h => hown _ _ v s' Q' x.1 h)
    (fun i v m news h tk io _ hv hJ hn F₁ N₁ => turn i v m news h tk _ io hv hJ hn F₁ N₁) done

/-- a for over a range of n turns from nought, its body storing what it will -/
theorem for_range {r : Addr} {n : Nat} {t u v : Tok} {x : Str} {px : Pos} {m₀ : Str → Option Value} {news₀ : List (Addr × Obj)} (J : Nat → (Str → Option Value) → List (Addr × Obj) → Prop)
    (hx : env.kindOf x = some .local) (hp : (env.scope.kind == .class || (env.scope.kind == .module && env.locals != env.globals)) = false)
    (hh : A.handled = none) (hr : IsRange s.heap r 0 (n : Int) 1 t u v) (hn : n ≤ 4) (F : Fr h₀ env.locals s.heap m₀) (N : News h₀ env.locals s.heap news₀) (hj : J 0 m₀ news₀)
    (turn : ∀ i t m news h tk I io, i < n → J i m news → (∀ p ∈ news, p.1 ≠ I) → Fr h₀ env.locals h (fun y => if y = x then some (.int (i : Int) t) else m y) → News h₀ env.locals h ((I, io) :: news) →
      wpAny (model prog w) A (execs body env) (TurnPost h₀ env.locals (J (i + 1)) I io s Q) (fun _ _ => False) { s with heap := h, toks := tk })
    (done : ∀ m news h tk, J n m news → Fr h₀ env.locals h m → News h₀ env.locals h news → Q .next { s with heap := h, toks := tk }) :
    wpAny (model prog w) A (pyIter (.ref r)) (fun it s₂ => codeAny (model prog w) A (.forLoop (.Name x px) it body [] env) (fun r s' => match r with | .ok f => Q f s' | .error e => cameBackBy (model prog w) A env E e s') s₂) E s := by
  obtain ⟨oL, _, _, hoL, _⟩ := id F.ns
  have hLI : env.locals ≠ s.heap.objs.size := Nat.ne_of_lt (Heap.lt_size hoL)
  have h0I : h₀.objs.size ≤ s.heap.objs.size := Nat.le_trans F.above (Nat.le_of_lt (Heap.lt_size hoL))
  have hsz : Builtin.Range.rangeSize 0 (n : Int) 1 = (n : Int) := by
    have : n = 0 ∨ n = 1 ∨ n = 2 ∨ n = 3 ∨ n = 4 := by omega
    rcases this with rfl | rfl | rfl | rfl | rfl <;> rfl
  have hsm : Builtin.Range.small 0 (n : Int) 1 = true := by
    have : n = 0 ∨ n = 1 ∨ n = 2 ∨ n = 3 ∨ n = 4 := by omega
    rcases this with rfl | rfl | rfl | rfl | rfl <;> decide +kernel
  refine wpAny_pyIter_range hr hsm ?_
  rw [hsz]
  refine loop_walk (Walks.range (prog := prog) (w := w) hh s.heap.objs.size 0 1 n) (Ist := fun i h => IsRangeIter h s.heap.objs.size (0 + (i : Nat) * 1) ((n : Int) - (i : Nat)) 1) J hLI h0I (fun i m news h hJ F₁ N₁ hI => hI) (fun _ _ x => x)
    (fun _ _ x => ⟨_, x⟩) (fun _ _ _ x e => e _ x) (F.push _) (fun p hp => ⟨Heap.get?_push_of_some _ (N p hp).1, (N p hp).2⟩) (fun p hp => Nat.ne_of_lt (Heap.lt_size (N p hp).1)) hj
    (by simpa using Heap.get?_push_size _ rfl) (fun i v s' Q' _ h => own_name h) ?_ done
  rintro i w' m news h tk io hlt ⟨t', rfl⟩ hJ hn' F₁ N₁
  refine wpAny_assign_Name (wpAny_storeName_local hx F₁.ns (fun h' hns' hs' => ?_) hp)
  have e : (0 : Int) + (i : Int) * 1 = (i : Int) := by omega
  have F₂ := F₁.set hns' hs'
  rw [e] at F₂
  exact turn i t' m news h' _ _ io hlt hJ hn' F₂ (N₁.set hs')

/-- a for whose body stores no name but its own -/
theorem for_name {l : Addr} {items : Array Value} {x : Str} {px : Pos} {m₀ : Str → Option Value} {news₀ : List (Addr × Obj)} (J : Nat → List (Addr × Obj) → Prop)
    (hx : env.kindOf x = some .local) (hp : (env.scope.kind == .class || (env.scope.kind == .module && env.locals != env.globals)) = false)
    (hh : A.handled = none) (hl : s.heap.IsList l items) (F : Fr h₀ env.locals s.heap m₀) (N : News h₀ env.locals s.heap news₀) (hj : J 0 news₀)
    (hlist : ∀ i news h, J i news → (∀ b o, h₀.get? b = some o → h.get? b = some o) → News h₀ env.locals h news → h.IsList l items)
    (turn : ∀ i v news h tk I io, items[i]? = some v → J i news → (∀ p ∈ news, p.1 ≠ I) → Fr h₀ env.locals h (fun y => if y = x then some v else m₀ y) → News h₀ env.locals h ((I, io) :: news) →
      wpAny (model prog w) A (execs body env) (TurnPost h₀ env.locals (fun m' news' => (∀ z, z ≠ x → m' z = m₀ z) ∧ J (i + 1) news') I io s Q) (fun _ _ => False) { s with heap := h, toks := tk })
    (done : ∀ (u : Str → Option Value) news h tk, J items.size news → Fr h₀ env.locals h (fun z => if z = x then u z else m₀ z) → News h₀ env.locals h news → Q .next { s with heap := h, toks := tk }) :
    wpAny (model prog w) A (pyIter (.ref l)) (fun it s₂ => codeAny (model prog w) A (.forLoop (.Name x px) it body [] env) (fun r s' => match r with | .ok f => Q f s' | .error e => cameBackBy (model prog w) A env E e s') s₂) E s := by
  refine for_inv (fun i m nx => (∀ z, z ≠ x → m z = m₀ z) ∧ J i nx) hh hl F N ⟨fun _ _ => rfl, hj⟩ (fun i m news h hJ F₁ N₁ => hlist i news h hJ.2 F₁.keep N₁) (fun _ _ _ _ _ _ h => own_name h) ?_ ?_
  · rintro i v m news h tk I io hv ⟨hm, hJ⟩ hn F₁ N₁
    refine wpAny_assign_Name (wpAny_storeName_local hx F₁.ns (fun h' hns' hs' => ?_) hp)
    have e : (fun y => if y = x then some v else m y) = fun y => if y = x then some v else m₀ y := by
      funext z
      by_cases h1 : z = x
      · simp [h1]
      · simp only [if_neg h1]; exact hm z h1
    have F₂ := F₁.set hns' hs'
    rw [e] at F₂
    exact turn i v news h' _ I io hv hJ hn F₂ (N₁.set hs')
  · rintro m news h tk ⟨hm, hJ⟩ F₁ N₁
    refine done m news h tk hJ ?_ N₁
    have e : (fun z => if z = x then m z else m₀ z) = m := by
      funext z
      by_cases h1 : z = x
      · simp [h1]
      · simp only [if_neg h1]; exact (hm z h1).symm
    rw [e]; exact F₁

/-- a for over a list; its body stores the names named -/
theorem for_names (names : List Str) {l : Addr} {items : Array Value} {x : Str} {px : Pos} {m₀ : Str → Option Value} {news₀ : List (Addr × Obj)} (J : Nat → List (Addr × Obj) → Prop)
    (hx : env.kindOf x = some .local) (hp : (env.scope.kind == .class || (env.scope.kind == .module && env.locals != env.globals)) = false)
    (hh : A.handled = none) (hl : s.heap.IsList l items) (F : Fr h₀ env.locals s.heap m₀) (N : News h₀ env.locals s.heap news₀) (hj : J 0 news₀)
    (hlist : ∀ i news h, J i news → (∀ b o, h₀.get? b = some o → h.get? b = some o) → News h₀ env.locals h news → h.IsList l items)
    (turn : ∀ i v (m : Str → Option Value) news h tk I io, items[i]? = some v → J i news → (∀ p ∈ news, p.1 ≠ I) → (∀ y, y ∉ names → m y = m₀ y) → Fr h₀ env.locals h (fun y => if y = x then some v else m y) → News h₀ env.locals h ((I, io) :: news) →
      wpAny (model prog w) A (execs body env) (TurnPost h₀ env.locals (fun m' news' => (∀ y, y ∉ names → m' y = m₀ y) ∧ J (i + 1) news') I io s Q) (fun _ _ => False) { s with heap := h, toks := tk })
    (done : ∀ (m : Str → Option Value) news h tk, J items.size news → (∀ y, y ∉ names → m y = m₀ y) → Fr h₀ env.locals h m → News h₀ env.locals h news → Q .next { s with heap := h, toks := tk }) :
    wpAny (model prog w) A (pyIter (.ref l)) (fun it s₂ => codeAny (model prog w) A (.forLoop (.Name x px) it body [] env) (fun r s' => match r with | .ok f => Q f s' | .error e => cameBackBy (model prog w) A env E e s') s₂) E s := by
  refine for_inv (fun i m nx => (∀ y, y ∉ names → m y = m₀ y) ∧ J i nx) hh hl F N ⟨fun _ _ => rfl, hj⟩ (fun i m news h hJ F₁ N₁ => hlist i news h hJ.2 F₁.keep N₁) (fun _ _ _ _ _ _ h => own_name h) ?_ ?_
  · rintro i v m news h tk I io hv ⟨hm, hJ⟩ hn F₁ N₁
    refine wpAny_assign_Name (wpAny_storeName_local hx F₁.ns (fun h' hns' hs' => ?_) hp)
    exact turn i v m news h' _ I io hv hJ hn hm (F₁.set hns' hs') (N₁.set hs')
  · rintro m news h tk ⟨hm, hJ⟩ F₁ N₁
    exact done m news h tk hJ hm F₁ N₁
theorem range_names (names : List Str) {r : Addr} {n : Nat} {t u v : Tok} {x : Str} {px : Pos} {m₀ : Str → Option Value} {news₀ : List (Addr × Obj)} (J : Nat → (Str → Option Value) → List (Addr × Obj) → Prop)
    (hx : env.kindOf x = some .local) (hp : (env.scope.kind == .class || (env.scope.kind == .module && env.locals != env.globals)) = false)
    (hh : A.handled = none) (hr : IsRange s.heap r 0 (n : Int) 1 t u v) (hn : n ≤ 4) (F : Fr h₀ env.locals s.heap m₀) (N : News h₀ env.locals s.heap news₀) (hj : J 0 m₀ news₀)
    (turn : ∀ i t (m : Str → Option Value) news h tk I io, i < n → J i m news → (∀ p ∈ news, p.1 ≠ I) → (∀ y, y ∉ names → m y = m₀ y) → Fr h₀ env.locals h (fun y => if y = x then some (.int (i : Int) t) else m y) → News h₀ env.locals h ((I, io) :: news) →
      wpAny (model prog w) A (execs body env) (TurnPost h₀ env.locals (fun m' news' => (∀ y, y ∉ names → m' y = m₀ y) ∧ J (i + 1) m' news') I io s Q) (fun _ _ => False) { s with heap := h, toks := tk })
    (done : ∀ (m : Str → Option Value) news h tk, J n m news → (∀ y, y ∉ names → m y = m₀ y) → Fr h₀ env.locals h m → News h₀ env.locals h news → Q .next { s with heap := h, toks := tk }) :
    wpAny (model prog w) A (pyIter (.ref r)) (fun it s₂ => codeAny (model prog w) A (.forLoop (.Name x px) it body [] env) (fun r s' => match r with | .ok f => Q f s' | .error e => cameBackBy (model prog w) A env E e s') s₂) E s :=
  for_range (fun i m nx => (∀ y, y ∉ names → m y = m₀ y) ∧ J i m nx) hx hp hh hr hn F N ⟨fun _ _ => rfl, hj⟩ (fun i t m news h tk I io hi hJ hn F₁ N₁ => turn i t m news h tk I io hi hJ.2 hn hJ.1 F₁ N₁) (fun m news h tk hJ F₁ N₁ => done m news h tk hJ.2 hJ.1 F₁ N₁)
end
end Mine
end
section
open PySem PySem.W PyProof.Rows
set_option linter.all false
set_option maxRecDepth 100000
namespace Mine
noncomputable abbrev PR : Program := PySem.Challenge.pw_qu0026_01
noncomputable def fnd (i : Nat) : Arguments × List Stmt × Scope := match PR.main.body[i]? with
  | some (.FunctionDef _ a b _ _ _ s _ _ _) => (a, b, s)
  | _ => (⟨[], [], none, [], [], none, []⟩, [], ⟨.module, [], false, false, []⟩)
noncomputable abbrev de (P : Params) (x : Str) (t : Nat) (v : Value) : DictEntry := ⟨PyData.keyHash P x, .str x t, v⟩
def hexd (k : Nat) : Nat := if k < 10 then 48 + k else 55 + k
noncomputable abbrev it (c : Nat) : Value := .str ⟨[61, hexd (c / 16), hexd (c % 16)].toArray⟩ (582 + 4 * c)
noncomputable abbrev ch (c t : Nat) : Value := .str ⟨[c].toArray⟩ t
noncomputable abbrev bn := BT.node
noncomputable abbrev bl := BT.nil
noncomputable def fd3 : { x : Arguments × List Stmt × Scope // x = fnd 3 } := ⟨_, by conv => rhs; whnf⟩
noncomputable def fd8 : { x : Arguments × List Stmt × Scope // x = fnd 8 } := ⟨_, by conv => rhs; whnf⟩
noncomputable def fd21 : { x : Arguments × List Stmt × Scope // x = fnd 21 } := ⟨_, by conv => rhs; whnf⟩
noncomputable def fd22 : { x : Arguments × List Stmt × Scope // x = fnd 22 } := ⟨_, by conv => rhs; whnf⟩
noncomputable def fd26 : { x : Arguments × List Stmt × Scope // x = fnd 26 } := ⟨_, by conv => rhs; whnf⟩
noncomputable def fd27 : { x : Arguments × List Stmt × Scope // x = fnd 27 } := ⟨_, by conv => rhs; whnf⟩
noncomputable def fd29 : { x : Arguments × List Stmt × Scope // x = fnd 29 } := ⟨_, by conv => rhs; whnf⟩
noncomputable def fd30 : { x : Arguments × List Stmt × Scope // x = fnd 30 } := ⟨_, by conv => rhs; whnf⟩
noncomputable def fd31 : { x : Arguments × List Stmt × Scope // x = fnd 31 } := ⟨_, by conv => rhs; whnf⟩
noncomputable def fd32 : { x : Arguments × List Stmt × Scope // x = fnd 32 } := ⟨_, by conv => rhs; whnf⟩
noncomputable abbrev o0_0 (P : Params) : Obj := ⟨.type "dict", none, .dict ((de P (Str.ofString "__name__") 1 (.str (Str.ofString "builtins") 160) :: de P (Str.ofString "__doc__") 2 (.builtin "builtins.__doc__:str#opaque") :: de P (Str.ofString "__package__") 3 (.builtin "builtins.__package__:str#opaque") :: de P (Str.ofString "__loader__") 4 (.builtin "builtins.__loader__:shared#opaque") :: de P (Str.ofString "__spec__") 5 (.builtin "builtins.__spec__#opaque") :: de P (Str.ofString "__build_class__") 6 (.builtin "__build_class__") :: de P (Str.ofString "__import__") 7 (.builtin "__import__") :: de P (Str.ofString "abs") 8 (.builtin "abs") :: de P (Str.ofString "all") 9 (.builtin "all") :: de P (Str.ofString "any") 10 (.builtin "any") :: de P (Str.ofString "ascii") 11 (.builtin "ascii") :: de P (Str.ofString "bin") 12 (.builtin "bin") :: de P (Str.ofString "breakpoint") 13 (.builtin "breakpoint") :: de P (Str.ofString "callable") 14 (.builtin "callable") :: de P (Str.ofString "chr") 15 (.builtin "chr") :: de P (Str.ofString "compile") 16 (.builtin "compile") :: de P (Str.ofString "delattr") 17 (.builtin "delattr") :: de P (Str.ofString "dir") 18 (.builtin "dir") :: de P (Str.ofString "divmod") 19 (.builtin "divmod") :: de P (Str.ofString "eval") 20 (.builtin "eval") :: de P (Str.ofString "exec") 21 (.builtin "exec") :: de P (Str.ofString "format") 22 (.builtin "format") :: de P (Str.ofString "getattr") 23 (.builtin "getattr") :: de P (Str.ofString "globals") 24 (.builtin "globals") :: de P (Str.ofString "hasattr") 25 (.builtin "hasattr") :: de P (Str.ofString "hash") 26 (.builtin "hash") :: de P (Str.ofString "hex") 27 (.builtin "hex") :: de P (Str.ofString "id") 28 (.builtin "id") :: de P (Str.ofString "input") 29 (.builtin "input") :: de P (Str.ofString "isinstance") 30 (.builtin "isinstance") :: de P (Str.ofString "issubclass") 31 (.builtin "issubclass") :: de P (Str.ofString "iter") 32 (.builtin "iter") :: de P (Str.ofString "aiter") 33 (.builtin "aiter") :: de P (Str.ofString "len") 34 (.builtin "len") :: de P (Str.ofString "locals") 35 (.builtin "locals") :: de P (Str.ofString "max") 36 (.builtin "max") :: de P (Str.ofString "min") 37 (.builtin "min") :: de P (Str.ofString "next") 38 (.builtin "next") :: de P (Str.ofString "anext") 39 (.builtin "anext") :: de P (Str.ofString "oct") 40 (.builtin "oct") :: de P (Str.ofString "ord") 41 (.builtin "ord") :: de P (Str.ofString "pow") 42 (.builtin "pow") :: de P (Str.ofString "print") 43 (.builtin "print") :: de P (Str.ofString "repr") 44 (.builtin "repr") :: de P (Str.ofString "round") 45 (.builtin "round") :: de P (Str.ofString "setattr") 46 (.builtin "setattr") :: de P (Str.ofString "sorted") 47 (.builtin "sorted") :: de P (Str.ofString "sum") 48 (.builtin "sum") :: de P (Str.ofString "vars") 49 (.builtin "vars") :: de P (Str.ofString "None") 50 (.none) :: de P (Str.ofString "Ellipsis") 51 (.ellipsis) :: de P (Str.ofString "NotImplemented") 52 (.notImplemented) :: de P (Str.ofString "False") 53 (.bool false) :: de P (Str.ofString "True") 54 (.bool true) :: de P (Str.ofString "bool") 55 (.type "bool") :: de P (Str.ofString "memoryview") 56 (.type "memoryview") :: de P (Str.ofString "bytearray") 57 (.type "bytearray") :: de P (Str.ofString "bytes") 58 (.type "bytes") :: de P (Str.ofString "classmethod") 59 (.type "classmethod") :: de P (Str.ofString "complex") 60 (.type "complex") :: de P (Str.ofString "dict") 61 (.type "dict") :: de P (Str.ofString "enumerate") 62 (.type "enumerate") :: de P (Str.ofString "filter") 63 (.type "filter") :: de P (Str.ofString "float") 64 (.type "float") :: de P (Str.ofString "frozenset") 65 (.type "frozenset") :: de P (Str.ofString "property") 66 (.type "property") :: de P (Str.ofString "int") 67 (.type "int") :: de P (Str.ofString "list") 68 (.type "list") :: de P (Str.ofString "map") 69 (.type "map") :: de P (Str.ofString "object") 70 (.type "object") :: de P (Str.ofString "range") 71 (.type "range") :: de P (Str.ofString "reversed") 72 (.type "reversed") :: de P (Str.ofString "set") 73 (.type "set") :: de P (Str.ofString "slice") 74 (.type "slice") :: de P (Str.ofString "staticmethod") 75 (.type "staticmethod") :: de P (Str.ofString "str") 76 (.type "str") :: de P (Str.ofString "super") 77 (.type "super") :: de P (Str.ofString "tuple") 78 (.type "tuple") :: de P (Str.ofString "type") 79 (.type "type") :: de P (Str.ofString "zip") 80 (.type "zip") :: de P (Str.ofString "__debug__") 81 (.bool true) :: de P (Str.ofString "BaseException") 82 (.type "BaseException") :: de P (Str.ofString "BaseExceptionGroup") 83 (.type "BaseExceptionGroup") :: de P (Str.ofString "Exception") 84 (.type "Exception") :: de P (Str.ofString "GeneratorExit") 85 (.type "GeneratorExit") :: de P (Str.ofString "KeyboardInterrupt") 86 (.type "KeyboardInterrupt") :: de P (Str.ofString "SystemExit") 87 (.type "SystemExit") :: de P (Str.ofString "ArithmeticError") 88 (.type "ArithmeticError") :: de P (Str.ofString "AssertionError") 89 (.type "AssertionError") :: de P (Str.ofString "AttributeError") 90 (.type "AttributeError") :: de P (Str.ofString "BufferError") 91 (.type "BufferError") :: de P (Str.ofString "EOFError") 92 (.type "EOFError") :: de P (Str.ofString "ImportError") 93 (.type "ImportError") :: de P (Str.ofString "LookupError") 94 (.type "LookupError") :: de P (Str.ofString "MemoryError") 95 (.type "MemoryError") :: de P (Str.ofString "NameError") 96 (.type "NameError") :: de P (Str.ofString "OSError") 97 (.type "OSError") :: de P (Str.ofString "ReferenceError") 98 (.type "ReferenceError") :: de P (Str.ofString "RuntimeError") 99 (.type "RuntimeError") :: de P (Str.ofString "StopAsyncIteration") 100 (.type "StopAsyncIteration") :: de P (Str.ofString "StopIteration") 101 (.type "StopIteration") :: de P (Str.ofString "SyntaxError") 102 (.type "SyntaxError") :: de P (Str.ofString "SystemError") 103 (.type "SystemError") :: de P (Str.ofString "TypeError") 104 (.type "TypeError") :: de P (Str.ofString "ValueError") 105 (.type "ValueError") :: de P (Str.ofString "Warning") 106 (.type "Warning") :: de P (Str.ofString "FloatingPointError") 107 (.type "FloatingPointError") :: de P (Str.ofString "OverflowError") 108 (.type "OverflowError") :: de P (Str.ofString "ZeroDivisionError") 109 (.type "ZeroDivisionError") :: de P (Str.ofString "BytesWarning") 110 (.type "BytesWarning") :: de P (Str.ofString "DeprecationWarning") 111 (.type "DeprecationWarning") :: de P (Str.ofString "EncodingWarning") 112 (.type "EncodingWarning") :: de P (Str.ofString "FutureWarning") 113 (.type "FutureWarning") :: de P (Str.ofString "ImportWarning") 114 (.type "ImportWarning") :: de P (Str.ofString "PendingDeprecationWarning") 115 (.type "PendingDeprecationWarning") :: de P (Str.ofString "ResourceWarning") 116 (.type "ResourceWarning") :: de P (Str.ofString "RuntimeWarning") 117 (.type "RuntimeWarning") :: de P (Str.ofString "SyntaxWarning") 118 (.type "SyntaxWarning") :: de P (Str.ofString "UnicodeWarning") 119 (.type "UnicodeWarning") :: de P (Str.ofString "UserWarning") 120 (.type "UserWarning") :: de P (Str.ofString "BlockingIOError") 121 (.type "BlockingIOError") :: de P (Str.ofString "ChildProcessError") 122 (.type "ChildProcessError") :: de P (Str.ofString "ConnectionError") 123 (.type "ConnectionError") :: de P (Str.ofString "FileExistsError") 124 (.type "FileExistsError") :: de P (Str.ofString "FileNotFoundError") 125 (.type "FileNotFoundError") :: de P (Str.ofString "InterruptedError") 126 (.type "InterruptedError") :: de P (Str.ofString "IsADirectoryError") 127 (.type "IsADirectoryError") :: de P (Str.ofString "NotADirectoryError") 128 (.type "NotADirectoryError") :: de P (Str.ofString "PermissionError") 129 (.type "PermissionError") :: de P (Str.ofString "ProcessLookupError") 130 (.type "ProcessLookupError") :: de P (Str.ofString "TimeoutError") 131 (.type "TimeoutError") :: de P (Str.ofString "IndentationError") 132 (.type "IndentationError") :: de P (Str.ofString "_IncompleteInputError") 133 (.type "_IncompleteInputError") :: de P (Str.ofString "IndexError") 134 (.type "IndexError") :: de P (Str.ofString "KeyError") 135 (.type "KeyError") :: de P (Str.ofString "ModuleNotFoundError") 136 (.type "ModuleNotFoundError") :: de P (Str.ofString "NotImplementedError") 137 (.type "NotImplementedError") :: de P (Str.ofString "PythonFinalizationError") 138 (.type "PythonFinalizationError") :: de P (Str.ofString "RecursionError") 139 (.type "RecursionError") :: de P (Str.ofString "UnboundLocalError") 140 (.type "UnboundLocalError") :: de P (Str.ofString "UnicodeError") 141 (.type "UnicodeError") :: de P (Str.ofString "BrokenPipeError") 142 (.type "BrokenPipeError") :: de P (Str.ofString "ConnectionAbortedError") 143 (.type "ConnectionAbortedError") :: de P (Str.ofString "ConnectionRefusedError") 144 (.type "ConnectionRefusedError") :: de P (Str.ofString "ConnectionResetError") 145 (.type "ConnectionResetError") :: de P (Str.ofString "TabError") 146 (.type "TabError") :: de P (Str.ofString "UnicodeDecodeError") 147 (.type "UnicodeDecodeError") :: de P (Str.ofString "UnicodeEncodeError") 148 (.type "UnicodeEncodeError") :: de P (Str.ofString "UnicodeTranslateError") 149 (.type "UnicodeTranslateError") :: de P (Str.ofString "ExceptionGroup") 150 (.type "ExceptionGroup") :: de P (Str.ofString "EnvironmentError") 151 (.type "OSError") :: de P (Str.ofString "IOError") 152 (.type "OSError") :: de P (Str.ofString "open") 153 (.builtin "open") :: de P (Str.ofString "quit") 154 (.builtin "builtins.quit#opaque") :: de P (Str.ofString "exit") 155 (.builtin "builtins.exit#opaque") :: de P (Str.ofString "copyright") 156 (.builtin "builtins.copyright#opaque") :: de P (Str.ofString "credits") 157 (.builtin "builtins.credits#opaque") :: de P (Str.ofString "license") 158 (.builtin "builtins.license#opaque") :: de P (Str.ofString "help") 159 (.builtin "builtins.help#opaque") :: []).toArray) 159, [].toArray⟩
noncomputable abbrev o1_0 (P : Params) : Obj := ⟨.type "dict", none, .dict ([de P (Str.ofString "builtins") 162 (.ref 4), de P (Str.ofString "__main__") 163 (.ref 5), de P (Str.ofString "_sre") 244 (.ref 12)].toArray) 3, [].toArray⟩
noncomputable abbrev o2_0 (P : Params) : Obj := ⟨.none, none, .dict ([de P (Str.mk [105, 109, 112, 111, 114, 116, 46, 108, 111, 97, 100, 101, 100, 46, 95, 115, 114, 101].toArray) 183 (.bool true), de P (Str.ofString "class._frozen_importlib.BuiltinImporter") 185 (.ref 14), de P (Str.mk [119, 97, 116, 99, 104, 101, 100, 46, 105, 109, 112, 111, 114, 116].toArray) 206 (.ref 18), de P (Str.ofString "class._frozen_importlib.ModuleSpec") 216 (.ref 22), de P (Str.ofString "sys.modules.booked-epoch") 245 (.int 3 0), de P (Str.mk [105, 109, 112, 111, 114, 116, 46, 108, 97, 116, 101, 114, 45, 108, 97, 105, 100, 46, 95, 115, 114, 101].toArray) 270 (.bool true), de P (Str.ofString "watched.library") 272 (.ref 27), de P (Str.ofString "watched.library-objects") 0 (.str (Str.mk [12].toArray) 0), de P (Str.ofString "watched.library-deep._sre") 273 (.str (Str.mk [4, 0, 0, 11, 4, 0, 0, 11, 4, 0, 0, 3, 4, 0, 0, 11, 8, 4, 100, 105, 99, 116, 2].toArray) 0)].toArray) 9, [].toArray⟩
noncomputable abbrev o3_0 (P : Params) : Obj := ⟨.type "dict", none, .dict ([de P (Str.ofString "__name__") 165 (.str (Str.ofString "__main__") 164), de P (Str.ofString "__doc__") 166 (.none), de P (Str.ofString "__package__") 167 (.none), de P (Str.ofString "__loader__") 168 (.builtin "__main__.__loader__#opaque"), de P (Str.ofString "__spec__") 169 (.none), de P (Str.ofString "__annotations__") 170 (.ref 6), de P (Str.ofString "__builtins__") 171 (.ref 4), de P (Str.ofString "__file__") 173 (.str (Str.ofString "/claim/cut.py") 172), de P (Str.ofString "__cached__") 174 (.none), de P (Str.ofString "_sre") 275 (.ref 12)].toArray) 10, [].toArray⟩
noncomputable abbrev o4_0 (P : Params) : Obj := ⟨.type "module", (some 0), .plain, [].toArray⟩
noncomputable abbrev o5_0 (P : Params) : Obj := ⟨.type "module", (some 3), .plain, [].toArray⟩
noncomputable abbrev o6_0 (P : Params) : Obj := ⟨.type "dict", none, .dict ([].toArray) 0, [].toArray⟩
noncomputable abbrev o7_0 (P : Params) : Obj := ⟨.type "tuple", none, .seq ([].toArray) 0, [].toArray⟩
noncomputable abbrev o8_0 (P : Params) : Obj := ⟨.none, none, .fields ([].toArray), [].toArray⟩
noncomputable abbrev o9_0 (P : Params) : Obj := ⟨.type "code", none, .fields ([.str (Str.ofString "<module>") 176, .str (Str.ofString "<module>") 177, .str (Str.ofString "/claim/cut.py") 178, .int 1 0, .int 0 0, .int 0 0, .int 0 0, .int 0 0, .ref 7, .bool false, .int 175 0, .ref 8, .none, .none, .none, .none, .int 179 0, .int 1 0, .str (Str.ofString "/claim/cut.py") 180].toArray), [].toArray⟩
noncomputable abbrev o10_0 (P : Params) : Obj := ⟨.type "frame", none, .plain, [some (.ref 9), some (.ref 3), some (.ref 3), none, some (.str (Str.ofString "__main__") 164), none, some (.ref 0)].toArray⟩
noncomputable abbrev o11_0 (P : Params) : Obj := ⟨.type "dict", none, .dict ([de P (Str.ofString "__name__") 247 (.str (Str.ofString "_sre") 246), de P (Str.ofString "__doc__") 248 (.none), de P (Str.ofString "__package__") 250 (.str (Str.ofString "") 249), de P (Str.ofString "__loader__") 251 (.builtin "off-the-table:_sre.__loader__:shared#opaque"), de P (Str.ofString "__spec__") 252 (.builtin "off-the-table:_sre.__spec__:shared#opaque"), de P (Str.ofString "compile") 253 (.builtin "_sre.compile"), de P (Str.ofString "template") 254 (.builtin "off-the-table:_sre.template:shared#opaque"), de P (Str.ofString "getcodesize") 255 (.builtin "off-the-table:_sre.getcodesize:shared#opaque"), de P (Str.ofString "ascii_iscased") 256 (.builtin "off-the-table:_sre.ascii_iscased:shared#opaque"), de P (Str.ofString "unicode_iscased") 257 (.builtin "off-the-table:_sre.unicode_iscased:shared#opaque"), de P (Str.ofString "ascii_tolower") 258 (.builtin "off-the-table:_sre.ascii_tolower:shared#opaque"), de P (Str.ofString "unicode_tolower") 259 (.builtin "off-the-table:_sre.unicode_tolower:shared#opaque"), de P (Str.ofString "MAGIC") 261 (.int 20230612 260), de P (Str.ofString "CODESIZE") 263 (.int 4 262), de P (Str.ofString "MAXREPEAT") 265 (.int 4294967295 264), de P (Str.ofString "MAXGROUPS") 267 (.int 1073741823 266), de P (Str.ofString "copyright") 269 (.str (Str.ofString " SRE 2.2.2 Copyright (c) 1997-2002 by Secret Labs AB ") 268)].toArray) 17, [].toArray⟩
noncomputable abbrev o12_0 (P : Params) : Obj := ⟨.type "module", (some 11), .plain, [].toArray⟩
noncomputable abbrev o13_0 (P : Params) : Obj := ⟨.type "dict", none, .dict ([de P (Str.ofString "__module__") 189 (.str (Str.ofString "_frozen_importlib") 186), de P (Str.ofString "__firstlineno__") 190 (.int 971 187), de P (Str.ofString "__doc__") 191 (.builtin "_frozen_importlib.BuiltinImporter.__doc__:str#opaque"), de P (Str.ofString "_ORIGIN") 192 (.str (Str.ofString "built-in") 188), de P (Str.ofString "find_spec") 193 (.builtin "_frozen_importlib.BuiltinImporter.find_spec#opaque"), de P (Str.ofString "create_module") 194 (.builtin "_frozen_importlib.BuiltinImporter.create_module#opaque"), de P (Str.ofString "exec_module") 195 (.builtin "_frozen_importlib.BuiltinImporter.exec_module#opaque"), de P (Str.ofString "get_code") 196 (.builtin "_frozen_importlib.BuiltinImporter.get_code#opaque"), de P (Str.ofString "get_source") 197 (.builtin "_frozen_importlib.BuiltinImporter.get_source#opaque"), de P (Str.ofString "is_package") 198 (.builtin "_frozen_importlib.BuiltinImporter.is_package#opaque"), de P (Str.ofString "load_module") 199 (.builtin "_frozen_importlib.BuiltinImporter.load_module#opaque"), de P (Str.ofString "__static_attributes__") 200 (.ref 15), de P (Str.ofString "__dict__") 202 (.ref 16), de P (Str.ofString "__weakref__") 204 (.ref 17)].toArray) 14, [].toArray⟩
noncomputable abbrev o14_0 (P : Params) : Obj := ⟨.type "type", none, .cls { name := (Str.ofString "BuiltinImporter"), bases := [.type "object"], mro := [.ref 14, .type "object"], ns := 13, qualname := (Str.ofString "BuiltinImporter"), hasDict := true, slotNames := [], subclasses := [], abstract := false, collection := none, hasDel := false }, [].toArray⟩
noncomputable abbrev o15_0 (P : Params) : Obj := ⟨.type "tuple", none, .seq ([].toArray) 0, [].toArray⟩
noncomputable abbrev o16_0 (P : Params) : Obj := ⟨.type "getset_descriptor", none, .fields ([.str (Str.ofString "__dict__") 201, .ref 14, .builtin "function.__dict__", .builtin "function.__dict__#set"].toArray), [].toArray⟩
noncomputable abbrev o17_0 (P : Params) : Obj := ⟨.type "getset_descriptor", none, .fields ([.str (Str.ofString "__weakref__") 203, .ref 14, .builtin "ExceptionGroup.__weakref__", .none].toArray), [].toArray⟩
noncomputable abbrev o18_0 (P : Params) : Obj := ⟨.none, none, .seq ([.int 13 0, .str (Str.mk (6 :: 189 :: 10 :: 95 :: 95 :: 109 :: 111 :: 100 :: 117 :: 108 :: 101 :: 95 :: 95 :: 6 :: 186 :: 17 :: 95 :: 102 :: 114 :: 111 :: 122 :: 101 :: 110 :: 95 :: 105 :: 109 :: 112 :: 111 :: 114 :: 116 :: 108 :: 105 :: 98 :: 6 :: 190 :: 15 :: 95 :: 95 :: 102 :: 105 :: 114 :: 115 :: 116 :: 108 :: 105 :: 110 :: 101 :: 110 :: 111 :: 95 :: 95 :: 4 :: 187 :: 0 :: 971 :: 6 :: 191 :: 7 :: 95 :: 95 :: 100 :: 111 :: 99 :: 95 :: 95 :: 9 :: 52 :: 95 :: 102 :: 114 :: 111 :: 122 :: 101 :: 110 :: 95 :: 105 :: 109 :: 112 :: 111 :: 114 :: 116 :: 108 :: 105 :: 98 :: 46 :: 66 :: 117 :: 105 :: 108 :: 116 :: 105 :: 110 :: 73 :: 109 :: 112 :: 111 :: 114 :: 116 :: 101 :: 114 :: 46 :: 95 :: 95 :: 100 :: 111 :: 99 :: 95 :: 95 :: 58 :: 115 :: 116 :: 114 :: 35 :: 111 :: 112 :: 97 :: 113 :: 117 :: 101 :: 6 :: 192 :: 7 :: 95 :: 79 :: 82 :: 73 :: 71 :: 73 :: 78 :: 6 :: 188 :: 8 :: 98 :: 117 :: 105 :: 108 :: 116 :: 45 :: 105 :: 110 :: 6 :: 193 :: 9 :: 102 :: 105 :: 110 :: 100 :: 95 :: 115 :: 112 :: 101 :: 99 :: 9 :: 50 :: 95 :: 102 :: 114 :: 111 :: 122 :: 101 :: 110 :: 95 :: 105 :: 109 :: 112 :: 111 :: 114 :: 116 :: 108 :: 105 :: 98 :: 46 :: 66 :: 117 :: 105 :: 108 :: 116 :: 105 :: 110 :: 73 :: 109 :: 112 :: 111 :: 114 :: 116 :: 101 :: 114 :: 46 :: 102 :: 105 :: 110 :: 100 :: 95 :: 115 :: 112 :: 101 :: 99 :: 35 :: 111 :: 112 :: 97 :: 113 :: 117 :: 101 :: 6 :: 194 :: 13 :: 99 :: 114 :: 101 :: 97 :: 116 :: 101 :: 95 :: 109 :: 111 :: 100 :: 117 :: 108 :: 101 :: 9 :: 54 :: 95 :: 102 :: 114 :: 111 :: 122 :: 101 :: 110 :: 95 :: 105 :: 109 :: 112 :: 111 :: 114 :: 116 :: 108 :: 105 :: 98 :: 46 :: 66 :: 117 :: 105 :: 108 :: 116 :: 105 :: 110 :: 73 :: 109 :: 112 :: 111 :: 114 :: 116 :: 101 :: 114 :: 46 :: 99 :: 114 :: 101 :: 97 :: 116 :: 101 :: 95 :: 109 :: 111 :: 100 :: 117 :: 108 :: 101 :: 35 :: 111 :: 112 :: 97 :: 113 :: 117 :: 101 :: 6 :: 195 :: 11 :: 101 :: 120 :: 101 :: 99 :: 95 :: 109 :: 111 :: 100 :: 117 :: 108 :: 101 :: 9 :: 52 :: 95 :: 102 :: 114 :: 111 :: 122 :: 101 :: 110 :: 95 :: 105 :: 109 :: 112 :: 111 :: 114 :: 116 :: 108 :: 105 :: 98 :: 46 :: 66 :: 117 :: 105 :: 108 :: 116 :: 105 :: 110 :: 73 :: 109 :: 112 :: 111 :: 114 :: 116 :: 101 :: 114 :: 46 :: 101 :: 120 :: 101 :: 99 :: 95 :: 109 :: 111 :: 100 :: 117 :: 108 :: 101 :: 35 :: 111 :: 112 :: 97 :: 113 :: 117 :: 101 :: 6 :: 196 :: 8 :: 103 :: 101 :: 116 :: 95 :: 99 :: 111 :: 100 :: 101 :: 9 :: 49 :: 95 :: 102 :: 114 :: 111 :: 122 :: 101 :: 110 :: 95 :: 105 :: 109 :: 112 :: 111 :: 114 :: 116 :: 108 :: 105 :: 98 :: 46 :: 66 :: 117 :: 105 :: 108 :: 116 :: 105 :: 110 :: 73 :: 109 :: 112 :: 111 :: 114 :: 116 :: 101 :: 114 :: 46 :: 103 :: 101 :: 116 :: 95 :: 99 :: 111 :: 100 :: 101 :: 35 :: 111 :: 112 :: 97 :: 113 :: 117 :: 101 :: 6 :: 197 :: 10 :: 103 :: 101 :: 116 :: 95 :: 115 :: 111 :: 117 :: 114 :: 99 :: 101 :: 9 :: 51 :: 95 :: 102 :: 114 :: 111 :: 122 :: 101 :: 110 :: 95 :: 105 :: 109 :: 112 :: 111 :: 114 :: 116 :: 108 :: 105 :: 98 :: 46 :: 66 :: 117 :: 105 :: 108 :: 116 :: 105 :: 110 :: 73 :: 109 :: 112 :: 111 :: 114 :: 116 :: 101 :: 114 :: 46 :: 103 :: 101 :: 116 :: 95 :: 115 :: 111 :: 117 :: 114 :: 99 :: 101 :: 35 :: 111 :: 112 :: 97 :: 113 :: 117 :: 101 :: 6 :: 198 :: 10 :: 105 :: 115 :: 95 :: 112 :: 97 :: 99 :: 107 :: 97 :: 103 :: 101 :: 9 :: 51 :: 95 :: 102 :: 114 :: 111 :: 122 :: 101 :: 110 :: 95 :: 105 :: 109 :: 112 :: 111 :: 114 :: 116 :: 108 :: 105 :: 98 :: 46 :: 66 :: 117 :: 105 :: 108 :: 116 :: 105 :: 110 :: 73 :: 109 :: 112 :: 111 :: 114 :: 116 :: 101 :: 114 :: 46 :: 105 :: 115 :: 95 :: 112 :: 97 :: 99 :: 107 :: 97 :: 103 :: 101 :: 35 :: 111 :: 112 :: 97 :: 113 :: 117 :: 101 :: 6 :: 199 :: 11 :: 108 :: 111 :: 97 :: 100 :: 95 :: 109 :: 111 :: 100 :: 117 :: 108 :: 101 :: 9 :: 52 :: 95 :: 102 :: 114 :: 111 :: 122 :: 101 :: 110 :: 95 :: 105 :: 109 :: 112 :: 111 :: 114 :: 116 :: 108 :: 105 :: 98 :: 46 :: 66 :: 117 :: 105 :: 108 :: 116 :: 105 :: 110 :: 73 :: 109 :: 112 :: 111 :: 114 :: 116 :: 101 :: 114 :: 46 :: 108 :: 111 :: 97 :: 100 :: 95 :: 109 :: 111 :: 100 :: 117 :: 108 :: 101 :: 35 :: 111 :: 112 :: 97 :: 113 :: 117 :: 101 :: 6 :: 200 :: 21 :: 95 :: 95 :: 115 :: 116 :: 97 :: 116 :: 105 :: 99 :: 95 :: 97 :: 116 :: 116 :: 114 :: 105 :: 98 :: 117 :: 116 :: 101 :: 115 :: 95 :: 95 :: 4 :: 0 :: 0 :: 15 :: 6 :: 202 :: 8 :: 95 :: 95 :: 100 :: 105 :: 99 :: 116 :: 95 :: 95 :: 4 :: 0 :: 0 :: 16 :: 6 :: 204 :: 11 :: 95 :: 95 :: 119 :: 101 :: 97 :: 107 :: 114 :: 101 :: 102 :: 95 :: 95 :: 4 :: 0 :: 0 :: 17 :: []).toArray) 0, .bool true, .bool true, .str (Str.ofString "") 205, .int 21 0, .str (Str.mk (6 :: 227 :: 10 :: 95 :: 95 :: 109 :: 111 :: 100 :: 117 :: 108 :: 101 :: 95 :: 95 :: 6 :: 217 :: 17 :: 95 :: 102 :: 114 :: 111 :: 122 :: 101 :: 110 :: 95 :: 105 :: 109 :: 112 :: 111 :: 114 :: 116 :: 108 :: 105 :: 98 :: 6 :: 228 :: 15 :: 95 :: 95 :: 102 :: 105 :: 114 :: 115 :: 116 :: 108 :: 105 :: 110 :: 101 :: 110 :: 111 :: 95 :: 95 :: 4 :: 218 :: 0 :: 562 :: 6 :: 229 :: 7 :: 95 :: 95 :: 100 :: 111 :: 99 :: 95 :: 95 :: 9 :: 47 :: 95 :: 102 :: 114 :: 111 :: 122 :: 101 :: 110 :: 95 :: 105 :: 109 :: 112 :: 111 :: 114 :: 116 :: 108 :: 105 :: 98 :: 46 :: 77 :: 111 :: 100 :: 117 :: 108 :: 101 :: 83 :: 112 :: 101 :: 99 :: 46 :: 95 :: 95 :: 100 :: 111 :: 99 :: 95 :: 95 :: 58 :: 115 :: 116 :: 114 :: 35 :: 111 :: 112 :: 97 :: 113 :: 117 :: 101 :: 6 :: 230 :: 8 :: 95 :: 95 :: 105 :: 110 :: 105 :: 116 :: 95 :: 95 :: 9 :: 44 :: 95 :: 102 :: 114 :: 111 :: 122 :: 101 :: 110 :: 95 :: 105 :: 109 :: 112 :: 111 :: 114 :: 116 :: 108 :: 105 :: 98 :: 46 :: 77 :: 111 :: 100 :: 117 :: 108 :: 101 :: 83 :: 112 :: 101 :: 99 :: 46 :: 95 :: 95 :: 105 :: 110 :: 105 :: 116 :: 95 :: 95 :: 35 :: 111 :: 112 :: 97 :: 113 :: 117 :: 101 :: 6 :: 231 :: 8 :: 95 :: 95 :: 114 :: 101 :: 112 :: 114 :: 95 :: 95 :: 9 :: 44 :: 95 :: 102 :: 114 :: 111 :: 122 :: 101 :: 110 :: 95 :: 105 :: 109 :: 112 :: 111 :: 114 :: 116 :: 108 :: 105 :: 98 :: 46 :: 77 :: 111 :: 100 :: 117 :: 108 :: 101 :: 83 :: 112 :: 101 :: 99 :: 46 :: 95 :: 95 :: 114 :: 101 :: 112 :: 114 :: 95 :: 95 :: 35 :: 111 :: 112 :: 97 :: 113 :: 117 :: 101 :: 6 :: 232 :: 6 :: 95 :: 95 :: 101 :: 113 :: 95 :: 95 :: 9 :: 42 :: 95 :: 102 :: 114 :: 111 :: 122 :: 101 :: 110 :: 95 :: 105 :: 109 :: 112 :: 111 :: 114 :: 116 :: 108 :: 105 :: 98 :: 46 :: 77 :: 111 :: 100 :: 117 :: 108 :: 101 :: 83 :: 112 :: 101 :: 99 :: 46 :: 95 :: 95 :: 101 :: 113 :: 95 :: 95 :: 35 :: 111 :: 112 :: 97 :: 113 :: 117 :: 101 :: 6 :: 233 :: 6 :: 99 :: 97 :: 99 :: 104 :: 101 :: 100 :: 9 :: 42 :: 95 :: 102 :: 114 :: 111 :: 122 :: 101 :: 110 :: 95 :: 105 :: 109 :: 112 :: 111 :: 114 :: 116 :: 108 :: 105 :: 98 :: 46 :: 77 :: 111 :: 100 :: 117 :: 108 :: 101 :: 83 :: 112 :: 101 :: 99 :: 46 :: 99 :: 97 :: 99 :: 104 :: 101 :: 100 :: 35 :: 111 :: 112 :: 97 :: 113 :: 117 :: 101 :: 6 :: 234 :: 6 :: 112 :: 97 :: 114 :: 101 :: 110 :: 116 :: 9 :: 42 :: 95 :: 102 :: 114 :: 111 :: 122 :: 101 :: 110 :: 95 :: 105 :: 109 :: 112 :: 111 :: 114 :: 116 :: 108 :: 105 :: 98 :: 46 :: 77 :: 111 :: 100 :: 117 :: 108 :: 101 :: 83 :: 112 :: 101 :: 99 :: 46 :: 112 :: 97 :: 114 :: 101 :: 110 :: 116 :: 35 :: 111 :: 112 :: 97 :: 113 :: 117 :: 101 :: 6 :: 235 :: 12 :: 104 :: 97 :: 115 :: 95 :: 108 :: 111 :: 99 :: 97 :: 116 :: 105 :: 111 :: 110 :: 9 :: 48 :: 95 :: 102 :: 114 :: 111 :: 122 :: 101 :: 110 :: 95 :: 105 :: 109 :: 112 :: 111 :: 114 :: 116 :: 108 :: 105 :: 98 :: 46 :: 77 :: 111 :: 100 :: 117 :: 108 :: 101 :: 83 :: 112 :: 101 :: 99 :: 46 :: 104 :: 97 :: 115 :: 95 :: 108 :: 111 :: 99 :: 97 :: 116 :: 105 :: 111 :: 110 :: 35 :: 111 :: 112 :: 97 :: 113 :: 117 :: 101 :: 6 :: 236 :: 21 :: 95 :: 95 :: 115 :: 116 :: 97 :: 116 :: 105 :: 99 :: 95 :: 97 :: 116 :: 116 :: 114 :: 105 :: 98 :: 117 :: 116 :: 101 :: 115 :: 95 :: 95 :: 4 :: 0 :: 0 :: 23 :: 6 :: 238 :: 8 :: 95 :: 95 :: 100 :: 105 :: 99 :: 116 :: 95 :: 95 :: 4 :: 0 :: 0 :: 24 :: 6 :: 240 :: 11 :: 95 :: 95 :: 119 :: 101 :: 97 :: 107 :: 114 :: 101 :: 102 :: 95 :: 95 :: 4 :: 0 :: 0 :: 25 :: 6 :: 241 :: 8 :: 95 :: 95 :: 104 :: 97 :: 115 :: 104 :: 95 :: 95 :: 0 :: []).toArray) 0, .bool true, .bool true, .str (Str.ofString "") 242].toArray) 1, [].toArray⟩
noncomputable abbrev o19_0 (P : Params) : Obj := ⟨.type "list", none, .seq ([].toArray) 0, [].toArray⟩
noncomputable abbrev o20_0 (P : Params) : Obj := ⟨.type "dict", none, .dict ([de P (Str.ofString "name") 208 (.str (Str.ofString "_sre") 207), de P (Str.ofString "loader") 209 (.ref 14), de P (Str.ofString "origin") 210 (.str (Str.ofString "built-in") 184), de P (Str.ofString "loader_state") 211 (.none), de P (Str.ofString "submodule_search_locations") 212 (.none), de P (Str.ofString "_uninitialized_submodules") 213 (.ref 19), de P (Str.ofString "_set_fileattr") 214 (.bool false), de P (Str.ofString "_cached") 215 (.none), de P (Str.ofString "_initializing") 243 (.bool false)].toArray) 9, [].toArray⟩
noncomputable abbrev o21_0 (P : Params) : Obj := ⟨.type "dict", none, .dict ([de P (Str.ofString "__module__") 227 (.str (Str.ofString "_frozen_importlib") 217), de P (Str.ofString "__firstlineno__") 228 (.int 562 218), de P (Str.ofString "__doc__") 229 (.builtin "_frozen_importlib.ModuleSpec.__doc__:str#opaque"), de P (Str.ofString "__init__") 230 (.builtin "_frozen_importlib.ModuleSpec.__init__#opaque"), de P (Str.ofString "__repr__") 231 (.builtin "_frozen_importlib.ModuleSpec.__repr__#opaque"), de P (Str.ofString "__eq__") 232 (.builtin "_frozen_importlib.ModuleSpec.__eq__#opaque"), de P (Str.ofString "cached") 233 (.builtin "_frozen_importlib.ModuleSpec.cached#opaque"), de P (Str.ofString "parent") 234 (.builtin "_frozen_importlib.ModuleSpec.parent#opaque"), de P (Str.ofString "has_location") 235 (.builtin "_frozen_importlib.ModuleSpec.has_location#opaque"), de P (Str.ofString "__static_attributes__") 236 (.ref 23), de P (Str.ofString "__dict__") 238 (.ref 24), de P (Str.ofString "__weakref__") 240 (.ref 25), de P (Str.ofString "__hash__") 241 (.none)].toArray) 13, [].toArray⟩
noncomputable abbrev o22_0 (P : Params) : Obj := ⟨.type "type", none, .cls { name := (Str.ofString "ModuleSpec"), bases := [.type "object"], mro := [.ref 22, .type "object"], ns := 21, qualname := (Str.ofString "ModuleSpec"), hasDict := true, slotNames := [], subclasses := [], abstract := false, collection := none, hasDel := false }, [].toArray⟩
noncomputable abbrev o23_0 (P : Params) : Obj := ⟨.type "tuple", none, .seq ([.str (Str.ofString "_cached") 219, .str (Str.ofString "_set_fileattr") 220, .str (Str.ofString "_uninitialized_submodules") 221, .str (Str.ofString "loader") 222, .str (Str.ofString "loader_state") 223, .str (Str.ofString "name") 224, .str (Str.ofString "origin") 225, .str (Str.ofString "submodule_search_locations") 226].toArray) 0, [].toArray⟩
noncomputable abbrev o24_0 (P : Params) : Obj := ⟨.type "getset_descriptor", none, .fields ([.str (Str.ofString "__dict__") 237, .ref 22, .builtin "function.__dict__", .builtin "function.__dict__#set"].toArray), [].toArray⟩
noncomputable abbrev o25_0 (P : Params) : Obj := ⟨.type "getset_descriptor", none, .fields ([.str (Str.ofString "__weakref__") 239, .ref 22, .builtin "ExceptionGroup.__weakref__", .none].toArray), [].toArray⟩
noncomputable abbrev o26_0 (P : Params) : Obj := ⟨.ref 22, (some 20), .plain, [].toArray⟩
noncomputable abbrev o27_0 (P : Params) : Obj := ⟨.none, none, .seq ([.int 11 0, .str (Str.mk (6 :: 247 :: 8 :: 95 :: 95 :: 110 :: 97 :: 109 :: 101 :: 95 :: 95 :: 6 :: 246 :: 4 :: 95 :: 115 :: 114 :: 101 :: 6 :: 248 :: 7 :: 95 :: 95 :: 100 :: 111 :: 99 :: 95 :: 95 :: 0 :: 6 :: 250 :: 11 :: 95 :: 95 :: 112 :: 97 :: 99 :: 107 :: 97 :: 103 :: 101 :: 95 :: 95 :: 6 :: 249 :: 0 :: 6 :: 251 :: 10 :: 95 :: 95 :: 108 :: 111 :: 97 :: 100 :: 101 :: 114 :: 95 :: 95 :: 4 :: 0 :: 0 :: 14 :: 6 :: 252 :: 8 :: 95 :: 95 :: 115 :: 112 :: 101 :: 99 :: 95 :: 95 :: 4 :: 0 :: 0 :: 26 :: 6 :: 253 :: 7 :: 99 :: 111 :: 109 :: 112 :: 105 :: 108 :: 101 :: 9 :: 12 :: 95 :: 115 :: 114 :: 101 :: 46 :: 99 :: 111 :: 109 :: 112 :: 105 :: 108 :: 101 :: 6 :: 254 :: 8 :: 116 :: 101 :: 109 :: 112 :: 108 :: 97 :: 116 :: 101 :: 9 :: 13 :: 95 :: 115 :: 114 :: 101 :: 46 :: 116 :: 101 :: 109 :: 112 :: 108 :: 97 :: 116 :: 101 :: 6 :: 255 :: 11 :: 103 :: 101 :: 116 :: 99 :: 111 :: 100 :: 101 :: 115 :: 105 :: 122 :: 101 :: 9 :: 16 :: 95 :: 115 :: 114 :: 101 :: 46 :: 103 :: 101 :: 116 :: 99 :: 111 :: 100 :: 101 :: 115 :: 105 :: 122 :: 101 :: 6 :: 256 :: 13 :: 97 :: 115 :: 99 :: 105 :: 105 :: 95 :: 105 :: 115 :: 99 :: 97 :: 115 :: 101 :: 100 :: 9 :: 18 :: 95 :: 115 :: 114 :: 101 :: 46 :: 97 :: 115 :: 99 :: 105 :: 105 :: 95 :: 105 :: 115 :: 99 :: 97 :: 115 :: 101 :: 100 :: 6 :: 257 :: 15 :: 117 :: 110 :: 105 :: 99 :: 111 :: 100 :: 101 :: 95 :: 105 :: 115 :: 99 :: 97 :: 115 :: 101 :: 100 :: 9 :: 20 :: 95 :: 115 :: 114 :: 101 :: 46 :: 117 :: 110 :: 105 :: 99 :: 111 :: 100 :: 101 :: 95 :: 105 :: 115 :: 99 :: 97 :: 115 :: 101 :: 100 :: 6 :: 258 :: 13 :: 97 :: 115 :: 99 :: 105 :: 105 :: 95 :: 116 :: 111 :: 108 :: 111 :: 119 :: 101 :: 114 :: 9 :: 18 :: 95 :: 115 :: 114 :: 101 :: 46 :: 97 :: 115 :: 99 :: 105 :: 105 :: 95 :: 116 :: 111 :: 108 :: 111 :: 119 :: 101 :: 114 :: 6 :: 259 :: 15 :: 117 :: 110 :: 105 :: 99 :: 111 :: 100 :: 101 :: 95 :: 116 :: 111 :: 108 :: 111 :: 119 :: 101 :: 114 :: 9 :: 20 :: 95 :: 115 :: 114 :: 101 :: 46 :: 117 :: 110 :: 105 :: 99 :: 111 :: 100 :: 101 :: 95 :: 116 :: 111 :: 108 :: 111 :: 119 :: 101 :: 114 :: 6 :: 261 :: 5 :: 77 :: 65 :: 71 :: 73 :: 67 :: 4 :: 260 :: 0 :: 20230612 :: 6 :: 263 :: 8 :: 67 :: 79 :: 68 :: 69 :: 83 :: 73 :: 90 :: 69 :: 4 :: 262 :: 0 :: 4 :: 6 :: 265 :: 9 :: 77 :: 65 :: 88 :: 82 :: 69 :: 80 :: 69 :: 65 :: 84 :: 4 :: 264 :: 0 :: 4294967295 :: 6 :: 267 :: 9 :: 77 :: 65 :: 88 :: 71 :: 82 :: 79 :: 85 :: 80 :: 83 :: 4 :: 266 :: 0 :: 1073741823 :: 6 :: 269 :: 9 :: 99 :: 111 :: 112 :: 121 :: 114 :: 105 :: 103 :: 104 :: 116 :: 6 :: 268 :: 53 :: 32 :: 83 :: 82 :: 69 :: 32 :: 50 :: 46 :: 50 :: 46 :: 50 :: 32 :: 67 :: 111 :: 112 :: 121 :: 114 :: 105 :: 103 :: 104 :: 116 :: 32 :: 40 :: 99 :: 41 :: 32 :: 49 :: 57 :: 57 :: 55 :: 45 :: 50 :: 48 :: 48 :: 50 :: 32 :: 98 :: 121 :: 32 :: 83 :: 101 :: 99 :: 114 :: 101 :: 116 :: 32 :: 76 :: 97 :: 98 :: 115 :: 32 :: 65 :: 66 :: 32 :: []).toArray) 0, .bool true, .bool false, .str (Str.ofString "_sre") 271].toArray) 0, [].toArray⟩
noncomputable def h0 (P : Params) : Heap := ⟨⟨[o0_0 P, o1_0 P, o2_0 P, o3_0 P, o4_0 P, o5_0 P, o6_0 P, o7_0 P, o8_0 P, o9_0 P, o10_0 P, o11_0 P, o12_0 P, o13_0 P, o14_0 P, o15_0 P, o16_0 P, o17_0 P, o18_0 P, o19_0 P, o20_0 P, o21_0 P, o22_0 P, o23_0 P, o24_0 P, o25_0 P, o26_0 P, o27_0 P]⟩, {}⟩
noncomputable abbrev o28_0 (P : Params) : Obj := ⟨.type "tuple", none, .seq ([].toArray) 0, [].toArray⟩
noncomputable abbrev o29_0 (P : Params) : Obj := ⟨.none, none, .fields ([].toArray), [].toArray⟩
noncomputable abbrev o30_0 (P : Params) : Obj := ⟨.type "code", none, .fields ([.str (Str.ofString "<module>") 277, .str (Str.ofString "<module>") 278, .str (Str.ofString "/claim/cut.py") 279, .int 1 0, .int 0 0, .int 0 0, .int 0 0, .int 0 0, .ref 28, .bool false, .int 276 0, .ref 29, .none, .none, .none, .none, .int 280 0, .int 1 0, .str (Str.ofString "/claim/cut.py") 281].toArray), [].toArray⟩
noncomputable abbrev o31_0 (P : Params) : Obj := ⟨.type "frame", none, .plain, [some (.ref 30), some (.ref 3), some (.ref 3), none, some (.str (Str.ofString "__main__") 164), none, some (.ref 0)].toArray⟩
noncomputable def hA (P : Params) : Heap := ⟨⟨[o0_0 P, o1_0 P, o2_0 P, o3_0 P, o4_0 P, o5_0 P, o6_0 P, o7_0 P, o8_0 P, o9_0 P, o10_0 P, o11_0 P, o12_0 P, o13_0 P, o14_0 P, o15_0 P, o16_0 P, o17_0 P, o18_0 P, o19_0 P, o20_0 P, o21_0 P, o22_0 P, o23_0 P, o24_0 P, o25_0 P, o26_0 P, o27_0 P, o28_0 P, o29_0 P, o30_0 P, o31_0 P]⟩, {}⟩
noncomputable def sB (P : Params) : BT := (bn (o0_0 P) (bn (o1_0 P) (bn (o3_0 P) (bn (o7_0 P) (bn (o15_0 P) (bn (o31_0 P) bl bl) bl) (bn (o23_0 P) bl bl)) (bn (o11_0 P) (bn (o19_0 P) bl bl) (bn (o27_0 P) bl bl))) (bn (o5_0 P) (bn (o9_0 P) (bn (o17_0 P) bl bl) (bn (o25_0 P) bl bl)) (bn (o13_0 P) (bn (o21_0 P) bl bl) (bn (o29_0 P) bl bl)))) (bn (o2_0 P) (bn (o4_0 P) (bn (o8_0 P) (bn (o16_0 P) bl bl) (bn (o24_0 P) bl bl)) (bn (o12_0 P) (bn (o20_0 P) bl bl) (bn (o28_0 P) bl bl))) (bn (o6_0 P) (bn (o10_0 P) (bn (o18_0 P) bl bl) (bn (o26_0 P) bl bl)) (bn (o14_0 P) (bn (o22_0 P) bl bl) (bn (o30_0 P) bl bl)))))
noncomputable def sBT (w : World) (os : OsState) : SharedT := ⟨sB w.params, 32, {}, #[], {}, 282, os⟩
noncomputable abbrev o3_1 (P : Params) : Obj := ⟨.type "dict", none, .dict ([de P (Str.ofString "__name__") 165 (.str (Str.ofString "cpy313.http.cookiejar") 282), de P (Str.ofString "__doc__") 166 (.none), de P (Str.ofString "__package__") 167 (.none), de P (Str.ofString "__loader__") 168 (.builtin "__main__.__loader__#opaque"), de P (Str.ofString "__spec__") 169 (.none), de P (Str.ofString "__annotations__") 170 (.ref 6), de P (Str.ofString "__builtins__") 171 (.ref 4), de P (Str.ofString "__file__") 173 (.str (Str.ofString "/claim/cut.py") 172), de P (Str.ofString "__cached__") 174 (.none), de P (Str.ofString "_sre") 275 (.ref 12), de P (Str.ofString "_twin_re_5") 311 (.ref 36), de P (Str.ofString "unmatched") 320 (.ref 43), de P (Str.ofString "HEADER_TOKEN_RE") 368 (.ref 48), de P (Str.ofString "HEADER_QUOTED_VALUE_RE") 446 (.ref 53), de P (Str.ofString "HEADER_VALUE_RE") 501 (.ref 58), de P (Str.ofString "HEADER_ESCAPE_RE") 524 (.ref 63), de P (Str.ofString "split_header_words") 540 (.ref 70), de P (Str.ofString "_twin_re_1") 575 (.ref 75)].toArray) 18, [].toArray⟩
noncomputable abbrev o29_1 (P : Params) : Obj := ⟨.none, none, .fields ([.int 4 0, .int 0 0, .ref 42, .int 11 0, .int 0 0, .ref 69].toArray), [].toArray⟩
noncomputable abbrev o32_0 (P : Params) : Obj := ⟨.type "list", none, .seq ([.int 14 287, .int 4 288, .int 0 289, .int 0 290, .int 4294967295 291, .int 6 292, .int 0 293, .int 24 294, .int 13 295, .int 0 296, .int 4294967295 297, .int 13 298, .int 8 299, .int 16 300, .int 61 301, .int 8 302, .int 12 303, .int 16 304, .int 59 305, .int 0 306, .int 1 307, .int 1 308].toArray) 0, [].toArray⟩
noncomputable abbrev o33_0 (P : Params) : Obj := ⟨.type "dict", none, .dict ([].toArray) 0, [].toArray⟩
noncomputable abbrev o34_0 (P : Params) : Obj := ⟨.type "tuple", none, .seq ([.none].toArray) 0, [].toArray⟩
noncomputable abbrev o35_0 (P : Params) : Obj := ⟨.type "tuple", none, .seq ([.int 14 0, .int 4 0, .int 0 0, .int 0 0, .int 4294967295 0, .int 6 0, .int 0 0, .int 24 0, .int 13 0, .int 0 0, .int 4294967295 0, .int 13 0, .int 8 0, .int 16 0, .int 61 0, .int 8 0, .int 12 0, .int 16 0, .int 59 0, .int 0 0, .int 1 0, .int 1 0].toArray) 0, [].toArray⟩
noncomputable abbrev o36_0 (P : Params) : Obj := ⟨.type "re.Pattern", none, .fields ([.str (Str.mk [94, 91, 61, 92, 115, 59, 93, 42].toArray) 285, .int 32 310, .int 0 0, .none, .none, .ref 35, .int 0 0].toArray), [].toArray⟩
noncomputable abbrev o37_0 (P : Params) : Obj := ⟨.type "tuple", none, .seq ([].toArray) 0, [].toArray⟩
noncomputable abbrev o38_0 (P : Params) : Obj := ⟨.none, none, .fields ([].toArray), [].toArray⟩
noncomputable abbrev o39_0 (P : Params) : Obj := ⟨.type "tuple", none, .seq ([.str (Str.ofString "match") 315, .str (Str.ofString "start") 316, .str (Str.ofString "end") 317].toArray) 0, [].toArray⟩
noncomputable abbrev o40_0 (P : Params) : Obj := ⟨.type "tuple", none, .seq ([].toArray) 0, [].toArray⟩
noncomputable abbrev o41_0 (P : Params) : Obj := ⟨.none, none, .func { name := (Str.ofString "unmatched"), qualname := (Str.ofString "unmatched"), params := (fd3).1.1, body := .stmts (fd3).1.2.1, scope := (fd3).1.2.2, globals := 0, closure := [], defaults := .none, kwdefaults := .none, doc := .none, pyModule := .none, annotations := none, code := .none, closureTuple := .none, builtins := 0 }, [].toArray⟩
noncomputable abbrev o42_0 (P : Params) : Obj := ⟨.type "code", none, .fields ([.str (Str.ofString "unmatched") 312, .str (Str.ofString "unmatched") 313, .str (Str.ofString "/claim/cut.py") 314, .int 4 0, .int 1 0, .int 0 0, .int 0 0, .int 3 0, .ref 37, .bool true, .int 276 0, .ref 38, .none, .ref 39, .ref 40, .ref 41, .int 318 0, .int 4 0, .str (Str.ofString "/claim/cut.py") 319].toArray), [].toArray⟩
noncomputable abbrev o43_0 (P : Params) : Obj := ⟨.type "function", none, .func { name := (Str.ofString "unmatched"), qualname := (Str.ofString "unmatched"), params := (fd3).1.1, body := .stmts (fd3).1.2.1, scope := (fd3).1.2.2, globals := 3, closure := [], defaults := .none, kwdefaults := .none, doc := .none, pyModule := .str (Str.ofString "cpy313.http.cookiejar") 282, annotations := none, code := .ref 42, closureTuple := .none, builtins := 0 }, [].toArray⟩
noncomputable abbrev o44_0 (P : Params) : Obj := ⟨.type "list", none, .seq ([.int 14 324, .int 4 325, .int 0 326, .int 1 327, .int 4294967295 328, .int 6 329, .int 0 330, .int 24 331, .int 9 332, .int 0 333, .int 4294967295 334, .int 13 335, .int 4 336, .int 8 337, .int 12 338, .int 0 339, .int 1 340, .int 17 341, .int 0 342, .int 24 343, .int 19 344, .int 1 345, .int 4294967295 346, .int 13 347, .int 14 348, .int 21 349, .int 9 350, .int 0 351, .int 671092736 352, .int 0 353, .int 0 354, .int 0 355, .int 0 356, .int 0 357, .int 0 358, .int 8 359, .int 12 360, .int 0 361, .int 1 362, .int 17 363, .int 1 364, .int 1 365].toArray) 0, [].toArray⟩
noncomputable abbrev o45_0 (P : Params) : Obj := ⟨.type "dict", none, .dict ([].toArray) 0, [].toArray⟩
noncomputable abbrev o46_0 (P : Params) : Obj := ⟨.type "tuple", none, .seq ([.none, .none].toArray) 0, [].toArray⟩
noncomputable abbrev o47_0 (P : Params) : Obj := ⟨.type "tuple", none, .seq ([.int 14 0, .int 4 0, .int 0 0, .int 1 0, .int 4294967295 0, .int 6 0, .int 0 0, .int 24 0, .int 9 0, .int 0 0, .int 4294967295 0, .int 13 0, .int 4 0, .int 8 0, .int 12 0, .int 0 0, .int 1 0, .int 17 0, .int 0 0, .int 24 0, .int 19 0, .int 1 0, .int 4294967295 0, .int 13 0, .int 14 0, .int 21 0, .int 9 0, .int 0 0, .int 671092736 0, .int 0 0, .int 0 0, .int 0 0, .int 0 0, .int 0 0, .int 0 0, .int 8 0, .int 12 0, .int 0 0, .int 1 0, .int 17 0, .int 1 0, .int 1 0].toArray) 0, [].toArray⟩
noncomputable abbrev o48_0 (P : Params) : Obj := ⟨.type "re.Pattern", none, .fields ([.str (Str.mk [94, 92, 115, 42, 40, 91, 94, 61, 92, 115, 59, 44, 93, 43, 41].toArray) 322, .int 32 367, .int 1 0, .none, .none, .ref 47, .int 0 0].toArray), [].toArray⟩
noncomputable abbrev o49_0 (P : Params) : Obj := ⟨.type "list", none, .seq ((.int 14 372 :: .int 4 373 :: .int 0 374 :: .int 3 375 :: .int 4294967295 376 :: .int 6 377 :: .int 0 378 :: .int 24 379 :: .int 9 380 :: .int 0 381 :: .int 4294967295 382 :: .int 13 383 :: .int 4 384 :: .int 8 385 :: .int 12 386 :: .int 0 387 :: .int 1 388 :: .int 16 389 :: .int 61 390 :: .int 24 391 :: .int 9 392 :: .int 0 393 :: .int 4294967295 394 :: .int 13 395 :: .int 4 396 :: .int 8 397 :: .int 12 398 :: .int 0 399 :: .int 1 400 :: .int 16 401 :: .int 34 402 :: .int 17 403 :: .int 0 404 :: .int 24 405 :: .int 12 406 :: .int 0 407 :: .int 4294967295 408 :: .int 13 409 :: .int 7 410 :: .int 21 411 :: .int 16 412 :: .int 34 413 :: .int 16 414 :: .int 92 415 :: .int 0 416 :: .int 1 417 :: .int 23 418 :: .int 19 419 :: .int 0 420 :: .int 4294967295 421 :: .int 16 422 :: .int 92 423 :: .int 2 424 :: .int 24 425 :: .int 12 426 :: .int 0 427 :: .int 4294967295 428 :: .int 13 429 :: .int 7 430 :: .int 21 431 :: .int 16 432 :: .int 34 433 :: .int 16 434 :: .int 92 435 :: .int 0 436 :: .int 1 437 :: .int 18 438 :: .int 17 439 :: .int 1 440 :: .int 16 441 :: .int 34 442 :: .int 1 443 :: []).toArray) 0, [].toArray⟩
noncomputable abbrev o50_0 (P : Params) : Obj := ⟨.type "dict", none, .dict ([].toArray) 0, [].toArray⟩
noncomputable abbrev o51_0 (P : Params) : Obj := ⟨.type "tuple", none, .seq ([.none, .none].toArray) 0, [].toArray⟩
noncomputable abbrev o52_0 (P : Params) : Obj := ⟨.type "tuple", none, .seq ((.int 14 0 :: .int 4 0 :: .int 0 0 :: .int 3 0 :: .int 4294967295 0 :: .int 6 0 :: .int 0 0 :: .int 24 0 :: .int 9 0 :: .int 0 0 :: .int 4294967295 0 :: .int 13 0 :: .int 4 0 :: .int 8 0 :: .int 12 0 :: .int 0 0 :: .int 1 0 :: .int 16 0 :: .int 61 0 :: .int 24 0 :: .int 9 0 :: .int 0 0 :: .int 4294967295 0 :: .int 13 0 :: .int 4 0 :: .int 8 0 :: .int 12 0 :: .int 0 0 :: .int 1 0 :: .int 16 0 :: .int 34 0 :: .int 17 0 :: .int 0 0 :: .int 24 0 :: .int 12 0 :: .int 0 0 :: .int 4294967295 0 :: .int 13 0 :: .int 7 0 :: .int 21 0 :: .int 16 0 :: .int 34 0 :: .int 16 0 :: .int 92 0 :: .int 0 0 :: .int 1 0 :: .int 23 0 :: .int 19 0 :: .int 0 0 :: .int 4294967295 0 :: .int 16 0 :: .int 92 0 :: .int 2 0 :: .int 24 0 :: .int 12 0 :: .int 0 0 :: .int 4294967295 0 :: .int 13 0 :: .int 7 0 :: .int 21 0 :: .int 16 0 :: .int 34 0 :: .int 16 0 :: .int 92 0 :: .int 0 0 :: .int 1 0 :: .int 18 0 :: .int 17 0 :: .int 1 0 :: .int 16 0 :: .int 34 0 :: .int 1 0 :: []).toArray) 0, [].toArray⟩
noncomputable abbrev o53_0 (P : Params) : Obj := ⟨.type "re.Pattern", none, .fields ([.str (Str.mk [94, 92, 115, 42, 61, 92, 115, 42, 92, 34, 40, 91, 94, 92, 34, 92, 92, 93, 42, 40, 63, 58, 92, 92, 46, 91, 94, 92, 34, 92, 92, 93, 42, 41, 42, 41, 92, 34].toArray) 370, .int 32 445, .int 1 0, .none, .none, .ref 52, .int 0 0].toArray), [].toArray⟩
noncomputable abbrev o54_0 (P : Params) : Obj := ⟨.type "list", none, .seq ([.int 14 450, .int 4 451, .int 0 452, .int 1 453, .int 4294967295 454, .int 6 455, .int 0 456, .int 24 457, .int 9 458, .int 0 459, .int 4294967295 460, .int 13 461, .int 4 462, .int 8 463, .int 12 464, .int 0 465, .int 1 466, .int 16 467, .int 61 468, .int 24 469, .int 9 470, .int 0 471, .int 4294967295 472, .int 13 473, .int 4 474, .int 8 475, .int 12 476, .int 0 477, .int 1 478, .int 17 479, .int 0 480, .int 24 481, .int 14 482, .int 0 483, .int 4294967295 484, .int 13 485, .int 9 486, .int 21 487, .int 8 488, .int 12 489, .int 16 490, .int 59 491, .int 16 492, .int 44 493, .int 0 494, .int 1 495, .int 17 496, .int 1 497, .int 1 498].toArray) 0, [].toArray⟩
noncomputable abbrev o55_0 (P : Params) : Obj := ⟨.type "dict", none, .dict ([].toArray) 0, [].toArray⟩
noncomputable abbrev o56_0 (P : Params) : Obj := ⟨.type "tuple", none, .seq ([.none, .none].toArray) 0, [].toArray⟩
noncomputable abbrev o57_0 (P : Params) : Obj := ⟨.type "tuple", none, .seq ([.int 14 0, .int 4 0, .int 0 0, .int 1 0, .int 4294967295 0, .int 6 0, .int 0 0, .int 24 0, .int 9 0, .int 0 0, .int 4294967295 0, .int 13 0, .int 4 0, .int 8 0, .int 12 0, .int 0 0, .int 1 0, .int 16 0, .int 61 0, .int 24 0, .int 9 0, .int 0 0, .int 4294967295 0, .int 13 0, .int 4 0, .int 8 0, .int 12 0, .int 0 0, .int 1 0, .int 17 0, .int 0 0, .int 24 0, .int 14 0, .int 0 0, .int 4294967295 0, .int 13 0, .int 9 0, .int 21 0, .int 8 0, .int 12 0, .int 16 0, .int 59 0, .int 16 0, .int 44 0, .int 0 0, .int 1 0, .int 17 0, .int 1 0, .int 1 0].toArray) 0, [].toArray⟩
noncomputable abbrev o58_0 (P : Params) : Obj := ⟨.type "re.Pattern", none, .fields ([.str (Str.mk [94, 92, 115, 42, 61, 92, 115, 42, 40, 91, 94, 92, 115, 59, 44, 93, 42, 41].toArray) 448, .int 32 500, .int 1 0, .none, .none, .ref 57, .int 0 0].toArray), [].toArray⟩
noncomputable abbrev o59_0 (P : Params) : Obj := ⟨.type "list", none, .seq ([.int 14 505, .int 8 506, .int 1 507, .int 2 508, .int 2 509, .int 1 510, .int 1 511, .int 92 512, .int 0 513, .int 16 514, .int 92 515, .int 17 516, .int 0 517, .int 2 518, .int 17 519, .int 1 520, .int 1 521].toArray) 0, [].toArray⟩
noncomputable abbrev o60_0 (P : Params) : Obj := ⟨.type "dict", none, .dict ([].toArray) 0, [].toArray⟩
noncomputable abbrev o61_0 (P : Params) : Obj := ⟨.type "tuple", none, .seq ([.none, .none].toArray) 0, [].toArray⟩
noncomputable abbrev o62_0 (P : Params) : Obj := ⟨.type "tuple", none, .seq ([.int 14 0, .int 8 0, .int 1 0, .int 2 0, .int 2 0, .int 1 0, .int 1 0, .int 92 0, .int 0 0, .int 16 0, .int 92 0, .int 17 0, .int 0 0, .int 2 0, .int 17 0, .int 1 0, .int 1 0].toArray) 0, [].toArray⟩
noncomputable abbrev o63_0 (P : Params) : Obj := ⟨.type "re.Pattern", none, .fields ([.str (Str.mk [92, 92, 40, 46, 41].toArray) 503, .int 32 523, .int 1 0, .none, .none, .ref 62, .int 0 0].toArray), [].toArray⟩
noncomputable abbrev o64_0 (P : Params) : Obj := ⟨.type "tuple", none, .seq ([].toArray) 0, [].toArray⟩
noncomputable abbrev o65_0 (P : Params) : Obj := ⟨.none, none, .fields ([].toArray), [].toArray⟩
noncomputable abbrev o66_0 (P : Params) : Obj := ⟨.type "tuple", none, .seq ([.str (Str.ofString "header_values") 528, .str (Str.ofString "result") 529, .str (Str.ofString "text") 530, .str (Str.ofString "orig_text") 531, .str (Str.ofString "pairs") 532, .str (Str.ofString "m") 533, .str (Str.ofString "name") 534, .str (Str.ofString "value") 535, .str (Str.ofString "non_junk") 536, .str (Str.ofString "nr_junk_chars") 537].toArray) 0, [].toArray⟩
noncomputable abbrev o67_0 (P : Params) : Obj := ⟨.type "tuple", none, .seq ([].toArray) 0, [].toArray⟩
noncomputable abbrev o68_0 (P : Params) : Obj := ⟨.none, none, .func { name := (Str.ofString "split_header_words"), qualname := (Str.ofString "split_header_words"), params := (fd8).1.1, body := .stmts (fd8).1.2.1, scope := (fd8).1.2.2, globals := 0, closure := [], defaults := .none, kwdefaults := .none, doc := .none, pyModule := .none, annotations := none, code := .none, closureTuple := .none, builtins := 0 }, [].toArray⟩
noncomputable abbrev o69_0 (P : Params) : Obj := ⟨.type "code", none, .fields ([.str (Str.ofString "split_header_words") 525, .str (Str.ofString "split_header_words") 526, .str (Str.ofString "/claim/cut.py") 527, .int 11 0, .int 1 0, .int 0 0, .int 0 0, .int 3 0, .ref 64, .bool true, .int 276 0, .ref 65, .none, .ref 66, .ref 67, .ref 68, .int 538 0, .int 11 0, .str (Str.ofString "/claim/cut.py") 539].toArray), [].toArray⟩
noncomputable abbrev o70_0 (P : Params) : Obj := ⟨.type "function", none, .func { name := (Str.ofString "split_header_words"), qualname := (Str.ofString "split_header_words"), params := (fd8).1.1, body := .stmts (fd8).1.2.1, scope := (fd8).1.2.2, globals := 3, closure := [], defaults := .none, kwdefaults := .none, doc := .none, pyModule := .str (Str.ofString "cpy313.http.cookiejar") 282, annotations := none, code := .ref 69, closureTuple := .none, builtins := 0 }, [].toArray⟩
noncomputable abbrev o71_0 (P : Params) : Obj := ⟨.type "list", none, .seq ([.int 14 544, .int 8 545, .int 1 546, .int 3 547, .int 3 548, .int 1 549, .int 1 550, .int 61 551, .int 0 552, .int 16 553, .int 61 554, .int 24 555, .int 16 556, .int 2 557, .int 2 558, .int 13 559, .int 11 560, .int 9 561, .int 0 562, .int 67043328 563, .int 126 564, .int 126 565, .int 0 566, .int 0 567, .int 0 568, .int 0 569, .int 0 570, .int 1 571, .int 1 572].toArray) 0, [].toArray⟩
noncomputable abbrev o72_0 (P : Params) : Obj := ⟨.type "dict", none, .dict ([].toArray) 0, [].toArray⟩
noncomputable abbrev o73_0 (P : Params) : Obj := ⟨.type "tuple", none, .seq ([.none].toArray) 0, [].toArray⟩
noncomputable abbrev o74_0 (P : Params) : Obj := ⟨.type "tuple", none, .seq ([.int 14 0, .int 8 0, .int 1 0, .int 3 0, .int 3 0, .int 1 0, .int 1 0, .int 61 0, .int 0 0, .int 16 0, .int 61 0, .int 24 0, .int 16 0, .int 2 0, .int 2 0, .int 13 0, .int 11 0, .int 9 0, .int 0 0, .int 67043328 0, .int 126 0, .int 126 0, .int 0 0, .int 0 0, .int 0 0, .int 0 0, .int 0 0, .int 1 0, .int 1 0].toArray) 0, [].toArray⟩
noncomputable abbrev o75_0 (P : Params) : Obj := ⟨.type "re.Pattern", none, .fields ([.str (Str.ofString "=[a-fA-F0-9]{2}") 542, .int 256 574, .int 0 0, .none, .none, .ref 74, .int 0 0].toArray), [].toArray⟩
noncomputable def s1 (P : Params) : BT := (bn (o0_0 P) (bn (o1_0 P) (bn (o3_1 P) (bn (o7_0 P) (bn (o15_0 P) (bn (o31_0 P) (bn (o63_0 P) bl bl) bl) (bn (o47_0 P) bl bl)) (bn (o23_0 P) (bn (o39_0 P) (bn (o71_0 P) bl bl) bl) (bn (o55_0 P) bl bl))) (bn (o11_0 P) (bn (o19_0 P) (bn (o35_0 P) (bn (o67_0 P) bl bl) bl) (bn (o51_0 P) bl bl)) (bn (o27_0 P) (bn (o43_0 P) (bn (o75_0 P) bl bl) bl) (bn (o59_0 P) bl bl)))) (bn (o5_0 P) (bn (o9_0 P) (bn (o17_0 P) (bn (o33_0 P) (bn (o65_0 P) bl bl) bl) (bn (o49_0 P) bl bl)) (bn (o25_0 P) (bn (o41_0 P) (bn (o73_0 P) bl bl) bl) (bn (o57_0 P) bl bl))) (bn (o13_0 P) (bn (o21_0 P) (bn (o37_0 P) (bn (o69_0 P) bl bl) bl) (bn (o53_0 P) bl bl)) (bn (o29_1 P) (bn (o45_0 P) bl bl) (bn (o61_0 P) bl bl))))) (bn (o2_0 P) (bn (o4_0 P) (bn (o8_0 P) (bn (o16_0 P) (bn (o32_0 P) (bn (o64_0 P) bl bl) bl) (bn (o48_0 P) bl bl)) (bn (o24_0 P) (bn (o40_0 P) (bn (o72_0 P) bl bl) bl) (bn (o56_0 P) bl bl))) (bn (o12_0 P) (bn (o20_0 P) (bn (o36_0 P) (bn (o68_0 P) bl bl) bl) (bn (o52_0 P) bl bl)) (bn (o28_0 P) (bn (o44_0 P) bl bl) (bn (o60_0 P) bl bl)))) (bn (o6_0 P) (bn (o10_0 P) (bn (o18_0 P) (bn (o34_0 P) (bn (o66_0 P) bl bl) bl) (bn (o50_0 P) bl bl)) (bn (o26_0 P) (bn (o42_0 P) (bn (o74_0 P) bl bl) bl) (bn (o58_0 P) bl bl))) (bn (o14_0 P) (bn (o22_0 P) (bn (o38_0 P) (bn (o70_0 P) bl bl) bl) (bn (o54_0 P) bl bl)) (bn (o30_0 P) (bn (o46_0 P) bl bl) (bn (o62_0 P) bl bl))))))
noncomputable def s1T (w : World) (os : OsState) : SharedT := ⟨s1 w.params, 76, {}, #[], {}, 576, os⟩
noncomputable abbrev o76_0 (P : Params) : Obj := ⟨.type "range", none, .fields ([.int 0 577, .int 256 576, .int 1 578].toArray), [].toArray⟩
noncomputable abbrev o77_0 (P : Params) : Obj := ⟨.type "range_iterator", none, .fields ([.int 0 0, .int 256 0, .int 1 0].toArray), [].toArray⟩
noncomputable abbrev o78_0 (P : Params) : Obj := ⟨.type "list", none, .seq ([].toArray) 0, [].toArray⟩
noncomputable abbrev o79_0 (P : Params) : Obj := ⟨.type "dict", none, .dict ([].toArray) 0, [].toArray⟩
noncomputable def s2a (P : Params) : BT := (bn (o0_0 P) (bn (o1_0 P) (bn (o3_1 P) (bn (o7_0 P) (bn (o15_0 P) (bn (o31_0 P) (bn (o63_0 P) bl bl) bl) (bn (o47_0 P) (bn (o79_0 P) bl bl) bl)) (bn (o23_0 P) (bn (o39_0 P) (bn (o71_0 P) bl bl) bl) (bn (o55_0 P) bl bl))) (bn (o11_0 P) (bn (o19_0 P) (bn (o35_0 P) (bn (o67_0 P) bl bl) bl) (bn (o51_0 P) bl bl)) (bn (o27_0 P) (bn (o43_0 P) (bn (o75_0 P) bl bl) bl) (bn (o59_0 P) bl bl)))) (bn (o5_0 P) (bn (o9_0 P) (bn (o17_0 P) (bn (o33_0 P) (bn (o65_0 P) bl bl) bl) (bn (o49_0 P) bl bl)) (bn (o25_0 P) (bn (o41_0 P) (bn (o73_0 P) bl bl) bl) (bn (o57_0 P) bl bl))) (bn (o13_0 P) (bn (o21_0 P) (bn (o37_0 P) (bn (o69_0 P) bl bl) bl) (bn (o53_0 P) bl bl)) (bn (o29_1 P) (bn (o45_0 P) (bn (o77_0 P) bl bl) bl) (bn (o61_0 P) bl bl))))) (bn (o2_0 P) (bn (o4_0 P) (bn (o8_0 P) (bn (o16_0 P) (bn (o32_0 P) (bn (o64_0 P) bl bl) bl) (bn (o48_0 P) bl bl)) (bn (o24_0 P) (bn (o40_0 P) (bn (o72_0 P) bl bl) bl) (bn (o56_0 P) bl bl))) (bn (o12_0 P) (bn (o20_0 P) (bn (o36_0 P) (bn (o68_0 P) bl bl) bl) (bn (o52_0 P) bl bl)) (bn (o28_0 P) (bn (o44_0 P) (bn (o76_0 P) bl bl) bl) (bn (o60_0 P) bl bl)))) (bn (o6_0 P) (bn (o10_0 P) (bn (o18_0 P) (bn (o34_0 P) (bn (o66_0 P) bl bl) bl) (bn (o50_0 P) bl bl)) (bn (o26_0 P) (bn (o42_0 P) (bn (o74_0 P) bl bl) bl) (bn (o58_0 P) bl bl))) (bn (o14_0 P) (bn (o22_0 P) (bn (o38_0 P) (bn (o70_0 P) bl bl) bl) (bn (o54_0 P) bl bl)) (bn (o30_0 P) (bn (o46_0 P) (bn (o78_0 P) bl bl) bl) (bn (o62_0 P) bl bl))))))
noncomputable def s2aT (w : World) (os : OsState) : SharedT := ⟨s2a w.params, 80, {}, #[], {}, 579, os⟩
noncomputable abbrev o3_2 (P : Params) : Obj := ⟨.type "dict", none, .dict ([de P (Str.ofString "__name__") 165 (.str (Str.ofString "cpy313.http.cookiejar") 282), de P (Str.ofString "__doc__") 166 (.none), de P (Str.ofString "__package__") 167 (.none), de P (Str.ofString "__loader__") 168 (.builtin "__main__.__loader__#opaque"), de P (Str.ofString "__spec__") 169 (.none), de P (Str.ofString "__annotations__") 170 (.ref 6), de P (Str.ofString "__builtins__") 171 (.ref 4), de P (Str.ofString "__file__") 173 (.str (Str.ofString "/claim/cut.py") 172), de P (Str.ofString "__cached__") 174 (.none), de P (Str.ofString "_sre") 275 (.ref 12), de P (Str.ofString "_twin_re_5") 311 (.ref 36), de P (Str.ofString "unmatched") 320 (.ref 43), de P (Str.ofString "HEADER_TOKEN_RE") 368 (.ref 48), de P (Str.ofString "HEADER_QUOTED_VALUE_RE") 446 (.ref 53), de P (Str.ofString "HEADER_VALUE_RE") 501 (.ref 58), de P (Str.ofString "HEADER_ESCAPE_RE") 524 (.ref 63), de P (Str.ofString "split_header_words") 540 (.ref 70), de P (Str.ofString "_twin_re_1") 575 (.ref 75), de P (Str.ofString "_QUOPRI_MAP") 1603 (.ref 78)].toArray) 19, [].toArray⟩
noncomputable abbrev o77_1 (P : Params) : Obj := ⟨.type "range_iterator", none, .fields ([.int 256 0, .int 0 0, .int 1 0].toArray), [].toArray⟩
noncomputable abbrev o78_1 (P : Params) : Obj := ⟨.type "list", none, .seq ((it 0 :: it 1 :: it 2 :: it 3 :: it 4 :: it 5 :: it 6 :: it 7 :: it 8 :: it 9 :: it 10 :: it 11 :: it 12 :: it 13 :: it 14 :: it 15 :: it 16 :: it 17 :: it 18 :: it 19 :: it 20 :: it 21 :: it 22 :: it 23 :: it 24 :: it 25 :: it 26 :: it 27 :: it 28 :: it 29 :: it 30 :: it 31 :: it 32 :: it 33 :: it 34 :: it 35 :: it 36 :: it 37 :: it 38 :: it 39 :: it 40 :: it 41 :: it 42 :: it 43 :: it 44 :: it 45 :: it 46 :: it 47 :: it 48 :: it 49 :: it 50 :: it 51 :: it 52 :: it 53 :: it 54 :: it 55 :: it 56 :: it 57 :: it 58 :: it 59 :: it 60 :: it 61 :: it 62 :: it 63 :: it 64 :: it 65 :: it 66 :: it 67 :: it 68 :: it 69 :: it 70 :: it 71 :: it 72 :: it 73 :: it 74 :: it 75 :: it 76 :: it 77 :: it 78 :: it 79 :: it 80 :: it 81 :: it 82 :: it 83 :: it 84 :: it 85 :: it 86 :: it 87 :: it 88 :: it 89 :: it 90 :: it 91 :: it 92 :: it 93 :: it 94 :: it 95 :: it 96 :: it 97 :: it 98 :: it 99 :: it 100 :: it 101 :: it 102 :: it 103 :: it 104 :: it 105 :: it 106 :: it 107 :: it 108 :: it 109 :: it 110 :: it 111 :: it 112 :: it 113 :: it 114 :: it 115 :: it 116 :: it 117 :: it 118 :: it 119 :: it 120 :: it 121 :: it 122 :: it 123 :: it 124 :: it 125 :: it 126 :: it 127 :: it 128 :: it 129 :: it 130 :: it 131 :: it 132 :: it 133 :: it 134 :: it 135 :: it 136 :: it 137 :: it 138 :: it 139 :: it 140 :: it 141 :: it 142 :: it 143 :: it 144 :: it 145 :: it 146 :: it 147 :: it 148 :: it 149 :: it 150 :: it 151 :: it 152 :: it 153 :: it 154 :: it 155 :: it 156 :: it 157 :: it 158 :: it 159 :: it 160 :: it 161 :: it 162 :: it 163 :: it 164 :: it 165 :: it 166 :: it 167 :: it 168 :: it 169 :: it 170 :: it 171 :: it 172 :: it 173 :: it 174 :: it 175 :: it 176 :: it 177 :: it 178 :: it 179 :: it 180 :: it 181 :: it 182 :: it 183 :: it 184 :: it 185 :: it 186 :: it 187 :: it 188 :: it 189 :: it 190 :: it 191 :: it 192 :: it 193 :: it 194 :: it 195 :: it 196 :: it 197 :: it 198 :: it 199 :: it 200 :: it 201 :: it 202 :: it 203 :: it 204 :: it 205 :: it 206 :: it 207 :: it 208 :: it 209 :: it 210 :: it 211 :: it 212 :: it 213 :: it 214 :: it 215 :: it 216 :: it 217 :: it 218 :: it 219 :: it 220 :: it 221 :: it 222 :: it 223 :: it 224 :: it 225 :: it 226 :: it 227 :: it 228 :: it 229 :: it 230 :: it 231 :: it 232 :: it 233 :: it 234 :: it 235 :: it 236 :: it 237 :: it 238 :: it 239 :: it 240 :: it 241 :: it 242 :: it 243 :: it 244 :: it 245 :: it 246 :: it 247 :: it 248 :: it 249 :: it 250 :: it 251 :: it 252 :: it 253 :: it 254 :: it 255 :: []).toArray) 256, [].toArray⟩
noncomputable abbrev o79_1 (P : Params) : Obj := ⟨.type "dict", none, .dict ([].toArray) 2, [].toArray⟩
noncomputable abbrev o80_0 (P : Params) : Obj := ⟨.type "tuple", none, .seq ([].toArray) 0, [].toArray⟩
noncomputable abbrev o81_0 (P : Params) : Obj := ⟨.type "StopIteration", none, .fields ([.ref 80, .none, .none, .none, .bool false, .none].toArray), [].toArray⟩
noncomputable def s2 (P : Params) : BT := (bn (o0_0 P) (bn (o1_0 P) (bn (o3_2 P) (bn (o7_0 P) (bn (o15_0 P) (bn (o31_0 P) (bn (o63_0 P) bl bl) bl) (bn (o47_0 P) (bn (o79_1 P) bl bl) bl)) (bn (o23_0 P) (bn (o39_0 P) (bn (o71_0 P) bl bl) bl) (bn (o55_0 P) bl bl))) (bn (o11_0 P) (bn (o19_0 P) (bn (o35_0 P) (bn (o67_0 P) bl bl) bl) (bn (o51_0 P) bl bl)) (bn (o27_0 P) (bn (o43_0 P) (bn (o75_0 P) bl bl) bl) (bn (o59_0 P) bl bl)))) (bn (o5_0 P) (bn (o9_0 P) (bn (o17_0 P) (bn (o33_0 P) (bn (o65_0 P) bl bl) bl) (bn (o49_0 P) (bn (o81_0 P) bl bl) bl)) (bn (o25_0 P) (bn (o41_0 P) (bn (o73_0 P) bl bl) bl) (bn (o57_0 P) bl bl))) (bn (o13_0 P) (bn (o21_0 P) (bn (o37_0 P) (bn (o69_0 P) bl bl) bl) (bn (o53_0 P) bl bl)) (bn (o29_1 P) (bn (o45_0 P) (bn (o77_1 P) bl bl) bl) (bn (o61_0 P) bl bl))))) (bn (o2_0 P) (bn (o4_0 P) (bn (o8_0 P) (bn (o16_0 P) (bn (o32_0 P) (bn (o64_0 P) bl bl) bl) (bn (o48_0 P) (bn (o80_0 P) bl bl) bl)) (bn (o24_0 P) (bn (o40_0 P) (bn (o72_0 P) bl bl) bl) (bn (o56_0 P) bl bl))) (bn (o12_0 P) (bn (o20_0 P) (bn (o36_0 P) (bn (o68_0 P) bl bl) bl) (bn (o52_0 P) bl bl)) (bn (o28_0 P) (bn (o44_0 P) (bn (o76_0 P) bl bl) bl) (bn (o60_0 P) bl bl)))) (bn (o6_0 P) (bn (o10_0 P) (bn (o18_0 P) (bn (o34_0 P) (bn (o66_0 P) bl bl) bl) (bn (o50_0 P) bl bl)) (bn (o26_0 P) (bn (o42_0 P) (bn (o74_0 P) bl bl) bl) (bn (o58_0 P) bl bl))) (bn (o14_0 P) (bn (o22_0 P) (bn (o38_0 P) (bn (o70_0 P) bl bl) bl) (bn (o54_0 P) bl bl)) (bn (o30_0 P) (bn (o46_0 P) (bn (o78_1 P) bl bl) bl) (bn (o62_0 P) bl bl))))))
noncomputable def s2T (w : World) (os : OsState) : SharedT := ⟨s2 w.params, 82, {}, #[], {}, 1604, os⟩
noncomputable abbrev o3_3 (P : Params) : Obj := ⟨.type "dict", none, .dict ([de P (Str.ofString "__name__") 165 (.str (Str.ofString "cpy313.email.quoprimime") 1614), de P (Str.ofString "__doc__") 166 (.none), de P (Str.ofString "__package__") 167 (.none), de P (Str.ofString "__loader__") 168 (.builtin "__main__.__loader__#opaque"), de P (Str.ofString "__spec__") 169 (.none), de P (Str.ofString "__annotations__") 170 (.ref 6), de P (Str.ofString "__builtins__") 171 (.ref 4), de P (Str.ofString "__file__") 173 (.str (Str.ofString "/claim/cut.py") 172), de P (Str.ofString "__cached__") 174 (.none), de P (Str.ofString "_sre") 275 (.ref 12), de P (Str.ofString "_twin_re_5") 311 (.ref 36), de P (Str.ofString "unmatched") 320 (.ref 43), de P (Str.ofString "HEADER_TOKEN_RE") 368 (.ref 48), de P (Str.ofString "HEADER_QUOTED_VALUE_RE") 446 (.ref 53), de P (Str.ofString "HEADER_VALUE_RE") 501 (.ref 58), de P (Str.ofString "HEADER_ESCAPE_RE") 524 (.ref 63), de P (Str.ofString "split_header_words") 540 (.ref 70), de P (Str.ofString "_twin_re_1") 575 (.ref 75), de P (Str.ofString "_QUOPRI_MAP") 1603 (.ref 78), de P (Str.ofString "_QUOPRI_HEADER_MAP") 1604 (.ref 83), de P (Str.ofString "_QUOPRI_BODY_MAP") 1605 (.ref 85), de P (Str.ofString "ascii_lowercase") 1607 (.str (Str.ofString "abcdefghijklmnopqrstuvwxyz") 1606), de P (Str.ofString "ascii_uppercase") 1609 (.str (Str.ofString "ABCDEFGHIJKLMNOPQRSTUVWXYZ") 1608), de P (Str.ofString "ascii_letters") 1611 (.str (Str.ofString "abcdefghijklmnopqrstuvwxyzABCDEFGHIJKLMNOPQRSTUVWXYZ") 1610), de P (Str.ofString "digits") 1613 (.str (Str.ofString "0123456789") 1612)].toArray) 25, [].toArray⟩
noncomputable abbrev o82_0 (P : Params) : Obj := ⟨.type "slice", none, .fields ([.none, .none, .none].toArray), [].toArray⟩
noncomputable abbrev o83_0 (P : Params) : Obj := ⟨.type "list", none, .seq ((it 0 :: it 1 :: it 2 :: it 3 :: it 4 :: it 5 :: it 6 :: it 7 :: it 8 :: it 9 :: it 10 :: it 11 :: it 12 :: it 13 :: it 14 :: it 15 :: it 16 :: it 17 :: it 18 :: it 19 :: it 20 :: it 21 :: it 22 :: it 23 :: it 24 :: it 25 :: it 26 :: it 27 :: it 28 :: it 29 :: it 30 :: it 31 :: it 32 :: it 33 :: it 34 :: it 35 :: it 36 :: it 37 :: it 38 :: it 39 :: it 40 :: it 41 :: it 42 :: it 43 :: it 44 :: it 45 :: it 46 :: it 47 :: it 48 :: it 49 :: it 50 :: it 51 :: it 52 :: it 53 :: it 54 :: it 55 :: it 56 :: it 57 :: it 58 :: it 59 :: it 60 :: it 61 :: it 62 :: it 63 :: it 64 :: it 65 :: it 66 :: it 67 :: it 68 :: it 69 :: it 70 :: it 71 :: it 72 :: it 73 :: it 74 :: it 75 :: it 76 :: it 77 :: it 78 :: it 79 :: it 80 :: it 81 :: it 82 :: it 83 :: it 84 :: it 85 :: it 86 :: it 87 :: it 88 :: it 89 :: it 90 :: it 91 :: it 92 :: it 93 :: it 94 :: it 95 :: it 96 :: it 97 :: it 98 :: it 99 :: it 100 :: it 101 :: it 102 :: it 103 :: it 104 :: it 105 :: it 106 :: it 107 :: it 108 :: it 109 :: it 110 :: it 111 :: it 112 :: it 113 :: it 114 :: it 115 :: it 116 :: it 117 :: it 118 :: it 119 :: it 120 :: it 121 :: it 122 :: it 123 :: it 124 :: it 125 :: it 126 :: it 127 :: it 128 :: it 129 :: it 130 :: it 131 :: it 132 :: it 133 :: it 134 :: it 135 :: it 136 :: it 137 :: it 138 :: it 139 :: it 140 :: it 141 :: it 142 :: it 143 :: it 144 :: it 145 :: it 146 :: it 147 :: it 148 :: it 149 :: it 150 :: it 151 :: it 152 :: it 153 :: it 154 :: it 155 :: it 156 :: it 157 :: it 158 :: it 159 :: it 160 :: it 161 :: it 162 :: it 163 :: it 164 :: it 165 :: it 166 :: it 167 :: it 168 :: it 169 :: it 170 :: it 171 :: it 172 :: it 173 :: it 174 :: it 175 :: it 176 :: it 177 :: it 178 :: it 179 :: it 180 :: it 181 :: it 182 :: it 183 :: it 184 :: it 185 :: it 186 :: it 187 :: it 188 :: it 189 :: it 190 :: it 191 :: it 192 :: it 193 :: it 194 :: it 195 :: it 196 :: it 197 :: it 198 :: it 199 :: it 200 :: it 201 :: it 202 :: it 203 :: it 204 :: it 205 :: it 206 :: it 207 :: it 208 :: it 209 :: it 210 :: it 211 :: it 212 :: it 213 :: it 214 :: it 215 :: it 216 :: it 217 :: it 218 :: it 219 :: it 220 :: it 221 :: it 222 :: it 223 :: it 224 :: it 225 :: it 226 :: it 227 :: it 228 :: it 229 :: it 230 :: it 231 :: it 232 :: it 233 :: it 234 :: it 235 :: it 236 :: it 237 :: it 238 :: it 239 :: it 240 :: it 241 :: it 242 :: it 243 :: it 244 :: it 245 :: it 246 :: it 247 :: it 248 :: it 249 :: it 250 :: it 251 :: it 252 :: it 253 :: it 254 :: it 255 :: []).toArray) 0, [].toArray⟩
noncomputable abbrev o84_0 (P : Params) : Obj := ⟨.type "slice", none, .fields ([.none, .none, .none].toArray), [].toArray⟩
noncomputable abbrev o85_0 (P : Params) : Obj := ⟨.type "list", none, .seq ((it 0 :: it 1 :: it 2 :: it 3 :: it 4 :: it 5 :: it 6 :: it 7 :: it 8 :: it 9 :: it 10 :: it 11 :: it 12 :: it 13 :: it 14 :: it 15 :: it 16 :: it 17 :: it 18 :: it 19 :: it 20 :: it 21 :: it 22 :: it 23 :: it 24 :: it 25 :: it 26 :: it 27 :: it 28 :: it 29 :: it 30 :: it 31 :: it 32 :: it 33 :: it 34 :: it 35 :: it 36 :: it 37 :: it 38 :: it 39 :: it 40 :: it 41 :: it 42 :: it 43 :: it 44 :: it 45 :: it 46 :: it 47 :: it 48 :: it 49 :: it 50 :: it 51 :: it 52 :: it 53 :: it 54 :: it 55 :: it 56 :: it 57 :: it 58 :: it 59 :: it 60 :: it 61 :: it 62 :: it 63 :: it 64 :: it 65 :: it 66 :: it 67 :: it 68 :: it 69 :: it 70 :: it 71 :: it 72 :: it 73 :: it 74 :: it 75 :: it 76 :: it 77 :: it 78 :: it 79 :: it 80 :: it 81 :: it 82 :: it 83 :: it 84 :: it 85 :: it 86 :: it 87 :: it 88 :: it 89 :: it 90 :: it 91 :: it 92 :: it 93 :: it 94 :: it 95 :: it 96 :: it 97 :: it 98 :: it 99 :: it 100 :: it 101 :: it 102 :: it 103 :: it 104 :: it 105 :: it 106 :: it 107 :: it 108 :: it 109 :: it 110 :: it 111 :: it 112 :: it 113 :: it 114 :: it 115 :: it 116 :: it 117 :: it 118 :: it 119 :: it 120 :: it 121 :: it 122 :: it 123 :: it 124 :: it 125 :: it 126 :: it 127 :: it 128 :: it 129 :: it 130 :: it 131 :: it 132 :: it 133 :: it 134 :: it 135 :: it 136 :: it 137 :: it 138 :: it 139 :: it 140 :: it 141 :: it 142 :: it 143 :: it 144 :: it 145 :: it 146 :: it 147 :: it 148 :: it 149 :: it 150 :: it 151 :: it 152 :: it 153 :: it 154 :: it 155 :: it 156 :: it 157 :: it 158 :: it 159 :: it 160 :: it 161 :: it 162 :: it 163 :: it 164 :: it 165 :: it 166 :: it 167 :: it 168 :: it 169 :: it 170 :: it 171 :: it 172 :: it 173 :: it 174 :: it 175 :: it 176 :: it 177 :: it 178 :: it 179 :: it 180 :: it 181 :: it 182 :: it 183 :: it 184 :: it 185 :: it 186 :: it 187 :: it 188 :: it 189 :: it 190 :: it 191 :: it 192 :: it 193 :: it 194 :: it 195 :: it 196 :: it 197 :: it 198 :: it 199 :: it 200 :: it 201 :: it 202 :: it 203 :: it 204 :: it 205 :: it 206 :: it 207 :: it 208 :: it 209 :: it 210 :: it 211 :: it 212 :: it 213 :: it 214 :: it 215 :: it 216 :: it 217 :: it 218 :: it 219 :: it 220 :: it 221 :: it 222 :: it 223 :: it 224 :: it 225 :: it 226 :: it 227 :: it 228 :: it 229 :: it 230 :: it 231 :: it 232 :: it 233 :: it 234 :: it 235 :: it 236 :: it 237 :: it 238 :: it 239 :: it 240 :: it 241 :: it 242 :: it 243 :: it 244 :: it 245 :: it 246 :: it 247 :: it 248 :: it 249 :: it 250 :: it 251 :: it 252 :: it 253 :: it 254 :: it 255 :: []).toArray) 0, [].toArray⟩
noncomputable abbrev o86_0 (P : Params) : Obj := ⟨.type "bytes_iterator", none, .fields ([.bytes ((45 :: 33 :: 42 :: 43 :: 47 :: 97 :: 98 :: 99 :: 100 :: 101 :: 102 :: 103 :: 104 :: 105 :: 106 :: 107 :: 108 :: 109 :: 110 :: 111 :: 112 :: 113 :: 114 :: 115 :: 116 :: 117 :: 118 :: 119 :: 120 :: 121 :: 122 :: 65 :: 66 :: 67 :: 68 :: 69 :: 70 :: 71 :: 72 :: 73 :: 74 :: 75 :: 76 :: 77 :: 78 :: 79 :: 80 :: 81 :: 82 :: 83 :: 84 :: 85 :: 86 :: 87 :: 88 :: 89 :: 90 :: 48 :: 49 :: 50 :: 51 :: 52 :: 53 :: 54 :: 55 :: 56 :: 57 :: []).toArray) 1622, .int 0 0].toArray), [].toArray⟩
noncomputable def s3a (P : Params) : BT := (bn (o0_0 P) (bn (o1_0 P) (bn (o3_3 P) (bn (o7_0 P) (bn (o15_0 P) (bn (o31_0 P) (bn (o63_0 P) bl bl) bl) (bn (o47_0 P) (bn (o79_1 P) bl bl) bl)) (bn (o23_0 P) (bn (o39_0 P) (bn (o71_0 P) bl bl) bl) (bn (o55_0 P) bl bl))) (bn (o11_0 P) (bn (o19_0 P) (bn (o35_0 P) (bn (o67_0 P) bl bl) bl) (bn (o51_0 P) (bn (o83_0 P) bl bl) bl)) (bn (o27_0 P) (bn (o43_0 P) (bn (o75_0 P) bl bl) bl) (bn (o59_0 P) bl bl)))) (bn (o5_0 P) (bn (o9_0 P) (bn (o17_0 P) (bn (o33_0 P) (bn (o65_0 P) bl bl) bl) (bn (o49_0 P) (bn (o81_0 P) bl bl) bl)) (bn (o25_0 P) (bn (o41_0 P) (bn (o73_0 P) bl bl) bl) (bn (o57_0 P) bl bl))) (bn (o13_0 P) (bn (o21_0 P) (bn (o37_0 P) (bn (o69_0 P) bl bl) bl) (bn (o53_0 P) (bn (o85_0 P) bl bl) bl)) (bn (o29_1 P) (bn (o45_0 P) (bn (o77_1 P) bl bl) bl) (bn (o61_0 P) bl bl))))) (bn (o2_0 P) (bn (o4_0 P) (bn (o8_0 P) (bn (o16_0 P) (bn (o32_0 P) (bn (o64_0 P) bl bl) bl) (bn (o48_0 P) (bn (o80_0 P) bl bl) bl)) (bn (o24_0 P) (bn (o40_0 P) (bn (o72_0 P) bl bl) bl) (bn (o56_0 P) bl bl))) (bn (o12_0 P) (bn (o20_0 P) (bn (o36_0 P) (bn (o68_0 P) bl bl) bl) (bn (o52_0 P) (bn (o84_0 P) bl bl) bl)) (bn (o28_0 P) (bn (o44_0 P) (bn (o76_0 P) bl bl) bl) (bn (o60_0 P) bl bl)))) (bn (o6_0 P) (bn (o10_0 P) (bn (o18_0 P) (bn (o34_0 P) (bn (o66_0 P) bl bl) bl) (bn (o50_0 P) (bn (o82_0 P) bl bl) bl)) (bn (o26_0 P) (bn (o42_0 P) (bn (o74_0 P) bl bl) bl) (bn (o58_0 P) bl bl))) (bn (o14_0 P) (bn (o22_0 P) (bn (o38_0 P) (bn (o70_0 P) bl bl) bl) (bn (o54_0 P) (bn (o86_0 P) bl bl) bl)) (bn (o30_0 P) (bn (o46_0 P) (bn (o78_1 P) bl bl) bl) (bn (o62_0 P) bl bl))))))
noncomputable def s3aT (w : World) (os : OsState) : SharedT := ⟨s3a w.params, 87, {}, #[], {}, 1623, os⟩
noncomputable abbrev o3_4 (P : Params) : Obj := ⟨.type "dict", none, .dict ([de P (Str.ofString "__name__") 165 (.str (Str.ofString "cpy313.email.quoprimime") 1614), de P (Str.ofString "__doc__") 166 (.none), de P (Str.ofString "__package__") 167 (.none), de P (Str.ofString "__loader__") 168 (.builtin "__main__.__loader__#opaque"), de P (Str.ofString "__spec__") 169 (.none), de P (Str.ofString "__annotations__") 170 (.ref 6), de P (Str.ofString "__builtins__") 171 (.ref 4), de P (Str.ofString "__file__") 173 (.str (Str.ofString "/claim/cut.py") 172), de P (Str.ofString "__cached__") 174 (.none), de P (Str.ofString "_sre") 275 (.ref 12), de P (Str.ofString "_twin_re_5") 311 (.ref 36), de P (Str.ofString "unmatched") 320 (.ref 43), de P (Str.ofString "HEADER_TOKEN_RE") 368 (.ref 48), de P (Str.ofString "HEADER_QUOTED_VALUE_RE") 446 (.ref 53), de P (Str.ofString "HEADER_VALUE_RE") 501 (.ref 58), de P (Str.ofString "HEADER_ESCAPE_RE") 524 (.ref 63), de P (Str.ofString "split_header_words") 540 (.ref 70), de P (Str.ofString "_twin_re_1") 575 (.ref 75), de P (Str.ofString "_QUOPRI_MAP") 1603 (.ref 78), de P (Str.ofString "_QUOPRI_HEADER_MAP") 1604 (.ref 83), de P (Str.ofString "_QUOPRI_BODY_MAP") 1605 (.ref 85), de P (Str.ofString "ascii_lowercase") 1607 (.str (Str.ofString "abcdefghijklmnopqrstuvwxyz") 1606), de P (Str.ofString "ascii_uppercase") 1609 (.str (Str.ofString "ABCDEFGHIJKLMNOPQRSTUVWXYZ") 1608), de P (Str.ofString "ascii_letters") 1611 (.str (Str.ofString "abcdefghijklmnopqrstuvwxyzABCDEFGHIJKLMNOPQRSTUVWXYZ") 1610), de P (Str.ofString "digits") 1613 (.str (Str.ofString "0123456789") 1612), de P (Str.ofString "c") 1624 (.int 57 1821)].toArray) 26, [].toArray⟩
noncomputable abbrev o83_1 (P : Params) : Obj := ⟨.type "list", none, .seq ((it 0 :: it 1 :: it 2 :: it 3 :: it 4 :: it 5 :: it 6 :: it 7 :: it 8 :: it 9 :: it 10 :: it 11 :: it 12 :: it 13 :: it 14 :: it 15 :: it 16 :: it 17 :: it 18 :: it 19 :: it 20 :: it 21 :: it 22 :: it 23 :: it 24 :: it 25 :: it 26 :: it 27 :: it 28 :: it 29 :: it 30 :: it 31 :: it 32 :: ch 33 1628 :: it 34 :: it 35 :: it 36 :: it 37 :: it 38 :: it 39 :: it 40 :: it 41 :: ch 42 1631 :: ch 43 1634 :: it 44 :: ch 45 1625 :: it 46 :: ch 47 1637 :: ch 48 1796 :: ch 49 1799 :: ch 50 1802 :: ch 51 1805 :: ch 52 1808 :: ch 53 1811 :: ch 54 1814 :: ch 55 1817 :: ch 56 1820 :: ch 57 1823 :: it 58 :: it 59 :: it 60 :: it 61 :: it 62 :: it 63 :: it 64 :: ch 65 1718 :: ch 66 1721 :: ch 67 1724 :: ch 68 1727 :: ch 69 1730 :: ch 70 1733 :: ch 71 1736 :: ch 72 1739 :: ch 73 1742 :: ch 74 1745 :: ch 75 1748 :: ch 76 1751 :: ch 77 1754 :: ch 78 1757 :: ch 79 1760 :: ch 80 1763 :: ch 81 1766 :: ch 82 1769 :: ch 83 1772 :: ch 84 1775 :: ch 85 1778 :: ch 86 1781 :: ch 87 1784 :: ch 88 1787 :: ch 89 1790 :: ch 90 1793 :: it 91 :: it 92 :: it 93 :: it 94 :: it 95 :: it 96 :: ch 97 1640 :: ch 98 1643 :: ch 99 1646 :: ch 100 1649 :: ch 101 1652 :: ch 102 1655 :: ch 103 1658 :: ch 104 1661 :: ch 105 1664 :: ch 106 1667 :: ch 107 1670 :: ch 108 1673 :: ch 109 1676 :: ch 110 1679 :: ch 111 1682 :: ch 112 1685 :: ch 113 1688 :: ch 114 1691 :: ch 115 1694 :: ch 116 1697 :: ch 117 1700 :: ch 118 1703 :: ch 119 1706 :: ch 120 1709 :: ch 121 1712 :: ch 122 1715 :: it 123 :: it 124 :: it 125 :: it 126 :: it 127 :: it 128 :: it 129 :: it 130 :: it 131 :: it 132 :: it 133 :: it 134 :: it 135 :: it 136 :: it 137 :: it 138 :: it 139 :: it 140 :: it 141 :: it 142 :: it 143 :: it 144 :: it 145 :: it 146 :: it 147 :: it 148 :: it 149 :: it 150 :: it 151 :: it 152 :: it 153 :: it 154 :: it 155 :: it 156 :: it 157 :: it 158 :: it 159 :: it 160 :: it 161 :: it 162 :: it 163 :: it 164 :: it 165 :: it 166 :: it 167 :: it 168 :: it 169 :: it 170 :: it 171 :: it 172 :: it 173 :: it 174 :: it 175 :: it 176 :: it 177 :: it 178 :: it 179 :: it 180 :: it 181 :: it 182 :: it 183 :: it 184 :: it 185 :: it 186 :: it 187 :: it 188 :: it 189 :: it 190 :: it 191 :: it 192 :: it 193 :: it 194 :: it 195 :: it 196 :: it 197 :: it 198 :: it 199 :: it 200 :: it 201 :: it 202 :: it 203 :: it 204 :: it 205 :: it 206 :: it 207 :: it 208 :: it 209 :: it 210 :: it 211 :: it 212 :: it 213 :: it 214 :: it 215 :: it 216 :: it 217 :: it 218 :: it 219 :: it 220 :: it 221 :: it 222 :: it 223 :: it 224 :: it 225 :: it 226 :: it 227 :: it 228 :: it 229 :: it 230 :: it 231 :: it 232 :: it 233 :: it 234 :: it 235 :: it 236 :: it 237 :: it 238 :: it 239 :: it 240 :: it 241 :: it 242 :: it 243 :: it 244 :: it 245 :: it 246 :: it 247 :: it 248 :: it 249 :: it 250 :: it 251 :: it 252 :: it 253 :: it 254 :: it 255 :: []).toArray) 0, [].toArray⟩
noncomputable abbrev o86_1 (P : Params) : Obj := ⟨.type "bytes_iterator", none, .fields ([.none, .int 67 0].toArray), [].toArray⟩
noncomputable abbrev o87_0 (P : Params) : Obj := ⟨.type "tuple", none, .seq ([].toArray) 0, [].toArray⟩
noncomputable abbrev o88_0 (P : Params) : Obj := ⟨.type "StopIteration", none, .fields ([.ref 87, .none, .none, .none, .bool false, .none].toArray), [].toArray⟩
noncomputable def s3 (P : Params) : BT := (bn (o0_0 P) (bn (o1_0 P) (bn (o3_4 P) (bn (o7_0 P) (bn (o15_0 P) (bn (o31_0 P) (bn (o63_0 P) bl bl) bl) (bn (o47_0 P) (bn (o79_1 P) bl bl) bl)) (bn (o23_0 P) (bn (o39_0 P) (bn (o71_0 P) bl bl) bl) (bn (o55_0 P) (bn (o87_0 P) bl bl) bl))) (bn (o11_0 P) (bn (o19_0 P) (bn (o35_0 P) (bn (o67_0 P) bl bl) bl) (bn (o51_0 P) (bn (o83_1 P) bl bl) bl)) (bn (o27_0 P) (bn (o43_0 P) (bn (o75_0 P) bl bl) bl) (bn (o59_0 P) bl bl)))) (bn (o5_0 P) (bn (o9_0 P) (bn (o17_0 P) (bn (o33_0 P) (bn (o65_0 P) bl bl) bl) (bn (o49_0 P) (bn (o81_0 P) bl bl) bl)) (bn (o25_0 P) (bn (o41_0 P) (bn (o73_0 P) bl bl) bl) (bn (o57_0 P) bl bl))) (bn (o13_0 P) (bn (o21_0 P) (bn (o37_0 P) (bn (o69_0 P) bl bl) bl) (bn (o53_0 P) (bn (o85_0 P) bl bl) bl)) (bn (o29_1 P) (bn (o45_0 P) (bn (o77_1 P) bl bl) bl) (bn (o61_0 P) bl bl))))) (bn (o2_0 P) (bn (o4_0 P) (bn (o8_0 P) (bn (o16_0 P) (bn (o32_0 P) (bn (o64_0 P) bl bl) bl) (bn (o48_0 P) (bn (o80_0 P) bl bl) bl)) (bn (o24_0 P) (bn (o40_0 P) (bn (o72_0 P) bl bl) bl) (bn (o56_0 P) (bn (o88_0 P) bl bl) bl))) (bn (o12_0 P) (bn (o20_0 P) (bn (o36_0 P) (bn (o68_0 P) bl bl) bl) (bn (o52_0 P) (bn (o84_0 P) bl bl) bl)) (bn (o28_0 P) (bn (o44_0 P) (bn (o76_0 P) bl bl) bl) (bn (o60_0 P) bl bl)))) (bn (o6_0 P) (bn (o10_0 P) (bn (o18_0 P) (bn (o34_0 P) (bn (o66_0 P) bl bl) bl) (bn (o50_0 P) (bn (o82_0 P) bl bl) bl)) (bn (o26_0 P) (bn (o42_0 P) (bn (o74_0 P) bl bl) bl) (bn (o58_0 P) bl bl))) (bn (o14_0 P) (bn (o22_0 P) (bn (o38_0 P) (bn (o70_0 P) bl bl) bl) (bn (o54_0 P) (bn (o86_1 P) bl bl) bl)) (bn (o30_0 P) (bn (o46_0 P) (bn (o78_1 P) bl bl) bl) (bn (o62_0 P) bl bl))))))
noncomputable def s3T (w : World) (os : OsState) : SharedT := ⟨s3 w.params, 89, {}, #[], {}, 1824, os⟩
noncomputable abbrev o83_2 (P : Params) : Obj := ⟨.type "list", none, .seq ((it 0 :: it 1 :: it 2 :: it 3 :: it 4 :: it 5 :: it 6 :: it 7 :: it 8 :: it 9 :: it 10 :: it 11 :: it 12 :: it 13 :: it 14 :: it 15 :: it 16 :: it 17 :: it 18 :: it 19 :: it 20 :: it 21 :: it 22 :: it 23 :: it 24 :: it 25 :: it 26 :: it 27 :: it 28 :: it 29 :: it 30 :: it 31 :: ch 95 1824 :: ch 33 1628 :: it 34 :: it 35 :: it 36 :: it 37 :: it 38 :: it 39 :: it 40 :: it 41 :: ch 42 1631 :: ch 43 1634 :: it 44 :: ch 45 1625 :: it 46 :: ch 47 1637 :: ch 48 1796 :: ch 49 1799 :: ch 50 1802 :: ch 51 1805 :: ch 52 1808 :: ch 53 1811 :: ch 54 1814 :: ch 55 1817 :: ch 56 1820 :: ch 57 1823 :: it 58 :: it 59 :: it 60 :: it 61 :: it 62 :: it 63 :: it 64 :: ch 65 1718 :: ch 66 1721 :: ch 67 1724 :: ch 68 1727 :: ch 69 1730 :: ch 70 1733 :: ch 71 1736 :: ch 72 1739 :: ch 73 1742 :: ch 74 1745 :: ch 75 1748 :: ch 76 1751 :: ch 77 1754 :: ch 78 1757 :: ch 79 1760 :: ch 80 1763 :: ch 81 1766 :: ch 82 1769 :: ch 83 1772 :: ch 84 1775 :: ch 85 1778 :: ch 86 1781 :: ch 87 1784 :: ch 88 1787 :: ch 89 1790 :: ch 90 1793 :: it 91 :: it 92 :: it 93 :: it 94 :: it 95 :: it 96 :: ch 97 1640 :: ch 98 1643 :: ch 99 1646 :: ch 100 1649 :: ch 101 1652 :: ch 102 1655 :: ch 103 1658 :: ch 104 1661 :: ch 105 1664 :: ch 106 1667 :: ch 107 1670 :: ch 108 1673 :: ch 109 1676 :: ch 110 1679 :: ch 111 1682 :: ch 112 1685 :: ch 113 1688 :: ch 114 1691 :: ch 115 1694 :: ch 116 1697 :: ch 117 1700 :: ch 118 1703 :: ch 119 1706 :: ch 120 1709 :: ch 121 1712 :: ch 122 1715 :: it 123 :: it 124 :: it 125 :: it 126 :: it 127 :: it 128 :: it 129 :: it 130 :: it 131 :: it 132 :: it 133 :: it 134 :: it 135 :: it 136 :: it 137 :: it 138 :: it 139 :: it 140 :: it 141 :: it 142 :: it 143 :: it 144 :: it 145 :: it 146 :: it 147 :: it 148 :: it 149 :: it 150 :: it 151 :: it 152 :: it 153 :: it 154 :: it 155 :: it 156 :: it 157 :: it 158 :: it 159 :: it 160 :: it 161 :: it 162 :: it 163 :: it 164 :: it 165 :: it 166 :: it 167 :: it 168 :: it 169 :: it 170 :: it 171 :: it 172 :: it 173 :: it 174 :: it 175 :: it 176 :: it 177 :: it 178 :: it 179 :: it 180 :: it 181 :: it 182 :: it 183 :: it 184 :: it 185 :: it 186 :: it 187 :: it 188 :: it 189 :: it 190 :: it 191 :: it 192 :: it 193 :: it 194 :: it 195 :: it 196 :: it 197 :: it 198 :: it 199 :: it 200 :: it 201 :: it 202 :: it 203 :: it 204 :: it 205 :: it 206 :: it 207 :: it 208 :: it 209 :: it 210 :: it 211 :: it 212 :: it 213 :: it 214 :: it 215 :: it 216 :: it 217 :: it 218 :: it 219 :: it 220 :: it 221 :: it 222 :: it 223 :: it 224 :: it 225 :: it 226 :: it 227 :: it 228 :: it 229 :: it 230 :: it 231 :: it 232 :: it 233 :: it 234 :: it 235 :: it 236 :: it 237 :: it 238 :: it 239 :: it 240 :: it 241 :: it 242 :: it 243 :: it 244 :: it 245 :: it 246 :: it 247 :: it 248 :: it 249 :: it 250 :: it 251 :: it 252 :: it 253 :: it 254 :: it 255 :: []).toArray) 0, [].toArray⟩
noncomputable abbrev o89_0 (P : Params) : Obj := ⟨.type "bytes_iterator", none, .fields ([.bytes ((32 :: 33 :: 34 :: 35 :: 36 :: 37 :: 38 :: 39 :: 40 :: 41 :: 42 :: 43 :: 44 :: 45 :: 46 :: 47 :: 48 :: 49 :: 50 :: 51 :: 52 :: 53 :: 54 :: 55 :: 56 :: 57 :: 58 :: 59 :: 60 :: 62 :: 63 :: 64 :: 65 :: 66 :: 67 :: 68 :: 69 :: 70 :: 71 :: 72 :: 73 :: 74 :: 75 :: 76 :: 77 :: 78 :: 79 :: 80 :: 81 :: 82 :: 83 :: 84 :: 85 :: 86 :: 87 :: 88 :: 89 :: 90 :: 91 :: 92 :: 93 :: 94 :: 95 :: 96 :: 97 :: 98 :: 99 :: 100 :: 101 :: 102 :: 103 :: 104 :: 105 :: 106 :: 107 :: 108 :: 109 :: 110 :: 111 :: 112 :: 113 :: 114 :: 115 :: 116 :: 117 :: 118 :: 119 :: 120 :: 121 :: 122 :: 123 :: 124 :: 125 :: 126 :: 9 :: []).toArray) 1827, .int 0 0].toArray), [].toArray⟩
noncomputable def s4a (P : Params) : BT := (bn (o0_0 P) (bn (o1_0 P) (bn (o3_4 P) (bn (o7_0 P) (bn (o15_0 P) (bn (o31_0 P) (bn (o63_0 P) bl bl) bl) (bn (o47_0 P) (bn (o79_1 P) bl bl) bl)) (bn (o23_0 P) (bn (o39_0 P) (bn (o71_0 P) bl bl) bl) (bn (o55_0 P) (bn (o87_0 P) bl bl) bl))) (bn (o11_0 P) (bn (o19_0 P) (bn (o35_0 P) (bn (o67_0 P) bl bl) bl) (bn (o51_0 P) (bn (o83_2 P) bl bl) bl)) (bn (o27_0 P) (bn (o43_0 P) (bn (o75_0 P) bl bl) bl) (bn (o59_0 P) bl bl)))) (bn (o5_0 P) (bn (o9_0 P) (bn (o17_0 P) (bn (o33_0 P) (bn (o65_0 P) bl bl) bl) (bn (o49_0 P) (bn (o81_0 P) bl bl) bl)) (bn (o25_0 P) (bn (o41_0 P) (bn (o73_0 P) bl bl) bl) (bn (o57_0 P) (bn (o89_0 P) bl bl) bl))) (bn (o13_0 P) (bn (o21_0 P) (bn (o37_0 P) (bn (o69_0 P) bl bl) bl) (bn (o53_0 P) (bn (o85_0 P) bl bl) bl)) (bn (o29_1 P) (bn (o45_0 P) (bn (o77_1 P) bl bl) bl) (bn (o61_0 P) bl bl))))) (bn (o2_0 P) (bn (o4_0 P) (bn (o8_0 P) (bn (o16_0 P) (bn (o32_0 P) (bn (o64_0 P) bl bl) bl) (bn (o48_0 P) (bn (o80_0 P) bl bl) bl)) (bn (o24_0 P) (bn (o40_0 P) (bn (o72_0 P) bl bl) bl) (bn (o56_0 P) (bn (o88_0 P) bl bl) bl))) (bn (o12_0 P) (bn (o20_0 P) (bn (o36_0 P) (bn (o68_0 P) bl bl) bl) (bn (o52_0 P) (bn (o84_0 P) bl bl) bl)) (bn (o28_0 P) (bn (o44_0 P) (bn (o76_0 P) bl bl) bl) (bn (o60_0 P) bl bl)))) (bn (o6_0 P) (bn (o10_0 P) (bn (o18_0 P) (bn (o34_0 P) (bn (o66_0 P) bl bl) bl) (bn (o50_0 P) (bn (o82_0 P) bl bl) bl)) (bn (o26_0 P) (bn (o42_0 P) (bn (o74_0 P) bl bl) bl) (bn (o58_0 P) bl bl))) (bn (o14_0 P) (bn (o22_0 P) (bn (o38_0 P) (bn (o70_0 P) bl bl) bl) (bn (o54_0 P) (bn (o86_1 P) bl bl) bl)) (bn (o30_0 P) (bn (o46_0 P) (bn (o78_1 P) bl bl) bl) (bn (o62_0 P) bl bl))))))
noncomputable def s4aT (w : World) (os : OsState) : SharedT := ⟨s4a w.params, 90, {}, #[], {}, 1828, os⟩
noncomputable abbrev o3_5 (P : Params) : Obj := ⟨.type "dict", none, .dict ([de P (Str.ofString "__name__") 165 (.str (Str.ofString "cpy313.email.quoprimime") 1614), de P (Str.ofString "__doc__") 166 (.none), de P (Str.ofString "__package__") 167 (.none), de P (Str.ofString "__loader__") 168 (.builtin "__main__.__loader__#opaque"), de P (Str.ofString "__spec__") 169 (.none), de P (Str.ofString "__annotations__") 170 (.ref 6), de P (Str.ofString "__builtins__") 171 (.ref 4), de P (Str.ofString "__file__") 173 (.str (Str.ofString "/claim/cut.py") 172), de P (Str.ofString "__cached__") 174 (.none), de P (Str.ofString "_sre") 275 (.ref 12), de P (Str.ofString "_twin_re_5") 311 (.ref 36), de P (Str.ofString "unmatched") 320 (.ref 43), de P (Str.ofString "HEADER_TOKEN_RE") 368 (.ref 48), de P (Str.ofString "HEADER_QUOTED_VALUE_RE") 446 (.ref 53), de P (Str.ofString "HEADER_VALUE_RE") 501 (.ref 58), de P (Str.ofString "HEADER_ESCAPE_RE") 524 (.ref 63), de P (Str.ofString "split_header_words") 540 (.ref 70), de P (Str.ofString "_twin_re_1") 575 (.ref 75), de P (Str.ofString "_QUOPRI_MAP") 1603 (.ref 78), de P (Str.ofString "_QUOPRI_HEADER_MAP") 1604 (.ref 83), de P (Str.ofString "_QUOPRI_BODY_MAP") 1605 (.ref 85), de P (Str.ofString "ascii_lowercase") 1607 (.str (Str.ofString "abcdefghijklmnopqrstuvwxyz") 1606), de P (Str.ofString "ascii_uppercase") 1609 (.str (Str.ofString "ABCDEFGHIJKLMNOPQRSTUVWXYZ") 1608), de P (Str.ofString "ascii_letters") 1611 (.str (Str.ofString "abcdefghijklmnopqrstuvwxyzABCDEFGHIJKLMNOPQRSTUVWXYZ") 1610), de P (Str.ofString "digits") 1613 (.str (Str.ofString "0123456789") 1612), de P (Str.ofString "c") 1624 (.int 9 2110)].toArray) 26, [].toArray⟩
noncomputable abbrev o85_1 (P : Params) : Obj := ⟨.type "list", none, .seq ((it 0 :: it 1 :: it 2 :: it 3 :: it 4 :: it 5 :: it 6 :: it 7 :: it 8 :: ch 9 2112 :: it 10 :: it 11 :: it 12 :: it 13 :: it 14 :: it 15 :: it 16 :: it 17 :: it 18 :: it 19 :: it 20 :: it 21 :: it 22 :: it 23 :: it 24 :: it 25 :: it 26 :: it 27 :: it 28 :: it 29 :: it 30 :: it 31 :: ch 32 1830 :: ch 33 1833 :: ch 34 1836 :: ch 35 1839 :: ch 36 1842 :: ch 37 1845 :: ch 38 1848 :: ch 39 1851 :: ch 40 1854 :: ch 41 1857 :: ch 42 1860 :: ch 43 1863 :: ch 44 1866 :: ch 45 1869 :: ch 46 1872 :: ch 47 1875 :: ch 48 1878 :: ch 49 1881 :: ch 50 1884 :: ch 51 1887 :: ch 52 1890 :: ch 53 1893 :: ch 54 1896 :: ch 55 1899 :: ch 56 1902 :: ch 57 1905 :: ch 58 1908 :: ch 59 1911 :: ch 60 1914 :: it 61 :: ch 62 1917 :: ch 63 1920 :: ch 64 1923 :: ch 65 1926 :: ch 66 1929 :: ch 67 1932 :: ch 68 1935 :: ch 69 1938 :: ch 70 1941 :: ch 71 1944 :: ch 72 1947 :: ch 73 1950 :: ch 74 1953 :: ch 75 1956 :: ch 76 1959 :: ch 77 1962 :: ch 78 1965 :: ch 79 1968 :: ch 80 1971 :: ch 81 1974 :: ch 82 1977 :: ch 83 1980 :: ch 84 1983 :: ch 85 1986 :: ch 86 1989 :: ch 87 1992 :: ch 88 1995 :: ch 89 1998 :: ch 90 2001 :: ch 91 2004 :: ch 92 2007 :: ch 93 2010 :: ch 94 2013 :: ch 95 2016 :: ch 96 2019 :: ch 97 2022 :: ch 98 2025 :: ch 99 2028 :: ch 100 2031 :: ch 101 2034 :: ch 102 2037 :: ch 103 2040 :: ch 104 2043 :: ch 105 2046 :: ch 106 2049 :: ch 107 2052 :: ch 108 2055 :: ch 109 2058 :: ch 110 2061 :: ch 111 2064 :: ch 112 2067 :: ch 113 2070 :: ch 114 2073 :: ch 115 2076 :: ch 116 2079 :: ch 117 2082 :: ch 118 2085 :: ch 119 2088 :: ch 120 2091 :: ch 121 2094 :: ch 122 2097 :: ch 123 2100 :: ch 124 2103 :: ch 125 2106 :: ch 126 2109 :: it 127 :: it 128 :: it 129 :: it 130 :: it 131 :: it 132 :: it 133 :: it 134 :: it 135 :: it 136 :: it 137 :: it 138 :: it 139 :: it 140 :: it 141 :: it 142 :: it 143 :: it 144 :: it 145 :: it 146 :: it 147 :: it 148 :: it 149 :: it 150 :: it 151 :: it 152 :: it 153 :: it 154 :: it 155 :: it 156 :: it 157 :: it 158 :: it 159 :: it 160 :: it 161 :: it 162 :: it 163 :: it 164 :: it 165 :: it 166 :: it 167 :: it 168 :: it 169 :: it 170 :: it 171 :: it 172 :: it 173 :: it 174 :: it 175 :: it 176 :: it 177 :: it 178 :: it 179 :: it 180 :: it 181 :: it 182 :: it 183 :: it 184 :: it 185 :: it 186 :: it 187 :: it 188 :: it 189 :: it 190 :: it 191 :: it 192 :: it 193 :: it 194 :: it 195 :: it 196 :: it 197 :: it 198 :: it 199 :: it 200 :: it 201 :: it 202 :: it 203 :: it 204 :: it 205 :: it 206 :: it 207 :: it 208 :: it 209 :: it 210 :: it 211 :: it 212 :: it 213 :: it 214 :: it 215 :: it 216 :: it 217 :: it 218 :: it 219 :: it 220 :: it 221 :: it 222 :: it 223 :: it 224 :: it 225 :: it 226 :: it 227 :: it 228 :: it 229 :: it 230 :: it 231 :: it 232 :: it 233 :: it 234 :: it 235 :: it 236 :: it 237 :: it 238 :: it 239 :: it 240 :: it 241 :: it 242 :: it 243 :: it 244 :: it 245 :: it 246 :: it 247 :: it 248 :: it 249 :: it 250 :: it 251 :: it 252 :: it 253 :: it 254 :: it 255 :: []).toArray) 0, [].toArray⟩
noncomputable abbrev o89_1 (P : Params) : Obj := ⟨.type "bytes_iterator", none, .fields ([.none, .int 95 0].toArray), [].toArray⟩
noncomputable abbrev o90_0 (P : Params) : Obj := ⟨.type "tuple", none, .seq ([].toArray) 0, [].toArray⟩
noncomputable abbrev o91_0 (P : Params) : Obj := ⟨.type "StopIteration", none, .fields ([.ref 90, .none, .none, .none, .bool false, .none].toArray), [].toArray⟩
noncomputable def s4 (P : Params) : BT := (bn (o0_0 P) (bn (o1_0 P) (bn (o3_5 P) (bn (o7_0 P) (bn (o15_0 P) (bn (o31_0 P) (bn (o63_0 P) bl bl) bl) (bn (o47_0 P) (bn (o79_1 P) bl bl) bl)) (bn (o23_0 P) (bn (o39_0 P) (bn (o71_0 P) bl bl) bl) (bn (o55_0 P) (bn (o87_0 P) bl bl) bl))) (bn (o11_0 P) (bn (o19_0 P) (bn (o35_0 P) (bn (o67_0 P) bl bl) bl) (bn (o51_0 P) (bn (o83_2 P) bl bl) bl)) (bn (o27_0 P) (bn (o43_0 P) (bn (o75_0 P) bl bl) bl) (bn (o59_0 P) (bn (o91_0 P) bl bl) bl)))) (bn (o5_0 P) (bn (o9_0 P) (bn (o17_0 P) (bn (o33_0 P) (bn (o65_0 P) bl bl) bl) (bn (o49_0 P) (bn (o81_0 P) bl bl) bl)) (bn (o25_0 P) (bn (o41_0 P) (bn (o73_0 P) bl bl) bl) (bn (o57_0 P) (bn (o89_1 P) bl bl) bl))) (bn (o13_0 P) (bn (o21_0 P) (bn (o37_0 P) (bn (o69_0 P) bl bl) bl) (bn (o53_0 P) (bn (o85_1 P) bl bl) bl)) (bn (o29_1 P) (bn (o45_0 P) (bn (o77_1 P) bl bl) bl) (bn (o61_0 P) bl bl))))) (bn (o2_0 P) (bn (o4_0 P) (bn (o8_0 P) (bn (o16_0 P) (bn (o32_0 P) (bn (o64_0 P) bl bl) bl) (bn (o48_0 P) (bn (o80_0 P) bl bl) bl)) (bn (o24_0 P) (bn (o40_0 P) (bn (o72_0 P) bl bl) bl) (bn (o56_0 P) (bn (o88_0 P) bl bl) bl))) (bn (o12_0 P) (bn (o20_0 P) (bn (o36_0 P) (bn (o68_0 P) bl bl) bl) (bn (o52_0 P) (bn (o84_0 P) bl bl) bl)) (bn (o28_0 P) (bn (o44_0 P) (bn (o76_0 P) bl bl) bl) (bn (o60_0 P) bl bl)))) (bn (o6_0 P) (bn (o10_0 P) (bn (o18_0 P) (bn (o34_0 P) (bn (o66_0 P) bl bl) bl) (bn (o50_0 P) (bn (o82_0 P) bl bl) bl)) (bn (o26_0 P) (bn (o42_0 P) (bn (o74_0 P) bl bl) bl) (bn (o58_0 P) (bn (o90_0 P) bl bl) bl))) (bn (o14_0 P) (bn (o22_0 P) (bn (o38_0 P) (bn (o70_0 P) bl bl) bl) (bn (o54_0 P) (bn (o86_1 P) bl bl) bl)) (bn (o30_0 P) (bn (o46_0 P) (bn (o78_1 P) bl bl) bl) (bn (o62_0 P) bl bl))))))
noncomputable def s4T (w : World) (os : OsState) : SharedT := ⟨s4 w.params, 92, {}, #[], {}, 2113, os⟩
noncomputable abbrev o3_6 (P : Params) : Obj := ⟨.type "dict", none, .dict ([de P (Str.ofString "__name__") 165 (.str (Str.ofString "cpy313.email.quoprimime") 1614), de P (Str.ofString "__doc__") 166 (.none), de P (Str.ofString "__package__") 167 (.none), de P (Str.ofString "__loader__") 168 (.builtin "__main__.__loader__#opaque"), de P (Str.ofString "__spec__") 169 (.none), de P (Str.ofString "__annotations__") 170 (.ref 6), de P (Str.ofString "__builtins__") 171 (.ref 4), de P (Str.ofString "__file__") 173 (.str (Str.ofString "/claim/cut.py") 172), de P (Str.ofString "__cached__") 174 (.none), de P (Str.ofString "_sre") 275 (.ref 12), de P (Str.ofString "_twin_re_5") 311 (.ref 36), de P (Str.ofString "unmatched") 320 (.ref 43), de P (Str.ofString "HEADER_TOKEN_RE") 368 (.ref 48), de P (Str.ofString "HEADER_QUOTED_VALUE_RE") 446 (.ref 53), de P (Str.ofString "HEADER_VALUE_RE") 501 (.ref 58), de P (Str.ofString "HEADER_ESCAPE_RE") 524 (.ref 63), de P (Str.ofString "split_header_words") 540 (.ref 70), de P (Str.ofString "_twin_re_1") 575 (.ref 75), de P (Str.ofString "_QUOPRI_MAP") 1603 (.ref 78), de P (Str.ofString "_QUOPRI_HEADER_MAP") 1604 (.ref 83), de P (Str.ofString "_QUOPRI_BODY_MAP") 1605 (.ref 85), de P (Str.ofString "ascii_lowercase") 1607 (.str (Str.ofString "abcdefghijklmnopqrstuvwxyz") 1606), de P (Str.ofString "ascii_uppercase") 1609 (.str (Str.ofString "ABCDEFGHIJKLMNOPQRSTUVWXYZ") 1608), de P (Str.ofString "ascii_letters") 1611 (.str (Str.ofString "abcdefghijklmnopqrstuvwxyzABCDEFGHIJKLMNOPQRSTUVWXYZ") 1610), de P (Str.ofString "digits") 1613 (.str (Str.ofString "0123456789") 1612), de P (Str.ofString "c") 1624 (.int 9 2110), de P (Str.ofString "unquote") 2119 (.ref 98), de P (Str.ofString "header_encode") 2129 (.ref 106), de P (Str.ofString "_QUOPRI_BODY_ENCODE_MAP") 2130 (.ref 108)].toArray) 29, [].toArray⟩
noncomputable abbrev o29_2 (P : Params) : Obj := ⟨.none, none, .fields ([.int 4 0, .int 0 0, .ref 42, .int 11 0, .int 0 0, .ref 69, .int 62 0, .int 0 0, .ref 97, .int 64 0, .int 0 0, .ref 105].toArray), [].toArray⟩
noncomputable abbrev o92_0 (P : Params) : Obj := ⟨.type "tuple", none, .seq ([].toArray) 0, [].toArray⟩
noncomputable abbrev o93_0 (P : Params) : Obj := ⟨.none, none, .fields ([].toArray), [].toArray⟩
noncomputable abbrev o94_0 (P : Params) : Obj := ⟨.type "tuple", none, .seq ([ch 115 2116].toArray) 0, [].toArray⟩
noncomputable abbrev o95_0 (P : Params) : Obj := ⟨.type "tuple", none, .seq ([].toArray) 0, [].toArray⟩
noncomputable abbrev o96_0 (P : Params) : Obj := ⟨.none, none, .func { name := (Str.ofString "unquote"), qualname := (Str.ofString "unquote"), params := (fd21).1.1, body := .stmts (fd21).1.2.1, scope := (fd21).1.2.2, globals := 0, closure := [], defaults := .none, kwdefaults := .none, doc := .none, pyModule := .none, annotations := none, code := .none, closureTuple := .none, builtins := 0 }, [].toArray⟩
noncomputable abbrev o97_0 (P : Params) : Obj := ⟨.type "code", none, .fields ([.str (Str.ofString "unquote") 2113, .str (Str.ofString "unquote") 2114, .str (Str.ofString "/claim/cut.py") 2115, .int 62 0, .int 1 0, .int 0 0, .int 0 0, .int 3 0, .ref 92, .bool true, .int 276 0, .ref 93, .none, .ref 94, .ref 95, .ref 96, .int 2117 0, .int 62 0, .str (Str.ofString "/claim/cut.py") 2118].toArray), [].toArray⟩
noncomputable abbrev o98_0 (P : Params) : Obj := ⟨.type "function", none, .func { name := (Str.ofString "unquote"), qualname := (Str.ofString "unquote"), params := (fd21).1.1, body := .stmts (fd21).1.2.1, scope := (fd21).1.2.2, globals := 3, closure := [], defaults := .none, kwdefaults := .none, doc := .none, pyModule := .str (Str.ofString "cpy313.email.quoprimime") 1614, annotations := none, code := .ref 97, closureTuple := .none, builtins := 0 }, [].toArray⟩
noncomputable abbrev o99_0 (P : Params) : Obj := ⟨.type "tuple", none, .seq ([.str (Str.ofString "iso-8859-1") 2120].toArray) 0, [].toArray⟩
noncomputable abbrev o100_0 (P : Params) : Obj := ⟨.type "tuple", none, .seq ([].toArray) 0, [].toArray⟩
noncomputable abbrev o101_0 (P : Params) : Obj := ⟨.none, none, .fields ([].toArray), [].toArray⟩
noncomputable abbrev o102_0 (P : Params) : Obj := ⟨.type "tuple", none, .seq ([.str (Str.ofString "header_bytes") 2124, .str (Str.ofString "charset") 2125, .str (Str.ofString "encoded") 2126].toArray) 0, [].toArray⟩
noncomputable abbrev o103_0 (P : Params) : Obj := ⟨.type "tuple", none, .seq ([].toArray) 0, [].toArray⟩
noncomputable abbrev o104_0 (P : Params) : Obj := ⟨.none, none, .func { name := (Str.ofString "header_encode"), qualname := (Str.ofString "header_encode"), params := (fd22).1.1, body := .stmts (fd22).1.2.1, scope := (fd22).1.2.2, globals := 0, closure := [], defaults := .none, kwdefaults := .none, doc := .none, pyModule := .none, annotations := none, code := .none, closureTuple := .none, builtins := 0 }, [].toArray⟩
noncomputable abbrev o105_0 (P : Params) : Obj := ⟨.type "code", none, .fields ([.str (Str.ofString "header_encode") 2121, .str (Str.ofString "header_encode") 2122, .str (Str.ofString "/claim/cut.py") 2123, .int 64 0, .int 2 0, .int 0 0, .int 0 0, .int 3 0, .ref 100, .bool true, .int 276 0, .ref 101, .none, .ref 102, .ref 103, .ref 104, .int 2127 0, .int 64 0, .str (Str.ofString "/claim/cut.py") 2128].toArray), [].toArray⟩
noncomputable abbrev o106_0 (P : Params) : Obj := ⟨.type "function", none, .func { name := (Str.ofString "header_encode"), qualname := (Str.ofString "header_encode"), params := (fd22).1.1, body := .stmts (fd22).1.2.1, scope := (fd22).1.2.2, globals := 3, closure := [], defaults := .ref 99, kwdefaults := .none, doc := .none, pyModule := .str (Str.ofString "cpy313.email.quoprimime") 1614, annotations := none, code := .ref 105, closureTuple := .none, builtins := 0 }, [].toArray⟩
noncomputable abbrev o107_0 (P : Params) : Obj := ⟨.type "slice", none, .fields ([.none, .none, .none].toArray), [].toArray⟩
noncomputable abbrev o108_0 (P : Params) : Obj := ⟨.type "list", none, .seq ((it 0 :: it 1 :: it 2 :: it 3 :: it 4 :: it 5 :: it 6 :: it 7 :: it 8 :: ch 9 2112 :: it 10 :: it 11 :: it 12 :: it 13 :: it 14 :: it 15 :: it 16 :: it 17 :: it 18 :: it 19 :: it 20 :: it 21 :: it 22 :: it 23 :: it 24 :: it 25 :: it 26 :: it 27 :: it 28 :: it 29 :: it 30 :: it 31 :: ch 32 1830 :: ch 33 1833 :: ch 34 1836 :: ch 35 1839 :: ch 36 1842 :: ch 37 1845 :: ch 38 1848 :: ch 39 1851 :: ch 40 1854 :: ch 41 1857 :: ch 42 1860 :: ch 43 1863 :: ch 44 1866 :: ch 45 1869 :: ch 46 1872 :: ch 47 1875 :: ch 48 1878 :: ch 49 1881 :: ch 50 1884 :: ch 51 1887 :: ch 52 1890 :: ch 53 1893 :: ch 54 1896 :: ch 55 1899 :: ch 56 1902 :: ch 57 1905 :: ch 58 1908 :: ch 59 1911 :: ch 60 1914 :: it 61 :: ch 62 1917 :: ch 63 1920 :: ch 64 1923 :: ch 65 1926 :: ch 66 1929 :: ch 67 1932 :: ch 68 1935 :: ch 69 1938 :: ch 70 1941 :: ch 71 1944 :: ch 72 1947 :: ch 73 1950 :: ch 74 1953 :: ch 75 1956 :: ch 76 1959 :: ch 77 1962 :: ch 78 1965 :: ch 79 1968 :: ch 80 1971 :: ch 81 1974 :: ch 82 1977 :: ch 83 1980 :: ch 84 1983 :: ch 85 1986 :: ch 86 1989 :: ch 87 1992 :: ch 88 1995 :: ch 89 1998 :: ch 90 2001 :: ch 91 2004 :: ch 92 2007 :: ch 93 2010 :: ch 94 2013 :: ch 95 2016 :: ch 96 2019 :: ch 97 2022 :: ch 98 2025 :: ch 99 2028 :: ch 100 2031 :: ch 101 2034 :: ch 102 2037 :: ch 103 2040 :: ch 104 2043 :: ch 105 2046 :: ch 106 2049 :: ch 107 2052 :: ch 108 2055 :: ch 109 2058 :: ch 110 2061 :: ch 111 2064 :: ch 112 2067 :: ch 113 2070 :: ch 114 2073 :: ch 115 2076 :: ch 116 2079 :: ch 117 2082 :: ch 118 2085 :: ch 119 2088 :: ch 120 2091 :: ch 121 2094 :: ch 122 2097 :: ch 123 2100 :: ch 124 2103 :: ch 125 2106 :: ch 126 2109 :: it 127 :: it 128 :: it 129 :: it 130 :: it 131 :: it 132 :: it 133 :: it 134 :: it 135 :: it 136 :: it 137 :: it 138 :: it 139 :: it 140 :: it 141 :: it 142 :: it 143 :: it 144 :: it 145 :: it 146 :: it 147 :: it 148 :: it 149 :: it 150 :: it 151 :: it 152 :: it 153 :: it 154 :: it 155 :: it 156 :: it 157 :: it 158 :: it 159 :: it 160 :: it 161 :: it 162 :: it 163 :: it 164 :: it 165 :: it 166 :: it 167 :: it 168 :: it 169 :: it 170 :: it 171 :: it 172 :: it 173 :: it 174 :: it 175 :: it 176 :: it 177 :: it 178 :: it 179 :: it 180 :: it 181 :: it 182 :: it 183 :: it 184 :: it 185 :: it 186 :: it 187 :: it 188 :: it 189 :: it 190 :: it 191 :: it 192 :: it 193 :: it 194 :: it 195 :: it 196 :: it 197 :: it 198 :: it 199 :: it 200 :: it 201 :: it 202 :: it 203 :: it 204 :: it 205 :: it 206 :: it 207 :: it 208 :: it 209 :: it 210 :: it 211 :: it 212 :: it 213 :: it 214 :: it 215 :: it 216 :: it 217 :: it 218 :: it 219 :: it 220 :: it 221 :: it 222 :: it 223 :: it 224 :: it 225 :: it 226 :: it 227 :: it 228 :: it 229 :: it 230 :: it 231 :: it 232 :: it 233 :: it 234 :: it 235 :: it 236 :: it 237 :: it 238 :: it 239 :: it 240 :: it 241 :: it 242 :: it 243 :: it 244 :: it 245 :: it 246 :: it 247 :: it 248 :: it 249 :: it 250 :: it 251 :: it 252 :: it 253 :: it 254 :: it 255 :: []).toArray) 0, [].toArray⟩
noncomputable abbrev o109_0 (P : Params) : Obj := ⟨.type "bytes_iterator", none, .fields ([.bytes ([13, 10].toArray) 2131, .int 0 0].toArray), [].toArray⟩
noncomputable def s5a (P : Params) : BT := (bn (o0_0 P) (bn (o1_0 P) (bn (o3_6 P) (bn (o7_0 P) (bn (o15_0 P) (bn (o31_0 P) (bn (o63_0 P) bl bl) (bn (o95_0 P) bl bl)) (bn (o47_0 P) (bn (o79_1 P) bl bl) bl)) (bn (o23_0 P) (bn (o39_0 P) (bn (o71_0 P) bl bl) (bn (o103_0 P) bl bl)) (bn (o55_0 P) (bn (o87_0 P) bl bl) bl))) (bn (o11_0 P) (bn (o19_0 P) (bn (o35_0 P) (bn (o67_0 P) bl bl) (bn (o99_0 P) bl bl)) (bn (o51_0 P) (bn (o83_2 P) bl bl) bl)) (bn (o27_0 P) (bn (o43_0 P) (bn (o75_0 P) bl bl) (bn (o107_0 P) bl bl)) (bn (o59_0 P) (bn (o91_0 P) bl bl) bl)))) (bn (o5_0 P) (bn (o9_0 P) (bn (o17_0 P) (bn (o33_0 P) (bn (o65_0 P) bl bl) (bn (o97_0 P) bl bl)) (bn (o49_0 P) (bn (o81_0 P) bl bl) bl)) (bn (o25_0 P) (bn (o41_0 P) (bn (o73_0 P) bl bl) (bn (o105_0 P) bl bl)) (bn (o57_0 P) (bn (o89_1 P) bl bl) bl))) (bn (o13_0 P) (bn (o21_0 P) (bn (o37_0 P) (bn (o69_0 P) bl bl) (bn (o101_0 P) bl bl)) (bn (o53_0 P) (bn (o85_1 P) bl bl) bl)) (bn (o29_2 P) (bn (o45_0 P) (bn (o77_1 P) bl bl) (bn (o109_0 P) bl bl)) (bn (o61_0 P) (bn (o93_0 P) bl bl) bl))))) (bn (o2_0 P) (bn (o4_0 P) (bn (o8_0 P) (bn (o16_0 P) (bn (o32_0 P) (bn (o64_0 P) bl bl) (bn (o96_0 P) bl bl)) (bn (o48_0 P) (bn (o80_0 P) bl bl) bl)) (bn (o24_0 P) (bn (o40_0 P) (bn (o72_0 P) bl bl) (bn (o104_0 P) bl bl)) (bn (o56_0 P) (bn (o88_0 P) bl bl) bl))) (bn (o12_0 P) (bn (o20_0 P) (bn (o36_0 P) (bn (o68_0 P) bl bl) (bn (o100_0 P) bl bl)) (bn (o52_0 P) (bn (o84_0 P) bl bl) bl)) (bn (o28_0 P) (bn (o44_0 P) (bn (o76_0 P) bl bl) (bn (o108_0 P) bl bl)) (bn (o60_0 P) (bn (o92_0 P) bl bl) bl)))) (bn (o6_0 P) (bn (o10_0 P) (bn (o18_0 P) (bn (o34_0 P) (bn (o66_0 P) bl bl) (bn (o98_0 P) bl bl)) (bn (o50_0 P) (bn (o82_0 P) bl bl) bl)) (bn (o26_0 P) (bn (o42_0 P) (bn (o74_0 P) bl bl) (bn (o106_0 P) bl bl)) (bn (o58_0 P) (bn (o90_0 P) bl bl) bl))) (bn (o14_0 P) (bn (o22_0 P) (bn (o38_0 P) (bn (o70_0 P) bl bl) (bn (o102_0 P) bl bl)) (bn (o54_0 P) (bn (o86_1 P) bl bl) bl)) (bn (o30_0 P) (bn (o46_0 P) (bn (o78_1 P) bl bl) bl) (bn (o62_0 P) (bn (o94_0 P) bl bl) bl))))))
noncomputable def s5aT (w : World) (os : OsState) : SharedT := ⟨s5a w.params, 110, {}, #[], {}, 2132, os⟩
noncomputable abbrev o3_7 (P : Params) : Obj := ⟨.type "dict", none, .dict ([de P (Str.ofString "__name__") 165 (.str (Str.ofString "law_qu0026_01") 2153), de P (Str.ofString "__doc__") 166 (.none), de P (Str.ofString "__package__") 167 (.none), de P (Str.ofString "__loader__") 168 (.builtin "__main__.__loader__#opaque"), de P (Str.ofString "__spec__") 169 (.none), de P (Str.ofString "__annotations__") 170 (.ref 6), de P (Str.ofString "__builtins__") 171 (.ref 4), de P (Str.ofString "__file__") 173 (.str (Str.ofString "/claim/cut.py") 172), de P (Str.ofString "__cached__") 174 (.none), de P (Str.ofString "_sre") 275 (.ref 12), de P (Str.ofString "_twin_re_5") 311 (.ref 36), de P (Str.ofString "unmatched") 320 (.ref 43), de P (Str.ofString "HEADER_TOKEN_RE") 368 (.ref 48), de P (Str.ofString "HEADER_QUOTED_VALUE_RE") 446 (.ref 53), de P (Str.ofString "HEADER_VALUE_RE") 501 (.ref 58), de P (Str.ofString "HEADER_ESCAPE_RE") 524 (.ref 63), de P (Str.ofString "split_header_words") 540 (.ref 70), de P (Str.ofString "_twin_re_1") 575 (.ref 75), de P (Str.ofString "_QUOPRI_MAP") 1603 (.ref 78), de P (Str.ofString "_QUOPRI_HEADER_MAP") 1604 (.ref 83), de P (Str.ofString "_QUOPRI_BODY_MAP") 1605 (.ref 85), de P (Str.ofString "ascii_lowercase") 1607 (.str (Str.ofString "abcdefghijklmnopqrstuvwxyz") 1606), de P (Str.ofString "ascii_uppercase") 1609 (.str (Str.ofString "ABCDEFGHIJKLMNOPQRSTUVWXYZ") 1608), de P (Str.ofString "ascii_letters") 1611 (.str (Str.ofString "abcdefghijklmnopqrstuvwxyzABCDEFGHIJKLMNOPQRSTUVWXYZ") 1610), de P (Str.ofString "digits") 1613 (.str (Str.ofString "0123456789") 1612), de P (Str.ofString "unquote") 2119 (.ref 98), de P (Str.ofString "header_encode") 2129 (.ref 106), de P (Str.ofString "_QUOPRI_BODY_ENCODE_MAP") 2130 (.ref 108), de P (Str.ofString "_unquote_match") 2145 (.ref 118), de P (Str.ofString "header_decode") 2152 (.ref 125), de P (Str.ofString "_law_groups") 2167 (.ref 132), de P (Str.ofString "_law_word") 2178 (.ref 139), de P (Str.ofString "_law_lists") 2184 (.ref 144), de P (Str.ofString "law") 2190 (.ref 149)].toArray) 36, [].toArray⟩
noncomputable abbrev o29_3 (P : Params) : Obj := ⟨.none, none, .fields ([.int 4 0, .int 0 0, .ref 42, .int 11 0, .int 0 0, .ref 69, .int 62 0, .int 0 0, .ref 97, .int 64 0, .int 0 0, .ref 105, .int 73 0, .int 0 0, .ref 117, .int 76 0, .int 0 0, .ref 124, .int 80 0, .int 0 0, .ref 131, .int 91 0, .int 0 0, .ref 138, .int 102 0, .int 0 0, .ref 143, .int 119 0, .int 0 0, .ref 148].toArray), [].toArray⟩
noncomputable abbrev o108_1 (P : Params) : Obj := ⟨.type "list", none, .seq ((it 0 :: it 1 :: it 2 :: it 3 :: it 4 :: it 5 :: it 6 :: it 7 :: it 8 :: ch 9 2112 :: ch 10 2137 :: it 11 :: it 12 :: ch 13 2134 :: it 14 :: it 15 :: it 16 :: it 17 :: it 18 :: it 19 :: it 20 :: it 21 :: it 22 :: it 23 :: it 24 :: it 25 :: it 26 :: it 27 :: it 28 :: it 29 :: it 30 :: it 31 :: ch 32 1830 :: ch 33 1833 :: ch 34 1836 :: ch 35 1839 :: ch 36 1842 :: ch 37 1845 :: ch 38 1848 :: ch 39 1851 :: ch 40 1854 :: ch 41 1857 :: ch 42 1860 :: ch 43 1863 :: ch 44 1866 :: ch 45 1869 :: ch 46 1872 :: ch 47 1875 :: ch 48 1878 :: ch 49 1881 :: ch 50 1884 :: ch 51 1887 :: ch 52 1890 :: ch 53 1893 :: ch 54 1896 :: ch 55 1899 :: ch 56 1902 :: ch 57 1905 :: ch 58 1908 :: ch 59 1911 :: ch 60 1914 :: it 61 :: ch 62 1917 :: ch 63 1920 :: ch 64 1923 :: ch 65 1926 :: ch 66 1929 :: ch 67 1932 :: ch 68 1935 :: ch 69 1938 :: ch 70 1941 :: ch 71 1944 :: ch 72 1947 :: ch 73 1950 :: ch 74 1953 :: ch 75 1956 :: ch 76 1959 :: ch 77 1962 :: ch 78 1965 :: ch 79 1968 :: ch 80 1971 :: ch 81 1974 :: ch 82 1977 :: ch 83 1980 :: ch 84 1983 :: ch 85 1986 :: ch 86 1989 :: ch 87 1992 :: ch 88 1995 :: ch 89 1998 :: ch 90 2001 :: ch 91 2004 :: ch 92 2007 :: ch 93 2010 :: ch 94 2013 :: ch 95 2016 :: ch 96 2019 :: ch 97 2022 :: ch 98 2025 :: ch 99 2028 :: ch 100 2031 :: ch 101 2034 :: ch 102 2037 :: ch 103 2040 :: ch 104 2043 :: ch 105 2046 :: ch 106 2049 :: ch 107 2052 :: ch 108 2055 :: ch 109 2058 :: ch 110 2061 :: ch 111 2064 :: ch 112 2067 :: ch 113 2070 :: ch 114 2073 :: ch 115 2076 :: ch 116 2079 :: ch 117 2082 :: ch 118 2085 :: ch 119 2088 :: ch 120 2091 :: ch 121 2094 :: ch 122 2097 :: ch 123 2100 :: ch 124 2103 :: ch 125 2106 :: ch 126 2109 :: it 127 :: it 128 :: it 129 :: it 130 :: it 131 :: it 132 :: it 133 :: it 134 :: it 135 :: it 136 :: it 137 :: it 138 :: it 139 :: it 140 :: it 141 :: it 142 :: it 143 :: it 144 :: it 145 :: it 146 :: it 147 :: it 148 :: it 149 :: it 150 :: it 151 :: it 152 :: it 153 :: it 154 :: it 155 :: it 156 :: it 157 :: it 158 :: it 159 :: it 160 :: it 161 :: it 162 :: it 163 :: it 164 :: it 165 :: it 166 :: it 167 :: it 168 :: it 169 :: it 170 :: it 171 :: it 172 :: it 173 :: it 174 :: it 175 :: it 176 :: it 177 :: it 178 :: it 179 :: it 180 :: it 181 :: it 182 :: it 183 :: it 184 :: it 185 :: it 186 :: it 187 :: it 188 :: it 189 :: it 190 :: it 191 :: it 192 :: it 193 :: it 194 :: it 195 :: it 196 :: it 197 :: it 198 :: it 199 :: it 200 :: it 201 :: it 202 :: it 203 :: it 204 :: it 205 :: it 206 :: it 207 :: it 208 :: it 209 :: it 210 :: it 211 :: it 212 :: it 213 :: it 214 :: it 215 :: it 216 :: it 217 :: it 218 :: it 219 :: it 220 :: it 221 :: it 222 :: it 223 :: it 224 :: it 225 :: it 226 :: it 227 :: it 228 :: it 229 :: it 230 :: it 231 :: it 232 :: it 233 :: it 234 :: it 235 :: it 236 :: it 237 :: it 238 :: it 239 :: it 240 :: it 241 :: it 242 :: it 243 :: it 244 :: it 245 :: it 246 :: it 247 :: it 248 :: it 249 :: it 250 :: it 251 :: it 252 :: it 253 :: it 254 :: it 255 :: []).toArray) 0, [].toArray⟩
noncomputable abbrev o109_1 (P : Params) : Obj := ⟨.type "bytes_iterator", none, .fields ([.none, .int 2 0].toArray), [].toArray⟩
noncomputable abbrev o110_0 (P : Params) : Obj := ⟨.type "tuple", none, .seq ([].toArray) 0, [].toArray⟩
noncomputable abbrev o111_0 (P : Params) : Obj := ⟨.type "StopIteration", none, .fields ([.ref 110, .none, .none, .none, .bool false, .none].toArray), [].toArray⟩
noncomputable abbrev o112_0 (P : Params) : Obj := ⟨.type "tuple", none, .seq ([].toArray) 0, [].toArray⟩
noncomputable abbrev o113_0 (P : Params) : Obj := ⟨.none, none, .fields ([].toArray), [].toArray⟩
noncomputable abbrev o114_0 (P : Params) : Obj := ⟨.type "tuple", none, .seq ([.str (Str.ofString "match") 2141, ch 115 2142].toArray) 0, [].toArray⟩
noncomputable abbrev o115_0 (P : Params) : Obj := ⟨.type "tuple", none, .seq ([].toArray) 0, [].toArray⟩
noncomputable abbrev o116_0 (P : Params) : Obj := ⟨.none, none, .func { name := (Str.ofString "_unquote_match"), qualname := (Str.ofString "_unquote_match"), params := (fd26).1.1, body := .stmts (fd26).1.2.1, scope := (fd26).1.2.2, globals := 0, closure := [], defaults := .none, kwdefaults := .none, doc := .none, pyModule := .none, annotations := none, code := .none, closureTuple := .none, builtins := 0 }, [].toArray⟩
noncomputable abbrev o117_0 (P : Params) : Obj := ⟨.type "code", none, .fields ([.str (Str.ofString "_unquote_match") 2138, .str (Str.ofString "_unquote_match") 2139, .str (Str.ofString "/claim/cut.py") 2140, .int 73 0, .int 1 0, .int 0 0, .int 0 0, .int 3 0, .ref 112, .bool true, .int 276 0, .ref 113, .none, .ref 114, .ref 115, .ref 116, .int 2143 0, .int 73 0, .str (Str.ofString "/claim/cut.py") 2144].toArray), [].toArray⟩
noncomputable abbrev o118_0 (P : Params) : Obj := ⟨.type "function", none, .func { name := (Str.ofString "_unquote_match"), qualname := (Str.ofString "_unquote_match"), params := (fd26).1.1, body := .stmts (fd26).1.2.1, scope := (fd26).1.2.2, globals := 3, closure := [], defaults := .none, kwdefaults := .none, doc := .none, pyModule := .str (Str.ofString "cpy313.email.quoprimime") 1614, annotations := none, code := .ref 117, closureTuple := .none, builtins := 0 }, [].toArray⟩
noncomputable abbrev o119_0 (P : Params) : Obj := ⟨.type "tuple", none, .seq ([].toArray) 0, [].toArray⟩
noncomputable abbrev o120_0 (P : Params) : Obj := ⟨.none, none, .fields ([].toArray), [].toArray⟩
noncomputable abbrev o121_0 (P : Params) : Obj := ⟨.type "tuple", none, .seq ([ch 115 2149].toArray) 0, [].toArray⟩
noncomputable abbrev o122_0 (P : Params) : Obj := ⟨.type "tuple", none, .seq ([].toArray) 0, [].toArray⟩
noncomputable abbrev o123_0 (P : Params) : Obj := ⟨.none, none, .func { name := (Str.ofString "header_decode"), qualname := (Str.ofString "header_decode"), params := (fd27).1.1, body := .stmts (fd27).1.2.1, scope := (fd27).1.2.2, globals := 0, closure := [], defaults := .none, kwdefaults := .none, doc := .none, pyModule := .none, annotations := none, code := .none, closureTuple := .none, builtins := 0 }, [].toArray⟩
noncomputable abbrev o124_0 (P : Params) : Obj := ⟨.type "code", none, .fields ([.str (Str.ofString "header_decode") 2146, .str (Str.ofString "header_decode") 2147, .str (Str.ofString "/claim/cut.py") 2148, .int 76 0, .int 1 0, .int 0 0, .int 0 0, .int 3 0, .ref 119, .bool true, .int 276 0, .ref 120, .none, .ref 121, .ref 122, .ref 123, .int 2150 0, .int 76 0, .str (Str.ofString "/claim/cut.py") 2151].toArray), [].toArray⟩
noncomputable abbrev o125_0 (P : Params) : Obj := ⟨.type "function", none, .func { name := (Str.ofString "header_decode"), qualname := (Str.ofString "header_decode"), params := (fd27).1.1, body := .stmts (fd27).1.2.1, scope := (fd27).1.2.2, globals := 3, closure := [], defaults := .none, kwdefaults := .none, doc := .none, pyModule := .str (Str.ofString "cpy313.email.quoprimime") 1614, annotations := none, code := .ref 124, closureTuple := .none, builtins := 0 }, [].toArray⟩
noncomputable abbrev o126_0 (P : Params) : Obj := ⟨.type "tuple", none, .seq ([].toArray) 0, [].toArray⟩
noncomputable abbrev o127_0 (P : Params) : Obj := ⟨.none, none, .fields ([].toArray), [].toArray⟩
noncomputable abbrev o128_0 (P : Params) : Obj := ⟨.type "tuple", none, .seq ([.str (Str.ofString "script") 2158, .str (Str.ofString "octets") 2159, .str (Str.ofString "groups") 2160, ch 120 2161, .str (Str.ofString "left") 2162, .str (Str.ofString "row") 2163, .str (Str.ofString "turn") 2164].toArray) 0, [].toArray⟩
noncomputable abbrev o129_0 (P : Params) : Obj := ⟨.type "tuple", none, .seq ([].toArray) 0, [].toArray⟩
noncomputable abbrev o130_0 (P : Params) : Obj := ⟨.none, none, .func { name := (Str.ofString "_law_groups"), qualname := (Str.ofString "_law_groups"), params := (fd29).1.1, body := .stmts (fd29).1.2.1, scope := (fd29).1.2.2, globals := 0, closure := [], defaults := .none, kwdefaults := .none, doc := .none, pyModule := .none, annotations := none, code := .none, closureTuple := .none, builtins := 0 }, [].toArray⟩
noncomputable abbrev o131_0 (P : Params) : Obj := ⟨.type "code", none, .fields ([.str (Str.ofString "_law_groups") 2155, .str (Str.ofString "_law_groups") 2156, .str (Str.ofString "/claim/cut.py") 2157, .int 80 0, .int 1 0, .int 0 0, .int 0 0, .int 3 0, .ref 126, .bool true, .int 276 0, .ref 127, .none, .ref 128, .ref 129, .ref 130, .int 2165 0, .int 80 0, .str (Str.ofString "/claim/cut.py") 2166].toArray), [].toArray⟩
noncomputable abbrev o132_0 (P : Params) : Obj := ⟨.type "function", none, .func { name := (Str.ofString "_law_groups"), qualname := (Str.ofString "_law_groups"), params := (fd29).1.1, body := .stmts (fd29).1.2.1, scope := (fd29).1.2.2, globals := 3, closure := [], defaults := .none, kwdefaults := .none, doc := .none, pyModule := .str (Str.ofString "law_qu0026_01") 2153, annotations := none, code := .ref 131, closureTuple := .none, builtins := 0 }, [].toArray⟩
noncomputable abbrev o133_0 (P : Params) : Obj := ⟨.type "tuple", none, .seq ([].toArray) 0, [].toArray⟩
noncomputable abbrev o134_0 (P : Params) : Obj := ⟨.none, none, .fields ([].toArray), [].toArray⟩
noncomputable abbrev o135_0 (P : Params) : Obj := ⟨.type "tuple", none, .seq ([.str (Str.ofString "row") 2171, .str (Str.ofString "charset") 2172, .str (Str.ofString "figures") 2173, .str (Str.ofString "signs") 2174, .str (Str.ofString "octet") 2175].toArray) 0, [].toArray⟩
noncomputable abbrev o136_0 (P : Params) : Obj := ⟨.type "tuple", none, .seq ([].toArray) 0, [].toArray⟩
noncomputable abbrev o137_0 (P : Params) : Obj := ⟨.none, none, .func { name := (Str.ofString "_law_word"), qualname := (Str.ofString "_law_word"), params := (fd30).1.1, body := .stmts (fd30).1.2.1, scope := (fd30).1.2.2, globals := 0, closure := [], defaults := .none, kwdefaults := .none, doc := .none, pyModule := .none, annotations := none, code := .none, closureTuple := .none, builtins := 0 }, [].toArray⟩
noncomputable abbrev o138_0 (P : Params) : Obj := ⟨.type "code", none, .fields ([.str (Str.ofString "_law_word") 2168, .str (Str.ofString "_law_word") 2169, .str (Str.ofString "/claim/cut.py") 2170, .int 91 0, .int 2 0, .int 0 0, .int 0 0, .int 3 0, .ref 133, .bool true, .int 276 0, .ref 134, .none, .ref 135, .ref 136, .ref 137, .int 2176 0, .int 91 0, .str (Str.ofString "/claim/cut.py") 2177].toArray), [].toArray⟩
noncomputable abbrev o139_0 (P : Params) : Obj := ⟨.type "function", none, .func { name := (Str.ofString "_law_word"), qualname := (Str.ofString "_law_word"), params := (fd30).1.1, body := .stmts (fd30).1.2.1, scope := (fd30).1.2.2, globals := 3, closure := [], defaults := .none, kwdefaults := .none, doc := .none, pyModule := .str (Str.ofString "law_qu0026_01") 2153, annotations := none, code := .ref 138, closureTuple := .none, builtins := 0 }, [].toArray⟩
noncomputable abbrev o140_0 (P : Params) : Obj := ⟨.type "tuple", none, .seq ([].toArray) 0, [].toArray⟩
noncomputable abbrev o141_0 (P : Params) : Obj := ⟨.none, none, .fields ([].toArray), [].toArray⟩
noncomputable abbrev o142_0 (P : Params) : Obj := ⟨.none, none, .func { name := (Str.ofString "_law_lists"), qualname := (Str.ofString "_law_lists"), params := (fd31).1.1, body := .stmts (fd31).1.2.1, scope := (fd31).1.2.2, globals := 0, closure := [], defaults := .none, kwdefaults := .none, doc := .none, pyModule := .none, annotations := none, code := .none, closureTuple := .none, builtins := 0 }, [].toArray⟩
noncomputable abbrev o143_0 (P : Params) : Obj := ⟨.type "code", none, .fields ([.str (Str.ofString "_law_lists") 2179, .str (Str.ofString "_law_lists") 2180, .str (Str.ofString "/claim/cut.py") 2181, .int 102 0, .int 2 0, .int 0 0, .int 0 0, .int 3 0, .ref 140, .bool true, .int 276 0, .ref 141, .none, .none, .none, .ref 142, .int 2182 0, .int 102 0, .str (Str.ofString "/claim/cut.py") 2183].toArray), [].toArray⟩
noncomputable abbrev o144_0 (P : Params) : Obj := ⟨.type "function", none, .func { name := (Str.ofString "_law_lists"), qualname := (Str.ofString "_law_lists"), params := (fd31).1.1, body := .stmts (fd31).1.2.1, scope := (fd31).1.2.2, globals := 3, closure := [], defaults := .none, kwdefaults := .none, doc := .none, pyModule := .str (Str.ofString "law_qu0026_01") 2153, annotations := none, code := .ref 143, closureTuple := .none, builtins := 0 }, [].toArray⟩
noncomputable abbrev o145_0 (P : Params) : Obj := ⟨.type "tuple", none, .seq ([].toArray) 0, [].toArray⟩
noncomputable abbrev o146_0 (P : Params) : Obj := ⟨.none, none, .fields ([].toArray), [].toArray⟩
noncomputable abbrev o147_0 (P : Params) : Obj := ⟨.none, none, .func { name := (Str.ofString "law"), qualname := (Str.ofString "law"), params := (fd32).1.1, body := .stmts (fd32).1.2.1, scope := (fd32).1.2.2, globals := 0, closure := [], defaults := .none, kwdefaults := .none, doc := .none, pyModule := .none, annotations := none, code := .none, closureTuple := .none, builtins := 0 }, [].toArray⟩
noncomputable abbrev o148_0 (P : Params) : Obj := ⟨.type "code", none, .fields ([.str (Str.ofString "law") 2185, .str (Str.ofString "law") 2186, .str (Str.ofString "/claim/cut.py") 2187, .int 119 0, .int 1 0, .int 0 0, .int 0 0, .int 3 0, .ref 145, .bool true, .int 276 0, .ref 146, .none, .none, .none, .ref 147, .int 2188 0, .int 119 0, .str (Str.ofString "/claim/cut.py") 2189].toArray), [].toArray⟩
noncomputable abbrev o149_0 (P : Params) : Obj := ⟨.type "function", none, .func { name := (Str.ofString "law"), qualname := (Str.ofString "law"), params := (fd32).1.1, body := .stmts (fd32).1.2.1, scope := (fd32).1.2.2, globals := 3, closure := [], defaults := .none, kwdefaults := .none, doc := .none, pyModule := .str (Str.ofString "law_qu0026_01") 2153, annotations := none, code := .ref 148, closureTuple := .none, builtins := 0 }, [].toArray⟩
noncomputable def s5 (P : Params) : BT := (bn (o0_0 P) (bn (o1_0 P) (bn (o3_7 P) (bn (o7_0 P) (bn (o15_0 P) (bn (o31_0 P) (bn (o63_0 P) (bn (o127_0 P) bl bl) bl) (bn (o95_0 P) bl bl)) (bn (o47_0 P) (bn (o79_1 P) (bn (o143_0 P) bl bl) bl) (bn (o111_0 P) bl bl))) (bn (o23_0 P) (bn (o39_0 P) (bn (o71_0 P) (bn (o135_0 P) bl bl) bl) (bn (o103_0 P) bl bl)) (bn (o55_0 P) (bn (o87_0 P) bl bl) (bn (o119_0 P) bl bl)))) (bn (o11_0 P) (bn (o19_0 P) (bn (o35_0 P) (bn (o67_0 P) (bn (o131_0 P) bl bl) bl) (bn (o99_0 P) bl bl)) (bn (o51_0 P) (bn (o83_2 P) (bn (o147_0 P) bl bl) bl) (bn (o115_0 P) bl bl))) (bn (o27_0 P) (bn (o43_0 P) (bn (o75_0 P) (bn (o139_0 P) bl bl) bl) (bn (o107_0 P) bl bl)) (bn (o59_0 P) (bn (o91_0 P) bl bl) (bn (o123_0 P) bl bl))))) (bn (o5_0 P) (bn (o9_0 P) (bn (o17_0 P) (bn (o33_0 P) (bn (o65_0 P) (bn (o129_0 P) bl bl) bl) (bn (o97_0 P) bl bl)) (bn (o49_0 P) (bn (o81_0 P) (bn (o145_0 P) bl bl) bl) (bn (o113_0 P) bl bl))) (bn (o25_0 P) (bn (o41_0 P) (bn (o73_0 P) (bn (o137_0 P) bl bl) bl) (bn (o105_0 P) bl bl)) (bn (o57_0 P) (bn (o89_1 P) bl bl) (bn (o121_0 P) bl bl)))) (bn (o13_0 P) (bn (o21_0 P) (bn (o37_0 P) (bn (o69_0 P) (bn (o133_0 P) bl bl) bl) (bn (o101_0 P) bl bl)) (bn (o53_0 P) (bn (o85_1 P) (bn (o149_0 P) bl bl) bl) (bn (o117_0 P) bl bl))) (bn (o29_3 P) (bn (o45_0 P) (bn (o77_1 P) (bn (o141_0 P) bl bl) bl) (bn (o109_1 P) bl bl)) (bn (o61_0 P) (bn (o93_0 P) bl bl) (bn (o125_0 P) bl bl)))))) (bn (o2_0 P) (bn (o4_0 P) (bn (o8_0 P) (bn (o16_0 P) (bn (o32_0 P) (bn (o64_0 P) (bn (o128_0 P) bl bl) bl) (bn (o96_0 P) bl bl)) (bn (o48_0 P) (bn (o80_0 P) (bn (o144_0 P) bl bl) bl) (bn (o112_0 P) bl bl))) (bn (o24_0 P) (bn (o40_0 P) (bn (o72_0 P) (bn (o136_0 P) bl bl) bl) (bn (o104_0 P) bl bl)) (bn (o56_0 P) (bn (o88_0 P) bl bl) (bn (o120_0 P) bl bl)))) (bn (o12_0 P) (bn (o20_0 P) (bn (o36_0 P) (bn (o68_0 P) (bn (o132_0 P) bl bl) bl) (bn (o100_0 P) bl bl)) (bn (o52_0 P) (bn (o84_0 P) (bn (o148_0 P) bl bl) bl) (bn (o116_0 P) bl bl))) (bn (o28_0 P) (bn (o44_0 P) (bn (o76_0 P) (bn (o140_0 P) bl bl) bl) (bn (o108_1 P) bl bl)) (bn (o60_0 P) (bn (o92_0 P) bl bl) (bn (o124_0 P) bl bl))))) (bn (o6_0 P) (bn (o10_0 P) (bn (o18_0 P) (bn (o34_0 P) (bn (o66_0 P) (bn (o130_0 P) bl bl) bl) (bn (o98_0 P) bl bl)) (bn (o50_0 P) (bn (o82_0 P) (bn (o146_0 P) bl bl) bl) (bn (o114_0 P) bl bl))) (bn (o26_0 P) (bn (o42_0 P) (bn (o74_0 P) (bn (o138_0 P) bl bl) bl) (bn (o106_0 P) bl bl)) (bn (o58_0 P) (bn (o90_0 P) bl bl) (bn (o122_0 P) bl bl)))) (bn (o14_0 P) (bn (o22_0 P) (bn (o38_0 P) (bn (o70_0 P) (bn (o134_0 P) bl bl) bl) (bn (o102_0 P) bl bl)) (bn (o54_0 P) (bn (o86_1 P) bl bl) (bn (o118_0 P) bl bl))) (bn (o30_0 P) (bn (o46_0 P) (bn (o78_1 P) (bn (o142_0 P) bl bl) bl) (bn (o110_0 P) bl bl)) (bn (o62_0 P) (bn (o94_0 P) bl bl) (bn (o126_0 P) bl bl)))))))
noncomputable def s5T (w : World) (os : OsState) : SharedT := ⟨s5 w.params, 150, {}, #[], {}, 2191, os⟩
noncomputable def hF (P : Params) : Heap := ⟨⟨(o0_0 P :: o1_0 P :: o2_0 P :: o3_7 P :: o4_0 P :: o5_0 P :: o6_0 P :: o7_0 P :: o8_0 P :: o9_0 P :: o10_0 P :: o11_0 P :: o12_0 P :: o13_0 P :: o14_0 P :: o15_0 P :: o16_0 P :: o17_0 P :: o18_0 P :: o19_0 P :: o20_0 P :: o21_0 P :: o22_0 P :: o23_0 P :: o24_0 P :: o25_0 P :: o26_0 P :: o27_0 P :: o28_0 P :: o29_3 P :: o30_0 P :: o31_0 P :: o32_0 P :: o33_0 P :: o34_0 P :: o35_0 P :: o36_0 P :: o37_0 P :: o38_0 P :: o39_0 P :: o40_0 P :: o41_0 P :: o42_0 P :: o43_0 P :: o44_0 P :: o45_0 P :: o46_0 P :: o47_0 P :: o48_0 P :: o49_0 P :: o50_0 P :: o51_0 P :: o52_0 P :: o53_0 P :: o54_0 P :: o55_0 P :: o56_0 P :: o57_0 P :: o58_0 P :: o59_0 P :: o60_0 P :: o61_0 P :: o62_0 P :: o63_0 P :: o64_0 P :: o65_0 P :: o66_0 P :: o67_0 P :: o68_0 P :: o69_0 P :: o70_0 P :: o71_0 P :: o72_0 P :: o73_0 P :: o74_0 P :: o75_0 P :: o76_0 P :: o77_1 P :: o78_1 P :: o79_1 P :: o80_0 P :: o81_0 P :: o82_0 P :: o83_2 P :: o84_0 P :: o85_1 P :: o86_1 P :: o87_0 P :: o88_0 P :: o89_1 P :: o90_0 P :: o91_0 P :: o92_0 P :: o93_0 P :: o94_0 P :: o95_0 P :: o96_0 P :: o97_0 P :: o98_0 P :: o99_0 P :: o100_0 P :: o101_0 P :: o102_0 P :: o103_0 P :: o104_0 P :: o105_0 P :: o106_0 P :: o107_0 P :: o108_1 P :: o109_1 P :: o110_0 P :: o111_0 P :: o112_0 P :: o113_0 P :: o114_0 P :: o115_0 P :: o116_0 P :: o117_0 P :: o118_0 P :: o119_0 P :: o120_0 P :: o121_0 P :: o122_0 P :: o123_0 P :: o124_0 P :: o125_0 P :: o126_0 P :: o127_0 P :: o128_0 P :: o129_0 P :: o130_0 P :: o131_0 P :: o132_0 P :: o133_0 P :: o134_0 P :: o135_0 P :: o136_0 P :: o137_0 P :: o138_0 P :: o139_0 P :: o140_0 P :: o141_0 P :: o142_0 P :: o143_0 P :: o144_0 P :: o145_0 P :: o146_0 P :: o147_0 P :: o148_0 P :: o149_0 P :: [])⟩, {}⟩
noncomputable def KT (P : Params) : Frag := ((nat_lit 2, o2_0 P) :: (nat_lit 3, o3_7 P) :: (nat_lit 6, o6_0 P) :: (nat_lit 11, o11_0 P) :: (nat_lit 12, o12_0 P) :: (nat_lit 35, o35_0 P) :: (nat_lit 36, o36_0 P) :: (nat_lit 37, o37_0 P) :: (nat_lit 39, o39_0 P) :: (nat_lit 40, o40_0 P) :: (nat_lit 42, o42_0 P) :: (nat_lit 43, o43_0 P) :: (nat_lit 47, o47_0 P) :: (nat_lit 48, o48_0 P) :: (nat_lit 52, o52_0 P) :: (nat_lit 53, o53_0 P) :: (nat_lit 57, o57_0 P) :: (nat_lit 58, o58_0 P) :: (nat_lit 62, o62_0 P) :: (nat_lit 63, o63_0 P) :: (nat_lit 64, o64_0 P) :: (nat_lit 66, o66_0 P) :: (nat_lit 67, o67_0 P) :: (nat_lit 69, o69_0 P) :: (nat_lit 70, o70_0 P) :: (nat_lit 74, o74_0 P) :: (nat_lit 75, o75_0 P) :: (nat_lit 78, o78_1 P) :: (nat_lit 83, o83_2 P) :: (nat_lit 85, o85_1 P) :: (nat_lit 92, o92_0 P) :: (nat_lit 94, o94_0 P) :: (nat_lit 95, o95_0 P) :: (nat_lit 97, o97_0 P) :: (nat_lit 98, o98_0 P) :: (nat_lit 99, o99_0 P) :: (nat_lit 100, o100_0 P) :: (nat_lit 102, o102_0 P) :: (nat_lit 103, o103_0 P) :: (nat_lit 105, o105_0 P) :: (nat_lit 106, o106_0 P) :: (nat_lit 108, o108_1 P) :: (nat_lit 112, o112_0 P) :: (nat_lit 114, o114_0 P) :: (nat_lit 115, o115_0 P) :: (nat_lit 117, o117_0 P) :: (nat_lit 118, o118_0 P) :: (nat_lit 119, o119_0 P) :: (nat_lit 121, o121_0 P) :: (nat_lit 122, o122_0 P) :: (nat_lit 124, o124_0 P) :: (nat_lit 125, o125_0 P) :: (nat_lit 126, o126_0 P) :: (nat_lit 128, o128_0 P) :: (nat_lit 129, o129_0 P) :: (nat_lit 131, o131_0 P) :: (nat_lit 132, o132_0 P) :: (nat_lit 133, o133_0 P) :: (nat_lit 135, o135_0 P) :: (nat_lit 136, o136_0 P) :: (nat_lit 138, o138_0 P) :: (nat_lit 139, o139_0 P) :: (nat_lit 140, o140_0 P) :: (nat_lit 143, o143_0 P) :: (nat_lit 144, o144_0 P) :: (nat_lit 145, o145_0 P) :: (nat_lit 148, o148_0 P) :: (nat_lit 149, o149_0 P) :: [])
noncomputable abbrev asK : List Addr := (2 :: 3 :: 6 :: 11 :: 12 :: 35 :: 36 :: 37 :: 39 :: 40 :: 42 :: 43 :: 47 :: 48 :: 52 :: 53 :: 57 :: 58 :: 62 :: 63 :: 64 :: 66 :: 67 :: 69 :: 70 :: 74 :: 75 :: 78 :: 83 :: 85 :: 92 :: 94 :: 95 :: 97 :: 98 :: 99 :: 100 :: 102 :: 103 :: 105 :: 106 :: 108 :: 112 :: 114 :: 115 :: 117 :: 118 :: 119 :: 121 :: 122 :: 124 :: 125 :: 126 :: 128 :: 129 :: 131 :: 132 :: 133 :: 135 :: 136 :: 138 :: 139 :: 140 :: 143 :: 144 :: 145 :: 148 :: 149 :: [])
end Mine
end
section
open PySem PyProof.Rows
set_option maxRecDepth 100000
namespace Mine
open PySem.Builtin.Re

theorem plain_pat : PlainAttrs "re.Pattern" :=
  ⟨⟨"object.__getattribute__", by rw [typeLookup_type, builtinLookup_eq_fast]; kernel_rfl, by decide +kernel⟩, by rw [typeLookup_type, builtinLookup_eq_fast]; kernel_rfl⟩
theorem plain_mat : PlainAttrs "re.Match" :=
  ⟨⟨"object.__getattribute__", by rw [typeLookup_type, builtinLookup_eq_fast]; kernel_rfl, by decide +kernel⟩, by rw [typeLookup_type, builtinLookup_eq_fast]; kernel_rfl⟩
theorem slot_search : Slot "re.Pattern" "search" "re.Pattern.search" :=
  .of (owner := "re.Pattern") (n := "search") (by rw [typeLookup_type, builtinLookup_eq_fast]; kernel_rfl) (by decide +kernel) (by decide +kernel) (by decide +kernel)
    (by first | exact .inl (by decide +kernel) | exact .inr (by decide +kernel)) (by rw [isSubtype_type]; kernel_rfl)
theorem type_search : typeOf (.builtin "re.Pattern.search") = pure (.type "method_descriptor") := by show builtinType _ = _; rw [builtinType_eq_fast]; kernel_rfl
theorem entry_search : entryFor table "re.Pattern.search" = some Builtin.«re.Pattern.search» := entryFor_of_tree (by kernel_rfl)
theorem args_search (a b : Value) : argsOk "re.Pattern.search" ⟨[a, b], []⟩ := by unfold argsOk; kernel_rfl
theorem slot_sub : Slot "re.Pattern" "sub" "re.Pattern.sub" :=
  .of (owner := "re.Pattern") (n := "sub") (by rw [typeLookup_type, builtinLookup_eq_fast]; kernel_rfl) (by decide +kernel) (by decide +kernel) (by decide +kernel)
    (by first | exact .inl (by decide +kernel) | exact .inr (by decide +kernel)) (by rw [isSubtype_type]; kernel_rfl)
theorem type_sub : typeOf (.builtin "re.Pattern.sub") = pure (.type "method_descriptor") := by show builtinType _ = _; rw [builtinType_eq_fast]; kernel_rfl
theorem entry_sub : entryFor table "re.Pattern.sub" = some Builtin.«re.Pattern.sub» := entryFor_of_tree (by kernel_rfl)
theorem args_sub (a b c : Value) : argsOk "re.Pattern.sub" ⟨[a, b, c], []⟩ := by unfold argsOk; kernel_rfl
theorem slot_subn : Slot "re.Pattern" "subn" "re.Pattern.subn" :=
  .of (owner := "re.Pattern") (n := "subn") (by rw [typeLookup_type, builtinLookup_eq_fast]; kernel_rfl) (by decide +kernel) (by decide +kernel) (by decide +kernel)
    (by first | exact .inl (by decide +kernel) | exact .inr (by decide +kernel)) (by rw [isSubtype_type]; kernel_rfl)
theorem type_subn : typeOf (.builtin "re.Pattern.subn") = pure (.type "method_descriptor") := by show builtinType _ = _; rw [builtinType_eq_fast]; kernel_rfl
theorem entry_subn : entryFor table "re.Pattern.subn" = some Builtin.«re.Pattern.subn» := entryFor_of_tree (by kernel_rfl)
theorem args_subn (a b c : Value) : argsOk "re.Pattern.subn" ⟨[a, b, c], []⟩ := by unfold argsOk; kernel_rfl
theorem slot_span : Slot "re.Match" "span" "re.Match.span" :=
  .of (owner := "re.Match") (n := "span") (by rw [typeLookup_type, builtinLookup_eq_fast]; kernel_rfl) (by decide +kernel) (by decide +kernel) (by decide +kernel)
    (by first | exact .inl (by decide +kernel) | exact .inr (by decide +kernel)) (by rw [isSubtype_type]; kernel_rfl)
theorem type_span : typeOf (.builtin "re.Match.span") = pure (.type "method_descriptor") := by show builtinType _ = _; rw [builtinType_eq_fast]; kernel_rfl
theorem entry_span : entryFor table "re.Match.span" = some Builtin.«re.Match.span» := entryFor_of_tree (by kernel_rfl)
theorem args_span (a b : Value) : argsOk "re.Match.span" ⟨[a, b], []⟩ := by unfold argsOk; kernel_rfl
theorem slot_group : Slot "re.Match" "group" "re.Match.group" :=
  .of (owner := "re.Match") (n := "group") (by rw [typeLookup_type, builtinLookup_eq_fast]; kernel_rfl) (by decide +kernel) (by decide +kernel) (by decide +kernel)
    (by first | exact .inl (by decide +kernel) | exact .inr (by decide +kernel)) (by rw [isSubtype_type]; kernel_rfl)
theorem type_group : typeOf (.builtin "re.Match.group") = pure (.type "method_descriptor") := by show builtinType _ = _; rw [builtinType_eq_fast]; kernel_rfl
theorem entry_group : entryFor table "re.Match.group" = some Builtin.«re.Match.group» := entryFor_of_tree (by kernel_rfl)
theorem args_group (a b : Value) : argsOk "re.Match.group" ⟨[a, b], []⟩ := by unfold argsOk; kernel_rfl
theorem slot_decode : Slot "bytes" "decode" "bytes.decode" :=
  .of (owner := "bytes") (n := "decode") (by rw [typeLookup_type, builtinLookup_eq_fast]; kernel_rfl) (by decide +kernel) (by decide +kernel) (by decide +kernel)
    (by first | exact .inl (by decide +kernel) | exact .inr (by decide +kernel)) (by rw [isSubtype_type]; kernel_rfl)
theorem type_decode : typeOf (.builtin "bytes.decode") = pure (.type "method_descriptor") := by show builtinType _ = _; rw [builtinType_eq_fast]; kernel_rfl
theorem entry_decode : entryFor table "bytes.decode" = some Builtin.«bytes.decode» := entryFor_of_tree (by kernel_rfl)
theorem args_decode (a b : Value) : argsOk "bytes.decode" ⟨[a, b], []⟩ := by unfold argsOk; kernel_rfl
theorem slot_translate : Slot "str" "translate" "str.translate" :=
  .of (owner := "str") (n := "translate") (by rw [typeLookup_type, builtinLookup_eq_fast]; kernel_rfl) (by decide +kernel) (by decide +kernel) (by decide +kernel)
    (by first | exact .inl (by decide +kernel) | exact .inr (by decide +kernel)) (by rw [isSubtype_type]; kernel_rfl)
theorem type_translate : typeOf (.builtin "str.translate") = pure (.type "method_descriptor") := by show builtinType _ = _; rw [builtinType_eq_fast]; kernel_rfl
theorem entry_translate : entryFor table "str.translate" = some Builtin.«str.translate» := entryFor_of_tree (by kernel_rfl)
theorem args_translate (a b : Value) : argsOk "str.translate" ⟨[a, b], []⟩ := by unfold argsOk; kernel_rfl

theorem named_search (x : Value) : reNamed "re.Pattern.search" "search" ["string", "pos", "endpos"] 1 [x] [] = pure [some x, none, none] := by rfl
theorem named_sub (x y : Value) : reNamed "re.Pattern.sub" "sub" ["repl", "string", "count"] 2 [x, y] [] = pure [some x, some y, none] := by rfl
theorem named_subn (x y : Value) : reNamed "re.Pattern.subn" "subn" ["repl", "string", "count"] 2 [x, y] [] = pure [some x, some y, none] := by rfl

/-- a compiled pattern (of texts) lies at pa -/
structure PatAt (h : Heap) (pa : Addr) (code : Array Nat) (groups : Nat) : Prop where
  ex : ∃ o fs ca oc items n, h.get? pa = some o ∧ o.cls = .type "re.Pattern" ∧ o.dict = none ∧ o.data = .fields fs ∧ fs.getD 5 .none = .ref ca ∧ h.get? ca = some oc ∧ oc.data = .seq items n ∧ (items.map reRawOf).map (·.toNat) = code ∧
    reRawNat (fs.getD 2 .none) = groups ∧ reRawNat (fs.getD 6 .none) = 0
theorem PatAt.keeps {h h' : Heap} {pa : Addr} {code : Array Nat} {groups : Nat} (P : PatAt h pa code groups) (k : ∀ b o, h.get? b = some o → h'.get? b = some o) : PatAt h' pa code groups := by
  obtain ⟨o, fs, ca, oc, items, n, h1, h2, h3, h4, h5, h6, h7⟩ := P.ex
  exact ⟨o, fs, ca, oc, items, n, k _ _ h1, h2, h3, h4, h5, k _ _ h6, h7⟩

section
variable {prog : Program} {w : World} {A : Around} {E : Value → Shared → Prop} {s : Shared}
theorem whole_target {pa : Addr} {code : Array Nat} {groups : Nat} {x : Str} {t : Tok} {Q : ReTarget → Shared → Prop} (P : PatAt s.heap pa code groups)
    (h : Q { pattern := .ref pa, string := .str x t, code := code, text := x.cps, kind := 0, groups := groups, pos := 0, lim := x.cps.size } s) :
    wpAny (model prog w) A (reWholeTarget (.ref pa) (.str x t)) Q E s := by
  obtain ⟨o, fs, ca, oc, items, n, h1, h2, h3, h4, h5, h6, h7, h8, h9, h10⟩ := P.ex
  unfold reWholeTarget fieldsOf
  refine wpAny_bind (wpAny_bind (wpAny_load h1 ?_))
  rw [h4]
  refine wpAny_pure ?_
  refine wpAny_bind (m := reTextOf (.str x t)) (wpAny_pure ?_)
  dsimp only
  rw [h10]
  refine wpAny_bind (m := reNoCollectionInside _ 0) (wpAny_pure ?_)
  rw [h5]
  refine wpAny_bind (m := reRawItems _) ?_
  unfold reRawItems seqItems?
  refine wpAny_bind (wpAny_bind (wpAny_load h6 ?_))
  rw [h7]
  refine wpAny_pure (wpAny_pure (wpAny_pure ?_))
  rw [h9]
  dsimp only [Option.getD]
  rw [h8]
  exact h
theorem clip_top (n : Nat) (h : n ≤ 2 ^ 24) : min ((2 : Int) ^ 63 - 1).toNat n = n := by omega
theorem search_target {pa : Addr} {code : Array Nat} {groups : Nat} {x : Str} {t : Tok} {Q : ReTarget → Shared → Prop} (P : PatAt s.heap pa code groups) (hx : x.cps.size ≤ 2 ^ 24)
    (h : Q { pattern := .ref pa, string := .str x t, code := code, text := x.cps, kind := 0, groups := groups, pos := 0, lim := x.cps.size } s) :
    wpAny (model prog w) A (reTarget "re.Pattern.search" "search" ⟨[.ref pa, .str x t], []⟩) Q E s := by
  obtain ⟨o, fs, ca, oc, items, n, h1, h2, h3, h4, h5, h6, h7, h8, h9, h10⟩ := P.ex
  unfold reTarget
  dsimp only
  rw [named_search]
  refine wpAny_bind (wpAny_pure ?_)
  dsimp only
  refine wpAny_bind (wpAny_pure ?_)
  refine wpAny_bind (wpAny_pure ?_)
  unfold fieldsOf
  refine wpAny_bind (wpAny_bind (wpAny_load h1 ?_))
  rw [h4]
  refine wpAny_pure ?_
  refine wpAny_bind (m := reTextOf (.str x t)) (wpAny_pure ?_)
  dsimp only
  rw [h10]
  refine wpAny_bind (m := reNoCollectionInside _ 0) (wpAny_pure ?_)
  rw [h5]
  refine wpAny_bind (m := reRawItems _) ?_
  unfold reRawItems seqItems?
  refine wpAny_bind (wpAny_bind (wpAny_load h6 ?_))
  rw [h7]
  refine wpAny_pure (wpAny_pure (wpAny_pure ?_))
  rw [h9]
  dsimp only [Option.getD]
  rw [h8, clip_top _ hx, show min (0 : Int).toNat x.cps.size = 0 from Nat.zero_min _]
  exact h

/-- what a search that hits lays -/
abbrev spanObj (a b e : Nat) : Obj := { cls := .type "tuple", data := .seq #[rawInt a, rawInt b, rawInt e, rawInt b] }
abbrev matObj (x : Str) (t : Tok) (pa : Addr) (n : Nat) (li : Int) (ta : Addr) : Obj := { cls := .type "re.Match", data := .fields #[.str x t, .ref pa, rawInt 0, rawInt n, rawInt li, .ref ta] }
theorem search_hit {pa : Addr} {code : Array Nat} {x : Str} {t : Tok} {k a b e : Nat} {Q : Value → Shared → Prop} (P : PatAt s.heap pa code 1) (hx : x.cps.size ≤ 2 ^ 24) (hk : k ≤ 2 ^ 60) (he : e ≤ b)
    (H : Ends k (Sre.forSearch code x.cps 1 0 x.cps.size false) (Hit a b e))
    (h : Q (.ref (s.heap.objs.size + 1)) { s with heap := (s.heap.push (spanObj a b e)).push (matObj x t pa x.cps.size 1 s.heap.objs.size) }) :
    wpAny (model prog w) A (call (.builtin "re.Pattern.search") [.ref pa, .str x t]) Q E s := by
  obtain ⟨o, fs, ca, oc, items, n, h1, h2, h3, h4⟩ := P.ex
  refine wpAny_call_entry slot_search ⟨o, h1, h2⟩ entry_search ?_ (args_search _ _)
  unfold Builtin.«re.Pattern.search»
  refine wpAny_bind (search_target P hx ?_)
  unfold reAnswer
  refine wpAny_bind (run_ends H (by omega) fun m' hm => .inl ⟨hm.1, ?_⟩)
  obtain ⟨_, e1, e2, e3, e4, e5⟩ := hm
  dsimp only
  refine wpAny_bind ?_
  unfold reNewMatch
  rw [e5, e3, e1, e2, e4]
  show wpAny _ _ (if (decide (((2 * 0 + 1 : Nat) : Int) ≤ 1) && decide (b < e) || false) = true then _ else _) _ _ _
  have hbe : decide (b < e) = false := decide_eq_false (by omega)
  rw [hbe, Bool.and_false, Bool.or_false, if_neg Bool.false_ne_true]
  refine wpAny_bind (m := newTuple _) (wpAny_newObj_type ?_ (by show 4 ≤ sizeLine; decide))
  refine wpAny_newObj_type ?_ (by show 6 ≤ sizeLine + 2; decide)
  refine wpAny_pure ⟨_, rfl, ?_⟩
  have hz : (s.heap.push (spanObj a b e)).objs.size = s.heap.objs.size + 1 := by simp [Heap.push]
  show Q (.ref (s.heap.push (spanObj a b e)).objs.size) _
  rw [hz]
  exact h
theorem search_miss {pa : Addr} {code : Array Nat} {groups : Nat} {x : Str} {t : Tok} {k : Nat} {Q : Value → Shared → Prop} (P : PatAt s.heap pa code groups) (hx : x.cps.size ≤ 2 ^ 24) (hk : k ≤ 2 ^ 60)
    (H : Ends k (Sre.forSearch code x.cps groups 0 x.cps.size false) Miss)
    (h : Q .none s) :
    wpAny (model prog w) A (call (.builtin "re.Pattern.search") [.ref pa, .str x t]) Q E s := by
  obtain ⟨o, fs, ca, oc, items, n, h1, h2, h3, h4⟩ := P.ex
  refine wpAny_call_entry slot_search ⟨o, h1, h2⟩ entry_search ?_ (args_search _ _)
  unfold Builtin.«re.Pattern.search»
  refine wpAny_bind (search_target P hx ?_)
  unfold reAnswer
  refine wpAny_bind (run_ends H (by omega) fun m' hm => .inr ⟨hm, ?_⟩)
  exact wpAny_pure ⟨_, rfl, h⟩
end
end Mine
end
section
open PySem PySem.W PyProof.Rows
set_option maxRecDepth 100000
namespace Mine
section
variable {prog : Program} {w : World} {A : Around} {E : Value → Shared → Prop} {s : Shared}
theorem look_text {T : Addr} {items : Array Value} {c : Nat} {x : Str} {t : Tok} {Q : Builtin.Str.Mapped → Shared → Prop} (hl : s.heap.IsList T items) (hc : c < 256) (hx : items[c]? = some (.str x t))
    (h : Q (.text x) { s with toks := s.toks + 1 }) : wpAny (model prog w) A (Builtin.Str.tableLookup (.ref T) c) Q E s := by
  unfold Builtin.Str.tableLookup
  refine wpAny_bind (wpAny_attempt (wpAny_bind (wpAny_mkInt ?_)))
  refine wpAny_getItem_list (s := { s with toks := s.toks + 1 }) hl (by omega) (by omega) (by simpa using hx) ?_
  exact wpAny_bind (wpAny_pure (wpAny_bind (wpAny_pure (wpAny_pure h))))
/-- what str.translate keeps between its turns -/
def TrI (tab : Nat → List Nat) (row : List Nat) (s : Shared) (rest : List Nat) (b : List Str × Nat × Bool × List (Nat × Option Nat) × Bool) (s' : Shared) : Prop :=
  ∃ done k, row = done ++ rest ∧ s' = { s with toks := k } ∧ (b.1.reverse.map (·.cps.toList)).flatten = done.flatMap tab ∧ b.2.1 = (done.flatMap tab).length ∧ b.2.2.2.2 = false ∧ (∀ c a, b.2.2.2.1.lookup c = some a → ∃ d, a = some d ∧ tab c = [d])
theorem TrI.next {tab : Nat → List Nat} {row rest : List Nat} {s s' : Shared} {c : Nat} {pieces : List Str} {total : Nat} {fast fast' : Bool} {known known' : List (Nat × Option Nat)} {k' : Nat}
    (h : TrI tab row s (c :: rest) (pieces, total, fast, known, false) s') {y : Str} {n : Nat} (hy : y.cps.toList = tab c) (hn : n = (tab c).length) (hk : ∀ c a, known'.lookup c = some a → ∃ d, a = some d ∧ tab c = [d]) :
    TrI tab row s rest (y :: pieces, total + n, fast', known', false) { s with toks := k' } := by
  obtain ⟨done, k, hrow, rfl, hp, ht, _, _⟩ := h
  refine ⟨done ++ [c], k', by rw [hrow]; simp, rfl, ?_, ?_, rfl, hk⟩
  · dsimp only at hp ⊢
    rw [List.reverse_cons, List.map_append, List.flatten_append, hp, List.flatMap_append]
    simp [hy]
  · dsimp only at ht ⊢
    rw [List.flatMap_append, List.length_append, ht, hn]; simp
theorem translate_list {T : Addr} {items : Array Value} {row : List Nat} {t : Tok} {tab : Nat → List Nat} {Q : Value → Shared → Prop} (hl : s.heap.IsList T items) (hitem : ∀ c ∈ row, c < 256 ∧ ∃ x t, items[c]? = some (.str x t) ∧ x.cps.toList = tab c)
    (hx : row ≠ []) (hz : (row.flatMap tab).length ≤ 100000) (hq : ∀ t' k, Q (.str ⟨(row.flatMap tab).toArray⟩ t') { s with toks := k }) :
    wpAny (model prog w) A (call (.builtin "str.translate") [.str ⟨row.toArray⟩ t, .ref T]) Q E s := by
  refine wpAny_call_entry slot_translate rfl entry_translate ?_ (args_translate _ _)
  unfold Builtin.«str.translate»
  refine wpAny_bind (m := Builtin.Str.strOneArg _ _) (wpAny_pure ?_)
  dsimp only
  rw [if_neg (by show ¬ ((row.toArray.size == 0) = true); simpa using hx)]
  have hpre : ∀ done rest, row = done ++ rest → (done.flatMap tab).length ≤ 100000 := fun done rest e => by
    rw [e, List.flatMap_append, List.length_append] at hz; omega
  refine wpAny_bind (wpAny_forIn_array' _ (TrI tab row s) _ ?_ ?_ row.toArray _ ⟨[], s.toks, by simp, rfl, rfl, rfl, rfl, fun c a e => by simp at e⟩)
  · rintro c rest ⟨pieces, total, fast, known, ad⟩ s' hI
    obtain ⟨done, k, hrow, rfl, hp, ht, had, hk⟩ := id hI
    dsimp only at had ht hk
    subst had
    have hlong : Builtin.Str.tooLong total = false := by
      unfold Builtin.Str.tooLong
      have := hpre done _ hrow
      rw [ht]
      exact decide_eq_false (by rw [sizeLine_eq]; omega)
    obtain ⟨hc, x, tx, hx1, hx2⟩ := hitem c (by rw [hrow]; simp)
    have hxl : x.length = (tab c).length := by rw [← hx2]; exact Array.length_toList.symm
    dsimp only
    rw [hlong, if_neg Bool.false_ne_true]
    cases fast with
    | false =>
      rw [if_neg Bool.false_ne_true, if_neg Bool.false_ne_true]
      exact wpAny_bind (look_text (s := { s with toks := k }) hl hc hx1 (wpAny_pure (hI.next hx2 hxl hk)))
    | true =>
      rw [if_pos rfl]
      cases hlk : known.lookup c with
      | some a =>
        obtain ⟨d, rfl, hd⟩ := hk c a hlk
        exact wpAny_bind (wpAny_pure (wpAny_pure (hI.next (by rw [hd]) (by rw [hd]; rfl) hk)))
      | none =>
        refine wpAny_bind (look_text (s := { s with toks := k }) hl hc hx1 ?_)
        dsimp only
        by_cases h1 : (x.length == 1 && x.cps.all fun x => decide (x < 128)) = true
        · rw [if_pos h1]
          have hl1 : x.length = 1 := by simp at h1; exact h1.1
          obtain ⟨d, hd⟩ : ∃ d, tab c = [d] := by
            rw [hxl] at hl1
            match tab c, hl1 with
            | [d], _ => exact ⟨d, rfl⟩
          have hx0 : x.cps[0]? = some d := by rw [← Array.getElem?_toList, hx2, hd]; rfl
          rw [hx0]
          refine wpAny_bind (wpAny_pure (wpAny_pure (hI.next (by rw [hd]) (by rw [hd]; rfl) fun c' a' e => ?_)))
          rw [List.lookup_cons] at e
          by_cases hcc : (c' == c) = true
          · rw [hcc] at e
            obtain rfl := beq_iff_eq.mp hcc
            exact ⟨d, (Option.some.inj e).symm, hd⟩
          · rw [Bool.eq_false_iff.mpr hcc] at e
            exact hk c' a' e
        · rw [if_neg h1]
          refine wpAny_bind (wpAny_pure ?_)
          refine wpAny_bind (wpAny_rule ?_)
          rw [if_neg Bool.false_ne_true]
          exact wpAny_bind (look_text (s := { s with toks := k + 1 }) hl hc hx1 (wpAny_pure (hI.next hx2 hxl hk)))
  · rintro ⟨pieces, total, fast, known, ad⟩ s' ⟨done, k, hrow, rfl, hp, ht, had, hk⟩
    dsimp only at hp ht had
    have hd : done = row := by simpa using hrow.symm
    subst hd
    have hlong : Builtin.Str.tooLong total = false := by
      unfold Builtin.Str.tooLong
      rw [ht]
      exact decide_eq_false (by rw [sizeLine_eq]; omega)
    dsimp only
    rw [hlong, if_neg Bool.false_ne_true]
    have hfold : ∀ (l : List Str) (acc : Array Nat), l.foldl (fun acc p => acc ++ p.cps) acc = acc ++ ((l.map (·.cps.toList)).flatten).toArray := by
      intro l
      induction l with
      | nil => intro acc; simp
      | cons y r ih =>
        intro acc
        rw [List.foldl_cons, ih, List.map_cons, List.flatten_cons, Array.append_assoc]
        congr 1
        apply Array.toList_inj.mp
        simp
    rw [hfold, hp]
    refine wpAny_bind (wpAny_mkStr ?_ (by show (#[] ++ _).size ≤ _; rw [sizeLine_eq]; simp; simp at hz; omega))
    refine wpAny_pure ⟨_, rfl, ?_⟩
    simpa using hq _ _
end
end Mine
end
section
open PySem PySem.W PyProof.Rows
set_option maxRecDepth 100000
namespace Mine
open Builtin
theorem lat_run {id : String} : ∀ (l : List UInt8), l.length ≤ 4 → _codecs.runDecoder id _codecs.latin1Decoder none true l.toArray 0 [] = pure ((l.map (·.toNat)).toArray, l.length)
  | [], _ => by kernel_rfl
  | [a], _ => by kernel_rfl
  | [a, b], _ => by kernel_rfl
  | [a, b, c], _ => by kernel_rfl
  | [a, b, c, d], _ => by kernel_rfl
  | _ :: _ :: _ :: _ :: _ :: _, h => by simp at h
theorem lat_road {id : String} {b : Array UInt8} : _codecs.decodeRoad id b (PySem.Str.ofString "latin1") none [] = (_codecs.runDecoder id _codecs.latin1Decoder none true b 0 [] >>= fun r => mkStr ⟨r.1⟩) := by kernel_rfl
theorem lat_entry {c : UInt8} {cs : List UInt8} {t t1 : Tok} : «bytes.decode» ⟨[.bytes (c :: cs).toArray t, .str (PySem.Str.ofString "latin1") t1], []⟩ = (mkStr (PySem.Str.ofString "utf-8") >>= fun _ => mkStr (PySem.Str.ofString "latin1") >>= fun e => mkStr (PySem.Str.ofString "bytes.decode") >>= fun d =>
    call (.builtin "_codecs.decode.text") [.bytes (c :: cs).toArray t, e, .none, d] >>= fun v => ret v) := by kernel_rfl
section
variable {prog : Program} {w : World} {A : Around} {E : Value → Shared → Prop} {s : Shared}
theorem lat_text {b : List UInt8} (hb : b.length ≤ 4) {t t1 t2 : Tok} {d : PySem.Str} {Q : Value → Shared → Prop} (h : ∀ t' k, Q (.str ⟨(b.map (·.toNat)).toArray⟩ t') { s with toks := k }) :
    wpAny (model prog w) A (call (.builtin "_codecs.decode.text") [.bytes b.toArray t, .str (PySem.Str.ofString "latin1") t1, .none, .str d t2]) Q E s := by
  refine Calls.call_function_entry KBd.kind_text KBd.plain_text KBd.entry_text (KBd.args_text _ _ _ _) ?_
  show wpAny _ _ (Bytes.bytesLike _ (.bytes b.toArray t) >>= fun r => _) _ _ s
  refine wpAny_bind (wpAny_of_eq KBd.like_eq ?_)
  refine wpAny_bind (wpAny_of_eq KBd.held_eq ?_)
  show wpAny _ _ (_codecs.decodeRoad _ b.toArray (PySem.Str.ofString "latin1") none [] >>= fun v => _) _ _ s
  rw [lat_road, lat_run b hb]
  refine wpAny_bind (wpAny_bind (wpAny_pure ?_))
  exact wpAny_mkStr (wpAny_pure ⟨_, rfl, h _ _⟩) (by show (List.toArray _).size ≤ _; rw [sizeLine_eq]; simp; omega)
theorem bytes_type {b : Array UInt8} {t : Tok} : typeOf (.bytes b t) = pure (.type "bytes") := rfl
theorem lat_decode {b : List UInt8} (hb : b.length ≤ 4) (h0 : b ≠ []) {t t1 : Tok} {Q : Value → Shared → Prop} (h : ∀ t' k, Q (.str ⟨(b.map (·.toNat)).toArray⟩ t') { s with toks := k }) :
    wpAny (model prog w) A (call (.builtin "bytes.decode") [.bytes b.toArray t, .str (PySem.Str.ofString "latin1") t1]) Q E s := by
  cases b with
  | nil => exact absurd rfl h0
  | cons c cs =>
    refine wpAny_call_entry slot_decode rfl entry_decode ?_ (args_decode _ _)
    rw [lat_entry]
    refine wpAny_bind (wpAny_mkStr ?_ (by decide +kernel))
    refine wpAny_bind (wpAny_mkStr ?_ (by decide +kernel))
    refine wpAny_bind (wpAny_mkStr ?_ (by decide +kernel))
    exact wpAny_bind (lat_text hb fun t' k => wpAny_pure ⟨_, rfl, h t' k⟩)
theorem gm_translate {x : PySem.Str} {t : Tok} {pl : Sem Bool} {Q : Value × List Value → Shared → Prop} (h : Q (.builtin "str.translate", [.str x t]) s) : wpAny (model prog w) A (getMethod (.str x t) "translate" pl) Q E s := by
  with_reducible exact GM.of (.str x t) (typeIs_str _ _ _) slot_translate type_translate GM.noRef h
end
end Mine
end
section
open PySem PySem.W PyProof.Rows
set_option maxRecDepth 100000
namespace Mine
open PySem.Builtin.Re
section
variable {prog : Program} {w : World} {A : Around} {E : Value → Shared → Prop} {s : Shared}
theorem found_is {ma ta pa : Addr} {x : Str} {t : Tok} {n a b e : Nat} {li : Int} {Q : ReFound → Shared → Prop} (hm : s.heap.get? ma = some (matObj x t pa n li ta)) (ht : s.heap.get? ta = some (spanObj a b e))
    (h : Q { fields := #[.str x t, .ref pa, rawInt 0, rawInt n, rawInt li, .ref ta], spans := #[(a : Int), b, e, b] } s) : wpAny (model prog w) A (reFound (.ref ma)) Q E s := by
  unfold reFound fieldsOf
  refine wpAny_bind (wpAny_bind (wpAny_load hm (wpAny_pure ?_)))
  refine wpAny_bind ?_
  unfold reRawItems seqItems?
  refine wpAny_bind (wpAny_bind (wpAny_load ht (wpAny_pure (wpAny_pure ?_))))
  have e : ((some #[rawInt (a : Int), rawInt b, rawInt e, rawInt b] : Option (Array Value)).getD #[]).map reRawOf = #[(a : Int), b, e, b] := by simp [reRawOf, rawInt]
  rw [e]
  exact wpAny_pure h
theorem span_call {ma ta pa : Addr} {x : Str} {t u : Tok} {n a b e : Nat} {li : Int} {Q : Value → Shared → Prop} (hm : s.heap.get? ma = some (matObj x t pa n li ta)) (ht : s.heap.get? ta = some (spanObj a b e))
    (h : ∀ t1 t2 k, Q (.ref s.heap.objs.size) { s with heap := s.heap.push { cls := .type "tuple", data := .seq #[.int a t1, .int b t2] }, toks := k }) :
    wpAny (model prog w) A (call (.builtin "re.Match.span") [.ref ma, .int 0 u]) Q E s := by
  refine wpAny_call_entry slot_span ⟨_, hm, rfl⟩ entry_span ?_ (args_span _ _)
  unfold Builtin.«re.Match.span» reOneGroup
  refine wpAny_bind ?_
  refine wpAny_bind (m := selfAndSome _ _ 0 1 _) (wpAny_pure ?_)
  refine wpAny_bind (found_is hm ht ?_)
  dsimp only
  refine wpAny_bind (m := reGroupNumber _ _) (wpAny_pure (wpAny_pure ?_))
  refine wpAny_bind (m := mkInt (a : Int)) (wpAny_mkInt ?_)
  refine wpAny_bind (m := mkInt (b : Int)) (wpAny_mkInt ?_)
  refine wpAny_bind (m := newTuple _) ?_
  refine wpAny_newObj_type ?_ (by show 2 ≤ sizeLine; decide)
  exact wpAny_pure ⟨_, rfl, h _ _ _⟩
theorem group_call {ma ta pa : Addr} {x : Str} {t u : Tok} {n a b e : Nat} {li : Int} {Q : Value → Shared → Prop} (hm : s.heap.get? ma = some (matObj x t pa n li ta)) (ht : s.heap.get? ta = some (spanObj a b e)) (hx : x.cps.size ≤ 2 ^ 24)
    (h : ∀ t' k, Q (.str ⟨x.cps.extract e b⟩ t') { s with toks := k }) :
    wpAny (model prog w) A (call (.builtin "re.Match.group") [.ref ma, .int 1 u]) Q E s := by
  refine wpAny_call_entry slot_group ⟨_, hm, rfl⟩ entry_group ?_ (args_group _ _)
  unfold Builtin.«re.Match.group»
  refine wpAny_bind (m := noKeywords _ _) (wpAny_pure ?_)
  refine wpAny_bind (found_is hm ht ?_)
  dsimp only
  refine wpAny_bind (m := reGroupNumber _ (.int 1 u)) (wpAny_pure ?_)
  refine wpAny_bind (m := reGroupText _ _ _) ?_
  have hne : (decide ((e : Int) < 0) || decide ((b : Int) < 0)) = false := by simp
  have hg : reGroupText { fields := #[.str x t, .ref pa, rawInt 0, rawInt n, rawInt li, .ref ta], spans := #[(a : Int), b, e, b] } 1 .none = (if (decide ((e : Int) < 0) || decide ((b : Int) < 0)) = true then pure .none else (do
      let (text, kind) ← reTextOf (.str x t)
      reSlice text kind e b)) := rfl
  refine (show wpAny _ _ (reGroupText { fields := #[.str x t, .ref pa, rawInt 0, rawInt n, rawInt li, .ref ta], spans := #[(a : Int), b, e, b] } 1 .none) _ _ _ from ?_)
  rw [hg, hne]
  rw [if_neg Bool.false_ne_true]
  refine wpAny_bind (m := reTextOf (.str x t)) (wpAny_pure ?_)
  show wpAny _ _ (mkStr ⟨x.cps.extract e b⟩) _ _ _
  refine wpAny_mkStr (wpAny_pure ⟨_, rfl, h _ _⟩) ?_
  show (x.cps.extract e b).size ≤ _
  rw [sizeLine_eq, Array.size_extract]; omega
end
end Mine
end
section
open PySem PySem.W PyProof.Rows
set_option maxRecDepth 100000
namespace Mine
open PySem.Builtin.Re Builtin Builtin.ObjectAttr Builtin.Getset_descriptor
theorem mat_ga : typeLookup (.type "re.Match") "__getattribute__" = pure (some (.builtin "object.__getattribute__")) := by rw [typeLookup_type, builtinLookup_eq_fast]; kernel_rfl
theorem mat_str : typeLookup (.type "re.Match") "string" = pure (some (.builtin "re.Match.string")) := by rw [typeLookup_type, builtinLookup_eq_fast]; kernel_rfl
theorem mat_str_type : typeOf (.builtin "re.Match.string") = pure (.type "member_descriptor") := by show builtinType _ = _; rw [builtinType_eq_fast]; kernel_rfl
theorem mem_get : typeLookup (.type "member_descriptor") "__get__" = pure (some (.builtin "member_descriptor.__get__")) := by rw [typeLookup_type, builtinLookup_eq_fast]; kernel_rfl
theorem mem_set : typeLookup (.type "member_descriptor") "__set__" = pure (some (.builtin "member_descriptor.__set__")) := by rw [typeLookup_type, builtinLookup_eq_fast]; kernel_rfl
theorem owner_str : descrOwnerAndName "re.Match.string" = ("re.Match", "string") := by decide +kernel
theorem entry_str : entryFor table "re.Match.string" = some Builtin.«re.Match.string» := entryFor_of_tree (by kernel_rfl)
theorem sub_mat : isSubtype (.type "re.Match") (.type "re.Match") = pure true := by rw [isSubtype_type]; kernel_rfl
section
variable {prog : Program} {w : World} {A : Around} {E : Value → Shared → Prop} {s : Shared}
theorem string_get {ma ta pa : Addr} {x : PySem.Str} {t : Tok} {n : Nat} {li : Int} {tp : Value} {R : Result → Shared → Prop} (hm : s.heap.get? ma = some (matObj x t pa n li ta)) (h : R (.ok (.ret (.str x t))) s) :
    codeAny (model prog w) A (.call (.builtin "member_descriptor.__get__") ⟨[.builtin "re.Match.string", .ref ma, tp], []⟩) R s := by
  refine codeAny_call_builtin KF.slot_mem.plain KF.entry_mem (KF.slot_mem.check _ _ _ _ _ _ _ _ mat_str_type (KF.args_mem _ _ _) ?_)
  unfold Builtin.«member_descriptor.__get__» descrGet
  rw [dga_obj]
  refine wpAny_bind (wpAny_pure ?_)
  unfold descrGetter descrCheckInstance descrNameAndClass
  simp only [owner_str]
  refine wpAny_bind (wpAny_bind (wpAny_pure ?_))
  refine wpAny_bind (wpAny_isInstance (T := "re.Match") ⟨_, hm, rfl⟩ sub_mat ?_)
  rw [if_neg (by decide)]
  refine wpAny_pure (wpAny_pure ⟨Code.quiet_builtin _ (by decide +kernel), codeAny_builtin entry_str ?_⟩)
  unfold Builtin.«re.Match.string» field fieldsOf
  refine wpAny_bind (wpAny_bind (wpAny_bind (wpAny_load hm (wpAny_pure ?_))))
  exact wpAny_pure (wpAny_pure h)
theorem slot_ga : Slot "re.Match" "__getattribute__" "object.__getattribute__" :=
  .of (owner := "object") (n := "__getattribute__") mat_ga (by decide +kernel) (by decide +kernel) (by decide +kernel)
    (by first | exact .inl (by decide +kernel) | exact .inr (by decide +kernel)) (by rw [isSubtype_type]; kernel_rfl)
theorem entry_ga : entryFor table "object.__getattribute__" = some Builtin.«object.__getattribute__» := entryFor_of_tree (by kernel_rfl)
theorem args_ga (a b : Value) : argsOk "object.__getattribute__" ⟨[a, b], []⟩ := by unfold argsOk; kernel_rfl
theorem string_attr {ma ta pa : Addr} {x : PySem.Str} {t : Tok} {n : Nat} {li : Int} {ex : Bool} {Q : Value → Shared → Prop} (hm : s.heap.get? ma = some (matObj x t pa n li ta)) (h : ∀ k, Q (.str x t) { s with toks := k }) :
    wpAny (model prog w) A (getAttr (.ref ma) "string" ex) Q E s := by
  unfold getAttr
  refine wpAny_bind (wpAny_mkText ?_)
  unfold getAttrBy
  refine wpAny_holding ?_
  have hT : ∀ k, ({ s with toks := k } : Shared).TypeIs (.ref ma) "re.Match" := fun k => ⟨_, hm, rfl⟩
  refine wpAny_bind (wpAny_typeOf (hT _) ?_)
  refine wpAny_bind (wpAny_of_eq mat_ga ?_)
  show wpAny _ _ (getAttrByItsOwn _ _ _ _ _ _) _ _ _
  unfold getAttrByItsOwn
  refine wpAny_bind (m := hookBefore _) (wpAny_pure ?_)
  refine wpAny_bind (wpAny_attempt (wpAny_holding ?_))
  unfold callGetattribute
  rw [if_neg (by simp [onTheHeap])]
  unfold boundAndCalled
  refine wpAny_bind (wpAny_of_eq (slot_ga.bind _) ?_)
  refine wpAny_call_entry slot_ga (hT _) entry_ga ?_ (args_ga _ _)
  unfold Builtin.«object.__getattribute__»
  refine wpAny_bind (m := slotArgs _ _ _) (wpAny_pure ?_)
  refine wpAny_bind (m := attrName _) (wpAny_pure ?_)
  refine wpAny_bind (wpAny_typeOf (hT _) ?_)
  unfold find getOf dataDescriptor?
  refine wpAny_bind (wpAny_bind (wpAny_of_eq mat_str ?_))
  refine wpAny_bind (wpAny_specialOf (v := .builtin "re.Match.string") mat_str_type mem_get ?_)
  refine wpAny_bind ?_
  dsimp only
  unfold takesStores
  refine wpAny_bind (wpAny_bind (wpAny_specialOf (v := .builtin "re.Match.string") mat_str_type mem_set ?_))
  rw [if_pos (show (some (Value.builtin "member_descriptor.__set__")).isSome = true from rfl)]
  refine wpAny_pure ?_
  rw [if_pos (show (true = true) from rfl)]
  refine wpAny_pure ?_
  refine wpAny_bind (wpAny_rule (wpAny_pure ?_))
  show wpAny _ _ (holding _ (call (.builtin "member_descriptor.__get__") [.builtin "re.Match.string", .ref ma, .type "re.Match"]) >>= fun v => ret v) _ _ _
  refine wpAny_bind (wpAny_holding (wpAny_call (string_get hm ?_)))
  exact wpAny_pure ⟨_, rfl, wpAny_pure (h _)⟩
end
end Mine
end
section
open PySem PySem.W PyProof.Rows
set_option linter.all false
set_option maxRecDepth 100000
namespace Mine
open PySem.Builtin.Re
theorem no_bool_mat : typeLookup (.type "re.Match") "__bool__" = pure none := by rw [typeLookup_type, builtinLookup_eq_fast]; kernel_rfl
theorem no_len_mat : typeLookup (.type "re.Match") "__len__" = pure none := by rw [typeLookup_type, builtinLookup_eq_fast]; kernel_rfl
section
variable {prog : Program} {w : World} {A : Around} {E : Value → Shared → Prop} {s : Shared}
theorem truthy_mat {ma ta pa : Addr} {x : PySem.Str} {t : Tok} {n : Nat} {li : Int} {Q : Bool → Shared → Prop} (hm : s.heap.get? ma = some (matObj x t pa n li ta)) (h : Q true s) : wpAny (model prog w) A (truthy (.ref ma)) Q E s := by
  have hT : s.TypeIs (.ref ma) "re.Match" := ⟨_, hm, rfl⟩
  unfold truthy callSpecial? specialOf
  refine wpAny_bind (wpAny_bind (wpAny_bind (wpAny_typeOf hT (wpAny_of_eq no_bool_mat ?_))))
  refine wpAny_pure ?_
  refine wpAny_bind (wpAny_bind (wpAny_typeOf hT (wpAny_of_eq no_len_mat ?_)))
  rw [if_pos (show (none : Option Value).isNone = true from rfl)]
  exact wpAny_pure h
section
variable {ma ta pa : Addr} {x : PySem.Str} {t : Tok} {n : Nat} {li : Int} {pl : Sem Bool} {Q : Value × List Value → Shared → Prop}
theorem gm_span (hm : s.heap.get? ma = some (matObj x t pa n li ta)) (h : Q (.builtin "re.Match.span", [.ref ma]) s) : wpAny (model prog w) A (getMethod (.ref ma) "span" pl) Q E s :=
  getMethod_builtin (T := "re.Match") ⟨_, hm, rfl⟩ plain_mat slot_span type_span (fun a e => by cases e; exact ⟨_, hm, rfl⟩) h
theorem gm_group (hm : s.heap.get? ma = some (matObj x t pa n li ta)) (h : Q (.builtin "re.Match.group", [.ref ma]) s) : wpAny (model prog w) A (getMethod (.ref ma) "group" pl) Q E s :=
  getMethod_builtin (T := "re.Match") ⟨_, hm, rfl⟩ plain_mat slot_group type_group (fun a e => by cases e; exact ⟨_, hm, rfl⟩) h
theorem pat_none {code : Array Nat} {g : Nat} (P : PatAt s.heap pa code g) : ∀ a, Value.ref pa = .ref a → ∃ o, s.heap.get? a = some o ∧ o.dict = none := fun a e => by
  cases e
  obtain ⟨o, fs, ca, oc, items, n, h1, h2, h3, _⟩ := P.ex
  exact ⟨o, h1, h3⟩
theorem pat_type {code : Array Nat} {g : Nat} (P : PatAt s.heap pa code g) : s.TypeIs (.ref pa) "re.Pattern" := by
  obtain ⟨o, fs, ca, oc, items, n, h1, h2, h3, _⟩ := P.ex
  exact ⟨o, h1, h2⟩
theorem gm_search {code : Array Nat} {g : Nat} (P : PatAt s.heap pa code g) (h : Q (.builtin "re.Pattern.search", [.ref pa]) s) : wpAny (model prog w) A (getMethod (.ref pa) "search" pl) Q E s :=
  getMethod_builtin (pat_type P) plain_pat slot_search type_search (pat_none P) h
theorem gm_subn {code : Array Nat} {g : Nat} (P : PatAt s.heap pa code g) (h : Q (.builtin "re.Pattern.subn", [.ref pa]) s) : wpAny (model prog w) A (getMethod (.ref pa) "subn" pl) Q E s :=
  getMethod_builtin (pat_type P) plain_pat slot_subn type_subn (pat_none P) h
theorem gm_sub {code : Array Nat} {g : Nat} (P : PatAt s.heap pa code g) (h : Q (.builtin "re.Pattern.sub", [.ref pa]) s) : wpAny (model prog w) A (getMethod (.ref pa) "sub" pl) Q E s :=
  getMethod_builtin (pat_type P) plain_pat slot_sub type_sub (pat_none P) h
end

/-- a thing more on the ledger -/
theorem News.add {h₀ h h' : Heap} {L T : Addr} {m : PySem.Str → Option Value} {news : List (Addr × Obj)} {o : Obj} (F : Fr h₀ L h m) (N : News h₀ L h news) (k : ∀ b o, h.get? b = some o → h'.get? b = some o) (ho : h'.get? T = some o) (hT : h.get? T = none) :
    News h₀ L h' ((T, o) :: news) := fun p hp => by
  rcases List.mem_cons.mp hp with rfl | hp
  · refine ⟨ho, ?_, ?_⟩
    · rintro rfl
      obtain ⟨oL, _, _, hoL, _⟩ := F.ns
      rw [hT] at hoL; cases hoL
    · cases e : h₀.get? T with
      | none => rfl
      | some o' => rw [F.keep _ _ e] at hT; cases hT
  · exact ⟨k _ _ (N p hp).1, (N p hp).2⟩
end
end Mine
end
section
open PySem PySem.W PyProof.Rows
set_option maxRecDepth 100000
namespace Mine

/-- h' holds all that h holds -/
def Ext (h h' : Heap) : Prop := ∀ b o, h.get? b = some o → h'.get? b = some o
theorem Ext.rfl' {h : Heap} : Ext h h := fun _ _ e => e
theorem Ext.trans {h h' h'' : Heap} (a : Ext h h') (b : Ext h' h'') : Ext h h'' := fun _ _ e => b _ _ (a _ _ e)
def RetIs (s : Shared) (P : Value → Heap → Prop) (r : Result) (s' : Shared) : Prop := ∃ v h' tk, r = .ok (.ret v) ∧ s' = { s with heap := h', toks := tk } ∧ Ext s.heap h' ∧ P v h'
theorem RetIs.mk {s : Shared} {P : Value → Heap → Prop} {v : Value} {h' : Heap} {tk : Nat} {m : Str → Option Value} {L : Addr} (F : Fr s.heap L h' m) (p : P v h') : RetIs s P (.ok (.ret v)) { s with heap := h', toks := tk } := ⟨v, h', tk, rfl, rfl, F.keep, p⟩

def S (l : List Nat) : Str := ⟨l.toArray⟩
theorem S_append (a b : List Nat) : S a ++ S b = S (a ++ b) := by
  show (⟨a.toArray ++ b.toArray⟩ : Str) = _
  simp [S]
theorem S_length (l : List Nat) : (S l).length = l.length := by show l.toArray.size = _; simp
theorem glued_S (ls : List (List Nat)) : Txt.join Str.empty (ls.map S) = S ls.flatten := by
  have key : ∀ (ls : List (List Nat)) (acc : Array Nat), (ls.map S).foldl (fun (acc : Array Nat) (p : Str) => acc ++ Str.empty.cps ++ p.cps) acc = acc ++ ls.flatten.toArray := by
    intro ls
    induction ls with
    | nil => intro acc; simp
    | cons l r ih =>
      intro acc
      rw [List.map_cons, List.foldl_cons, ih]
      show acc ++ #[] ++ l.toArray ++ r.flatten.toArray = _
      simp
  unfold Txt.join Builtin.Str.glued
  cases ls with
  | nil => rfl
  | cons l r =>
    show (⟨((r.map S)).foldl (fun (acc : Array Nat) (p : Str) => acc ++ Str.empty.cps ++ p.cps) l.toArray⟩ : Str) = _
    rw [key]
    simp [S]
theorem lit_a : Str.ofString "=?" = S [61, 63] := by decide +kernel
theorem lit_b : Str.ofString "?q?" = S [63, 113, 63] := by decide +kernel
theorem lit_c : Str.ofString "?=" = S [63, 61] := by decide +kernel
theorem lit_e : Str.ofString "=" = S [61] := by decide +kernel
theorem lit_0 : Str.ofString "" = S [] := by decide +kernel
theorem len_app (a b : Str) : (a ++ b).length = a.length + b.length := by show (a.cps ++ b.cps).size = _; rw [Array.size_append]; rfl
theorem empty_S : Str.empty = S [] := rfl
theorem empty_len : Str.empty.length = 0 := rfl
theorem mk_S (l : List Nat) : Str.mk l.toArray = S l := rfl
theorem mk_len (l : List Nat) : (Str.mk l.toArray).length = l.length := by show l.toArray.size = _; simp
def plainO (o : Nat) : Bool := [97, 90, 55, 45, 47, 42, 33, 43].contains o
def encO (o : Nat) : List Nat := if o = 32 then [95] else if plainO o then [o] else [61, hexd (o / 16), hexd (o % 16)]
def enc (row : List Nat) : List Nat := row.flatMap encO
def wordL (cs row : List Nat) : List Nat := [61, 63] ++ cs ++ [63, 113, 63] ++ enc row ++ [63, 61]
theorem encO_len (o : Nat) : (encO o).length ≤ 3 := by unfold encO; split <;> (try split) <;> simp
theorem enc_len (row : List Nat) : (enc row).length ≤ 3 * row.length := by
  unfold enc
  induction row with
  | nil => simp
  | cons o r ih => simp only [List.flatMap_cons, List.length_append, List.length_cons]; have := encO_len o; omega

theorem strs_len {vs : List Value} {ls : List Str} (h : StrsAre vs ls) : vs.length = ls.length := by
  induction h with
  | nil => rfl
  | cons _ _ _ ih => simp [ih]
theorem strs_snoc {vs : List Value} {ls : List Str} (h : StrsAre vs ls) (x : Str) (t : Tok) : StrsAre (vs ++ [.str x t]) (ls ++ [x]) := by
  induction h with
  | nil => exact .cons _ _ .nil
  | cons y u _ ih => exact .cons y u ih

theorem flatten_len (ls : List (List Nat)) : (ls.map List.length).sum = ls.flatten.length := by rw [List.length_flatten]
section
variable {prog : Program} {w : World} {A : Around} {E : Value → Shared → Prop} {s : Shared} {Q : Value → Shared → Prop}
theorem join_S {D : Addr} {items : Array Value} {ls : List (List Nat)} {t : Tok} (hl : s.heap.IsList D items) (hi : StrsAre items.toList (ls.map S)) (hz : ls.flatten.length ≤ 16777216)
    (h : ∀ t' k, Q (.str (S ls.flatten) t') { s with toks := k }) : wpAny (model prog w) A (call (.builtin "str.join") [.str (Str.ofString "") t, .ref D]) Q E s := by
  refine join_list hl hi ?_ fun t' k => ?_
  · have e : (ls.map S).map (·.length) = ls.map List.length := by simp [List.map_map, Function.comp_def, S_length]
    rw [e, flatten_len, lit_0, S_length]; simpa using hz
  · have e : Str.ofString "" = Str.empty := by decide +kernel
    rw [e, glued_S]; exact h t' k
theorem isList_news {h₀ h : Heap} {L D : Addr} {items : Array Value} {n : Nat} {news : List (Addr × Obj)} (N : News h₀ L h news) (hm : (D, W.listOf items n) ∈ news) : h.IsList D items := ⟨_, (N _ hm).1, rfl, _, rfl⟩
end

/-! data on the heap -/
inductive All2 {α β : Type} (R : α → β → Prop) : List α → List β → Prop
  | nil : All2 R [] []
  | cons {a : α} {b : β} {as : List α} {bs : List β} : R a b → All2 R as bs → All2 R (a :: as) (b :: bs)
theorem All2.len {α β : Type} {R : α → β → Prop} {as : List α} {bs : List β} (h : All2 R as bs) : as.length = bs.length := by
  induction h with
  | nil => rfl
  | cons _ _ ih => simp [ih]
theorem All2.snoc {α β : Type} {R : α → β → Prop} {as : List α} {bs : List β} (h : All2 R as bs) {a : α} {b : β} (r : R a b) : All2 R (as ++ [a]) (bs ++ [b]) := by
  induction h with
  | nil => exact .cons r .nil
  | cons x _ ih => exact .cons x ih
theorem All2.mono {α β : Type} {R R' : α → β → Prop} {as : List α} {bs : List β} (h : All2 R as bs) (k : ∀ a b, R a b → R' a b) : All2 R' as bs := by
  induction h with
  | nil => exact .nil
  | cons x _ ih => exact .cons (k _ _ x) ih
theorem All2.get {α β : Type} {R : α → β → Prop} {as : List α} {bs : List β} (h : All2 R as bs) {i : Nat} {a : α} (e : as[i]? = some a) : ∃ b, bs[i]? = some b ∧ R a b := by
  induction h generalizing i with
  | nil => simp at e
  | cons x _ ih =>
    cases i with
    | zero => simp at e; subst e; exact ⟨_, rfl, x⟩
    | succ i => exact ih (by simpa using e)
abbrev Nats (row : List Nat) : List Int := row.map (fun n : Nat => (n : Int))
def RowG (G : Addr → Obj → Prop) (v : Value) (row : List Nat) : Prop := ∃ a its n, v = .ref a ∧ G a (W.listOf its n) ∧ IntsAre its.toList (Nats row)
abbrev tupOf (vs : Array Value) (n : Nat) : Obj := { cls := .type "tuple", data := .seq vs n }
def GrpG (G : Addr → Obj → Prop) (v : Value) (g : List Nat × List Nat) : Prop := ∃ a v1 t n, v = .ref a ∧ G a (tupOf #[v1, .str (S g.2) t] n) ∧ RowG G v1 g.1
theorem RowG.mono {G G' : Addr → Obj → Prop} (k : ∀ a o, G a o → G' a o) {v : Value} {row : List Nat} (h : RowG G v row) : RowG G' v row := let ⟨a, its, n, e, g, r⟩ := h; ⟨a, its, n, e, k _ _ g, r⟩
theorem GrpG.mono {G G' : Addr → Obj → Prop} (k : ∀ a o, G a o → G' a o) {v : Value} {g : List Nat × List Nat} (h : GrpG G v g) : GrpG G' v g := let ⟨a, v1, t, n, e, x, r⟩ := h; ⟨a, v1, t, n, e, k _ _ x, r.mono k⟩
theorem grpG_mk {G : Addr → Obj → Prop} {tp : Addr} {v : Value} {mk : Str} {t : Tok} {n : Nat} {g : List Nat × List Nat} (h1 : G tp (tupOf #[v, .str mk t] n)) (e : mk = S g.2) (h2 : RowG G v g.1) : GrpG G (.ref tp) g := by
  subst e; exact ⟨tp, v, t, n, rfl, h1, h2⟩
/-- a ledger's own say -/
abbrev InL (l : List (Addr × Obj)) (a : Addr) (o : Obj) : Prop := (a, o) ∈ l
theorem allLt_all {d : Addr} : ∀ {l : List (Addr × Obj)}, AllLt d l → ∀ p ∈ l, p.1 < d
  | [], _, p, hp => nomatch hp
  | q :: r, h, p, hp => by
    unfold AllLt at h
    rcases List.mem_cons.mp hp with e | hp
    · rw [e]; exact h.1
    · exact allLt_all h.2 p hp

theorem ints_snoc {vs : List Value} {ns : List Int} (h : IntsAre vs ns) (k : Int) (t : Tok) : IntsAre (vs ++ [.int k t]) (ns ++ [k]) := by
  induction h with
  | nil => exact .cons _ _ .nil
  | cons a b _ ih => exact .cons a b ih
/-! the plain reckoning of the groups -/
def octs : List Nat := [97, 90, 55, 32, 45, 47, 42, 33, 43, 95, 61, 63, 34, 44, 59, 46, 9, 10, 92, 0, 127, 160, 233, 255]
def leftAt (left : Int) : Nat → Int
  | 0 => left
  | j + 1 => (leftAt left j).fdiv 24
def rowOf (left : Int) (k : Nat) : List Nat := (List.range k).map fun j => octs.getD ((leftAt left j).fmod 24).toNat 0
def markOf (k : Nat) : List Nat := match k with | 0 => [44, 32] | 1 => [59, 32] | _ => [32]
def groupOf (x : Int) : List Nat × List Nat := (rowOf (x.fdiv 15) ((x.fdiv 3).fmod 5).toNat, markOf (x.fmod 3).toNat)
def xsOf (ns : List Int) : List Int := ns.take 4 ++ [5, 335, 18385, 3606, 185]
def groupsOf (ns : List Int) : List (List Nat × List Nat) := (xsOf ns).map groupOf
theorem rowOf_succ (left : Int) (j : Nat) : rowOf left (j + 1) = rowOf left j ++ [octs.getD ((leftAt left j).fmod 24).toNat 0] := by unfold rowOf; rw [List.range_succ, List.map_append]; rfl
theorem nats_snoc (row : List Nat) (k : Nat) : Nats (row ++ [k]) = Nats row ++ [(k : Int)] := by simp [Nats]
theorem ints_snoc' {vs : List Value} {ns : List Int} (h : IntsAre vs ns) {a k : Int} {t : Tok} (e : a = k) : IntsAre (vs ++ [.int a t]) (ns ++ [k]) := e ▸ ints_snoc h a t
theorem fmod24 (a : Int) : (a.fmod 24).toNat < 24 := by
  have h1 := Int.fmod_nonneg_of_pos a (b := 24) (by omega)
  have h2 := Int.fmod_lt_of_pos a (b := 24) (by omega)
  omega
theorem m_open4 {m m₀ : Str → Option Value} {a b c d : Str} (h : ∀ y, y ∉ [a, b, c, d] → m y = m₀ y) :
    ∃ ua ub uc ud, m = fun y => if y = a then ua else if y = b then ub else if y = c then uc else if y = d then ud else m₀ y := by
  refine ⟨m a, m b, m c, m d, funext fun y => ?_⟩
  split
  · rename_i e; rw [e]
  split
  · rename_i e; rw [e]
  split
  · rename_i e; rw [e]
  split
  · rename_i e; rw [e]
  exact h y (by simp [*])
theorem m_open2 {m m₀ : Str → Option Value} {a b : Str} (h : ∀ y, y ∉ [a, b] → m y = m₀ y) :
    ∃ ua ub, m = fun y => if y = a then ua else if y = b then ub else m₀ y := by
  refine ⟨m a, m b, funext fun y => ?_⟩
  split
  · rename_i e; rw [e]
  split
  · rename_i e; rw [e]
  exact h y (by simp [*])

/-- this file's part of the top is kept -/
theorem fill_here (w : World) (h : Heap) : (KT w.params).In h → PySem.Challenge.rw_qu0026_01 = PySem.Challenge.rw_qu0026_01 := by
  k_fill
  intro _; rfl
theorem ints_get {vs : List Value} {row : List Nat} (hi : IntsAre vs (row.map (fun n : Nat => (n : Int)))) {i : Nat} {v : Value} (hv : vs.toArray[i]? = some v) : ∃ o, row[i]? = some o ∧ ∃ tv, v = .int (o : Int) tv := by
  have hlt : i < (row.map (fun n : Nat => (n : Int))).length := by
    have h1 : i < vs.length := by
      rcases Nat.lt_or_ge i vs.length with q | q
      · exact q
      · simp [q] at hv
    rwa [hi.length] at h1
  have hlt' : i < row.length := by simpa using hlt
  obtain ⟨tv, hx⟩ := hi.get i ((row[i] : Nat) : Int) (by simp [hlt'])
  refine ⟨row[i], by simp [hlt'], tv, ?_⟩
  have : vs[i]? = some v := by simpa using hv
  rw [hx] at this
  exact (Option.some.inj this).symm
end Mine
end
section
open PySem PySem.W PyProof.Rows
set_option linter.all false
set_option maxRecDepth 100000
namespace Mine
theorem slice_to (l : List Nat) (b : Nat) (hb : b ≤ l.length) : Txt.slice (S l) none (some (b : Int)) = S (l.take b) := by
  refine (StrLaws.sliceText_to (x := S l) (j := b) ⟨by omega, by show (b : Int) ≤ l.toArray.toList.length; simp; omega⟩).trans ?_
  simp [S]
theorem slice_from (l : List Nat) (b : Nat) (hb : b ≤ l.length) : Txt.slice (S l) (some (b : Int)) none = S (l.drop b) := by
  refine (StrLaws.sliceText_from (x := S l) (i := b) ⟨by omega, by show (b : Int) ≤ l.toArray.toList.length; simp; omega⟩).trans ?_
  have e : ((l.length : Int) - b).toNat = l.length - b := by omega
  simp [S, e]
  rw [List.take_of_length_le (by simp)]
theorem slice_mid (l : List Nat) (a b : Nat) (hab : a ≤ b) (hb : b ≤ l.length) : Txt.slice (S l) (some (a : Int)) (some (b : Int)) = S ((l.drop a).take (b - a)) := by
  refine (StrLaws.sliceText_nat (S l) hab (by rw [S_length]; exact hb)).trans ?_
  simp [S]
/-- the walk halts here -/
structure Hold (p : Prop) : Prop where
  out : p
section
variable {M : Model} {A : Around} {E : Value → Shared → Prop} {s : Shared} {env : Env}
theorem for_H {target iter body orelse pos} {Q : Flow → Shared → Prop}
    (h : wpAny M A (eval iter env) (fun x s₁ => Hold (wpAny M A (pyIter x) (fun it s₂ =>
      codeAny M A (.forLoop target it body orelse env) (fun r s' => match r with | .ok f => Q f s' | .error e => cameBackBy M A env E e s') s₂) E s₁)) E s)
    (hs : ∀ x, foldedSetIterable iter env x = pure x := by intro _; rfl) : wpAny M A (exec (.For target iter body orelse pos) env) Q E s :=
  wpAny_For (wpAny_mono h (fun _ _ q => q.out) fun _ _ q => q) hs
theorem while_H {test body orelse pos} {Q : Flow → Shared → Prop}
    (h : Hold (codeAny M A (.whileLoop test body orelse env) (fun r s' => match r with | .ok f => Q f s' | .error e => cameBackBy M A env E e s') s)) :
    wpAny M A (exec (.While test body orelse pos) env) Q E s := wpAny_While h.out
end
structure Less (I : Nat → Shared → Prop) (n : Nat) (s : Shared) : Prop where
  ex : ∃ m, m < n ∧ I m s
theorem while_walk {prog : Program} {w : World} {A : Around} {R : Result → Shared → Prop} {s : Shared} {test : Expr} {body orelse : List Stmt} {env : Env} (I : Nat → Shared → Prop)
    (turn : ∀ n s, I n s → wpAny (model prog w) A (isTrue test env (eval test env)) (fun b s₂ =>
        if b then wpAny (model prog w) A (execs body env) (fun f s₃ => match f with
            | .next | .cont => Less I n s₃
            | .brk => R (.ok .next) s₃
            | .ret v => R (.ok (.ret v)) s₃) (fun _ _ => False) s₂
        else wpAny (model prog w) A (execs orelse env) (fun f s₃ => R (.ok f) s₃) (fun _ _ => False) s₂) (fun _ _ => False) s)
    (n : Nat) (h : I n s) : codeAny (model prog w) A (.whileLoop test body orelse env) R s := by
  refine codeAny_whileLoop I (fun n s hI => wpAny_mono (turn n s hI) (fun b s₂ h₂ => ?_) fun _ _ h => h.elim) n h
  cases b with
  | false =>
    simp only [Bool.false_eq_true, if_false] at h₂ ⊢
    exact wpAny_mono h₂ (fun _ _ h => h) fun _ _ h => h.elim
  | true =>
    simp only [if_true] at h₂ ⊢
    refine wpAny_mono h₂ (fun f s₃ h₃ => ?_) fun _ _ h => h.elim
    cases f with
    | next => exact h₃.ex
    | cont => exact h₃.ex
    | brk => exact h₃
    | ret v => exact h₃
end Mine
end
section
open PySem PySem.W PyProof.Rows
set_option linter.all false
set_option maxRecDepth 100000
set_option maxHeartbeats 1000000
namespace Mine
open PySem.Builtin.Re PySem.Builtin
theorem no_call_str : typeLookup (.type "str") "__call__" = pure none := by rw [typeLookup_type, builtinLookup_eq_fast]; kernel_rfl
theorem entry_loop : entryFor table "re.Pattern.sub.loop" = some Builtin.«re.Pattern.sub.loop» := entryFor_of_tree (by kernel_rfl)
theorem loop_plain : plainId "re.Pattern.sub.loop" = true := by decide +kernel
section
variable {prog : Program} {w : World} {A : Around} {E : Value → Shared → Prop} {s : Shared}
theorem under_loop (args : Args) : A.under (.builtin "re.Pattern.sub.loop" args) = A.in1 := Around.under_plainId loop_plain args
theorem loop_quiet (args : Args) : (Code.builtin "re.Pattern.sub.loop" args).quiet = true := plainId_quiet loop_plain args
theorem push_piece {D : Addr} {items : Array Value} {n : Nat} {v : Value} {Q : Unit → Shared → Prop} (ho : s.heap.get? D = some (W.listOf items n)) (hz : items.size ≤ 100000)
    (h : ∀ h' n', h'.get? D = some (W.listOf (items.push v) n') → Heap.SameBut D s.heap h' → Q () { s with heap := h' }) : wpAny (model prog w) A (updateSeq D (·.push v)) Q E s := by
  refine wpAny_updateSeq ho rfl (h _ (n + 1) ?_ (Heap.SameBut.update ..)) (by rw [sizeLine_eq]; omega) (by rw [sizeLine_eq]; simp; omega)
  rw [Heap.get?_update_self _ ho rfl]
  simp [Obj.mapSeq]
theorem slice_S {l : List Nat} {b e : Nat} {Q : Value → Shared → Prop} (hz : l.length ≤ 100000) (h : ∀ t k, Q (.str (S ((l.take e).drop b)) t) { s with toks := k }) : wpAny (model prog w) A (reSlice (S l).cps 0 b e) Q E s := by
  show wpAny _ _ (mkStr ⟨(S l).cps.extract b e⟩) _ _ _
  have e1 : (⟨(S l).cps.extract b e⟩ : PySem.Str) = S ((l.take e).drop b) := by
    unfold S
    congr 1
    apply Array.toList_inj.mp
    simp [List.extract_eq_take_drop, List.drop_take]
  rw [e1]
  exact wpAny_mkStr (h _ _) (by rw [S_length, sizeLine_eq]; simp; omega)
theorem pieces_items {D : Addr} {items : Array Value} {n : Nat} {Q : Option (Array Value) → Shared → Prop} (ho : s.heap.get? D = some (W.listOf items n)) (h : Q (some items) s) : wpAny (model prog w) A (seqItems? (.ref D)) Q E s := by
  unfold seqItems?
  exact wpAny_bind (wpAny_load ho (wpAny_pure h))
abbrev FinR (A : Around) (prog : Program) (w : World) (R : Result → Shared → Prop) (fin : Fin) (s' : Shared) : Prop := match fin with | .done f => R (.ok f) s' | .again c' => c'.quiet = true ∧ codeAny (model prog w) A c' R s'
theorem lit_pass {α : Type} {M : Model} {c : Prop} [Decidable c] {a : Sem Unit} {b : Sem α} {Q : α → Shared → Prop} (ha : c → wpAny M A a (fun _ s' => s' = s) E s) (hb : wpAny M A b Q E s) : wpAny M A (if c then (do a; b) else b) Q E s := by
  by_cases h : c
  · rw [if_pos h]
    refine wpAny_bind (wpAny_mono (ha h) (fun _ s' e => ?_) fun _ _ e => e)
    subst e; exact hb
  · rw [if_neg h]; exact hb
theorem lit_turn {x : PySem.Str} {t : Tok} : wpAny (model prog w) A (reLiteralCannotBeTurned (.str x t)) (fun _ s' => s' = s) E s := by
  unfold reLiteralCannotBeTurned
  refine wpAny_bind (m := asStr? _) (wpAny_pure ?_)
  dsimp only [Option.isNone]
  rw [if_neg (by decide)]
  exact wpAny_pure rfl
theorem loop_end {pa D : Addr} {code : Array Nat} {g ep n : Nat} {l : List Nat} {items : Array Value} {ls : List (List Nat)} {t : Tok} {p : Nat} {way : Int} {must wc : Bool} {k : Nat} {repl : Value} {R : Result → Shared → Prop} (P : PatAt s.heap pa code g) (hr : way = 0 → ∃ x t, repl = .str x t)
    (hD : s.heap.get? D = some (W.listOf items ep)) (hi : StrsAre items.toList (ls.map S)) (hz : items.size ≤ 10000) (hl : l.length ≤ 100000) (hs : ls.flatten.length + l.length ≤ 1000000) (hne : items.size ≠ 0 ∨ p < l.length)
    (hp : p ≤ l.length) (H : Ends k (Sre.forSearch code (S l).cps g p (S l).cps.size must) Miss) (hk : k ≤ 2 ^ 60)
    (h : ∀ h' t' tk, Heap.SameBut D s.heap h' → wpAny (model prog w) A.in1 (if wc = true then (do let v ← holding [.str (S (ls.flatten ++ l.drop p)) t'] (do newTuple [.str (S (ls.flatten ++ l.drop p)) t', ← mkInt n]); ret v) else ret (.str (S (ls.flatten ++ l.drop p)) t') : Sem Fin) (FinR A prog w R) E { s with heap := h', toks := tk }) :
    wpAny (model prog w) A.in1 (Builtin.«re.Pattern.sub.loop» ⟨[.ref pa, .str (S l) t, repl, rawInt way, rawInt 0, rawInt n, rawInt p, rawInt p, .bool must, .ref D, .bool wc], []⟩) (FinR A prog w R) E s := by
  unfold Builtin.«re.Pattern.sub.loop»
  dsimp only [rawInt]
  refine wpAny_bind (whole_target P ?_)
  dsimp only
  have hxs : (S l).cps.size = l.length := by show l.toArray.size = _; simp
  refine lit_pass (fun hw => ?_) ?_
  · obtain ⟨x, t2, rfl⟩ := hr (by simpa using hw)
    exact lit_turn
  refine wpAny_bind ?_
  rw [if_neg (by simp)]
  unfold reNextFound
  refine run_ends H (by omega) fun m' hm => .inr ⟨hm, ?_⟩
  dsimp only
  rw [Int.toNat_natCast]
  have join : ∀ (s₁ : Shared) (items₁ : Array Value) (ep₁ : Nat) (ls₁ : List (List Nat)), s₁.heap.get? D = some (W.listOf items₁ ep₁) → StrsAre items₁.toList (ls₁.map S) → items₁.size ≠ 0 → ls₁.flatten.length ≤ 2000000 → ls₁.flatten = ls.flatten ++ l.drop p →
      (∃ h' tk, Heap.SameBut D s.heap h' ∧ s₁ = { s with heap := h', toks := tk }) →
      wpAny (model prog w) A.in1 (do
        let joiner ← reSlice (S l).cps 0 0 0
        let items ← seqItems? (.ref D)
        if (items.getD #[]).isEmpty = true then
          (do let text ← pure joiner; if wc = true then (do let v ← holding [text] (do newTuple [text, ← mkInt n]); ret v) else ret text)
        else (do let text ← call (.builtin (if (0 == 0) = true then "str.join" else "bytes.join")) [joiner, .ref D]; if wc = true then (do let v ← holding [text] (do newTuple [text, ← mkInt n]); ret v) else ret text) : Sem Fin) (FinR A prog w R) E s₁ := by
    rintro s₁ items₁ ep₁ ls₁ h1 h2 h3 h4 h5 ⟨h', tk, hb, rfl⟩
    refine wpAny_bind (slice_S (by omega) fun t1 k1 => ?_)
    refine wpAny_bind (pieces_items (items := items₁) (n := ep₁) h1 ?_)
    rw [if_neg (by simpa using h3)]
    refine wpAny_bind ?_
    have e0 : S (List.drop 0 (List.take 0 l)) = Str.ofString "" := by rw [lit_0]; simp
    rw [e0]
    refine join_S (items := items₁) (ls := ls₁) ⟨_, h1, rfl, _, rfl⟩ h2 (by omega) fun t2 k2 => ?_
    rw [h5]
    exact h h' t2 k2 hb
  by_cases hlt : p < (S l).cps.size
  · rw [if_pos hlt]
    refine wpAny_bind (slice_S hl fun t1 k1 => ?_)
    refine wpAny_bind (push_piece (items := items) (n := ep) hD (by omega) fun h1 n1 h1D h1b => ?_)
    have e1 : List.drop p (List.take (S l).cps.size l) = l.drop p := by rw [hxs, List.take_length]
    rw [e1] at h1D
    refine join _ _ _ (ls ++ [l.drop p]) h1D ?_ (by simp) ?_ (by simp) ⟨h1, k1, h1b, rfl⟩
    · rw [Array.toList_push, List.map_append]; exact strs_snoc hi _ _
    · simp only [List.flatten_append, List.length_append, List.flatten_cons, List.flatten_nil, List.append_nil, List.length_drop]; omega
  · rw [if_neg hlt]
    have e1 : l.drop p = [] := List.drop_eq_nil_of_le (by omega)
    exact join _ items ep ls hD hi (hne.resolve_right (by omega)) (by omega) (by rw [e1]; simp) ⟨s.heap, s.toks, Heap.SameBut.refl _ _, rfl⟩
/-- what stood in g0 stands in h, and D is no thing of g0's -/
structure Base (g0 : Heap) (D : Addr) (h : Heap) : Prop where
  keep : ∀ b o, g0.get? b = some o → b ≠ D ∧ h.get? b = some o
  size : g0.objs.size ≤ h.objs.size
theorem Base.same {g0 h h' : Heap} {D : Addr} (B : Base g0 D h) (b : Heap.SameBut D h h') : Base g0 D h' :=
  ⟨fun a o e => ⟨(B.keep a o e).1, (b.2 a (B.keep a o e).1).trans (B.keep a o e).2⟩, by rw [b.1]; exact B.size⟩
theorem Base.ext {g0 h h' : Heap} {D : Addr} (B : Base g0 D h) (k : ∀ b o, h.get? b = some o → h'.get? b = some o) (hs : h.objs.size ≤ h'.objs.size) : Base g0 D h' :=
  ⟨fun a o e => ⟨(B.keep a o e).1, k _ _ (B.keep a o e).2⟩, Nat.le_trans B.size hs⟩
theorem Base.mk' (g0 : Heap) (o : Obj) : Base g0 g0.objs.size (g0.push o) :=
  ⟨fun a x e => ⟨Nat.ne_of_lt (Heap.lt_size e), Heap.get?_push_of_some _ e⟩, by simp [Heap.push]⟩
theorem Base.fresh {g0 h : Heap} {D : Addr} (B : Base g0 D h) : g0.get? h.objs.size = none := by
  cases e' : g0.get? h.objs.size with
  | none => rfl
  | some o => exact absurd (Nat.lt_of_lt_of_le (Heap.lt_size e') B.size) (Nat.lt_irrefl _)
theorem PatAt.base {g0 h : Heap} {D pa g : Nat} {code : Array Nat} (P : PatAt g0 pa code g) (B : Base g0 D h) : PatAt h pa code g := P.keeps fun b o e => (B.keep b o e).2
theorem loop_lit {pa D : Addr} {code : Array Nat} {g ep : Nat} {n : Int} {l : List Nat} {items : Array Value} {t : Tok} {p st q : Nat} {way : Int} {must wc : Bool} {k : Nat} {x : PySem.Str} {tx : Tok} {R : Result → Shared → Prop} (P : PatAt s.heap pa code g) (hw : way = 0)
    (hD : s.heap.get? D = some (W.listOf items ep)) (hz : items.size ≤ 10000) (hl : l.length ≤ 100000) (hp : st ≤ p)
    (H : Ends k (Sre.forSearch code (S l).cps g p (S l).cps.size must) (Hit0 st q)) (hk : k ≤ 2 ^ 60)
    (h : ∀ h' ep', h'.get? D = some (W.listOf (items.push (.str x tx)) ep') → Heap.SameBut D s.heap h' →
      codeAny (model prog w) A (.builtin "re.Pattern.sub.loop" ⟨[.ref pa, .str (S l) t, .str x tx, rawInt way, rawInt 0, rawInt (n + 1), rawInt q, rawInt q, .bool (q == st), .ref D, .bool wc], []⟩) R { s with heap := h' }) :
    wpAny (model prog w) A.in1 (Builtin.«re.Pattern.sub.loop» ⟨[.ref pa, .str (S l) t, .str x tx, rawInt way, rawInt 0, rawInt n, rawInt p, rawInt p, .bool must, .ref D, .bool wc], []⟩) (FinR A prog w R) E s := by
  unfold Builtin.«re.Pattern.sub.loop»
  dsimp only [rawInt]
  refine wpAny_bind (whole_target P ?_)
  dsimp only
  refine lit_pass (fun _ => lit_turn) ?_
  refine wpAny_bind ?_
  rw [if_neg (by simp)]
  unfold reNextFound
  refine run_ends H (by omega) fun m' hm => .inl ⟨hm.1, ?_⟩
  obtain ⟨_, e1, e2, e3, e4, e5⟩ := hm
  have hww : (way == 0) = true := by simpa using hw
  dsimp only
  rw [Int.toNat_natCast, if_neg (by rw [e1]; omega), if_pos hww]
  refine wpAny_bind (wpAny_pure ?_)
  rw [if_pos (by simp)]
  refine wpAny_bind (push_piece (items := items) (n := ep) hD (by omega) fun g2 n2 hD2 hb2 => ?_)
  rw [e1, e2]
  exact wpAny_pure ⟨loop_quiet _, h g2 n2 hD2 hb2⟩
theorem junk_rounds {g0 : Heap} {pa D : Addr} {junk rest : List Nat} {t t1 : Tok} {way : Int} {n p : Nat} {R : Result → Shared → Prop} (P : PatAt g0 pa cJunk 0) (h0 : junk ≠ []) (h1 : ∀ x ∈ junk, pJunk x = true) (h2 : ∀ x ∈ rest.head?, pJunk x = false) (hl : (junk ++ rest).length ≤ 100000)
    (B : Base g0 D s.heap) (hD : s.heap.get? D = some (W.listOf #[] 0)) (hw : way = 0) (hn : n = 0) (hp : p = 0)
    (h : ∀ h' T t' t'' tk, (∀ b o, g0.get? b = some o → h'.get? b = some o) → h'.get? T = some (tupOf #[.str (S rest) t', .int 1 t''] 0) → g0.objs.size ≤ T → R (.ok (.ret (.ref T))) { s with heap := h', toks := tk }) :
    wpAny (model prog w) A.in1 (Builtin.«re.Pattern.sub.loop» ⟨[.ref pa, .str (S (junk ++ rest)) t, .str (Str.ofString "") t1, rawInt way, rawInt 0, rawInt n, rawInt p, rawInt p, .bool false, .ref D, .bool true], []⟩) (FinR A prog w R) E s := by
  have hxs : (S (junk ++ rest)).cps.size = (junk ++ rest).length := by show (junk ++ rest).toArray.size = _; simp
  have hj0 : 0 < junk.length := List.length_pos_iff.mpr h0
  have hjl : (junk ++ rest).length = junk.length + rest.length := List.length_append
  have H := junk_hit junk rest h1 h2 (Nat.le_trans hl (by decide))
  rw [show (junk ++ rest).toArray = (S (junk ++ rest)).cps from rfl, ← hxs, ← hp] at H
  rw [hp] at H
  refine loop_lit (n := (n : Int)) (l := junk ++ rest) (p := p) (items := #[]) (ep := 0) (k := 20) (P.base B) hw hD (by simp) hl (Nat.zero_le p) (by rw [hp]; exact H) (by decide) fun g2 n2 hD2 hb2 => ?_
  have hne : (junk.length == 0) = false := by simpa using h0
  rw [hne]
  refine codeAny_builtin entry_loop ?_
  rw [under_loop]
  have B2 := B.same hb2
  have en : rawInt ((n : Int) + 1) = rawInt ((1 : Nat) : Int) := by rw [hn]; rfl
  rw [en]
  refine loop_end (s := { s with heap := g2 }) (ep := n2) (n := 1) (l := junk ++ rest) (items := #[.str (Str.ofString "") t1]) (ls := [[]]) (way := way) (wc := true) (k := 2 * (S (junk ++ rest)).cps.size + 20) (P.base B2) (fun _ => ⟨_, _, rfl⟩) hD2 ?_ (by simp) hl (by simp; omega) (.inl (by simp)) (p := junk.length) (by omega) ?_ (by omega) ?_
  · rw [lit_0]
    exact StrsAre.cons _ _ .nil
  · exact junk_miss (by omega) hj0
  · intro g3 t' tk hb3
    have hdrop : ([[]] : List (List Nat)).flatten ++ List.drop junk.length (junk ++ rest) = rest := by simp
    rw [hdrop, if_pos rfl]
    refine wpAny_bind (wpAny_holding (wpAny_bind (wpAny_mkInt (wpAny_newTuple ?_ (by show 2 ≤ sizeLine; decide)))))
    refine wpAny_pure ?_
    have B3 := B2.same hb3
    exact h _ _ _ _ _ (fun b o e => Heap.get?_push_of_some _ (B3.keep b o e).2) (Heap.get?_push_size _ rfl) B3.size
theorem subn_junk {pa : Addr} {junk rest : List Nat} {t t1 : Tok} {Q : Value → Shared → Prop} (P : PatAt s.heap pa cJunk 0) (h0 : junk ≠ []) (h1 : ∀ x ∈ junk, pJunk x = true) (h2 : ∀ x ∈ rest.head?, pJunk x = false) (hl : (junk ++ rest).length ≤ 100000)
    (h : ∀ h' T t' t'' tk, (∀ b o, s.heap.get? b = some o → h'.get? b = some o) → h'.get? T = some (tupOf #[.str (S rest) t', .int 1 t''] 0) → s.heap.objs.size ≤ T → Q (.ref T) { s with heap := h', toks := tk }) :
    wpAny (model prog w) A (call (.builtin "re.Pattern.subn") [.ref pa, .str (Str.ofString "") t1, .str (S (junk ++ rest)) t]) Q E s := by
  have hx : (S (junk ++ rest)).cps = (junk ++ rest).toArray := rfl
  have hxs : (S (junk ++ rest)).cps.size = (junk ++ rest).length := by rw [hx]; simp
  have hj0 : 0 < junk.length := List.length_pos_iff.mpr h0
  have hjl : (junk ++ rest).length = junk.length + rest.length := List.length_append
  refine wpAny_call (codeAny_call_builtin slot_subn.plain entry_subn (slot_subn.check _ _ _ _ _ _ _ _ (pat_type P) (args_subn _ _ _) ?_))
  unfold Builtin.«re.Pattern.subn» reSubstitute
  dsimp only
  rw [named_subn]
  refine wpAny_bind (wpAny_pure ?_)
  dsimp only
  refine wpAny_bind (wpAny_pure ?_)
  unfold specialOf
  refine wpAny_bind (wpAny_bind (wpAny_typeOf (T := "str") rfl (wpAny_of_eq no_call_str ?_)))
  dsimp only [Option.isSome]
  rw [if_neg (by decide)]
  refine wpAny_bind (m := asStr? _) (wpAny_pure ?_)
  dsimp only
  have hnb : (!(Str.ofString "").cps.contains 92) = true := by decide +kernel
  rw [hnb]
  refine wpAny_bind (wpAny_pure ?_)
  rw [if_neg (by decide), if_pos rfl]
  refine wpAny_bind (wpAny_pure ?_)
  dsimp only
  refine wpAny_bind (wpAny_holding (whole_target P ?_))
  rw [if_neg (by decide)]
  refine wpAny_bind (wpAny_newList ?_ (by decide +kernel))
  refine wpAny_pure ⟨loop_quiet _, codeAny_builtin entry_loop ?_⟩
  rw [under_loop]
  exact junk_rounds (R := fun r s' => match r with | .ok (.ret v) => Q v s' | .ok _ => False | .error e => E e s') (s := { s with heap := s.heap.push (W.listOf #[] 0) }) (way := 0) (n := 0) (p := 0) P h0 h1 h2 hl (Base.mk' _ _) (Heap.get?_push_size _ rfl) rfl rfl rfl h
end
end Mine
end
section
open PySem PySem.W PyProof.Rows
set_option linter.all false
set_option maxRecDepth 100000
namespace Mine
open PySem.Builtin.Re
theorem fill_P8 (w : World) (h : Heap) : (KT w.params).In h → PySem.Challenge.rw_qu0026_01 = PySem.Challenge.rw_qu0026_01 := by
  k_fill
  intro _; rfl
theorem pat_tok {P : Params} {h : Heap} (X : (KT P).In h) : PatAt h 48 cTok 1 := ⟨_, _, 47, _, _, _, X 48 _ (by k_is), rfl, rfl, rfl, rfl, X 47 _ (by k_is), rfl, by decide +kernel, rfl, rfl⟩
theorem pat_quo {P : Params} {h : Heap} (X : (KT P).In h) : PatAt h 53 cQuo 1 := ⟨_, _, 52, _, _, _, X 53 _ (by k_is), rfl, rfl, rfl, rfl, X 52 _ (by k_is), rfl, by decide +kernel, rfl, rfl⟩
theorem pat_val {P : Params} {h : Heap} (X : (KT P).In h) : PatAt h 58 cVal 1 := ⟨_, _, 57, _, _, _, X 58 _ (by k_is), rfl, rfl, rfl, rfl, X 57 _ (by k_is), rfl, by decide +kernel, rfl, rfl⟩
theorem pat_junk {P : Params} {h : Heap} (X : (KT P).In h) : PatAt h 36 cJunk 0 := ⟨_, _, 35, _, _, _, X 36 _ (by k_is), rfl, rfl, rfl, rfl, X 35 _ (by k_is), rfl, by decide +kernel, rfl, rfl⟩
theorem pat_dec {P : Params} {h : Heap} (X : (KT P).In h) : PatAt h 75 cDec 0 := ⟨_, _, 74, _, _, _, X 75 _ (by k_is), rfl, rfl, rfl, rfl, X 74 _ (by k_is), rfl, by decide +kernel, rfl, rfl⟩
theorem cps_size (l : List Nat) : (S l).cps.size = l.length := by show l.toArray.size = _; simp
theorem no_at {h : Heap} {T : Addr} (hn : h.objs.size ≤ T) : h.get? T = none := by
  cases e : h.get? T with
  | none => rfl
  | some o => exact absurd (Heap.lt_size e) (Nat.not_lt.mpr hn)
section
variable {prog : Program} {w : World} {A : Around} {E : Value → Shared → Prop} {h : Heap} {g : Array GenState} {d : Drawn} {tk : Nat} {os : OsState} {h₀ : Heap} {L : Addr} {m : PySem.Str → Option Value} {news : List (Addr × Obj)}
theorem searchHit_K {pa : Addr} {code : Array Nat} {l : List Nat} {t : Tok} {k a b e : Nat} {Q : Value → Shared → Prop} (F : Fr h₀ L h m) (N : News h₀ L h news) (P : PatAt h pa code 1) (hl : l.length ≤ 100000) (hk : k ≤ 2 ^ 60) (he : e ≤ b)
    (H : Ends k (Sre.forSearch code (S l).cps 1 0 (S l).cps.size false) (Hit a b e))
    (hq : ∀ M' T' h', Fr h₀ L h' m → News h₀ L h' ((M', matObj (S l) t pa (S l).cps.size 1 T') :: (T', spanObj a b e) :: news) → (∀ p ∈ news, p.1 < T') → (∀ p ∈ (T', spanObj a b e) :: news, p.1 < M') → Q (.ref M') ⟨h', g, d, tk, os⟩) :
    wpAny (model prog w) A (call (.builtin "re.Pattern.search") [.ref pa, .str (S l) t]) Q E ⟨h, g, d, tk, os⟩ := by
  refine search_hit (s := ⟨h, g, d, tk, os⟩) P (by rw [cps_size]; omega) hk he H ?_
  have e1 : (h.push (spanObj a b e)).objs.size = h.objs.size + 1 := by simp [Heap.push]
  have N1 := N.push F (spanObj a b e) rfl
  have F1 := F.push (spanObj a b e)
  have N2 := N1.push F1 (matObj (S l) t pa (S l).cps.size 1 h.objs.size) rfl
  rw [e1] at N2
  have hlt : ∀ p ∈ news, p.1 < h.objs.size := fun p hp => Heap.lt_size (N p hp).1
  refine hq _ _ _ (F1.push _) N2 hlt fun p hp => ?_
  rcases List.mem_cons.mp hp with e | hp
  · rw [e]; exact Nat.lt_succ_self _
  · exact Nat.lt_succ_of_lt (hlt p hp)
theorem searchMiss_K {pa : Addr} {code : Array Nat} {n : Nat} {l : List Nat} {t : Tok} {k : Nat} {Q : Value → Shared → Prop} (P : PatAt h pa code n) (hl : l.length ≤ 100000) (hk : k ≤ 2 ^ 60)
    (H : Ends k (Sre.forSearch code (S l).cps n 0 (S l).cps.size false) Miss) (hq : Q .none ⟨h, g, d, tk, os⟩) :
    wpAny (model prog w) A (call (.builtin "re.Pattern.search") [.ref pa, .str (S l) t]) Q E ⟨h, g, d, tk, os⟩ :=
  search_miss (s := ⟨h, g, d, tk, os⟩) P (by rw [cps_size]; omega) hk H hq
theorem group_K {ma ta pa : Addr} {l r : List Nat} {t u : Tok} {n a b e : Nat} {li : Int} {Q : Value → Shared → Prop} (N : News h₀ L h news) (hm : (ma, matObj (S l) t pa n li ta) ∈ news) (ht : (ta, spanObj a b e) ∈ news) (hl : l.length ≤ 100000) (hr : (l.drop e).take (b - e) = r)
    (hq : ∀ t' k, Q (.str (S r) t') ⟨h, g, d, k, os⟩) : wpAny (model prog w) A (call (.builtin "re.Match.group") [.ref ma, .int 1 u]) Q E ⟨h, g, d, tk, os⟩ := by
  refine group_call (s := ⟨h, g, d, tk, os⟩) (N _ hm).1 (N _ ht).1 (by rw [cps_size]; omega) fun t' k => ?_
  have e1 : (⟨(S l).cps.extract e b⟩ : PySem.Str) = S r := by
    rw [← hr]
    unfold S
    congr 1
    apply Array.toList_inj.mp
    simp [List.extract_eq_take_drop]
  rw [e1]; exact hq _ _
theorem subn_K {pa : Addr} {junk rest : List Nat} {t t1 : Tok} {Q : Value → Shared → Prop} (F : Fr h₀ L h m) (N : News h₀ L h news) (P : PatAt h pa cJunk 0) (h0 : junk ≠ []) (h1 : ∀ x ∈ junk, pJunk x = true) (h2 : ∀ x ∈ rest.head?, pJunk x = false) (hl : (junk ++ rest).length ≤ 100000)
    (hq : ∀ T' h' t' t'' k, Fr h₀ L h' m → News h₀ L h' ((T', tupOf #[.str (S rest) t', .int 1 t''] 0) :: news) → (∀ p ∈ news, p.1 < T') → Q (.ref T') ⟨h', g, d, k, os⟩) :
    wpAny (model prog w) A (call (.builtin "re.Pattern.subn") [.ref pa, .str (Str.ofString "") t1, .str (S (junk ++ rest)) t]) Q E ⟨h, g, d, tk, os⟩ :=
  subn_junk (s := ⟨h, g, d, tk, os⟩) P h0 h1 h2 hl fun h' T t' t'' k he hT hn => hq T h' t' t'' k (Fr.ext F he) (News.add F N he hT (no_at hn)) fun p hp => Nat.lt_of_lt_of_le (Heap.lt_size (N p hp).1) hn
theorem ret_K {f : Value} {args : List Value} {P : Value → Heap → Prop} {Q : Value → Shared → Prop} (F : Fr h₀ L h m) (N : News h₀ L h news) (c : codeAny (model prog w) A (.call f ⟨args, []⟩) (RetIs ⟨h, g, d, tk, os⟩ P) ⟨h, g, d, tk, os⟩)
    (hq : ∀ v h' k, Fr h₀ L h' m → News h₀ L h' news → Ext h h' → P v h' → Q v ⟨h', g, d, k, os⟩) : wpAny (model prog w) A (call f args) Q E ⟨h, g, d, tk, os⟩ := by
  refine wpAny_call (codeAny_mono c fun r s' hr => ?_)
  obtain ⟨v, h', k, rfl, rfl, he, hp⟩ := hr
  exact hq v h' k (Fr.ext F he) (News.ext N he) he hp
end
end Mine
end
section
open PySem PySem.W PyProof.Rows
set_option linter.all false
set_option maxRecDepth 100000
set_option maxHeartbeats 8000000
namespace Mine
open PySem.Builtin.Re
theorem fill_W4 (w : World) (h : Heap) : (KT w.params).In h → PySem.Challenge.rw_qu0026_01 = PySem.Challenge.rw_qu0026_01 := by
  k_fill
  intro _; rfl
theorem at_ext {h h' : Heap} {a : Addr} {o : Obj} (e : h.get? a = some o) (k : ∀ b o, h.get? b = some o → h'.get? b = some o) : h'.get? a = some o := k _ _ e
section
variable {prog : Program} {w : World} {A : Around} {E : Value → Shared → Prop} {h : Heap} {g : Array GenState} {d : Drawn} {tk : Nat} {os : OsState} {h₀ : Heap} {L : Addr} {m : PySem.Str → Option Value} {news : List (Addr × Obj)}
theorem span_K {ma ta pa : Addr} {x : PySem.Str} {t u : Tok} {n a b e : Nat} {li : Int} {Q : Value → Shared → Prop} (F : Fr h₀ L h m) (N : News h₀ L h news) (hm : h.get? ma = some (matObj x t pa n li ta)) (ht : h.get? ta = some (spanObj a b e))
    (hq : ∀ q h' t1 t2 k, Fr h₀ L h' m → News h₀ L h' ((q, tupOf #[.int a t1, .int b t2] 0) :: news) → Q (.ref q) ⟨h', g, d, k, os⟩) :
    wpAny (model prog w) A (call (.builtin "re.Match.span") [.ref ma, .int 0 u]) Q E ⟨h, g, d, tk, os⟩ :=
  span_call (s := ⟨h, g, d, tk, os⟩) hm ht fun t1 t2 k => hq _ _ t1 t2 k (F.push _) (N.push F _ rfl)
theorem string_K {ma ta pa : Addr} {x : PySem.Str} {t : Tok} {n : Nat} {li : Int} {ex : Bool} {Q : Value → Shared → Prop} (hm : h.get? ma = some (matObj x t pa n li ta)) (hq : ∀ k, Q (.str x t) ⟨h, g, d, k, os⟩) :
    wpAny (model prog w) A (getAttr (.ref ma) "string" ex) Q E ⟨h, g, d, tk, os⟩ := string_attr (s := ⟨h, g, d, tk, os⟩) hm hq
end
local macro_rules | `(tactic| walk_at "dummy1") => `(tactic| skip)
local macro_rules | `(tactic| walk_at "dummy0") => `(tactic| skip)
local macro_rules | `(tactic| walk_at "mysize") => `(tactic| (simp only [sizeLine_eq, lit_a, lit_b, lit_c, lit_e, lit_0, S_length, mk_len, empty_len, len_app, List.length_cons, List.length_nil, List.length_drop, List.length_take]; omega))
local macro_rules | `(tactic| size_fits) => `(tactic| walk_at "mysize")
local macro_rules | `(tactic| walk_at "getMethod ref") => `(tactic| (refine gm_span (at_ext (by assumption) (Fr.keep (by k_asm))) ?_))
local macro_rules | `(tactic| walk_at "call builtin:re.Match.span") => `(tactic| ((try dsimp only [List.cons_append, List.nil_append]); (refine' span_K ?k1 ?k2 ?k3 ?k4 ?_; (case k1 => k_asm); (case k2 => k_asm); (case k3 => exact at_ext (by assumption) (Fr.keep (by k_asm))); (case k4 => exact at_ext (by assumption) (Fr.keep (by k_asm)))); intro q' h' t1' t2' k' F' N'))
local macro_rules | `(tactic| walk_at "getAttr ref") => `(tactic| (refine string_K (at_ext (by assumption) (Fr.keep (by k_asm))) ?_; intro k'))
local macro_rules | `(tactic| walk_at "binaryOp Add str str") => `(tactic| (refine' add_str ?_ ?z; (case z => walk_at "mysize"); intro t' k'))
theorem unm_call {w : World} {p : Program} {loose : List Str} {mean : ExcName → Option Value} {mg mb : Str → Option Value} {A : Around} {s : Shared} {ma ta pa : Addr} {l : List Nat} {t : Tok} {n b e : Nat} {li : Int}
    (X : (KT w.params).In s.heap) (T : Top p loose mean mg mb s.heap) (hA : A.handled = none) (hA' : A.depth < 900)
    (hm : s.heap.get? ma = some (matObj (S l) t pa n li ta)) (ht : s.heap.get? ta = some (spanObj 0 b e)) (hb : b ≤ l.length) (hl : l.length ≤ 100000) :
    codeAny (model PR w) A (.call (.ref 43) ⟨[.ref ma], []⟩) (RetIs s fun v _ => ∃ t', v = .str (S (l.drop b)) t') s := by
  obtain ⟨hnd, dep, frs, gds, uts⟩ := A
  obtain rfl : hnd = none := hA
  refine codeAny_call_def (fd := fnOf _ _ _ _ _ _ _ _ _ _ _ _) (Nat.lt_trans hA' (by decide)) (X 43 _ (by k_is)) rfl T.nolimit (codeRec_of X (by k_is)) rfl (BindsTo.of_eq rfl) (by decide) (locs rfl) (fun h₁ hns hk => ?_)
  have F : Fr s.heap s.heap.objs.size h₁ (fun x => _) := ⟨hns, hk, Nat.le_refl _⟩
  have N : News s.heap s.heap.objs.size h₁ [] := News.nil
  clear hns hk
  refine wpAny_mono (E := fun _ _ => False) ?_ (fun _ _ h => h) (fun _ _ h => h.elim)
  w_on
  k_steps
  dsimp only
  rw [show (some ((0 : Nat) : Int)) = some (((0 : Nat) : Nat) : Int) from rfl, slice_to l 0 (Nat.zero_le _), slice_from l b hb]
  k_steps
  rename Fr _ _ _ _ => F3
  refine RetIs.mk F3 (Exists.intro _ (congrArg (fun x => Value.str x _) ?_))
  rw [S_append, List.take_zero, List.nil_append]
end Mine
end
section
open PySem PySem.W PyProof.Rows
set_option linter.all false
set_option maxRecDepth 100000
namespace Mine
abbrev Pair := List Nat × List Nat
inductive Run : Nat → List Nat → List Pair → List (List Pair) → List (List Pair) → Prop
  | done {n : Nat} {cur : List Pair} {res : List (List Pair)} : Run n [] cur res (if cur = [] then res else res ++ [cur])
  | tok {n : Nat} {tok sp val rest : List Nat} {cur : List Pair} {res out : List (List Pair)} (h0 : tok ≠ []) (h1 : ∀ x ∈ tok, pTok x = true) (h2 : ∀ x ∈ sp, pSp x = true) (h3 : ∀ x ∈ val, pVal x = true) (h4 : ∀ x ∈ rest.head?, pVal x = false)
      (h5 : val = [] → ∀ x ∈ rest.head?, pSp x = false) (h6 : ∀ x ∈ (val ++ rest).head?, x ≠ 34) (k : Run n rest (cur ++ [(tok, val)]) res out) : Run (n + 1) (tok ++ (61 :: sp ++ val ++ rest)) cur res out
  | comma {n : Nat} {ws rest : List Nat} {cur : List Pair} {res out : List (List Pair)} (h1 : ∀ x ∈ ws, pSp x = true) (k : Run n rest [] (if cur = [] then res else res ++ [cur]) out) : Run (n + 1) (ws ++ 44 :: rest) cur res out
  | junk {n : Nat} {ws r junk rest : List Nat} {cur : List Pair} {res out : List (List Pair)} (h0 : junk ≠ []) (h1 : ∀ x ∈ junk, pJunk x = true) (h2 : ∀ x ∈ rest.head?, pJunk x = false) (he : junk ++ rest = ws ++ r) (hw : ∀ x ∈ ws, pSp x = true)
      (hr : ∀ x ∈ r.head?, pTok x = false ∧ pSp x = false ∧ x ≠ 44) (k : Run n rest cur res out) : Run (n + 1) (junk ++ rest) cur res out
def PairG (G : Addr → Obj → Prop) (v : Value) (p : Pair) : Prop := ∃ a t1 t2 n, v = .ref a ∧ G a (tupOf #[.str (S p.1) t1, .str (S p.2) t2] n)
def ListG (G : Addr → Obj → Prop) (v : Value) (ps : List Pair) : Prop := ∃ a its n, v = .ref a ∧ G a (W.listOf its n) ∧ All2 (PairG G) its.toList ps
theorem PairG.mono {G G' : Addr → Obj → Prop} (k : ∀ a o, G a o → G' a o) {v : Value} {p : Pair} (h : PairG G v p) : PairG G' v p := let ⟨a, t1, t2, n, e, x⟩ := h; ⟨a, t1, t2, n, e, k _ _ x⟩
theorem ListG.mono {G G' : Addr → Obj → Prop} (k : ∀ a o, G a o → G' a o) {v : Value} {p : List Pair} (h : ListG G v p) : ListG G' v p := let ⟨a, its, n, e, x, r⟩ := h; ⟨a, its, n, e, k _ _ x, r.mono fun _ _ q => q.mono k⟩
section
variable {w : World} {A : Around} {E : Value → Shared → Prop} {h : Heap} {g : Array GenState} {d : Drawn} {tk : Nat} {os : OsState} {h₀ : Heap} {L : Addr} {m : PySem.Str → Option Value} {news : List (Addr × Obj)}
theorem unm_K {p : Program} {loose : List PySem.Str} {mean : ExcName → Option Value} {mg mb : PySem.Str → Option Value} {ma ta pa : Addr} {l r : List Nat} {t : Tok} {n b e : Nat} {li : Int} {Q : Value → Shared → Prop} (X : (KT w.params).In h₀) (T : Top p loose mean mg mb h₀) (hA : A.handled = none) (hA' : A.depth < 900)
    (F : Fr h₀ L h m) (N : News h₀ L h news) (hm : (ma, matObj (S l) t pa n li ta) ∈ news) (ht : (ta, spanObj 0 b e) ∈ news) (hl : l.length ≤ 100000) (hb : b ≤ l.length) (hr : l.drop b = r)
    (hq : ∀ t' h' k, Fr h₀ L h' m → News h₀ L h' news → Q (.str (S r) t') ⟨h', g, d, k, os⟩) : wpAny (model PR w) A (call (.ref 43) [.ref ma]) Q E ⟨h, g, d, tk, os⟩ := by
  refine ret_K F N (unm_call (s := ⟨h, g, d, tk, os⟩) (X.keeps F.keep) (T.keeps F.keep) hA hA' (N _ hm).1 (N _ ht).1 hb hl) fun v h' k F' N' _ hv => ?_
  obtain ⟨t', rfl⟩ := hv
  rw [hr]
  exact hq t' h' k F' N'
end
theorem m_open8 {m m₀ : PySem.Str → Option Value} {a b c d e f i j : PySem.Str} (h : ∀ y, y ∉ [a, b, c, d, e, f, i, j] → m y = m₀ y) :
    ∃ ua ub uc ud ue uf ui uj, m = fun y => if y = a then ua else if y = b then ub else if y = c then uc else if y = d then ud else if y = e then ue else if y = f then uf else if y = i then ui else if y = j then uj else m₀ y := by
  refine ⟨m a, m b, m c, m d, m e, m f, m i, m j, ?_⟩
  funext y
  split
  · rename_i q; rw [q]
  split
  · rename_i q; rw [q]
  split
  · rename_i q; rw [q]
  split
  · rename_i q; rw [q]
  split
  · rename_i q; rw [q]
  split
  · rename_i q; rw [q]
  split
  · rename_i q; rw [q]
  split
  · rename_i q; rw [q]
  exact h y (by simp [*])
end Mine
end
section
open PySem PySem.W PyProof.Rows
set_option linter.all false
set_option maxRecDepth 100000
namespace Mine
theorem tw_none {p : Nat → Bool} : ∀ (l : List Nat), (∀ x ∈ l.head?, p x = false) → l.takeWhile p = []
  | [], _ => rfl
  | x :: r, h => by rw [List.takeWhile_cons, if_neg]; rw [h x rfl]; exact Bool.false_ne_true
theorem rstrip_S (l : List Nat) (h : ∀ x ∈ l, pSp x = false) : Txt.rstrip (S l) = S l := by
  unfold Txt.rstrip
  rw [PyProof.Rows.stripBy_eq]
  unfold stripLo stripHi
  rw [if_neg (by decide), if_pos rfl]
  have e : ((S l).cps.toList.drop 0).reverse.takeWhile Unicode.isSpace = [] := by
    refine tw_none _ fun x hx => h x ?_
    have : x ∈ ((S l).cps.toList.drop 0).reverse := List.mem_of_mem_head? hx
    simpa [S] using this
  rw [e]
  unfold Builtin.Str.strSub S
  congr 1
  apply Array.toList_inj.mp
  simp [Str.length]
theorem tw_app {p : Nat → Bool} (a b : List Nat) (ha : ∀ x ∈ a, p x = true) (hb : ∀ x ∈ b.head?, p x = false) : (a ++ b).takeWhile p = a := by
  rw [List.takeWhile_append_of_pos ha, tw_none b hb, List.append_nil]
theorem lstrip_S (ws r : List Nat) (hw : ∀ x ∈ ws, pSp x = true) (hr : ∀ x ∈ r.head?, pSp x = false) : Txt.lstrip (S (ws ++ r)) = S r := by
  unfold Txt.lstrip
  rw [PyProof.Rows.stripBy_eq]
  unfold stripLo stripHi
  rw [if_pos rfl, if_neg (by decide)]
  have e : (S (ws ++ r)).cps.toList.takeWhile Unicode.isSpace = ws := by
    show (ws ++ r).toArray.toList.takeWhile _ = _
    exact tw_app ws r hw hr
  rw [e]
  unfold Builtin.Str.strSub S
  congr 1
  apply Array.toList_inj.mp
  simp [Str.length, List.extract_eq_take_drop]
theorem starts_comma (r : List Nat) : Txt.startswith (S r) (Str.ofString ",") = (r.head? == some 44) := by
  have e : Str.ofString "," = S [44] := by decide +kernel
  unfold Txt.startswith
  rw [StrLaws.subAt_eq, e]
  cases r with
  | nil => rfl
  | cons x r =>
    show (decide (0 + 1 ≤ (S (x :: r)).length) && ((x :: r).take 1 == [44])) = _
    rw [S_length]
    simp
end Mine
end
section
open PySem PySem.W PyProof.Rows
set_option linter.all false
set_option maxRecDepth 100000
namespace Mine
def sw (c d : Nat) (l : List Nat) : List Nat := l.map fun x => if x = c then d else x
theorem sw_free (c d : Nat) (l : List Nat) (h : c ∉ l) : sw c d l = l := by
  unfold sw
  conv => rhs; rw [← List.map_id l]
  exact List.map_congr_left fun x hx => by rw [if_neg]; rfl; rintro rfl; exact h hx
theorem sw_join (c d : Nat) : ∀ parts : List Str, (∀ p ∈ parts, c ∉ p.cps.toList) → sw c d (Str.join ⟨#[c]⟩ parts).cps.toList = (Str.join ⟨#[d]⟩ parts).cps.toList
  | [], _ => rfl
  | [p], h => sw_free c d _ (h p (List.mem_singleton.mpr rfl))
  | p :: q :: r, h => by
    have ih := sw_join c d (q :: r) fun a ha => h a (List.mem_cons_of_mem _ ha)
    show sw c d (p ++ ⟨#[c]⟩ ++ Str.join ⟨#[c]⟩ (q :: r)).cps.toList = (p ++ ⟨#[d]⟩ ++ Str.join ⟨#[d]⟩ (q :: r)).cps.toList
    simp only [Str.cps_append, Array.toList_append]
    have e : ∀ a b : List Nat, sw c d (a ++ b) = sw c d a ++ sw c d b := fun a b => by unfold sw; rw [List.map_append]
    rw [e, e, ih, sw_free c d _ (h p (List.mem_cons_self ..))]
    simp [sw]
theorem replace_sw (l : List Nat) (c d : Nat) : Txt.replace (S l) ⟨#[c]⟩ ⟨#[d]⟩ = S (sw c d l) := by
  rw [StrLaws.replace_one]
  have h := sw_join c d (Txt.split (S l) ⟨#[c]⟩) (StrLaws.split_free (S l) c)
  rw [StrLaws.join_split] at h
  generalize Str.join ⟨#[d]⟩ (Txt.split (S l) ⟨#[c]⟩) = r at h
  obtain ⟨⟨r⟩⟩ := r
  have : sw c d l = r := h
  rw [this]; rfl
end Mine
end
section
open PySem PySem.W PyProof.Rows
set_option linter.all false
set_option maxRecDepth 100000
namespace Mine
/-- where the first = behind the first sign stands -/
def cutAt (wd : List Nat) : Nat := 1 + ((wd.drop 1).takeWhile (· != 61)).length
structure LL where
  done : List (List Pair)
  cur : List Pair
  waits : Bool
def llStep (cs : List Nat) (σ : LL) (g : List Nat × List Nat) : LL :=
  let wd := wordL cs g.1
  let p : List Pair × Bool := if g.1 = [] then (σ.cur, σ.waits) else if σ.waits then (σ.cur.dropLast ++ [((σ.cur.getLastD ([], [])).1, wd)], false)
    else (σ.cur ++ [((wd.take (cutAt wd)).drop 1, wd.drop (cutAt wd + 1))], cutAt wd + 1 == wd.length)
  if g.2 = [44, 32] then ⟨σ.done ++ [p.1], [], p.2 && g.2 == [32]⟩ else ⟨σ.done, p.1, p.2 && g.2 == [32]⟩
def llAll (cs : List Nat) (gs : List (List Nat × List Nat)) : LL := gs.foldl (llStep cs) ⟨[], [], false⟩
def lawLists (cs : List Nat) (gs : List (List Nat × List Nat)) : List (List Pair) := ((llAll cs gs).done ++ [(llAll cs gs).cur]).filter fun ps => ps != []
end Mine
end
section
open PySem PySem.W PyProof.Rows
set_option maxRecDepth 100000
set_option maxHeartbeats 8000000
namespace Mine
theorem fill_W1 (w : World) (h : Heap) : (KT w.params).In h → PySem.Challenge.rw_qu0026_01 = PySem.Challenge.rw_qu0026_01 := by
  k_fill
  intro _; rfl
local macro_rules | `(tactic| walk_at "exec For Name Name cons nil") => `(tactic| (with_unfolding_all refine' wpAny_For ?_ ?hs; (case hs => (intro _; with_unfolding_all rfl))))
local macro_rules | `(tactic| walk_at "call builtin:list.append") => `(tactic| ((try dsimp only [List.cons_append, List.nil_append]); k_dflt (refine' append_K ?k1 ?k2 ?k3 ?_ ?z; (case k1 => k_asm); (case k2 => k_asm); (case k3 => k_upd); (case z => (rw [sizeLine_eq]; (try simp only [List.size_toArray]); omega))); intro h' F' N'; (try k_sweep)))

local macro_rules | `(tactic| walk_at "mysize") => `(tactic| (rw [sizeLine_eq]; (try simp only [lit_a, lit_b, lit_c, lit_e, lit_0, S_length, len_app, List.length_cons, List.length_nil]); omega))
local macro_rules | `(tactic| walk_at "binaryOp Add str str") => `(tactic| (refine' add_str ?_ ?z; (case z => walk_at "mysize"); intro t' k'))
local macro_rules | `(tactic| walk_at "call builtin:str.join") => `(tactic| ((try dsimp only [List.cons_append, List.nil_append]); refine' join_S (isList_news (by k_asm) (by k_mem)) (by assumption) ?z ?_; (case z => omega); intro t' k'))
theorem in_plain : ∀ o : Nat, o < 256 → (Builtin.Str.occurrences (Str.ofString "aZ7-/*!+") { cps := #[((o : Int)).toNat] } 0 (Str.ofString "aZ7-/*!+").length 1).isEmpty = !plainO o := by decide +kernel
theorem word_hex : ∀ o : Nat, o < 256 → Str.ofString "=" ++ Txt.item (Str.ofString "0123456789ABCDEF") ((o : Int).fdiv 16) ++ Txt.item (Str.ofString "0123456789ABCDEF") ((o : Int).fmod 16) = S [61, hexd (o / 16), hexd (o % 16)] := by decide +kernel
theorem chr_S (o : Nat) : ({ cps := #[((o : Int)).toNat] } : Str) = S [o] := by simp [S]
theorem take_snoc {α β : Type} (f : α → β) {l : List α} {i : Nat} {x : α} (h : l[i]? = some x) : (l.take (i + 1)).map f = (l.take i).map f ++ [f x] := by rw [List.take_add_one, h]; simp

theorem word_call {w : World} {p : Program} {loose : List Str} {mean : ExcName → Option Value} {mg mb : Str → Option Value} {A : Around} {s : Shared} {r : Addr} {vs : List Value} {row : List Nat} {cs : List Nat} {t : Tok}
    (X : (KT w.params).In s.heap) (T : Top p loose mean mg mb s.heap) (hA : A.handled = none) (hA' : A.depth < 900)
    (hr : s.heap.IsList r vs.toArray) (hi : IntsAre vs (row.map (fun n : Nat => (n : Int)))) (hb : ∀ n ∈ row, n < 256) (hlen : row.length ≤ 1000) (hcs : cs.length ≤ 1000) :
    codeAny (model PR w) A (.call (.ref 139) ⟨[.ref r, .str (S cs) t], []⟩) (RetIs s fun v _ => ∃ t', v = .str (S (wordL cs row)) t') s := by
  refine codeAny_call_def (fd := fnOf _ _ _ _ _ _ _ _ _ _ _ _) (Nat.lt_trans hA' (by decide)) (X 139 _ (by k_is)) rfl T.nolimit (codeRec_of X (by k_is)) rfl (BindsTo.of_eq rfl) (by decide) (locs rfl) (fun h₁ hns hk => ?_)
  have F : Fr s.heap s.heap.objs.size h₁ (fun x => _) := ⟨hns, hk, Nat.le_refl _⟩
  have N : News s.heap s.heap.objs.size h₁ [] := News.nil
  clear hns hk
  refine wpAny_mono (E := fun _ _ => False) ?_ (fun _ _ h => h) (fun _ _ h => h.elim)
  w_on
  k_steps
  rename Fr _ _ _ _ => F1
  rename News _ _ _ _ => N1
  rename_i l' _ _ _
  refine' for_name (fun i nx => ∃ (its : Array Value) (n : Nat), nx = [(l', W.listOf its n)] ∧ StrsAre its.toList ((row.take i).map fun o => S (encO o))) ?hx ?hp ?hh ?hl ?F ?N ⟨#[], 0, rfl, by simpa using StrsAre.nil⟩ ?_ ?_ ?_
  case hx => rfl
  case hp => rfl
  case hh => exact hA
  case hl => exact hr.at (F1.keep _)
  case F => exact F1
  case N => exact N1
  · intro i news h _ hk _
    exact hr.at (hk _)
  · rintro i v news h tk I io hv ⟨its, n, rfl, hS⟩ hn F2 N2
    clear F1 N1
    obtain ⟨o, ho, tv, rfl⟩ := ints_get hi hv
    have hIl : l' ≠ I := hn _ (List.mem_singleton.mpr rfl)
    replace hIl := neN hIl
    have ho1 : o < 256 := hb o (List.mem_of_getElem? ho)
    have ho2 : (o : Int) < 256 := by omega
    have ho3 : (0 : Int) ≤ o := by omega
    have hz : its.size ≤ 1000 := by have := strs_len hS; simp at this; omega
    have e := take_snoc (fun o => S (encO o)) ho
    k_steps
    · rename Fr _ _ _ _ => F3
      rename News _ _ _ _ => N3
      rename ((o : Int) = 32) => h32
      have h32' : o = 32 := by omega
      refine ⟨_, _, _, _, rfl, F3, N3, fun p hp => ?_, fun z hz => by simp only [if_neg hz], _, _, rfl, ?_⟩
      · obtain rfl := List.mem_singleton.mp hp; exact hIl
      · rw [e, Array.toList_push]
        have : S (encO o) = Str.ofString "_" := by rw [h32']; decide +kernel
        rw [this]
        exact strs_snoc hS _ _
    · rename Fr _ _ _ _ => F3
      rename News _ _ _ _ => N3
      rename ((o : Int) ≠ 32) => h32
      rename (List.isEmpty _ = true) => hpl
      have h32' : o ≠ 32 := by omega
      rw [in_plain o ho1] at hpl
      have hpl' : plainO o = false := by simpa using hpl
      refine ⟨_, _, _, _, rfl, F3, N3, fun p hp => ?_, fun z hz => by simp only [if_neg hz], _, _, rfl, ?_⟩
      · obtain rfl := List.mem_singleton.mp hp; exact hIl
      · rw [e, Array.toList_push]
        have : S (encO o) = Str.ofString "=" ++ Txt.item (Str.ofString "0123456789ABCDEF") ((o : Int).fdiv 16) ++ Txt.item (Str.ofString "0123456789ABCDEF") ((o : Int).fmod 16) := by
          rw [word_hex o ho1]; unfold encO; rw [if_neg h32', hpl']; rfl
        rw [this]
        exact strs_snoc hS _ _
    · rename Fr _ _ _ _ => F3
      rename News _ _ _ _ => N3
      rename ((o : Int) ≠ 32) => h32
      rename (List.isEmpty _ = false) => hpl
      have h32' : o ≠ 32 := by omega
      rw [in_plain o ho1] at hpl
      have hpl' : plainO o = true := by simpa using hpl
      refine ⟨_, _, _, _, rfl, F3, N3, fun p hp => ?_, fun z hz => by simp only [if_neg hz], _, _, rfl, ?_⟩
      · obtain rfl := List.mem_singleton.mp hp; exact hIl
      · rw [e, Array.toList_push]
        have : S (encO o) = { cps := #[((o : Int)).toNat] } := by
          rw [chr_S]; unfold encO; rw [if_neg h32', hpl']; rfl
        rw [this]
        exact strs_snoc hS _ _
  · rintro u news h tk ⟨its, n, rfl, hS⟩ F2 N2
    clear F1 N1
    have hvl : vs.length = row.length := by have := hi.length; simpa using this
    have hS' : StrsAre its.toList ((row.map encO).map S) := by
      have e : row.take vs.toArray.size = row := by rw [List.size_toArray, hvl]; exact List.take_length
      rw [e] at hS
      rw [List.map_map]; exact hS
    have he : (row.map encO).flatten = enc row := by unfold enc; rw [List.flatMap_def]
    have hjz : (row.map encO).flatten.length ≤ 3000 := by rw [he]; have := enc_len row; omega
    k_steps
    rename Fr _ _ _ _ => F3
    refine RetIs.mk F3 (Exists.intro _ (congrArg (fun x => Value.str x _) ?_))
    rw [lit_a, lit_b, lit_c, S_append, S_append, S_append, S_append, he]
    rfl
end Mine
end
section
open PySem PySem.W PyProof.Rows
set_option maxRecDepth 100000
set_option maxHeartbeats 8000000
namespace Mine
theorem fill_W2 (w : World) (h : Heap) : (KT w.params).In h → PySem.Challenge.rw_qu0026_01 = PySem.Challenge.rw_qu0026_01 := by
  k_fill
  intro _; rfl
local macro_rules | `(tactic| walk_at "dummy0") => `(tactic| skip)
local macro_rules | `(tactic| walk_at "exec For") => `(tactic| (with_unfolding_all refine' for_H ?_ ?hs; (case hs => (intro _; with_unfolding_all rfl))))
local macro_rules | `(tactic| walk_at "exec For Name BinOp cons nil") => `(tactic| (with_unfolding_all refine' for_H ?_ ?hs; (case hs => (intro _; with_unfolding_all rfl))))
local macro_rules | `(tactic| walk_at "exec For Name Call cons nil") => `(tactic| (with_unfolding_all refine' for_H ?_ ?hs; (case hs => (intro _; with_unfolding_all rfl))))
local macro_rules | `(tactic| walk_at "call builtin:list.append") => `(tactic| ((try dsimp only [List.cons_append, List.nil_append]); k_dflt (refine' append_K ?k1 ?k2 ?k3 ?_ ?z; (case k1 => k_asm); (case k2 => k_asm); (case k3 => k_upd); (case z => (rw [sizeLine_eq]; (try simp only [List.size_toArray]); omega))); intro h' F' N'; (try k_sweep)))

local macro_rules | `(tactic| k_all) => `(tactic| assumption)
theorem grp_news {h₀ h' : Heap} {L tp D1 rw' I D g : Addr} {ot o1 or io oD og : Obj} {fz : List (Addr × Obj)} (N : News h₀ L h' ((tp, ot) :: (D1, o1) :: (rw', or) :: (I, io) :: (D, oD) :: (g, og) :: fz)) :
    News h₀ L h' ((I, io) :: (D, oD) :: (g, og) :: (tp, ot) :: (rw', or) :: fz) := fun p hp => N p (by
  simp only [List.mem_cons] at hp ⊢
  rcases hp with h | h | h | h | h | h <;> simp [h])
theorem marks_S : Str.ofString ", " = S [44, 32] ∧ Str.ofString "; " = S [59, 32] ∧ Str.ofString " " = S [32] := by decide +kernel
theorem pickM {prog : Program} {w : World} {A : Around} {E : Value → Shared → Prop} {h : Heap} {g : Array GenState} {d : Drawn} {tk : Nat} {os : OsState} {h₀ : Heap} {L : Addr} {news : List (Addr × Obj)} {value slice : PySem.Expr} {T : Addr} {t1 t2 t3 u : Tok} {n : Nat} {k : Int} {Q : Value → Shared → Prop}
    (N : News h₀ L h news) (hm : (T, tupOf #[.str (Str.ofString ", ") t1, .str (Str.ofString "; ") t2, .str (Str.ofString " ") t3] n) ∈ news) (h0 : 0 ≤ k) (h1 : k < 3) (hs : subscripted slice false (.ref T) (.int k u) = operate [.ref T, .int k u] (getItem (.ref T) (.int k u)))
    (hq : ∀ t, Q (.str (S (markOf k.toNat)) t) ⟨h, g, d, tk, os⟩) : wpAny (model prog w) A (subscriptTail value slice (.ref T) (.int k u)) Q E ⟨h, g, d, tk, os⟩ := by
  have hl : IsTup h T #[.str (Str.ofString ", ") t1, .str (Str.ofString "; ") t2, .str (Str.ofString " ") t3] := ⟨_, (N _ hm).1, rfl, _, rfl⟩
  obtain ⟨e1, e2, e3⟩ := marks_S
  have hk : k = 0 ∨ k = 1 ∨ k = 2 := by omega
  rcases hk with rfl | rfl | rfl
  · exact tail_any (s := ⟨h, g, d, tk, os⟩) (T := "tuple") hl.typeIs slot_tuple_getitem.lookup (getItem_tuple (s := ⟨h, g, d, tk, os⟩) hl (by decide) (by decide) (j := 0) (by rfl) (by rfl) (by rw [e1]; exact hq t1)) hs
  · exact tail_any (s := ⟨h, g, d, tk, os⟩) (T := "tuple") hl.typeIs slot_tuple_getitem.lookup (getItem_tuple (s := ⟨h, g, d, tk, os⟩) hl (by decide) (by decide) (j := 1) (by rfl) (by rfl) (by rw [e2]; exact hq t2)) hs
  · exact tail_any (s := ⟨h, g, d, tk, os⟩) (T := "tuple") hl.typeIs slot_tuple_getitem.lookup (getItem_tuple (s := ⟨h, g, d, tk, os⟩) hl (by decide) (by decide) (j := 2) (by rfl) (by rfl) (by rw [e3]; exact hq t3)) hs
local macro_rules | `(tactic| walk_at "subscriptTail") => `(tactic| (k_dflt (refine' pickM ?k1 ?k2 ?k3 ?k4 ?k5 ?_; (case k1 => k_asm); (case k2 => k_mem); (case k3 => exact Int.fmod_nonneg_of_pos _ (by decide)); (case k4 => exact Int.fmod_lt_of_pos _ (by decide)); (case k5 => with_unfolding_all rfl)); intro t'))
theorem mark_lit : ∀ k : Nat, k < 3 → ([Str.ofString ", ", Str.ofString "; ", Str.ofString " "] : List Str)[k]? = some (S (markOf k)) := by decide +kernel
theorem groups_call {w : World} {p : Program} {loose : List Str} {mean : ExcName → Option Value} {mg mb : Str → Option Value} {A : Around} {s : Shared} {r : Addr} {vs : List Value} {ns : List Int}
    (X : (KT w.params).In s.heap) (T : Top p loose mean mg mb s.heap) (hA : A.handled = none) (hA' : A.depth < 900)
    (hr : s.heap.IsList r vs.toArray) (hi : IntsAre vs ns) (hlen : ns.length ≤ 63) :
    codeAny (model PR w) A (.call (.ref 132) ⟨[.ref r], []⟩) (RetIs s fun v h' => ∃ g its n fz, v = .ref g ∧ (∀ q ∈ (g, W.listOf its n) :: fz, h'.get? q.1 = some q.2 ∧ s.heap.get? q.1 = none) ∧ All2 (GrpG (InL fz)) its.toList (groupsOf ns)) s := by
  refine codeAny_call_def (fd := fnOf _ _ _ _ _ _ _ _ _ _ _ _) (Nat.lt_trans hA' (by decide)) (X 132 _ (by k_is)) rfl T.nolimit (codeRec_of X (by k_is)) rfl (BindsTo.of_eq rfl) (by decide) (locs rfl) (fun h₁ hns hk => ?_)
  have F : Fr s.heap s.heap.objs.size h₁ (fun x => _) := ⟨hns, hk, Nat.le_refl _⟩
  have N : News s.heap s.heap.objs.size h₁ [] := News.nil
  clear hns hk
  refine wpAny_mono (E := fun _ _ => False) ?_ (fun _ _ h => h) (fun _ _ h => h.elim)
  w_on
  k_steps
  rename Fr _ _ _ _ => F1
  rename News _ _ _ _ => N1
  rename IntsAre _ _ => hI
  rename_i g _ _ _ _ _ _ _ _ _ _ _ _ _ D ws _ l1
  have hwl : ws.length = (xsOf ns).length := hI.length
  have hgD : g ≠ D := by refine neN ?_; have := l1; omega
  refine ⟨?_⟩
  dsimp only
  refine' for_names (news₀ := [(D, W.listOf ws.toArray 0), (g, W.listOf #[] 0)]) [Str.ofString "left", Str.ofString "row", Str.ofString "turn", Str.ofString "x"] (fun i nx => ∃ its n fz, nx = (D, W.listOf ws.toArray 0) :: (g, W.listOf its n) :: fz ∧ (∀ p ∈ fz, p.1 ≠ D) ∧ (∀ p ∈ fz, p.1 ≠ g) ∧ All2 (GrpG (InL fz)) its.toList (((xsOf ns).take i).map groupOf)) ?hx ?hp ?hh ?hl ?F ?N ?_ ?_ ?_ ?_
  case hx => rfl
  case hp => rfl
  case hh => exact hA
  case hl => exact isList_news N1 (by k_mem)
  case F => exact F1
  case N =>
    intro p hp
    rcases List.mem_cons.mp hp with e | hp
    · subst e; exact N1 _ (by k_mem)
    · obtain rfl := List.mem_singleton.mp hp; exact N1 _ (by k_mem)
  · exact ⟨#[], 0, [], rfl, (fun _ h => nomatch h), (fun _ h => nomatch h), by simpa using All2.nil⟩
  · rintro i news h ⟨its, n, fz, rfl, _⟩ _ N2
    exact isList_news N2 (List.mem_cons_self ..)
  · rintro i v m news h tk I io hv ⟨its, n, fz, rfl, hfD, hfg, hG⟩ hn hm F2 N2
    clear F1 N1
    obtain ⟨ul, ur, ut, ux, rfl⟩ := m_open4 hm
    obtain ⟨x, hx, tx, rfl⟩ : ∃ x, (xsOf ns)[i]? = some x ∧ ∃ tx, v = .int x tx := by
      have hlt : i < (xsOf ns).length := by
        rcases Nat.lt_or_ge i ws.length with q | q
        · rwa [hwl] at q
        · simp [q] at hv
      obtain ⟨tv, hx⟩ := hI.get i (xsOf ns)[i] (by simp [xsOf])
      refine ⟨(xsOf ns)[i], by simp [hlt], tv, ?_⟩
      have : ws[i]? = some v := by simpa using hv
      rw [hx] at this
      exact (Option.some.inj this).symm
    have hDI : D ≠ I := hn _ (List.mem_cons_self ..)
    have hgI : g ≠ I := hn _ (List.mem_cons_of_mem _ (List.mem_cons_self ..))
    have hfI : ∀ p ∈ fz, p.1 ≠ I := fun p hp => hn p (List.mem_cons_of_mem _ (List.mem_cons_of_mem _ hp))
    replace hDI := neN hDI
    replace hgI := neN hgI
    replace hgD := neN hgD
    k_steps
    rename IsRange _ _ _ _ _ _ _ _ => hR
    rename Fr _ _ _ _ => F3
    rename News _ _ _ _ => N3
    rename_i rw' _ lr _ _ _ _ _ _ _ _ _ _
    have hq : ((x.fdiv 3).fmod 5) = ((((x.fdiv 3).fmod 5).toNat : Nat) : Int) ∧ ((x.fdiv 3).fmod 5).toNat ≤ 4 := by
      have h1 := Int.fmod_nonneg_of_pos (x.fdiv 3) (b := 5) (by omega)
      have h2 := Int.fmod_lt_of_pos (x.fdiv 3) (b := 5) (by omega)
      omega
    rw [hq.1] at hR
    refine ⟨?_⟩
    dsimp only
    refine' range_names [Str.ofString "left", Str.ofString "turn"] (fun j m nx => (∃ t, m (Str.ofString "left") = some (.int (leftAt (x.fdiv 15) j) t)) ∧ ∃ ri k, nx = (rw', W.listOf ri k) :: (I, io) :: (D, W.listOf ws.toArray 0) :: (g, W.listOf its n) :: fz ∧ IntsAre ri.toList (Nats (rowOf (x.fdiv 15) j))) ?hx ?hp ?hh hR hq.2 ?F ?N ?_ ?_ ?_
    case hx => rfl
    case hp => rfl
    case hh => exact hA
    case F => exact F3
    case N => exact N3
    · exact ⟨⟨_, rfl⟩, #[], 0, rfl, by simpa [rowOf] using IntsAre.nil⟩
    · rintro j tj m news h2 tk2 I2 io2 hj ⟨⟨tl, hml⟩, ri, kk, rfl, hri⟩ hn2 hm2 F4 N4
      clear F3 N3 hR
      obtain ⟨ua, ub, rfl⟩ := m_open2 hm2
      have hua : ua = some (.int (leftAt (x.fdiv 15) j) tl) := hml
      subst hua
      have hr2 : rw' ≠ I2 := hn2 _ (List.mem_cons_self ..)
      replace hr2 := neN hr2
      have hfr : ∀ p ∈ fz, p.1 ≠ rw' := fun p hp => Nat.ne_of_lt (allLt_all lr.2.2.2 p hp)
      have hz2 : ri.size ≤ 4 := by have := hri.length; simp [rowOf] at this; omega
      k_steps
      rename Fr _ _ _ _ => F5
      rename News _ _ _ _ => N5
      refine ⟨_, _, _, _, rfl, F5, N5, fun p hp => ?_, fun y hy => ?_, ⟨_, rfl⟩, _, _, rfl, ?_⟩
      · rcases List.mem_cons.mp hp with e | hp
        · rw [e]; exact hr2
        · exact hn2 p (List.mem_cons_of_mem _ hp)
      · simp only [List.mem_cons, List.not_mem_nil, or_false, not_or] at hy
        simp only [if_neg hy.1, if_neg hy.2]
      · rw [Array.toList_push, rowOf_succ, nats_snoc]
        refine ints_snoc' hri ?_
        have hk := fmod24 (leftAt (x.fdiv 15) j)
        generalize ((leftAt (x.fdiv 15) j).fmod 24).toNat = k at hk ⊢
        revert k
        decide +kernel
    · rintro m news h2 tk2 ⟨⟨tl, hml⟩, ri, kk, rfl, hri⟩ hm2 F4 N4
      clear F3 N3 hR
      obtain ⟨ua, ub, rfl⟩ := m_open2 hm2
      have hua : ua = some (.int (leftAt (x.fdiv 15) _) tl) := hml
      subst hua
      have hz3 : its.size ≤ 100 := by have := hG.len; simp [xsOf] at this; omega
      k_steps
      all_goals (rename Fr _ _ _ _ => F6)
      all_goals (rename News _ _ _ _ => N6)
      all_goals (rename_i D1 _ l7 _ tp _ l8 _)
      all_goals (
        refine ⟨_, _, _, _, rfl, F6, grp_news N6, fun p hp => ?_, fun y hy => ?_, _, _, _, rfl, fun p hp => ?_, fun p hp => ?_, ?_⟩
        · simp only [List.mem_cons] at hp
          rcases hp with h | h | h | h | h
          · rw [h]; exact hDI
          · rw [h]; exact hgI
          · rw [h]; refine neN ?_; dsimp only; omega
          · rw [h]; refine neN ?_; dsimp only; omega
          · exact hfI p h
        · simp only [List.mem_cons, List.not_mem_nil, or_false, not_or] at hy
          simp only [if_neg hy.1, if_neg hy.2.1, if_neg hy.2.2.1, if_neg hy.2.2.2]
        · simp only [List.mem_cons] at hp
          rcases hp with h | h | h
          · rw [h]; refine neN ?_; dsimp only; omega
          · rw [h]; refine neN ?_; dsimp only; omega
          · exact hfD p h
        · simp only [List.mem_cons] at hp
          rcases hp with h | h | h
          · rw [h]; refine neN ?_; dsimp only; omega
          · rw [h]; refine neN ?_; dsimp only; omega
          · exact hfg p h
        · rw [Array.toList_push, take_snoc groupOf hx]
          refine All2.snoc (hG.mono fun a b r => r.mono fun _ _ e => List.mem_cons_of_mem _ (List.mem_cons_of_mem _ e)) ?_
          refine grpG_mk (List.mem_cons_self ..) ?_ ⟨rw', ri, kk, rfl, List.mem_cons_of_mem _ (List.mem_cons_self ..), hri⟩
          rfl)
  · rintro m news h tk ⟨its, n, fz, rfl, hfD, hfg, hG⟩ hm F2 N2
    clear F1 N1
    obtain ⟨ul, ur, ut, ux, rfl⟩ := m_open4 hm
    k_steps
    rename Fr _ _ _ _ => F3
    refine RetIs.mk F3 ⟨g, its, n, fz, rfl, fun q hq => ?_, ?_⟩
    · have := N2 q (List.mem_cons_of_mem _ hq)
      exact ⟨this.1, this.2.2⟩
    · have e : (xsOf ns).take ws.toArray.size = xsOf ns := by rw [List.size_toArray, hwl]; exact List.take_length
      rw [e] at hG
      exact hG
end Mine
end
section
open PySem PySem.W PyProof.Rows
set_option maxRecDepth 100000
set_option maxHeartbeats 8000000
namespace Mine
theorem fill_W3 (w : World) (h : Heap) : (KT w.params).In h → PySem.Challenge.rw_qu0026_01 = PySem.Challenge.rw_qu0026_01 := by
  k_fill
  intro _; rfl
/-- the header table says enc for our octets -/
theorem hdr_items (P : Params) : ∃ items n, (KT P).lookup 83 = some ⟨.type "list", none, .seq items n, #[]⟩ ∧ ∀ c ∈ octs, c < 256 ∧ ∃ x t, items[c]? = some (.str x t) ∧ x.cps.toList = encO c := by
  refine ⟨_, _, by k_is, ?_⟩
  intro c hc
  simp only [octs, List.mem_cons, List.not_mem_nil, or_false] at hc
  rcases hc with rfl | rfl | rfl | rfl | rfl | rfl | rfl | rfl | rfl | rfl | rfl | rfl | rfl | rfl | rfl | rfl | rfl | rfl | rfl | rfl | rfl | rfl | rfl | rfl
  all_goals exact ⟨by decide, _, _, rfl, by decide +kernel⟩
theorem hdr_list {w : World} {h : Heap} (X : (KT w.params).In h) : ∃ items, h.IsList 83 items ∧ ∀ c ∈ octs, c < 256 ∧ ∃ x t, items[c]? = some (.str x t) ∧ x.cps.toList = encO c := by
  obtain ⟨items, n, e, hc⟩ := hdr_items w.params
  exact ⟨items, ⟨_, X _ _ e, rfl, n, rfl⟩, hc⟩
def octB (row : List Nat) : List UInt8 := row.map (·.toUInt8)
theorem octB_nat {row : List Nat} (h : ∀ c ∈ row, c < 256) : (octB row).map (·.toNat) = row := by
  unfold octB
  rw [List.map_map]
  conv => rhs; rw [← List.map_id row]
  apply List.map_congr_left
  intro c hc
  simp [Function.comp, Nat.toUInt8, Nat.mod_eq_of_lt (h c hc)]
local macro_rules | `(tactic| walk_at "call builtin:bytes.decode") => `(tactic| ((try dsimp only [List.cons_append, List.nil_append]); refine lat_decode (by assumption) (by assumption) ?_; intro t' k'))

local macro_rules | `(tactic| walk_at "mysize") => `(tactic| (simp only [sizeLine_eq, lit_a, lit_b, lit_c, lit_e, lit_0, S_length, mk_len, empty_len, len_app, List.length_cons, List.length_nil]; omega))
local macro_rules | `(tactic| size_fits) => `(tactic| walk_at "mysize")
local macro_rules | `(tactic| walk_at "getMethod str") => `(tactic| (refine gm_translate ?_))
local macro_rules | `(tactic| walk_at "call builtin:str.translate") => `(tactic| ((try dsimp only [List.cons_append, List.nil_append]); (refine' translate_list (tab := encO) (Heap.IsList.at (by assumption) (Fr.keep (by k_asm) _)) (by assumption) (by assumption) (by assumption) ?_); intro t' k'))
theorem henc_call {w : World} {p : Program} {loose : List Str} {mean : ExcName → Option Value} {mg mb : Str → Option Value} {A : Around} {s : Shared} {row : List Nat} {cs : List Nat} {t t2 : Tok}
    (X : (KT w.params).In s.heap) (T : Top p loose mean mg mb s.heap) (hA : A.handled = none) (hA' : A.depth < 900) (hb : (octB row).length ≤ 4) (ho : ∀ c ∈ row, c ∈ octs)
    (hcs : cs.length ≤ 1000) :
    codeAny (model PR w) A (.call (.ref 106) ⟨[.bytes (octB row).toArray t, .str (S cs) t2], []⟩) (RetIs s fun v _ => ∃ t', v = .str (S (if row = [] then [] else wordL cs row)) t') s := by
  refine codeAny_call_def (fd := fnOf _ _ _ _ _ _ _ _ _ _ _ _) (binds := [(Str.ofString "header_bytes", .bytes (octB row).toArray t), (Str.ofString "charset", .str (S cs) t2)]) (Nat.lt_trans hA' (by decide)) (X 106 _ (by k_is)) rfl T.nolimit (codeRec_of X (by k_is)) rfl ?hbind (by decide) (locs rfl) (fun h₁ hns hk => ?_)
  case hbind =>
    first
    | exact BindsTo.of_eq rfl
    | exact BindsTo.of_defaults rfl (X 99 _ (by k_is)) rfl rfl rfl
  have F : Fr s.heap s.heap.objs.size h₁ (fun x => _) := ⟨hns, hk, Nat.le_refl _⟩
  have N : News s.heap s.heap.objs.size h₁ [] := News.nil
  clear hns hk
  obtain ⟨items, hitl, hit⟩ := hdr_list X
  refine wpAny_mono (E := fun _ _ => False) ?_ (fun _ _ h => h) (fun _ _ h => h.elim)
  w_on
  by_cases h0 : octB row = []
  · have hrow : row = [] := by simpa [octB] using h0
    have hsz : ((octB row).toArray.size : Int) = 0 := by rw [h0]; rfl
    k_steps
    · rename (¬ _ = _) => hq
      exact absurd hsz hq
    · rename Fr _ _ _ _ => F3
      refine RetIs.mk F3 (Exists.intro _ (congrArg (fun x => Value.str x _) ?_))
      rw [if_pos hrow, lit_0]
  have e := octB_nat (row := row) (fun c hc => (hit c (ho c hc)).1)
  have hitr : ∀ c ∈ (octB row).map (·.toNat), c < 256 ∧ ∃ x t, items[c]? = some (.str x t) ∧ x.cps.toList = encO c := by rw [e]; exact fun c hc => hit c (ho c hc)
  have hne : (octB row).map (·.toNat) ≠ [] := by simpa using h0
  have hzr : (((octB row).map (·.toNat)).flatMap encO).length ≤ 100000 := by
    rw [e]
    have h1 := enc_len row
    unfold enc at h1
    have h2 : row.length ≤ 4 := by simpa [octB] using hb
    omega
  k_steps
  all_goals (try (walk_at "mysize"))
  all_goals (try k_steps)
  · rename Fr _ _ _ _ => F3
    refine RetIs.mk F3 (Exists.intro _ (congrArg (fun x => Value.str x _) ?_))
    have hrow : row ≠ [] := fun h => h0 (by rw [h]; rfl)
    rw [if_neg hrow, e, lit_a, lit_b, lit_c, empty_S, mk_S, S_append, S_append, S_append, S_append, S_append]
    rfl
  · rename (_ = (0 : Int)) => hq
    exact absurd (by simpa using hq) h0
end Mine
end
section
open PySem PySem.W PyProof.Rows
set_option linter.all false
set_option maxRecDepth 100000
namespace Mine
open Builtin
theorem int16 (o : Nat) (ho : o ∈ octs) (t u : Tok) : «int.__new__» ⟨[.type "int", .str (S [hexd (o / 16), hexd (o % 16)]) t, .int 16 u], []⟩ = (mkInt o >>= fun v => ret v) := by
  simp only [octs, List.mem_cons, List.not_mem_nil, or_false] at ho
  rcases ho with rfl | rfl | rfl | rfl | rfl | rfl | rfl | rfl | rfl | rfl | rfl | rfl | rfl | rfl | rfl | rfl | rfl | rfl | rfl | rfl | rfl | rfl | rfl | rfl
  all_goals kernel_rfl
theorem typeCall_int_2 (a b : Value) : checkTypeCall "int" ⟨[a, b], []⟩ = pure () := by kernel_rfl
theorem newCall_int_2 (a b : Value) : checkBuiltinCall "int.__new__" ⟨[.type "int", a, b], []⟩ = pure () := by kernel_rfl
theorem args_init_3 (a b c : Value) : argsOk "object.__init__" ⟨[a, b, c], []⟩ := by unfold argsOk; kernel_rfl
theorem gives_int16 (o : Nat) (ho : o ∈ octs) (t u : Tok) : Gives («int.__new__» ⟨[.type "int", .str (S [hexd (o / 16), hexd (o % 16)]) t, .int 16 u], []⟩) (.int o) := by
  rw [int16 o ho]
  exact .of_eq rfl
section
variable {prog : Program} {w : World} {A : Around} {E : Value → Shared → Prop} {s : Shared}
theorem call_int16 {o : Nat} (ho : o ∈ octs) {t u : Tok} {Q : Value → Shared → Prop} (h : ∀ t', Q (.int o t') { s with toks := s.toks + 1 }) : wpAny (model prog w) A (call (.type "int") [.str (S [hexd (o / 16), hexd (o % 16)]) t, .int 16 u]) Q E s :=
  callType_new F.called_int F.newNe_int (typeCall_int_2 _ _) (newCall_int_2 _ _) (fun obj => args_init_3 obj _ _) F.entry_int_new (gives_int16 o ho t u).meets (show (Made.int (o : Int)).post _ s from ⟨rfl, h _⟩)
end
end Mine
end
section
open PySem PySem.W PyProof.Rows
set_option linter.all false
set_option maxRecDepth 100000
set_option maxHeartbeats 8000000
namespace Mine
theorem fill_W6 (w : World) (h : Heap) : (KT w.params).In h → PySem.Challenge.rw_qu0026_01 = PySem.Challenge.rw_qu0026_01 := by
  k_fill
  intro _; rfl
theorem slice13 (a b c : Nat) : Txt.slice (S [a, b, c]) (some 1) (some 3) = S [b, c] := slice_mid [a, b, c] 1 3 (by decide) (by simp)
theorem slice_K {prog : Program} {w : World} {A : Around} {E : Value → Shared → Prop} {h : Heap} {g : Array GenState} {d : Drawn} {tk : Nat} {os : OsState} {a o : Nat} (ho : o ∈ octs) {t u : Tok} {Q : Value → Shared → Prop} (hq : ∀ t' k, Q (.int o t') ⟨h, g, d, k, os⟩) :
    wpAny (model prog w) A (call (.type "int") [.str (Txt.slice (S [a, hexd (o / 16), hexd (o % 16)]) (some 1) (some 3)) t, .int 16 u]) Q E ⟨h, g, d, tk, os⟩ := by
  rw [slice13]
  exact call_int16 (s := ⟨h, g, d, tk, os⟩) ho fun t' => hq t' _
local macro_rules | `(tactic| walk_at "call type:int") => `(tactic| ((try dsimp only [List.cons_append, List.nil_append]); refine slice_K (by assumption) ?_; intro t' k'))
local macro_rules | `(tactic| walk_at "mysize") => `(tactic| (simp only [sizeLine_eq, lit_a, lit_b, lit_c, lit_e, lit_0, S_length, mk_len, empty_len, len_app, List.length_cons, List.length_nil, List.length_drop, List.length_take]; omega))
local macro_rules | `(tactic| size_fits) => `(tactic| walk_at "mysize")
theorem oct_lt {o : Nat} (h : o ∈ octs) : o < 256 := by
  simp only [octs, List.mem_cons, List.not_mem_nil, or_false] at h
  omega
theorem unq_call {w : World} {p : Program} {loose : List Str} {mean : ExcName → Option Value} {mg mb : Str → Option Value} {A : Around} {s : Shared} {o : Nat} {t : Tok}
    (X : (KT w.params).In s.heap) (T : Top p loose mean mg mb s.heap) (hA : A.handled = none) (hA' : A.depth < 900) (ho : o ∈ octs) :
    codeAny (model PR w) A (.call (.ref 98) ⟨[.str (S [61, hexd (o / 16), hexd (o % 16)]) t], []⟩) (RetIs s fun v _ => ∃ t', v = .str (S [o]) t') s := by
  obtain ⟨hnd, dep, frs, gds, uts⟩ := A
  obtain rfl : hnd = none := hA
  refine codeAny_call_def (fd := fnOf _ _ _ _ _ _ _ _ _ _ _ _) (Nat.lt_trans hA' (by decide)) (X 98 _ (by k_is)) rfl T.nolimit (codeRec_of X (by k_is)) rfl (BindsTo.of_eq rfl) (by decide) (locs rfl) (fun h₁ hns hk => ?_)
  have F : Fr s.heap s.heap.objs.size h₁ (fun x => _) := ⟨hns, hk, Nat.le_refl _⟩
  have N : News s.heap s.heap.objs.size h₁ [] := News.nil
  clear hns hk
  refine wpAny_mono (E := fun _ _ => False) ?_ (fun _ _ h => h) (fun _ _ h => h.elim)
  have ho1 := oct_lt ho
  w_on
  k_steps
  rename Fr _ _ _ _ => F3
  refine RetIs.mk F3 (Exists.intro _ (congrArg (fun x => Value.str x _) ?_))
  simp [S]
end Mine
end
section
open PySem PySem.W PyProof.Rows
set_option linter.all false
set_option maxRecDepth 100000
namespace Mine
open PySem.Builtin.Re
/-- what a search without groups lays -/
abbrev spanObj0 (a b : Nat) : Obj := { cls := .type "tuple", data := .seq #[rawInt a, rawInt b] }
section
variable {prog : Program} {w : World} {A : Around} {E : Value → Shared → Prop} {s : Shared}
theorem found0_is {ma ta pa : Addr} {x : Str} {t : Tok} {n a b : Nat} {li : Int} {Q : ReFound → Shared → Prop} (hm : s.heap.get? ma = some (matObj x t pa n li ta)) (ht : s.heap.get? ta = some (spanObj0 a b))
    (h : Q { fields := #[.str x t, .ref pa, rawInt 0, rawInt n, rawInt li, .ref ta], spans := #[(a : Int), b] } s) : wpAny (model prog w) A (reFound (.ref ma)) Q E s := by
  unfold reFound fieldsOf
  refine wpAny_bind (wpAny_bind (wpAny_load hm (wpAny_pure ?_)))
  refine wpAny_bind ?_
  unfold reRawItems seqItems?
  refine wpAny_bind (wpAny_bind (wpAny_load ht (wpAny_pure (wpAny_pure ?_))))
  have e : ((some #[rawInt (a : Int), rawInt b] : Option (Array Value)).getD #[]).map reRawOf = #[(a : Int), b] := by simp [reRawOf, rawInt]
  rw [e]
  exact wpAny_pure h
theorem group0_call {ma ta pa : Addr} {x : Str} {t u : Tok} {n a b : Nat} {li : Int} {Q : Value → Shared → Prop} (hm : s.heap.get? ma = some (matObj x t pa n li ta)) (ht : s.heap.get? ta = some (spanObj0 a b)) (hx : x.cps.size ≤ 2 ^ 24)
    (h : ∀ t' k, Q (.str ⟨x.cps.extract a b⟩ t') { s with toks := k }) :
    wpAny (model prog w) A (call (.builtin "re.Match.group") [.ref ma, .int 0 u]) Q E s := by
  refine wpAny_call_entry slot_group ⟨_, hm, rfl⟩ entry_group ?_ (args_group _ _)
  unfold Builtin.«re.Match.group»
  refine wpAny_bind (m := noKeywords _ _) (wpAny_pure ?_)
  refine wpAny_bind (found0_is hm ht ?_)
  dsimp only
  refine wpAny_bind (m := reGroupNumber _ (.int 0 u)) (wpAny_pure ?_)
  refine wpAny_bind (m := reGroupText _ _ _) ?_
  have hne : (decide ((a : Int) < 0) || decide ((b : Int) < 0)) = false := by simp
  have hg : reGroupText { fields := #[.str x t, .ref pa, rawInt 0, rawInt n, rawInt li, .ref ta], spans := #[(a : Int), b] } 0 .none = (if (decide ((a : Int) < 0) || decide ((b : Int) < 0)) = true then pure .none else (do
      let (text, kind) ← reTextOf (.str x t)
      reSlice text kind a b)) := rfl
  refine (show wpAny _ _ (reGroupText { fields := #[.str x t, .ref pa, rawInt 0, rawInt n, rawInt li, .ref ta], spans := #[(a : Int), b] } 0 .none) _ _ _ from ?_)
  rw [hg, hne]
  rw [if_neg Bool.false_ne_true]
  refine wpAny_bind (m := reTextOf (.str x t)) (wpAny_pure ?_)
  show wpAny _ _ (mkStr ⟨x.cps.extract a b⟩) _ _ _
  refine wpAny_mkStr (wpAny_pure ⟨_, rfl, h _ _⟩) ?_
  show (x.cps.extract a b).size ≤ _
  rw [sizeLine_eq, Array.size_extract]; omega
end
end Mine
end
section
open PySem PySem.W PyProof.Rows
set_option linter.all false
set_option maxRecDepth 100000
set_option maxHeartbeats 8000000
namespace Mine
theorem fill_W7 (w : World) (h : Heap) : (KT w.params).In h → PySem.Challenge.rw_qu0026_01 = PySem.Challenge.rw_qu0026_01 := by
  k_fill
  intro _; rfl
section
variable {w : World} {A : Around} {E : Value → Shared → Prop} {h : Heap} {g : Array GenState} {d : Drawn} {tk : Nat} {os : OsState} {h₀ : Heap} {L : Addr} {m : PySem.Str → Option Value} {news : List (Addr × Obj)}
theorem group0_K {prog : Program} {ma ta pa : Addr} {l r : List Nat} {t u : Tok} {n a b : Nat} {li : Int} {Q : Value → Shared → Prop} (hm : h.get? ma = some (matObj (S l) t pa n li ta)) (ht : h.get? ta = some (spanObj0 a b)) (hl : l.length ≤ 100000) (hr : (l.drop a).take (b - a) = r)
    (hq : ∀ t' k, Q (.str (S r) t') ⟨h, g, d, k, os⟩) : wpAny (model prog w) A (call (.builtin "re.Match.group") [.ref ma, .int 0 u]) Q E ⟨h, g, d, tk, os⟩ := by
  refine group0_call (s := ⟨h, g, d, tk, os⟩) hm ht (by rw [cps_size]; omega) fun t' k => ?_
  have e1 : (⟨(S l).cps.extract a b⟩ : PySem.Str) = S r := by
    rw [← hr]
    unfold S
    congr 1
    apply Array.toList_inj.mp
    simp [List.extract_eq_take_drop]
  rw [e1]; exact hq _ _
theorem unq_K {p : Program} {loose : List PySem.Str} {mean : ExcName → Option Value} {mg mb : PySem.Str → Option Value} {o : Nat} {t : Tok} {Q : Value → Shared → Prop} (X : (KT w.params).In h₀) (T : Top p loose mean mg mb h₀) (hA : A.handled = none) (hA' : A.depth < 900) (ho : o ∈ octs)
    (F : Fr h₀ L h m) (N : News h₀ L h news) (hq : ∀ t' h' k, Fr h₀ L h' m → News h₀ L h' news → Q (.str (S [o]) t') ⟨h', g, d, k, os⟩) : wpAny (model PR w) A (call (.ref 98) [.str (S [61, hexd (o / 16), hexd (o % 16)]) t]) Q E ⟨h, g, d, tk, os⟩ := by
  refine ret_K F N (unq_call (s := ⟨h, g, d, tk, os⟩) (X.keeps F.keep) (T.keeps F.keep) hA hA' ho) fun v h' k F' N' _ hv => ?_
  obtain ⟨t', rfl⟩ := hv
  exact hq t' h' k F' N'
end
local macro_rules | `(tactic| walk_at "getMethod ref") => `(tactic| (refine gm_group (at_ext (by assumption) (Fr.keep (by k_asm))) ?_))
local macro_rules | `(tactic| walk_at "call builtin:re.Match.group") => `(tactic| ((try dsimp only [List.cons_append, List.nil_append]); refine' group0_K ?k1 ?k2 ?k3 ?k4 ?_; (case k1 => exact at_ext (by assumption) (Fr.keep (by k_asm))); (case k2 => exact at_ext (by assumption) (Fr.keep (by k_asm))); (case k3 => assumption); (case k4 => assumption); intro t' k'))
local macro_rules | `(tactic| walk_at "call ref") => `(tactic| ((try dsimp only [List.cons_append, List.nil_append]); refine' unq_K ?k1 ?k2 ?k3 ?k4 ?k5 ?k6 ?k7 ?_; (case k1 => assumption); (case k2 => assumption); (case k3 => rfl); (case k5 => assumption); (case k6 => k_asm); (case k7 => k_asm); (case k4 => first | (show _ + 1 < 900; omega) | omega); intro t' h' k' F' N'))
theorem um_call {w : World} {p : Program} {loose : List Str} {mean : ExcName → Option Value} {mg mb : Str → Option Value} {A : Around} {s : Shared} {ma ta pa : Addr} {l : List Nat} {t : Tok} {n a b o : Nat} {li : Int}
    (X : (KT w.params).In s.heap) (T : Top p loose mean mg mb s.heap) (hA : A.handled = none) (hA' : A.depth < 898) (ho : o ∈ octs)
    (hm : s.heap.get? ma = some (matObj (S l) t pa n li ta)) (ht : s.heap.get? ta = some (spanObj0 a b)) (hl : l.length ≤ 100000) (hr : (l.drop a).take (b - a) = [61, hexd (o / 16), hexd (o % 16)]) :
    codeAny (model PR w) A (.call (.ref 118) ⟨[.ref ma], []⟩) (RetIs s fun v _ => ∃ t', v = .str (S [o]) t') s := by
  obtain ⟨hnd, dep, frs, gds, uts⟩ := A
  obtain rfl : hnd = none := hA
  have hA2 : dep + 1 < 900 := by have : dep < 898 := hA'; omega
  refine codeAny_call_def (fd := fnOf _ _ _ _ _ _ _ _ _ _ _ _) (Nat.lt_trans hA' (by decide)) (X 118 _ (by k_is)) rfl T.nolimit (codeRec_of X (by k_is)) rfl (BindsTo.of_eq rfl) (by decide) (locs rfl) (fun h₁ hns hk => ?_)
  have F : Fr s.heap s.heap.objs.size h₁ (fun x => _) := ⟨hns, hk, Nat.le_refl _⟩
  have N : News s.heap s.heap.objs.size h₁ [] := News.nil
  clear hns hk
  refine wpAny_mono (E := fun _ _ => False) ?_ (fun _ _ h => h) (fun _ _ h => h.elim)
  w_on
  k_steps
  rename Fr _ _ _ _ => F3
  exact RetIs.mk F3 ⟨_, rfl⟩
end Mine
end
section
open PySem PySem.W PyProof.Rows
set_option linter.all false
set_option maxRecDepth 100000
set_option maxHeartbeats 1000000
namespace Mine
open PySem.Builtin.Re PySem.Builtin
section
variable {prog : Program} {w : World} {A : Around} {E : Value → Shared → Prop} {s : Shared}
theorem loop_call {g0 : Heap} {pa D : Addr} {code : Array Nat} {ep : Nat} {n : Int} {l y : List Nat} {items : Array Value} {ls : List (List Nat)} {t : Tok} {p st q : Nat} {way : Int} {must wc : Bool} {k : Nat} {repl : Value} {R : Result → Shared → Prop} (P : PatAt g0 pa code 0) (hw : way = 1)
    (B : Base g0 D s.heap) (hgD : g0.objs.size ≤ D) (hD : s.heap.get? D = some (W.listOf items ep)) (hi : StrsAre items.toList (ls.map S)) (hz : items.size ≤ 5000) (hl : l.length ≤ 100000) (hp : p ≤ st)
    (H : Ends k (Sre.forSearch code (S l).cps 0 p (S l).cps.size must) (Hit0 st q)) (hk : k ≤ 2 ^ 60)
    (hcall : ∀ (s' : Shared) (ma ta : Addr), Ext g0 s'.heap → s'.heap.get? ma = some (matObj (S l) t pa (S l).cps.size (-1) ta) → s'.heap.get? ta = some (spanObj0 st q) → codeAny (model prog w) A.in1 (.call repl ⟨[.ref ma], []⟩) (RetIs s' fun v _ => ∃ t', v = .str (S y) t') s')
    (h : ∀ (h' : Heap) (tk ep' : Nat) (items' : Array Value) (ls' : List (List Nat)), h'.get? D = some (W.listOf items' ep') → Base g0 D h' → StrsAre items'.toList (ls'.map S) → ls'.flatten = ls.flatten ++ (l.drop p).take (st - p) ++ y → items'.size ≤ items.size + 2 → items'.size ≠ 0 →
      codeAny (model prog w) A (.builtin "re.Pattern.sub.loop" ⟨[.ref pa, .str (S l) t, repl, rawInt way, rawInt 0, rawInt (n + 1), rawInt q, rawInt q, .bool (q == st), .ref D, .bool wc], []⟩) R { s with heap := h', toks := tk }) :
    wpAny (model prog w) A.in1 (Builtin.«re.Pattern.sub.loop» ⟨[.ref pa, .str (S l) t, repl, rawInt way, rawInt 0, rawInt n, rawInt p, rawInt p, .bool must, .ref D, .bool wc], []⟩) (FinR A prog w R) (fun _ _ => False) s := by
  unfold Builtin.«re.Pattern.sub.loop»
  dsimp only [rawInt]
  refine wpAny_bind (whole_target (P.base B) ?_)
  dsimp only
  have hw0 : ¬ (way == 0) = true := by rw [hw]; decide
  have hw1 : (way == 1) = true := by rw [hw]; decide
  refine lit_pass (fun hh => absurd hh hw0) ?_
  refine wpAny_bind ?_
  rw [if_neg (by simp)]
  unfold reNextFound
  refine run_ends H (by omega) fun m' hm => .inl ⟨hm.1, ?_⟩
  obtain ⟨_, e1, e2, e3, e4, e5⟩ := hm
  dsimp only
  rw [Int.toNat_natCast]
  have c : Code := .builtin "" {}
  have tail : ∀ (s₁ : Shared) (items₁ : Array Value) (ep₁ : Nat) (ls₁ : List (List Nat)), s₁.heap.get? D = some (W.listOf items₁ ep₁) → Base g0 D s₁.heap → StrsAre items₁.toList (ls₁.map S) → ls₁.flatten = ls.flatten ++ (l.drop p).take (st - p) → items₁.size ≤ items.size + 1 →
      (∃ h' tk, s₁ = { s with heap := h', toks := tk }) →
      wpAny (model prog w) A.in1 (do
        let found ← reNewMatch (.ref pa) (.str (S l) t) 0 0 (S l).cps.size m'
        let item ← holding [found] (if (way == 1) = true then call repl [found] else (do let x ← reFound found; reExpand repl x))
        if (item != .none) = true then (do
          updateSeq D (fun x => x.push item)
          again (.builtin "re.Pattern.sub.loop" ⟨[.ref pa, .str (S l) t, repl, .int way 0, .int 0 0, .int (n + 1) 0, .int m'.handed 0, .int m'.handed 0, .bool (m'.handed == m'.start), .ref D, .bool wc], []⟩))
        else again (.builtin "re.Pattern.sub.loop" ⟨[.ref pa, .str (S l) t, repl, .int way 0, .int 0 0, .int (n + 1) 0, .int m'.handed 0, .int m'.handed 0, .bool (m'.handed == m'.start), .ref D, .bool wc], []⟩) : Sem Fin) (FinR A prog w R) (fun _ _ => False) s₁ := by
    rintro s₁ items₁ ep₁ ls₁ hD1 B1 hi1 hf hz1 ⟨h', tk, rfl⟩
    refine wpAny_bind ?_
    unfold reNewMatch
    rw [e1, e2, e4]
    dsimp only
    rw [if_neg (by simp)]
    refine wpAny_bind (m := newTuple _) (wpAny_newObj_type ?_ (by show 2 ≤ sizeLine; decide))
    refine wpAny_newObj_type ?_ (by show 6 ≤ sizeLine + 2; decide)
    have hsz : (h'.push (spanObj0 st q)).objs.size = h'.objs.size + 1 := by simp [Heap.push]
    have hk2 : ∀ b o, h'.get? b = some o → ((h'.push (spanObj0 st q)).push (matObj (S l) t pa (S l).cps.size (-1) h'.objs.size)).get? b = some o := fun b o e => Heap.get?_push_of_some _ (Heap.get?_push_of_some _ e)
    have hMa : ((h'.push (spanObj0 st q)).push (matObj (S l) t pa (S l).cps.size (-1) h'.objs.size)).get? (h'.push (spanObj0 st q)).objs.size = some (matObj (S l) t pa (S l).cps.size (-1) h'.objs.size) := Heap.get?_push_size _ rfl
    have hTa : ((h'.push (spanObj0 st q)).push (matObj (S l) t pa (S l).cps.size (-1) h'.objs.size)).get? h'.objs.size = some (spanObj0 st q) := Heap.get?_push_of_some _ (Heap.get?_push_size _ rfl)
    rw [if_pos hw1]
    refine wpAny_bind (wpAny_holding (wpAny_call (codeAny_mono (hcall _ _ _ (fun b o e => hk2 b o (B1.keep b o e).2) hMa hTa) fun r s' hr => ?_)))
    obtain ⟨v, h2, k2, rfl, rfl, he, t', rfl⟩ := hr
    have hD2 : h2.get? D = some (W.listOf items₁ ep₁) := he _ _ (hk2 _ _ hD1)
    have hsz2 : g0.objs.size ≤ h2.objs.size := Nat.le_trans hgD (Nat.le_of_lt (Heap.lt_size hD2))
    have B2 : Base g0 D h2 := ⟨fun a o e => ⟨(B1.keep a o e).1, he _ _ (hk2 _ _ (B1.keep a o e).2)⟩, hsz2⟩
    show wpAny _ _ (if (Value.str (S y) t' != Value.none) = true then _ else _) _ _ _
    rw [if_pos (by simp)]
    refine wpAny_bind (push_piece (items := items₁) (n := ep₁) hD2 (by omega) fun h3 n3 h3D h3b => ?_)
    refine wpAny_pure ⟨loop_quiet _, ?_⟩
    refine h h3 _ n3 _ (ls₁ ++ [y]) h3D (B2.same h3b) ?_ ?_ ?_ (by rw [Array.size_push]; omega)
    · rw [Array.toList_push, List.map_append]
      exact strs_snoc hi1 _ _
    · rw [List.flatten_append, hf]; simp
    · rw [Array.size_push]; omega
  by_cases hlt : p < m'.start
  · rw [if_pos hlt]
    refine wpAny_bind (slice_S hl fun t1 k1 => ?_)
    refine wpAny_bind (push_piece (items := items) (n := ep) hD (by omega) fun h1 n1 h1D h1b => ?_)
    rw [if_neg hw0]
    rw [e1] at h1D
    refine tail _ _ n1 (ls ++ [(l.drop p).take (st - p)]) h1D (B.same h1b) ?_ (by simp) (by rw [Array.size_push]; omega) ⟨_, _, rfl⟩
    rw [Array.toList_push, List.map_append]
    have e6 : List.drop p (List.take st l) = (l.drop p).take (st - p) := by rw [List.drop_take]
    rw [e6]
    exact strs_snoc hi _ _
  · rw [if_neg hlt, if_neg hw0]
    have e6 : st - p = 0 := by omega
    exact tail _ items ep ls hD B hi (by rw [e6]; simp) (by omega) ⟨_, _, rfl⟩
end
end Mine
end
section
open PySem PySem.W PyProof.Rows
set_option linter.all false
set_option maxRecDepth 100000
set_option maxHeartbeats 1000000
namespace Mine
open PySem.Builtin.Re PySem.Builtin
/-- what the coded text says -/
inductive Dec : List Nat → List Nat → Prop
  | nil {pre : List Nat} (h : ∀ c ∈ pre, c ≠ 61) : Dec pre pre
  | cons {pre rest out : List Nat} {o : Nat} (h : ∀ c ∈ pre, c ≠ 61) (ho : o ∈ octs) (k : Dec rest out) : Dec (pre ++ 61 :: hexd (o / 16) :: hexd (o % 16) :: rest) (pre ++ o :: out)
theorem hex_p {o : Nat} (ho : o ∈ octs) : pHex (hexd (o / 16)) = true ∧ pHex (hexd (o % 16)) = true := by
  simp only [octs, List.mem_cons, List.not_mem_nil, or_false] at ho
  rcases ho with rfl | rfl | rfl | rfl | rfl | rfl | rfl | rfl | rfl | rfl | rfl | rfl | rfl | rfl | rfl | rfl | rfl | rfl | rfl | rfl | rfl | rfl | rfl | rfl
  all_goals decide +kernel
section
variable {prog : Program} {w : World} {A : Around} {E : Value → Shared → Prop}
theorem dec_loop {g0 : Heap} {pa D : Addr} {l : List Nat} {t : Tok} {way : Int} {repl : Value} {R : Result → Shared → Prop} (P : PatAt g0 pa cDec 0) (hw : way = 1) (hgD : g0.objs.size ≤ D) (hl : l.length ≤ 2000)
    (hcall : ∀ (o : Nat), o ∈ octs → ∀ (s' : Shared) (ma ta st : Addr), Ext g0 s'.heap → s'.heap.get? ma = some (matObj (S l) t pa (S l).cps.size (-1) ta) → s'.heap.get? ta = some (spanObj0 st (st + 3)) → (l.drop st).take (st + 3 - st) = [61, hexd (o / 16), hexd (o % 16)] →
      codeAny (model prog w) A.in1 (.call repl ⟨[.ref ma], []⟩) (RetIs s' fun v _ => ∃ t', v = .str (S [o]) t') s') :
    ∀ {r out : List Nat}, Dec r out → ∀ (a : List Nat) (s : Shared) (items : Array Value) (ls : List (List Nat)) (ep n : Nat), l = a ++ r → Base g0 D s.heap → s.heap.get? D = some (W.listOf items ep) → StrsAre items.toList (ls.map S) → items.size + r.length ≤ 4000 → ls.flatten.length + r.length ≤ 4000 → (items.size ≠ 0 ∨ r ≠ []) →
      (∀ h' t' tk, (∀ b o, g0.get? b = some o → h'.get? b = some o) → R (.ok (.ret (.str (S (ls.flatten ++ out)) t'))) { s with heap := h', toks := tk }) →
      codeAny (model prog w) A (.builtin "re.Pattern.sub.loop" ⟨[.ref pa, .str (S l) t, repl, rawInt way, rawInt 0, rawInt n, rawInt a.length, rawInt a.length, .bool false, .ref D, .bool false], []⟩) R s := by
  intro r out hd
  induction hd with
  | nil hp =>
    rename_i pre
    intro a s items ls ep n e B hD hi z1 z2 hne h
    have hle : l.length = a.length + pre.length := by rw [e, List.length_append]
    refine codeAny_builtin entry_loop ?_
    rw [under_loop]
    have H := dec_miss a pre hp
    rw [← e, show l.toArray = (S l).cps from rfl, show l.length = (S l).cps.size from (cps_size l).symm] at H
    refine loop_end (wc := false) (k := 2 * (S l).cps.size + 20) (P.base B) (fun hh => by rw [hw] at hh; exact absurd hh (by decide)) hD hi (by omega) (by omega) (by omega) ?_ (by omega) H (by rw [cps_size]; omega) fun h' t' tk hb => ?_
    · rcases hne with q | q
      · exact .inl q
      · exact .inr (by have := List.length_pos_iff.mpr q; omega)
    · rw [if_neg (by decide)]
      have e1 : l.drop a.length = pre := by rw [e]; simp
      rw [e1]
      exact wpAny_pure (h h' t' tk fun b o x => ((B.same hb).keep b o x).2)
  | cons hp ho k ih =>
    rename_i pre rest out o
    intro a s items ls ep n e B hD hi z1 z2 hne h
    refine codeAny_builtin entry_loop ?_
    rw [under_loop]
    have H := dec_hit a pre rest (hexd (o / 16)) (hexd (o % 16)) hp (hex_p ho).1 (hex_p ho).2 l (by rw [e]; simp)
    rw [show l.toArray = (S l).cps from rfl, show l.length = (S l).cps.size from (cps_size l).symm] at H
    refine wpAny_mono (E := fun _ _ => False) ?_ (fun _ _ q => q) fun _ _ q => q.elim
    have hle : l.length = a.length + (pre.length + (3 + rest.length)) := by rw [e]; simp; omega
    have hr1 : (pre ++ 61 :: hexd (o / 16) :: hexd (o % 16) :: rest).length = pre.length + 3 + rest.length := by simp; omega
    have hdr : l.drop (a.length + pre.length) = 61 :: hexd (o / 16) :: hexd (o % 16) :: rest := by
      rw [e, ← List.append_assoc, show a.length + pre.length = (a ++ pre).length by simp, List.drop_left]
    refine loop_call (y := [o]) (n := (n : Int)) P hw B hgD hD hi (by omega) (by omega) (by omega) H (by rw [cps_size]; omega) (fun s' ma ta x y z => hcall o ho s' ma ta _ x y z ?_) fun h' tk ep' items' ls' hD' B' hi' hf hz' hn' => ?_
    · rw [hdr, show a.length + pre.length + 3 - (a.length + pre.length) = 3 by omega]; rfl
    · have eb : (a.length + pre.length + 3 == a.length + pre.length) = false := by simp
      rw [eb, show a.length + pre.length + 3 = (a ++ pre ++ [61, hexd (o / 16), hexd (o % 16)]).length by simp; omega]
      have ef : (l.drop a.length).take (a.length + pre.length - a.length) = pre := by rw [e]; simp
      rw [ef] at hf
      have hfl : ls'.flatten.length = ls.flatten.length + pre.length + 1 := by rw [hf]; simp; omega
      refine ih _ _ items' ls' ep' (n + 1) (by rw [e]; simp) B' hD' hi' (by omega) (by omega) (.inl hn') fun h2 t2 k2 he => ?_
      have := h h2 t2 k2 he
      rw [hf]
      simpa using this
end
end Mine
end
section
open PySem PySem.W PyProof.Rows
set_option linter.all false
set_option maxRecDepth 100000
set_option maxHeartbeats 1000000
namespace Mine
open PySem.Builtin.Re PySem.Builtin
theorem call_fn : typeLookup (.type "function") "__call__" = pure (some (.builtin "function.__call__")) := by rw [typeLookup_type, builtinLookup_eq_fast]; kernel_rfl
theorem no_ba_str : isSubtype (.type "str") (.type "bytearray") = pure false := by rw [isSubtype_type]; kernel_rfl
section
variable {prog : Program} {w : World} {A : Around} {E : Value → Shared → Prop} {s : Shared}
theorem sub_dec {pa fa : Addr} {l out : List Nat} {t : Tok} {Q : Value → Shared → Prop} (P : PatAt s.heap pa cDec 0) (hf : s.TypeIs (.ref fa) "function") (hl : l.length ≤ 2000) (hd : Dec l out) (hne : l ≠ [])
    (hcall : ∀ (o : Nat), o ∈ octs → ∀ (s' : Shared) (ma ta st : Addr), Ext s.heap s'.heap → s'.heap.get? ma = some (matObj (S l) t pa (S l).cps.size (-1) ta) → s'.heap.get? ta = some (spanObj0 st (st + 3)) → (l.drop st).take (st + 3 - st) = [61, hexd (o / 16), hexd (o % 16)] →
      codeAny (model prog w) A.in1 (.call (.ref fa) ⟨[.ref ma], []⟩) (RetIs s' fun v _ => ∃ t', v = .str (S [o]) t') s')
    (h : ∀ h' t' tk, Ext s.heap h' → Q (.str (S out) t') { s with heap := h', toks := tk }) :
    wpAny (model prog w) A (call (.builtin "re.Pattern.sub") [.ref pa, .ref fa, .str (S l) t]) Q E s := by
  refine wpAny_call (codeAny_call_builtin slot_sub.plain entry_sub (slot_sub.check _ _ _ _ _ _ _ _ (pat_type P) (args_sub _ _ _) ?_))
  unfold Builtin.«re.Pattern.sub» reSubstitute
  dsimp only
  rw [named_sub]
  refine wpAny_bind (wpAny_pure ?_)
  dsimp only
  refine wpAny_bind (wpAny_pure ?_)
  unfold specialOf
  refine wpAny_bind (wpAny_bind (wpAny_typeOf hf (wpAny_of_eq call_fn ?_)))
  dsimp only [Option.isSome]
  rw [if_pos rfl]
  refine wpAny_bind (wpAny_pure ?_)
  rw [if_pos rfl]
  refine wpAny_bind (wpAny_pure ?_)
  dsimp only
  refine wpAny_bind (wpAny_holding (whole_target P ?_))
  rw [if_pos (by decide)]
  refine wpAny_bind ?_
  unfold reNotHeld
  refine wpAny_bind (wpAny_isInstance (T := "str") (v := .str (S l) t) rfl no_ba_str ?_)
  rw [if_neg (by decide)]
  refine wpAny_pure ?_
  refine wpAny_bind (wpAny_newList ?_ (by decide +kernel))
  refine wpAny_pure ⟨loop_quiet _, ?_⟩
  have B := Base.mk' s.heap (W.listOf #[] 0)
  refine dec_loop (g0 := s.heap) (t := t) (way := 1) P rfl (Nat.le_refl _) hl hcall hd [] { s with heap := s.heap.push (W.listOf #[] 0) } #[] [] 0 0 (by simp) B (Heap.get?_push_size _ rfl) .nil (by simp; omega) (by simp; omega) (.inr hne) fun h' t' tk he => ?_
  exact h h' t' tk he
end
end Mine
end
section
open PySem PySem.W PyProof.Rows
set_option linter.all false
set_option maxRecDepth 100000
set_option maxHeartbeats 8000000
namespace Mine
theorem fill_W8 (w : World) (h : Heap) : (KT w.params).In h → PySem.Challenge.rw_qu0026_01 = PySem.Challenge.rw_qu0026_01 := by
  k_fill
  intro _; rfl
local macro_rules | `(tactic| walk_at "dummy3") => `(tactic| skip)
local macro_rules | `(tactic| walk_at "dummy2") => `(tactic| skip)
local macro_rules | `(tactic| walk_at "dummy1") => `(tactic| skip)
local macro_rules | `(tactic| walk_at "dummy0") => `(tactic| skip)
local macro_rules | `(tactic| walk_at "mysize") => `(tactic| (simp only [sizeLine_eq, lit_a, lit_b, lit_c, lit_e, lit_0, S_length, mk_len, empty_len, len_app, List.length_cons, List.length_nil, List.length_drop, List.length_take]; omega))
local macro_rules | `(tactic| size_fits) => `(tactic| walk_at "mysize")
local macro_rules | `(tactic| walk_at "getMethod ref") => `(tactic| (refine gm_sub (pat_dec (Frag.In.keeps (by assumption) (Fr.keep (by k_asm)))) ?_))
section
variable {w : World} {A : Around} {E : Value → Shared → Prop} {h : Heap} {g : Array GenState} {d : Drawn} {tk : Nat} {os : OsState} {h₀ : Heap} {L : Addr} {m : PySem.Str → Option Value} {news : List (Addr × Obj)}
theorem lit_us : Str.ofString "_" = ⟨#[95]⟩ := by decide +kernel
theorem lit_sp : Str.ofString " " = ⟨#[32]⟩ := by decide +kernel
theorem replace_K {prog : Program} {l : List Nat} {t u v : Tok} {Q : Value → Shared → Prop} (hu : u ≠ 0) (hv : v ≠ 0) (huv : u ≠ v) (hl : l.length ≤ 2000) (hq : ∀ t' k, Q (.str (S (sw 95 32 l)) t') ⟨h, g, d, k, os⟩) :
    wpAny (model prog w) A (call (.builtin "str.replace") [.str (S l) t, .str (Str.ofString "_") u, .str (Str.ofString " ") v]) Q E ⟨h, g, d, tk, os⟩ := by
  rw [lit_us, lit_sp]
  refine SC.replace (s := ⟨h, g, d, tk, os⟩) hu hv huv (by decide) ?_ fun t' k => by rw [replace_sw]; exact hq t' k
  rw [S_length]
  show l.length + (l.length + 1) * 1 ≤ _
  omega
theorem sub_K {p : Program} {loose : List PySem.Str} {mean : ExcName → Option Value} {mg mb : PySem.Str → Option Value} {l out : List Nat} {t : Tok} {Q : Value → Shared → Prop} (X : (KT w.params).In h₀) (T : Top p loose mean mg mb h₀) (hA : A.handled = none) (hA' : A.depth < 898)
    (hl : l.length ≤ 2000) (hd : Dec l out) (hne : l ≠ []) (F : Fr h₀ L h m) (N : News h₀ L h news) (hq : ∀ t' h' k, Fr h₀ L h' m → News h₀ L h' news → Q (.str (S out) t') ⟨h', g, d, k, os⟩) :
    wpAny (model PR w) A (call (.builtin "re.Pattern.sub") [.ref 75, .ref 118, .str (S l) t]) Q E ⟨h, g, d, tk, os⟩ := by
  have X' := X.keeps F.keep
  have T' := T.keeps F.keep
  refine sub_dec (s := ⟨h, g, d, tk, os⟩) (pat_dec X') ⟨_, X' 118 _ (by k_is), rfl⟩ hl hd hne (fun o ho s' ma ta st he hm ht hr => ?_) fun h' t' k he => hq t' h' k (Fr.ext F he) (News.ext N he)
  exact um_call (X'.keeps he) (T'.keeps he) hA hA' ho hm ht (by omega) hr
end
local macro_rules | `(tactic| walk_at "call builtin:str.replace") => `(tactic| ((try dsimp only [List.cons_append, List.nil_append]); refine' replace_K ?k1 ?k2 ?k3 (by assumption) ?_; (case k1 => with_unfolding_all exact Nat.succ_ne_zero _); (case k2 => with_unfolding_all exact Nat.succ_ne_zero _); (case k3 => exact Nat.ne_of_lt (Nat.lt_succ_self _)); intro t' k'))
local macro_rules | `(tactic| walk_at "call builtin:re.Pattern.sub") => `(tactic| ((try dsimp only [List.cons_append, List.nil_append]); refine' sub_K ?k1 ?k2 ?k3 ?k4 ?k5 ?k6 ?k7 ?k8 ?k9 ?_; (case k1 => assumption); (case k2 => assumption); (case k3 => rfl); (case k5 => assumption); (case k6 => assumption); (case k7 => assumption); (case k8 => k_asm); (case k9 => k_asm); (case k4 => first | (show _ + 1 < 898; omega) | omega); intro t' h' k' F' N'))
theorem hdec_call {w : World} {p : Program} {loose : List Str} {mean : ExcName → Option Value} {mg mb : Str → Option Value} {A : Around} {s : Shared} {l out : List Nat} {t : Tok}
    (X : (KT w.params).In s.heap) (T : Top p loose mean mg mb s.heap) (hA : A.handled = none) (hA' : A.depth < 890) (hl : l.length ≤ 2000) (hne : l ≠ []) (hd : Dec (sw 95 32 l) out) :
    codeAny (model PR w) A (.call (.ref 125) ⟨[.str (S l) t], []⟩) (RetIs s fun v _ => ∃ t', v = .str (S out) t') s := by
  obtain ⟨hnd, dep, frs, gds, uts⟩ := A
  obtain rfl : hnd = none := hA
  refine codeAny_call_def (fd := fnOf _ _ _ _ _ _ _ _ _ _ _ _) (Nat.lt_trans hA' (by decide)) (X 125 _ (by k_is)) rfl T.nolimit (codeRec_of X (by k_is)) rfl (BindsTo.of_eq rfl) (by decide) (locs rfl) (fun h₁ hns hk => ?_)
  have F : Fr s.heap s.heap.objs.size h₁ (fun x => _) := ⟨hns, hk, Nat.le_refl _⟩
  have N : News s.heap s.heap.objs.size h₁ [] := News.nil
  clear hns hk
  refine wpAny_mono (E := fun _ _ => False) ?_ (fun _ _ h => h) (fun _ _ h => h.elim)
  have hsl : (sw 95 32 l).length ≤ 2000 := by unfold sw; simpa using hl
  have hsn : sw 95 32 l ≠ [] := by unfold sw; simpa using hne
  have hA2 : dep < 890 := hA'
  w_on
  k_steps
  rename Fr _ _ _ _ => F3
  exact RetIs.mk F3 ⟨_, rfl⟩
end Mine
end
section
open PySem PySem.W PyProof.Rows
set_option linter.all false
set_option maxRecDepth 100000
set_option maxHeartbeats 8000000
namespace Mine
theorem fill_W5 (w : World) (h : Heap) : (KT w.params).In h → PySem.Challenge.rw_qu0026_01 = PySem.Challenge.rw_qu0026_01 := by
  k_fill
  intro _; rfl
local macro_rules | `(tactic| walk_at "exec For") => `(tactic| (with_unfolding_all refine' for_H ?_ ?hs; (case hs => (intro _; with_unfolding_all rfl))))
local macro_rules | `(tactic| walk_at "exec For Name Name cons nil") => `(tactic| (with_unfolding_all refine' for_H ?_ ?hs; (case hs => (intro _; with_unfolding_all rfl))))
local macro_rules | `(tactic| walk_at "exec While") => `(tactic| (refine' while_H ?_))
local macro_rules | `(tactic| walk_at "exec While Name cons nil") => `(tactic| (refine' while_H ?_))
local macro_rules | `(tactic| k_all) => `(tactic| assumption)
theorem permA {h₀ h : Heap} {L : Addr} {a x y z : Addr × Obj} {fz : List (Addr × Obj)} (N : News h₀ L h (a :: x :: y :: z :: fz)) : News h₀ L h (a :: y :: z :: x :: fz) := fun p hp => N p (by
  simp only [List.mem_cons] at hp ⊢
  rcases hp with h | h | h | h | h <;> simp [h])
theorem slice1 (rest : List Nat) : Txt.slice (S (44 :: rest)) (some 1) none = S rest := slice_from (44 :: rest) 1 (by simp)
theorem all2_nil {α β : Type} {R : α → β → Prop} {as : Array α} {bs : List β} (h : All2 R as.toList bs) (e : as.isEmpty = true) : bs = [] := by
  have := h.len
  have e' : as.toList = [] := by simpa using e
  rw [e'] at this
  exact List.length_eq_zero_iff.mp this.symm
theorem all2_cons {α β : Type} {R : α → β → Prop} {as : Array α} {bs : List β} (h : All2 R as.toList bs) (e : as.isEmpty = false) : bs ≠ [] := by
  rintro rfl
  have := h.len
  have e' : as.toList = [] := List.length_eq_zero_iff.mp (by simpa using this)
  have : as = #[] := by apply Array.toList_inj.mp; simpa using e'
  rw [this] at e
  simp at e
theorem permB {h₀ h : Heap} {L : Addr} {a x y z : Addr × Obj} {fz : List (Addr × Obj)} (N : News h₀ L h (a :: x :: y :: z :: fz)) : News h₀ L h (x :: y :: z :: a :: fz) := fun p hp => N p (by
  simp only [List.mem_cons] at hp ⊢
  rcases hp with h | h | h | h | h <;> simp [h])
theorem permC {h₀ h : Heap} {L : Addr} {x y z : Addr × Obj} {fz : List (Addr × Obj)} (N : News h₀ L h (x :: y :: z :: fz)) : News h₀ L h (z :: y :: x :: fz) := fun p hp => N p (by
  simp only [List.mem_cons] at hp ⊢
  rcases hp with h | h | h | h <;> simp [h])
theorem perm5 {h₀ h : Heap} {L : Addr} {a b c d e x y z : Addr × Obj} {fz : List (Addr × Obj)} (N : News h₀ L h (a :: b :: c :: d :: e :: x :: y :: z :: fz)) : News h₀ L h (x :: y :: z :: a :: b :: c :: d :: e :: fz) := fun p hp => N p (by
  simp only [List.mem_cons] at hp ⊢
  rcases hp with h | h | h | h | h | h | h | h | h <;> simp [h])
theorem pVal_sp {x : Nat} (h : pVal x = true) : pSp x = false := by
  unfold pVal at h
  simp at h
  simpa using h.1.1
theorem val_rest_sp {val rest : List Nat} (h3 : ∀ x ∈ val, pVal x = true) (h5 : val = [] → ∀ x ∈ rest.head?, pSp x = false) : ∀ x ∈ (val ++ rest).head?, pSp x = false := by
  cases val with
  | nil => exact h5 rfl
  | cons y r =>
    intro x hx
    have : y = x := by simpa using hx
    subst this
    exact pVal_sp (h3 _ (List.mem_cons_self ..))
theorem tok_H (tok r1 tx : List Nat) (e : tx = tok ++ r1) (h0 : tok ≠ []) (h1 : ∀ x ∈ tok, pTok x = true) (h2 : ∀ x ∈ r1.head?, pTok x = false) (hl : tx.length ≤ 100000) : Ends 20 (Sre.forSearch cTok (S tx).cps 1 0 (S tx).cps.size false) (Hit 0 tok.length 0) := by
  subst e
  have := tok_hit tok r1 h0 h1 h2 (Nat.le_trans hl (by decide))
  rwa [← cps_size] at this
theorem quo_M (sp r r1 : List Nat) (e : r1 = 61 :: sp ++ r) (h1 : ∀ x ∈ sp, pSp x = true) (h2 : ∀ x ∈ r.head?, x ≠ 34 ∧ pSp x = false) (hl : r1.length ≤ 100000) : Ends 600000 (Sre.forSearch cQuo (S r1).cps 1 0 (S r1).cps.size false) Miss := by
  subst e
  have := quo_miss sp r h1 h2 (Nat.le_trans hl (by decide))
  rw [← cps_size] at this
  exact this.mono (by rw [cps_size]; omega)
theorem val_H (sp val rest r1 : List Nat) (e : r1 = 61 :: sp ++ val ++ rest) (h1 : ∀ x ∈ sp, pSp x = true) (h2 : ∀ x ∈ val, pVal x = true) (h3 : ∀ x ∈ rest.head?, pVal x = false) (h4 : val = [] → ∀ x ∈ rest.head?, pSp x = false) (hl : r1.length ≤ 100000) :
    Ends 20 (Sre.forSearch cVal (S r1).cps 1 0 (S r1).cps.size false) (Hit 0 (1 + sp.length + val.length) (1 + sp.length)) := by
  subst e
  have := val_hit sp val rest h1 h2 h3 h4 (Nat.le_trans hl (by decide))
  rwa [← cps_size] at this
theorem tok_M (ws r tx : List Nat) (e : tx = ws ++ r) (h1 : ∀ x ∈ ws, pSp x = true) (h2 : ∀ x ∈ r.head?, pTok x = false ∧ pSp x = false) (h0 : tx ≠ []) (hl : tx.length ≤ 100000) : Ends 600000 (Sre.forSearch cTok (S tx).cps 1 0 (S tx).cps.size false) Miss := by
  subst e
  have := tok_miss ws r h1 h2 h0 (Nat.le_trans hl (by decide))
  rw [← cps_size] at this
  exact this.mono (by rw [cps_size]; omega)
theorem truthy_K {prog : Program} {w : World} {A : Around} {E : Value → Shared → Prop} {h : Heap} {g : Array GenState} {d : Drawn} {tk : Nat} {os : OsState} {l : List Nat} {t : Tok} {Q : Bool → Shared → Prop} (hp : 1 ≤ l.length) (hl : l.length ≤ 100000) (hq : ∀ k, Q true ⟨h, g, d, k, os⟩) :
    wpAny (model prog w) A (truthy (.str (S l) t)) Q E ⟨h, g, d, tk, os⟩ :=
  KXt.truthy_pos (s := ⟨h, g, d, tk, os⟩) (K := 100000) (by rw [S_length]; exact hp) (by rw [S_length]; exact hl) (by decide) hq
local macro_rules | `(tactic| walk_at "truthy str") => `(tactic| (refine truthy_K (by assumption) (by assumption) ?_; intro k'))
section
variable {prog : Program} {w : World} {A : Around} {E : Value → Shared → Prop} {h : Heap} {g : Array GenState} {d : Drawn} {tk : Nat} {os : OsState} {h₀ : Heap} {L : Addr} {m : PySem.Str → Option Value} {news : List (Addr × Obj)}
theorem lstrip_K {l r : List Nat} {t : Tok} {Q : Value → Shared → Prop} (e : Txt.lstrip (S l) = S r) (hl : l.length ≤ 100000) (hq : ∀ t' k, Q (.str (S r) t') ⟨h, g, d, k, os⟩) :
    wpAny (model prog w) A (call (.builtin "str.lstrip") [.str (S l) t]) Q E ⟨h, g, d, tk, os⟩ :=
  SCL.lstrip (s := ⟨h, g, d, tk, os⟩) (fun t' k _ => by rw [e]; exact hq t' k) (by rw [S_length, sizeLine_eq]; omega)
theorem starts_K {r : List Nat} {t u : Tok} {b : Bool} {Q : Value → Shared → Prop} (e : (r.head? == some 44) = b) (hq : Q (.bool b) ⟨h, g, d, tk, os⟩) :
    wpAny (model prog w) A (call (.builtin "str.startswith") [.str (S r) t, .str (Str.ofString ",") u]) Q E ⟨h, g, d, tk, os⟩ :=
  SC.startswith (s := ⟨h, g, d, tk, os⟩) (by rw [starts_comma, e]; exact hq)
theorem subn_K2 {pa : Addr} {tx junk rest : List Nat} {t t1 : Tok} {Q : Value → Shared → Prop} (F : Fr h₀ L h m) (N : News h₀ L h news) (P : PatAt h pa cJunk 0) (e : tx = junk ++ rest) (h0 : junk ≠ []) (h1 : ∀ x ∈ junk, pJunk x = true) (h2 : ∀ x ∈ rest.head?, pJunk x = false) (hl : tx.length ≤ 100000)
    (hq : ∀ T' h' t' t'' k, Fr h₀ L h' m → News h₀ L h' ((T', tupOf #[.str (S rest) t', .int 1 t''] 0) :: news) → (∀ p ∈ news, p.1 < T') → Q (.ref T') ⟨h', g, d, k, os⟩) :
    wpAny (model prog w) A (call (.builtin "re.Pattern.subn") [.ref pa, .str (Str.ofString "") t1, .str (S tx) t]) Q E ⟨h, g, d, tk, os⟩ := by
  subst e
  exact subn_K F N P h0 h1 h2 hl hq
end
local macro_rules | `(tactic| walk_at "call builtin:str.lstrip") => `(tactic| ((try dsimp only [List.cons_append, List.nil_append]); refine lstrip_K (by assumption) (by assumption) ?_; intro t' k'))
local macro_rules | `(tactic| walk_at "call builtin:str.startswith") => `(tactic| ((try dsimp only [List.cons_append, List.nil_append]); refine starts_K (by assumption) ?_))
local macro_rules | `(tactic| walk_at "call builtin:re.Pattern.subn") => `(tactic| ((try dsimp only [List.cons_append, List.nil_append]); refine' subn_K2 ?k1 ?k2 (pat_junk ?k3) ?k4 ?k5 ?k6 ?k7 ?k8 ?_; (case k1 => k_asm); (case k2 => k_asm); (case k3 => exact Frag.In.keeps (by assumption) (Fr.keep (by k_asm))); (case k4 => assumption); (case k5 => assumption); (case k6 => assumption); (case k7 => assumption); (case k8 => assumption); intro T' h' t' t'' k' F' N' l1; k_lt l1))
local macro_rules | `(tactic| walk_at "mysize") => `(tactic| (simp only [sizeLine_eq, lit_a, lit_b, lit_c, lit_e, lit_0, S_length, mk_len, empty_len, len_app, List.length_cons, List.length_nil, List.length_drop, List.length_take]; omega))
local macro_rules | `(tactic| size_fits) => `(tactic| walk_at "mysize")
local macro_rules | `(tactic| walk_at "getMethod ref") => `(tactic| (first | refine gm_search (pat_tok (Frag.In.keeps (by assumption) (Fr.keep (by k_asm)))) ?_ | refine gm_search (pat_quo (Frag.In.keeps (by assumption) (Fr.keep (by k_asm)))) ?_ | refine gm_search (pat_val (Frag.In.keeps (by assumption) (Fr.keep (by k_asm)))) ?_ | refine gm_subn (pat_junk (Frag.In.keeps (by assumption) (Fr.keep (by k_asm)))) ?_ | refine gm_group (News.get (by k_asm) (by k_mem)) ?_))
local macro_rules | `(tactic| walk_at "call builtin:re.Pattern.search") => `(tactic| ((try dsimp only [List.cons_append, List.nil_append]); first | (refine' searchHit_K ?k1 ?k2 (pat_tok ?k3) ?k4 ?k5 ?k6 ?k7 ?_; (case k7 => assumption); (case k1 => k_asm); (case k2 => k_asm); (case k3 => exact Frag.In.keeps (by assumption) (Fr.keep (by k_asm))); (case k4 => assumption); (case k5 => decide); (case k6 => omega); intro M' T' h' F' N' l1 l2; k_lt l1; k_lt l2) | (refine' searchHit_K ?k1 ?k2 (pat_val ?k3) ?k4 ?k5 ?k6 ?k7 ?_; (case k7 => assumption); (case k1 => k_asm); (case k2 => k_asm); (case k3 => exact Frag.In.keeps (by assumption) (Fr.keep (by k_asm))); (case k4 => assumption); (case k5 => decide); (case k6 => omega); intro M' T' h' F' N' l1 l2; k_lt l1; k_lt l2) | (refine' searchMiss_K (pat_quo ?k3) ?k4 ?k5 ?k7 ?_; (case k7 => assumption); (case k3 => exact Frag.In.keeps (by assumption) (Fr.keep (by k_asm))); (case k4 => assumption); (case k5 => decide)) | (refine' searchMiss_K (pat_tok ?k3) ?k4 ?k5 ?k7 ?_; (case k7 => assumption); (case k3 => exact Frag.In.keeps (by assumption) (Fr.keep (by k_asm))); (case k4 => assumption); (case k5 => decide))))
local macro_rules | `(tactic| walk_at "truthy ref") => `(tactic| (refine truthy_mat (News.get (by k_asm) (by k_mem)) ?_))
local macro_rules | `(tactic| walk_at "call builtin:re.Match.group") => `(tactic| ((try dsimp only [List.cons_append, List.nil_append]); refine' group_K ?k1 ?k2 ?k3 ?k4 ?k5 ?_; (case k1 => k_asm); (case k2 => k_mem); (case k3 => k_mem); (case k4 => assumption); (case k5 => assumption); intro t' k'))
local macro_rules | `(tactic| walk_at "call ref") => `(tactic| ((try dsimp only [List.cons_append, List.nil_append]); refine' unm_K ?k1 ?k2 ?k3 ?k4 ?k5 ?k6 ?k7 ?k8 ?k9 ?k10 ?k11 ?_; (case k1 => assumption); (case k2 => assumption); (case k3 => rfl); (case k5 => k_asm); (case k6 => k_asm); (case k7 => k_mem); (case k8 => k_mem); (case k4 => first | (show _ + 1 < 900; omega) | omega); (case k9 => assumption); (case k10 => assumption); (case k11 => assumption); intro t' h' k' F' N'))
local macro_rules | `(tactic| walk_at "call builtin:list.append") => `(tactic| ((try dsimp only [List.cons_append, List.nil_append]); k_dflt (refine' append_K ?k1 ?k2 ?k3 ?_ ?z; (case k1 => k_asm); (case k2 => k_asm); (case k3 => k_upd); (case z => (rw [sizeLine_eq]; (try simp only [List.size_toArray]); omega))); intro h' F' N'; (try k_sweep)))
theorem split_call {w : World} {p : Program} {loose : List Str} {mean : ExcName → Option Value} {mg mb : Str → Option Value} {A : Around} {s : Shared} {hv : Addr} {txt : List Nat} {t : Tok} {n : Nat} {out : List (List Pair)}
    (X : (KT w.params).In s.heap) (T : Top p loose mean mg mb s.heap) (hA : A.handled = none) (hA' : A.depth < 890)
    (hl : s.heap.IsList hv #[.str (S txt) t]) (hz : txt.length ≤ 5000) (R : Run n txt [] [] out) :
    codeAny (model PR w) A (.call (.ref 70) ⟨[.ref hv], []⟩) (RetIs s fun v h' => ∃ r its n fz, v = .ref r ∧ (∀ q ∈ (r, W.listOf its n) :: fz, h'.get? q.1 = some q.2 ∧ s.heap.get? q.1 = none) ∧ All2 (ListG (InL fz)) its.toList out) s := by
  obtain ⟨hnd, dep, frs, gds, uts⟩ := A
  obtain rfl : hnd = none := hA
  refine codeAny_call_def (fd := fnOf _ _ _ _ _ _ _ _ _ _ _ _) (Nat.lt_trans hA' (by decide)) (X 70 _ (by k_is)) rfl T.nolimit (codeRec_of X (by k_is)) rfl (BindsTo.of_eq rfl) (by decide) (locs rfl) (fun h₁ hns hk => ?_)
  have F : Fr s.heap s.heap.objs.size h₁ (fun x => _) := ⟨hns, hk, Nat.le_refl _⟩
  have N : News s.heap s.heap.objs.size h₁ [] := News.nil
  clear hns hk
  refine wpAny_mono (E := fun _ _ => False) ?_ (fun _ _ h => h) (fun _ _ h => h.elim)
  w_on
  k_steps
  rename Fr _ _ _ _ => F1
  rename News _ _ _ _ => N1
  rename_i l' _ _ _
  obtain ⟨mR, F1⟩ : ∃ mR : Str → Option Value, Fr s.heap s.heap.objs.size _ (fun y => if y = Str.ofString "result" then some (.ref l') else mR y) := ⟨_, F1⟩
  refine ⟨?_⟩
  try dsimp only
  refine' for_names (news₀ := [(l', W.listOf #[] 0)]) [Str.ofString "text", Str.ofString "orig_text", Str.ofString "pairs", Str.ofString "m", Str.ofString "name", Str.ofString "value", Str.ofString "non_junk", Str.ofString "nr_junk_chars"]
    (fun i nx => (i = 0 → nx = [(l', W.listOf #[] 0)]) ∧ (i = 1 → ∃ its n fz, nx = (l', W.listOf its n) :: fz ∧ (∀ p ∈ fz, p.1 ≠ l') ∧ All2 (ListG (InL fz)) its.toList out)) ?hx ?hp ?hh ?hl ?F ?N ?_ ?_ ?_ ?_
  case hx => rfl
  case hp => rfl
  case hh => rfl
  case hl => exact hl.at (F1.keep _)
  case F => exact F1
  case N => exact N1
  · exact ⟨fun _ => rfl, fun h => by omega⟩
  · rintro i news h _ hk _
    exact hl.at (hk _)
  · rintro i v m news h tk I io hv ⟨hJ0, _⟩ hn hm F2 N2
    obtain ⟨rfl, rfl⟩ : i = 0 ∧ v = .str (S txt) t := by
      rcases i with _ | i
      rotate_left
      · simp at hv
      exact ⟨rfl, (Option.some.inj (by simpa using hv)).symm⟩
    obtain rfl := hJ0 rfl
    clear F1 N1 hv hJ0
    obtain ⟨u1, u2, u3, u4, u5, u6, u7, u8, rfl⟩ := m_open8 hm
    have hlI := neN (hn _ (List.mem_singleton.mpr rfl))
    dsimp only at hlI
    k_steps
    rename Fr _ _ _ _ => F3
    rename News _ _ _ _ => N3
    rename_i PL _ lP _
    refine ⟨?_⟩
    try dsimp only
    refine while_walk (fun k s₂ => ∃ (txt : List Nat) (cur : List Pair) (res : List (List Pair)) (h : Heap) (tk : Nat) (PL : Addr) (its1 its2 : Array Value) (n1 n2 : Nat) (fz : List (Addr × Obj)) (tt : Tok) (m' : Str → Option Value),
      Run k txt cur res out ∧ s₂ = ⟨h, s.gens, s.drawn, tk, s.os⟩ ∧ m' (Str.ofString "text") = some (.str (S txt) tt) ∧ m' (Str.ofString "pairs") = some (.ref PL) ∧
      (∀ y, y ∉ [Str.ofString "text", Str.ofString "orig_text", Str.ofString "pairs", Str.ofString "m", Str.ofString "name", Str.ofString "value", Str.ofString "non_junk", Str.ofString "nr_junk_chars"] → m' y = if y = Str.ofString "result" then some (.ref l') else mR y) ∧
      Fr s.heap s.heap.objs.size h m' ∧ News s.heap s.heap.objs.size h ((PL, W.listOf its1 n1) :: (l', W.listOf its2 n2) :: (I, io) :: fz) ∧ PL ≠ l' ∧ PL ≠ I ∧ l' ≠ I ∧ (∀ p ∈ fz, p.1 ≠ PL) ∧ (∀ p ∈ fz, p.1 ≠ l') ∧ (∀ p ∈ fz, p.1 ≠ I) ∧
      All2 (PairG (InL fz)) its1.toList cur ∧ All2 (ListG (InL fz)) its2.toList res ∧ txt.length ≤ 5000 ∧ its1.size + txt.length ≤ 5000 ∧ its2.size + txt.length ≤ 5000) ?_ n ?_
    rotate_left
    · refine ⟨txt, [], [], _, _, PL, #[], #[], 0, 0, [], t, _, R, rfl, rfl, rfl, ?_, F3, ?_, ?_, ?_, hlI, (fun _ h => nomatch h), (fun _ h => nomatch h), (fun _ h => nomatch h), All2.nil, All2.nil, hz, by simpa using hz, by simpa using hz⟩
      · intro y hy
        simp only [List.mem_cons, List.not_mem_nil, or_false, not_or] at hy
        simp only [if_neg hy.1, if_neg hy.2.1, if_neg hy.2.2.1, if_neg hy.2.2.2.1, if_neg hy.2.2.2.2.1, if_neg hy.2.2.2.2.2.1, if_neg hy.2.2.2.2.2.2.1, if_neg hy.2.2.2.2.2.2.2]
      · intro p hp
        simp only [List.mem_cons, List.not_mem_nil, or_false] at hp
        rcases hp with h | h | h <;> subst h <;> exact N3 _ (by simp)
      · exact neN (by omega)
      · exact neN (by omega)
    rintro k s₂ ⟨txt, cur, res, h, tk, PL, its1, its2, n1, n2, fz, tt, m', R, rfl, hm1, hm2, hm3, F4, N4, d1, d2, d3, f1, f2, f3, c1, c2, z1, z2, z3⟩
    clear F3 N3 F2 N2
    obtain ⟨v1, v2, v3, v4, v5, v6, v7, v8, rfl⟩ := m_open8 hm3
    obtain rfl : v1 = _ := hm1
    obtain rfl : v3 = _ := hm2
    replace d1 := neN d1
    replace d2 := neN d2
    replace d3 := neN d3
    cases R with
    | done =>
      k_steps
      all_goals (rename Fr _ _ _ _ => F6)
      all_goals (rename News _ _ _ _ => N6)
      · rename (Array.isEmpty _ = true) => hE
        have hc := all2_nil c1 hE
        subst hc
        refine ⟨_, _, _, _, rfl, F6, permC N6, ?_, ?_, (fun h => by omega), fun _ => ⟨_, _, _, rfl, ?_, ?_⟩⟩
        · intro p hp
          simp only [List.mem_cons] at hp
          rcases hp with h | h | h
          · rw [h]; exact d3
          · rw [h]; exact d2
          · exact f3 p h
        · exact hm3
        · intro p hp
          rcases List.mem_cons.mp hp with h | h
          · rw [h]; exact d1
          · exact f2 p h
        · exact c2.mono fun _ _ q => q.mono fun _ _ e => List.mem_cons_of_mem _ e
      · rename (Array.isEmpty _ = false) => hE
        have hc := all2_cons c1 hE
        rw [if_neg hc]
        refine ⟨_, _, _, _, rfl, F6, permC N6, ?_, ?_, (fun h => by omega), fun _ => ⟨_, _, _, rfl, ?_, ?_⟩⟩
        · intro p hp
          simp only [List.mem_cons] at hp
          rcases hp with h | h | h
          · rw [h]; exact d3
          · rw [h]; exact d2
          · exact f3 p h
        · exact hm3
        · intro p hp
          rcases List.mem_cons.mp hp with h | h
          · rw [h]; exact d1
          · exact f2 p h
        · rw [Array.toList_push]
          exact All2.snoc (c2.mono fun _ _ q => q.mono fun _ _ e => List.mem_cons_of_mem _ e) ⟨PL, its1, n1, rfl, List.mem_cons_self .., c1.mono fun _ _ q => q.mono fun _ _ e => List.mem_cons_of_mem _ e⟩
    | @tok k' tk0 sp val rest _ _ _ h0 h1 h2 h3 h4 h5 h6 R' =>
      generalize hr1' : 61 :: sp ++ val ++ rest = r1 at *
      generalize htx' : tk0 ++ r1 = tx at *
      have hr1 := hr1'.symm
      have htx := htx'.symm
      have hlx : tx.length ≤ 100000 := by omega
      have htp : 1 ≤ tk0.length := List.length_pos_iff.mpr h0
      have hlt : tx.length = tk0.length + r1.length := by rw [htx, List.length_append]
      have hl1 : r1.length ≤ 100000 := by omega
      have hb1 : tk0.length ≤ tx.length := by omega
      have hxp : 1 ≤ tx.length := by omega
      have H1 := tok_H tk0 r1 tx htx h0 h1 (by rw [hr1]; intro x hx; simp at hx; subst hx; decide +kernel) hlx
      have hd1 : tx.drop tk0.length = r1 := by rw [htx]; simp
      have hg1 : (tx.drop 0).take (tk0.length - 0) = tk0 := by rw [htx]; simp
      have hrl : r1.length = 1 + sp.length + val.length + rest.length := by rw [hr1]; simp; omega
      have H2 := quo_M sp (val ++ rest) r1 (by rw [hr1]; simp) h2 (fun x hx => ⟨h6 x hx, val_rest_sp h3 h5 x hx⟩) hl1
      have H3 := val_H sp val rest r1 hr1 h2 h3 h4 h5 hl1
      have hb3 : 1 + sp.length + val.length ≤ r1.length := by omega
      have hd3 : r1.drop (1 + sp.length + val.length) = rest := by rw [hr1, show 1 + sp.length + val.length = (61 :: sp ++ val).length by simp; omega, List.drop_left]
      have hg3 : (r1.drop (1 + sp.length)).take (1 + sp.length + val.length - (1 + sp.length)) = val := by
        rw [hr1, show 1 + sp.length = (61 :: sp).length by simp; omega, List.append_assoc, List.drop_left]
        simp
      k_steps
      rename Fr _ _ _ _ => F6
      rename News _ _ _ _ => N6
      try clear hm3 hm
      rw [rstrip_S val fun x hx => pVal_sp (h3 x hx)] at N6
      refine ⟨⟨k', Nat.lt_succ_self _, rest, cur ++ [(tk0, val)], res, _, _, PL, _, its2, _, n2, _, _, _, R', rfl, rfl, rfl, ?_, F6, perm5 N6, d1, d2, d3, ?_, ?_, ?_, ?_, ?_, by omega, ?_, by omega⟩⟩
      · intro y hy
        simp only [List.mem_cons, List.not_mem_nil, or_false, not_or] at hy
        simp only [if_neg hy.1, if_neg hy.2.1, if_neg hy.2.2.1, if_neg hy.2.2.2.1, if_neg hy.2.2.2.2.1, if_neg hy.2.2.2.2.2.1, if_neg hy.2.2.2.2.2.2.1, if_neg hy.2.2.2.2.2.2.2]
      · intro p hp
        simp only [List.mem_cons] at hp
        rcases hp with h | h | h | h | h | h
        all_goals first | exact f1 p h | (rw [h]; refine neN ?_; dsimp only; omega)
      · intro p hp
        simp only [List.mem_cons] at hp
        rcases hp with h | h | h | h | h | h
        all_goals first | exact f2 p h | (rw [h]; refine neN ?_; dsimp only; omega)
      · intro p hp
        simp only [List.mem_cons] at hp
        rcases hp with h | h | h | h | h | h
        all_goals first | exact f3 p h | (rw [h]; refine neN ?_; dsimp only; omega)
      · rw [Array.toList_push]
        refine All2.snoc (c1.mono fun _ _ q => q.mono fun _ _ e => ?_) ⟨_, _, _, _, rfl, List.mem_cons_self ..⟩
        exact List.mem_cons_of_mem _ (List.mem_cons_of_mem _ (List.mem_cons_of_mem _ (List.mem_cons_of_mem _ (List.mem_cons_of_mem _ e))))
      · refine c2.mono fun _ _ q => q.mono fun _ _ e => ?_
        exact List.mem_cons_of_mem _ (List.mem_cons_of_mem _ (List.mem_cons_of_mem _ (List.mem_cons_of_mem _ (List.mem_cons_of_mem _ e))))
      · rw [Array.size_push]; omega
    | @comma k' ws rest _ _ _ h1 R' =>
      generalize htx' : ws ++ 44 :: rest = tx at *
      have htx := htx'.symm
      have hlx : tx.length ≤ 100000 := by omega
      have hlt : tx.length = ws.length + 1 + rest.length := by rw [htx]; simp; omega
      have hxp : 1 ≤ tx.length := by omega
      have hne : tx ≠ [] := by intro h; rw [h] at hxp; simp at hxp
      have h44 : pTok 44 = false ∧ pSp 44 = false := by decide +kernel
      have H1 := tok_M ws (44 :: rest) tx htx h1 (by intro x hx; simp at hx; subst hx; exact h44) hne hlx
      have HL : Txt.lstrip (S tx) = S (44 :: rest) := by rw [htx]; exact lstrip_S ws _ h1 (by intro x hx; simp at hx; subst hx; exact h44.2)
      have HS : ((44 :: rest : List Nat).head? == some 44) = true := rfl
      have hlr : (44 :: rest).length ≤ 100000 := by simp; omega
      k_steps
      all_goals (rename Fr _ _ _ _ => F6)
      all_goals (rename News _ _ _ _ => N6)
      all_goals (rw [slice1] at F6)
      · rename (Array.isEmpty _ = true) => hE
        have hc := all2_nil c1 hE
        subst hc
        refine ⟨⟨k', Nat.lt_succ_self _, rest, [], _, _, _, _, #[], its2, 0, n2, _, _, _, R', rfl, rfl, rfl, ?_, F6, permA N6, neN (by omega), neN (by omega), d3, ?_, ?_, ?_, All2.nil, ?_, by omega, by simp; omega, by omega⟩⟩
        · intro y hy
          simp only [List.mem_cons, List.not_mem_nil, or_false, not_or] at hy
          simp only [if_neg hy.1, if_neg hy.2.1, if_neg hy.2.2.1, if_neg hy.2.2.2.1, if_neg hy.2.2.2.2.1, if_neg hy.2.2.2.2.2.1, if_neg hy.2.2.2.2.2.2.1, if_neg hy.2.2.2.2.2.2.2]
        · rename (_ ∧ _ ∧ _ ∧ AllLt _ _) => l1
          intro p hp
          rcases List.mem_cons.mp hp with h | h
          · rw [h]; refine neN ?_; dsimp only; omega
          · exact Nat.ne_of_lt (allLt_all l1.2.2.2 p h)
        · intro p hp
          rcases List.mem_cons.mp hp with h | h
          · rw [h]; exact d1
          · exact f2 p h
        · intro p hp
          rcases List.mem_cons.mp hp with h | h
          · rw [h]; exact d2
          · exact f3 p h
        · exact c2.mono fun _ _ q => q.mono fun _ _ e => List.mem_cons_of_mem _ e
      · rename (Array.isEmpty _ = false) => hE
        have hc := all2_cons c1 hE
        rw [if_neg hc] at R'
        refine ⟨⟨k', Nat.lt_succ_self _, rest, [], _, _, _, _, #[], _, 0, _, _, _, _, R', rfl, rfl, rfl, ?_, F6, permA N6, neN (by omega), neN (by omega), d3, ?_, ?_, ?_, All2.nil, ?_, by omega, by simp; omega, by rw [Array.size_push]; omega⟩⟩
        · intro y hy
          simp only [List.mem_cons, List.not_mem_nil, or_false, not_or] at hy
          simp only [if_neg hy.1, if_neg hy.2.1, if_neg hy.2.2.1, if_neg hy.2.2.2.1, if_neg hy.2.2.2.2.1, if_neg hy.2.2.2.2.2.1, if_neg hy.2.2.2.2.2.2.1, if_neg hy.2.2.2.2.2.2.2]
        · rename (_ ∧ _ ∧ _ ∧ AllLt _ _) => l1
          intro p hp
          rcases List.mem_cons.mp hp with h | h
          · rw [h]; refine neN ?_; dsimp only; omega
          · exact Nat.ne_of_lt (allLt_all l1.2.2.2 p h)
        · intro p hp
          rcases List.mem_cons.mp hp with h | h
          · rw [h]; exact d1
          · exact f2 p h
        · intro p hp
          rcases List.mem_cons.mp hp with h | h
          · rw [h]; exact d2
          · exact f3 p h
        · rw [Array.toList_push]
          refine All2.snoc (c2.mono fun _ _ q => q.mono fun _ _ e => List.mem_cons_of_mem _ e) ⟨PL, its1, n1, rfl, List.mem_cons_self .., c1.mono fun _ _ q => q.mono fun _ _ e => List.mem_cons_of_mem _ e⟩
    | @junk k' ws r jk rest _ _ _ h0 h1 h2 he hw hr R' =>
      generalize htx' : jk ++ rest = tx at *
      have htx := htx'.symm
      have hlx : tx.length ≤ 100000 := by omega
      have hjp : 1 ≤ jk.length := List.length_pos_iff.mpr h0
      have hlt : tx.length = jk.length + rest.length := by rw [htx]; simp
      have hxp : 1 ≤ tx.length := by omega
      have hne : tx ≠ [] := by intro h; rw [h] at hxp; simp at hxp
      have H1 := tok_M ws r tx he hw (fun x hx => ⟨(hr x hx).1, (hr x hx).2.1⟩) hne hlx
      have HL : Txt.lstrip (S tx) = S r := by rw [he]; exact lstrip_S ws _ hw (fun x hx => (hr x hx).2.1)
      have HS : (r.head? == some 44) = false := by
        cases r with
        | nil => rfl
        | cons y q => simpa using (hr y rfl).2.2
      k_steps
      rename Fr _ _ _ _ => F6
      rename News _ _ _ _ => N6
      refine ⟨⟨k', Nat.lt_succ_self _, rest, cur, res, _, _, PL, its1, its2, n1, n2, _, _, _, R', rfl, rfl, rfl, ?_, F6, permB N6, d1, d2, d3, ?_, ?_, ?_, ?_, ?_, by omega, by omega, by omega⟩⟩
      · intro y hy
        simp only [List.mem_cons, List.not_mem_nil, or_false, not_or] at hy
        simp only [if_neg hy.1, if_neg hy.2.1, if_neg hy.2.2.1, if_neg hy.2.2.2.1, if_neg hy.2.2.2.2.1, if_neg hy.2.2.2.2.2.1, if_neg hy.2.2.2.2.2.2.1, if_neg hy.2.2.2.2.2.2.2]
      · intro p hp
        rcases List.mem_cons.mp hp with h | h
        · rw [h]; refine neN ?_; dsimp only; omega
        · exact f1 p h
      · intro p hp
        rcases List.mem_cons.mp hp with h | h
        · rw [h]; refine neN ?_; dsimp only; omega
        · exact f2 p h
      · intro p hp
        rcases List.mem_cons.mp hp with h | h
        · rw [h]; refine neN ?_; dsimp only; omega
        · exact f3 p h
      · exact c1.mono fun _ _ q => q.mono fun _ _ e => List.mem_cons_of_mem _ e
      · exact c2.mono fun _ _ q => q.mono fun _ _ e => List.mem_cons_of_mem _ e
  · rintro m news h tk ⟨_, hJ1⟩ hm F2 N2
    obtain ⟨its, n, fz, rfl, hf, hG⟩ := hJ1 rfl
    clear F1 N1
    obtain ⟨u1, u2, u3, u4, u5, u6, u7, u8, rfl⟩ := m_open8 hm
    k_steps
    rename Fr _ _ _ _ => F3
    refine RetIs.mk F3 ⟨l', its, n, fz, rfl, fun q hq => ?_, hG⟩
    have := N2 q hq
    exact ⟨this.1, this.2.2⟩
end Mine
end
section
open PySem PySem.W PyProof.Rows
set_option linter.all false
set_option maxRecDepth 100000
namespace Mine
def textOf (cs : List Nat) (gs : List (List Nat × List Nat)) : List Nat := gs.flatMap fun g => (if g.1 = [] then [] else wordL cs g.1) ++ g.2
def MarkOk (m : List Nat) : Prop := m = [44, 32] ∨ m = [59, 32] ∨ m = [32]
def GOk (gs : List (List Nat × List Nat)) : Prop := ∀ g ∈ gs, (∀ o ∈ g.1, o < 256) ∧ MarkOk g.2
theorem pTok_ne {x : Nat} (h : pTok x = true) : x ≠ 61 := by rintro rfl; exact absurd h (by decide +kernel)
theorem pTok_val {x : Nat} (h : pTok x = true) : pVal x = true := by
  unfold pTok at h; unfold pVal
  simp only [Bool.not_eq_true', Bool.or_eq_false_iff] at h ⊢
  exact ⟨⟨h.1.1.1, h.1.2⟩, h.1.1.2⟩
theorem encO_cases : ∀ o : Nat, o < 256 → ((encO o).all pTok = true) ∨ ∃ a b, encO o = [61, a, b] ∧ pTok a = true ∧ pTok b = true ∧ a ≠ 34 := by
  have key : ∀ o : Nat, o < 256 → ((encO o).all pTok || (encO o == [61, hexd (o / 16), hexd (o % 16)] && pTok (hexd (o / 16)) && pTok (hexd (o % 16)) && hexd (o / 16) != 34)) = true := by decide +kernel
  intro o ho
  have := key o ho
  rw [Bool.or_eq_true] at this
  rcases this with h | h
  · exact .inl h
  · right
    simp only [Bool.and_eq_true, beq_iff_eq, bne_iff_ne, ne_eq] at h
    exact ⟨_, _, h.1.1.1, h.1.1.2, h.1.2, h.2⟩
theorem enc_cons (o : Nat) (row : List Nat) : enc (o :: row) = encO o ++ enc row := by unfold enc; rw [List.flatMap_cons]
theorem enc_val : ∀ row : List Nat, (∀ o ∈ row, o < 256) → ∀ x ∈ enc row, pVal x = true
  | [], _, x, hx => by simp [enc] at hx
  | o :: row, h, x, hx => by
    rw [enc_cons] at hx
    rcases List.mem_append.mp hx with hx | hx
    · rcases encO_cases o (h o (List.mem_cons_self ..)) with e | ⟨a, b, e, ha, hb, _⟩
      · exact pTok_val (List.all_eq_true.mp e x hx)
      · rw [e] at hx
        simp only [List.mem_cons, List.not_mem_nil, or_false] at hx
        rcases hx with rfl | rfl | rfl
        · decide +kernel
        · exact pTok_val ha
        · exact pTok_val hb
    · exact enc_val row (fun o ho => h o (List.mem_cons_of_mem _ ho)) x hx
theorem enc_split : ∀ row : List Nat, (∀ o ∈ row, o < 256) → (∀ x ∈ enc row, pTok x = true) ∨
    ∃ pre y r, enc row = pre ++ 61 :: y :: r ∧ (∀ x ∈ pre, pTok x = true) ∧ y ≠ 61 ∧ y ≠ 34
  | [], _ => .inl fun x hx => by simp [enc] at hx
  | o :: row, h => by
    rw [enc_cons]
    rcases encO_cases o (h o (List.mem_cons_self ..)) with e | ⟨a, b, e, ha, hb, h34⟩
    · rcases enc_split row (fun o ho => h o (List.mem_cons_of_mem _ ho)) with k | ⟨pre, y, r, k, hp, h1, h2⟩
      · left
        intro x hx
        rcases List.mem_append.mp hx with hx | hx
        · exact List.all_eq_true.mp e x hx
        · exact k x hx
      · right
        refine ⟨encO o ++ pre, y, r, by rw [k, List.append_assoc], fun x hx => ?_, h1, h2⟩
        rcases List.mem_append.mp hx with hx | hx
        · exact List.all_eq_true.mp e x hx
        · exact hp x hx
    · right
      exact ⟨[], a, b :: enc row, by rw [e]; rfl, (fun _ h => nomatch h), pTok_ne ha, h34⟩
structure Cut (wd tok val : List Nat) : Prop where
  eq : wd = 61 :: (tok ++ 61 :: val)
  ne : tok ≠ []
  htok : ∀ x ∈ tok, pTok x = true
  hval : ∀ x ∈ val, pVal x = true
  hd : ∀ x ∈ val.head?, x ≠ 34 ∧ x ≠ 61
theorem cut_word {cs row : List Nat} (hcs : ∀ x ∈ cs, pTok x = true) (hrow : ∀ o ∈ row, o < 256) : ∃ tok val, Cut (wordL cs row) tok val := by
  have q63 : pTok 63 = true := by decide +kernel
  have q113 : pTok 113 = true := by decide +kernel
  have v61 : pVal 61 = true := by decide +kernel
  rcases enc_split row hrow with k | ⟨pre, y, r, k, hp, h1, h2⟩
  · refine ⟨63 :: cs ++ [63, 113, 63] ++ enc row ++ [63], [], by simp [wordL], by simp, fun x hx => ?_, (fun _ h => nomatch h), fun x hx => by simp at hx⟩
    simp only [List.cons_append, List.append_assoc, List.mem_cons, List.mem_append, List.not_mem_nil, or_false, List.nil_append] at hx
    rcases hx with rfl | hx | rfl | rfl | rfl | hx | rfl
    all_goals first | exact q63 | exact q113 | exact hcs _ hx | exact k _ hx
  · refine ⟨63 :: cs ++ [63, 113, 63] ++ pre, y :: r ++ [63, 61], by simp [wordL, k], by simp, fun x hx => ?_, fun x hx => ?_, fun x hx => ?_⟩
    · simp only [List.cons_append, List.append_assoc, List.mem_cons, List.mem_append, List.not_mem_nil, or_false, List.nil_append] at hx
      rcases hx with rfl | hx | rfl | rfl | rfl | hx
      all_goals first | exact q63 | exact q113 | exact hcs _ hx | exact hp _ hx
    · rcases List.mem_append.mp hx with hx | hx
      · exact enc_val row hrow x (by rw [k]; exact List.mem_append_right _ (List.mem_cons_of_mem _ hx))
      · simp only [List.mem_cons, List.not_mem_nil, or_false] at hx
        rcases hx with rfl | rfl
        · exact pTok_val q63
        · exact v61
    · have : y = x := by simpa using hx
      subst this; exact ⟨h2, h1⟩
theorem takeWhile_tok {tok val : List Nat} (h : ∀ x ∈ tok, pTok x = true) : (tok ++ 61 :: val).takeWhile (· != 61) = tok := by
  rw [List.takeWhile_append_of_pos fun x hx => by simpa using pTok_ne (h x hx)]
  simp
theorem Cut.at {wd tok val : List Nat} (c : Cut wd tok val) : cutAt wd = 1 + tok.length := by
  unfold cutAt; rw [c.eq, List.drop_one, List.tail_cons, takeWhile_tok c.htok]
theorem Cut.front {wd tok val : List Nat} (c : Cut wd tok val) : (wd.take (cutAt wd)).drop 1 = tok := by
  rw [c.at, c.eq, show 1 + tok.length = tok.length + 1 by omega, List.take_succ_cons, List.drop_one, List.tail_cons, List.take_left]
theorem Cut.back {wd tok val : List Nat} (c : Cut wd tok val) : wd.drop (cutAt wd + 1) = val := by
  rw [c.at, c.eq, show 1 + tok.length + 1 = (tok.length + 1) + 1 by omega, List.drop_succ_cons]
  rw [show tok ++ 61 :: val = (tok ++ [61]) ++ val by simp, show tok.length + 1 = (tok ++ [61]).length by simp, List.drop_left]
theorem Cut.full {wd tok val : List Nat} (c : Cut wd tok val) : (cutAt wd + 1 == wd.length) = (val == []) := by
  rw [c.at, c.eq]
  cases val <;> simp <;> omega
/-! the run of the cutting -/
def fin (σ : LL) : List (List Pair) := (σ.done ++ [σ.cur]).filter fun ps => ps != []
theorem fin_snoc (done : List (List Pair)) (cur : List Pair) : (done ++ [cur]).filter (fun ps => ps != []) = if cur = [] then done.filter (fun ps => ps != []) else done.filter (fun ps => ps != []) ++ [cur] := by
  rw [List.filter_append]
  by_cases h : cur = [] <;> simp [h]
theorem dropSp (ws r : List Nat) (hws : ∀ x ∈ ws, x = 32 ∨ x = 59) (hr : ∀ x ∈ r.head?, pTok x = false ∧ pSp x = false) (h : r.head? = some 44 → ¬ ∀ x ∈ ws, x = 32) :
    ∃ a b, ws ++ r = a ++ b ∧ (∀ x ∈ a, pSp x = true) ∧ ∀ x ∈ b.head?, pTok x = false ∧ pSp x = false ∧ x ≠ 44 := by
  induction ws with
  | nil =>
    refine ⟨[], r, rfl, (fun _ h => nomatch h), fun x hx => ⟨(hr x hx).1, (hr x hx).2, ?_⟩⟩
    rintro rfl
    exact h hx (fun _ h => nomatch h)
  | cons y ws ih =>
    rcases hws y (List.mem_cons_self ..) with rfl | rfl
    · obtain ⟨a, b, e, ha, hb⟩ := ih (fun x hx => hws x (List.mem_cons_of_mem _ hx)) (fun e hh => h e fun x hx => by
        rcases List.mem_cons.mp hx with rfl | hx
        · rfl
        · exact hh x hx)
      refine ⟨32 :: a, b, by rw [List.cons_append, e]; rfl, fun x hx => ?_, hb⟩
      rcases List.mem_cons.mp hx with rfl | hx
      · decide +kernel
      · exact ha x hx
    · refine ⟨[], 59 :: ws ++ r, rfl, (fun _ h => nomatch h), fun x hx => ?_⟩
      have : 59 = x := by simpa using hx
      subst this; decide +kernel
theorem junkW {ws : List Nat} (h : ∀ x ∈ ws, x = 32 ∨ x = 59) : ∀ x ∈ ws, pJunk x = true := fun x hx => by
  rcases h x hx with rfl | rfl <;> decide +kernel
theorem spW {ws : List Nat} (h : ∀ x ∈ ws, x = 32) : ∀ x ∈ ws, pSp x = true := fun x hx => by
  rw [h x hx]; decide +kernel
/-- at the end -/
theorem pl_end {ws : List Nat} (hws : ∀ x ∈ ws, x = 32 ∨ x = 59) (cur : List Pair) (res : List (List Pair)) : ∃ n, Run n ws cur res (if cur = [] then res else res ++ [cur]) := by
  by_cases h : ws = []
  · subst h; exact ⟨0, .done⟩
  · obtain ⟨a, b, e, ha, hb⟩ := dropSp ws [] hws (by simp) (by simp)
    have := Run.junk (n := 0) (junk := ws) (rest := []) (cur := cur) (res := res) h (junkW hws) (by simp) e ha hb .done
    rw [List.append_nil] at this
    exact ⟨1, this⟩
/-- at a comma -/
theorem pl_comma {ws rest : List Nat} {cur : List Pair} {res out : List (List Pair)} (hws : ∀ x ∈ ws, x = 32 ∨ x = 59) (k : ∃ n, Run n rest [] (if cur = [] then res else res ++ [cur]) out) : ∃ n, Run n (ws ++ 44 :: rest) cur res out := by
  obtain ⟨n, k⟩ := k
  by_cases h : ∀ x ∈ ws, x = 32
  · exact ⟨n + 1, .comma (spW h) k⟩
  · have hne : ws ≠ [] := by rintro rfl; exact h fun _ h => nomatch h
    obtain ⟨a, b, e, ha, hb⟩ := dropSp ws (44 :: rest) hws (by intro x hx; simp at hx; subst hx; decide +kernel) (fun _ => h)
    exact ⟨n + 1 + 1, Run.junk (junk := ws) (rest := 44 :: rest) hne (junkW hws) (by intro x hx; simp at hx; subst hx; decide +kernel) e ha hb (.comma (ws := []) (fun _ h => nomatch h) k)⟩
/-- at a word -/
theorem pl_word {ws rest : List Nat} {cur : List Pair} {res out : List (List Pair)} (hws : ∀ x ∈ ws, x = 32 ∨ x = 59) (hr : ∀ x ∈ rest.head?, pJunk x = false) (k : ∃ n, Run n rest cur res out) : ∃ n, Run n (ws ++ 61 :: rest) cur res out := by
  obtain ⟨n, k⟩ := k
  obtain ⟨a, b, e, ha, hb⟩ := dropSp ws (61 :: rest) hws (by intro x hx; simp at hx; subst hx; decide +kernel) (by simp)
  have hj : ∀ x ∈ ws ++ [61], pJunk x = true := fun x hx => by
    rcases List.mem_append.mp hx with hx | hx
    · exact junkW hws x hx
    · simp at hx; subst hx; decide +kernel
  have := Run.junk (junk := ws ++ [61]) (rest := rest) (by simp) hj hr (by rw [← e]; simp) ha hb k
  rw [List.append_assoc] at this
  exact ⟨n + 1, this⟩
theorem tok_head {tok r : List Nat} (h0 : tok ≠ []) (h : ∀ x ∈ tok, pTok x = true) : ∀ x ∈ (tok ++ r).head?, pJunk x = false := by
  cases tok with
  | nil => exact absurd rfl h0
  | cons y t =>
    intro x hx
    have : y = x := by simpa using hx
    subst this
    have := h y (List.mem_cons_self ..)
    unfold pTok at this
    unfold pJunk
    simp only [Bool.not_eq_true', Bool.or_eq_false_iff] at this ⊢
    exact ⟨⟨this.2, this.1.1.1⟩, this.1.2⟩
end Mine
end
section
open PySem PySem.W PyProof.Rows
set_option linter.all false
set_option maxRecDepth 100000
namespace Mine
theorem step_gen (cs : List Nat) (σ : LL) (g : List Nat × List Nat) (cur' : List Pair) (w' : Bool)
    (h : (if g.1 = [] then (σ.cur, σ.waits) else if σ.waits then (σ.cur.dropLast ++ [((σ.cur.getLastD ([], [])).1, wordL cs g.1)], false)
      else (σ.cur ++ [(((wordL cs g.1).take (cutAt (wordL cs g.1))).drop 1, (wordL cs g.1).drop (cutAt (wordL cs g.1) + 1))], cutAt (wordL cs g.1) + 1 == (wordL cs g.1).length)) = (cur', w')) :
    llStep cs σ g = if g.2 = [44, 32] then ⟨σ.done ++ [cur'], [], false⟩ else ⟨σ.done, cur', w' && g.2 == [32]⟩ := by
  unfold llStep
  dsimp only
  rw [h]
  by_cases e : g.2 = [44, 32]
  · rw [if_pos e, if_pos e, e]
    have : (([44, 32] : List Nat) == [32]) = false := rfl
    rw [this, Bool.and_false]
  · rw [if_neg e, if_neg e]
theorem step_empty (cs : List Nat) (done : List (List Pair)) (cur : List Pair) (w : Bool) (m : List Nat) :
    llStep cs ⟨done, cur, w⟩ ([], m) = if m = [44, 32] then ⟨done ++ [cur], [], false⟩ else ⟨done, cur, w && m == [32]⟩ := step_gen cs ⟨done, cur, w⟩ ([], m) cur w (by rw [if_pos rfl])
theorem step_free (cs : List Nat) (done : List (List Pair)) (cur : List Pair) (row m tok val : List Nat) (h : row ≠ []) (c : Cut (wordL cs row) tok val) :
    llStep cs ⟨done, cur, false⟩ (row, m) = if m = [44, 32] then ⟨done ++ [cur ++ [(tok, val)]], [], false⟩ else ⟨done, cur ++ [(tok, val)], val == [] && m == [32]⟩ :=
  step_gen cs ⟨done, cur, false⟩ (row, m) _ _ (by rw [if_neg h, if_neg (by exact Bool.false_ne_true), c.front, c.back, c.full])
theorem step_wait (cs : List Nat) (done : List (List Pair)) (cur : List Pair) (row m tok val : List Nat) (h : row ≠ []) :
    llStep cs ⟨done, cur ++ [(tok, val)], true⟩ (row, m) = if m = [44, 32] then ⟨done ++ [cur ++ [(tok, wordL cs row)]], [], false⟩ else ⟨done, cur ++ [(tok, wordL cs row)], false⟩ := by
  have := step_gen cs ⟨done, cur ++ [(tok, val)], true⟩ (row, m) (cur ++ [(tok, wordL cs row)]) false (by
    rw [if_neg h, if_pos rfl]
    have e1 : (cur ++ [(tok, val)]).dropLast = cur := by simp
    have e2 : (cur ++ [(tok, val)]).getLastD ([], []) = (tok, val) := by simp [List.getLastD_eq_getLast?]
    dsimp only
    rw [e1, e2])
  rw [this, Bool.false_and]
theorem text_cons (cs : List Nat) (g : List Nat × List Nat) (gs : List (List Nat × List Nat)) : textOf cs (g :: gs) = (if g.1 = [] then [] else wordL cs g.1) ++ (g.2 ++ textOf cs gs) := by
  unfold textOf; rw [List.flatMap_cons, List.append_assoc]
theorem mark_head {m r : List Nat} (h : MarkOk m) : ∀ x ∈ (m ++ r).head?, pVal x = false ∧ x ≠ 34 := by
  rcases h with rfl | rfl | rfl <;> (intro x hx; simp at hx; subst hx; decide +kernel)
theorem ws32 : ∀ x ∈ ([32] : List Nat), x = 32 ∨ x = 59 := fun x hx => .inl (by simpa using hx)
theorem ws59 : ∀ x ∈ ([59, 32] : List Nat), x = 32 ∨ x = 59 := fun x hx => by
  simp only [List.mem_cons, List.not_mem_nil, or_false] at hx
  rcases hx with rfl | rfl <;> simp
theorem fin_done (done : List (List Pair)) (cur : List Pair) (w : Bool) : fin ⟨done, cur, w⟩ = if cur = [] then done.filter (fun ps => ps != []) else done.filter (fun ps => ps != []) ++ [cur] := fin_snoc done cur
/-- what stands behind a mark -/
def Free (cs : List Nat) (gs : List (List Nat × List Nat)) : Prop := ∀ ws done cur, (∀ x ∈ ws, x = 32 ∨ x = 59) → ∃ n, Run n (ws ++ textOf cs gs) cur (done.filter (fun ps => ps != [])) (fin (gs.foldl (llStep cs) ⟨done, cur, false⟩))
def Wait (cs : List Nat) (gs : List (List Nat × List Nat)) : Prop := ∀ tok sp done cur, tok ≠ [] → (∀ x ∈ tok, pTok x = true) → (∀ x ∈ sp, x = 32) → ∃ n, Run n (tok ++ (61 :: sp ++ textOf cs gs)) cur (done.filter (fun ps => ps != [])) (fin (gs.foldl (llStep cs) ⟨done, cur ++ [(tok, [])], true⟩))
theorem run_tok {cs tok sp val rest : List Nat} {cur : List Pair} {res out : List (List Pair)} (h0 : tok ≠ []) (h1 : ∀ x ∈ tok, pTok x = true) (h2 : ∀ x ∈ sp, x = 32) (h3 : ∀ x ∈ val, pVal x = true) (hv : ∀ x ∈ val.head?, x ≠ 34) (h4 : ∀ x ∈ rest.head?, pVal x = false ∧ x ≠ 34)
    (h5 : val = [] → ∀ x ∈ rest.head?, pSp x = false) (k : ∃ n, Run n rest (cur ++ [(tok, val)]) res out) : ∃ n, Run n (tok ++ (61 :: sp ++ val ++ rest)) cur res out := by
  obtain ⟨n, k⟩ := k
  refine ⟨n + 1, .tok h0 h1 (spW h2) h3 (fun x hx => (h4 x hx).1) h5 (fun x hx => ?_) k⟩
  cases val with
  | nil => exact (h4 x hx).2
  | cons y r => exact hv x hx
/-- behind a pair, at a mark -/
theorem run_mark {cs : List Nat} {gs : List (List Nat × List Nat)} (ih : Free cs gs) {m : List Nat} (hm : MarkOk m) (done : List (List Pair)) (cur : List Pair) (σ : LL) (e1 : m = [44, 32] → σ = ⟨done ++ [cur], [], false⟩) (e2 : m ≠ [44, 32] → σ = ⟨done, cur, false⟩) :
    ∃ n, Run n (m ++ textOf cs gs) cur (done.filter (fun ps => ps != [])) (fin (gs.foldl (llStep cs) σ)) := by
  rcases hm with rfl | rfl | rfl
  · rw [e1 rfl]
    refine pl_comma (ws := []) (fun _ h => nomatch h) ?_
    have := ih [32] (done ++ [cur]) [] ws32
    rw [fin_snoc] at this
    exact this
  · rw [e2 (by decide)]; exact ih _ _ _ ws59
  · rw [e2 (by decide)]; exact ih _ _ _ ws32
theorem run_both (cs : List Nat) (hcs : ∀ x ∈ cs, pTok x = true) : ∀ gs : List (List Nat × List Nat), GOk gs → Free cs gs ∧ Wait cs gs
  | [], _ => by
    constructor
    · intro ws done cur hws
      have := pl_end hws cur (done.filter (fun ps => ps != []))
      rw [show textOf cs [] = [] from rfl, List.append_nil, List.foldl_nil, fin_done]
      exact this
    · intro tok sp done cur h0 h1 h2
      rw [show textOf cs [] = [] from rfl, List.foldl_nil, fin_done]
      have := run_tok (cs := cs) (tok := tok) (sp := sp) (val := []) (rest := []) (cur := cur) (res := done.filter (fun ps => ps != [])) h0 h1 h2 (fun _ h => nomatch h) (by simp) (by simp) (by simp) ⟨0, .done⟩
      rw [List.append_nil] at this
      exact this
  | (row, m) :: gs, hg => by
    have hgs : GOk gs := fun g h => hg g (List.mem_cons_of_mem _ h)
    obtain ⟨hrow, hm⟩ := hg _ (List.mem_cons_self ..)
    dsimp only at hrow hm
    obtain ⟨ihF, ihW⟩ := run_both cs hcs gs hgs
    constructor
    · intro ws done cur hws
      rw [text_cons, List.foldl_cons]
      dsimp only
      by_cases h : row = []
      · subst h
        rw [if_pos rfl, List.nil_append, step_empty]
        by_cases e : m = [44, 32]
        · rw [if_pos e, e]
          refine pl_comma hws ?_
          have := ihF [32] (done ++ [cur]) [] ws32
          rw [fin_snoc] at this
          exact this
        · rw [if_neg e, Bool.false_and, ← List.append_assoc]
          refine ihF _ _ _ fun x hx => ?_
          rcases List.mem_append.mp hx with hx | hx
          · exact hws x hx
          · rcases hm with rfl | rfl | rfl
            · exact absurd rfl e
            · exact ws59 x hx
            · exact ws32 x hx
      · obtain ⟨tok, val, c⟩ := cut_word hcs hrow
        rw [if_neg h, step_free cs done cur row m tok val h c, c.eq, List.cons_append, List.append_assoc]
        refine pl_word hws (tok_head c.ne c.htok) ?_
        by_cases hw : val = [] ∧ m = [32]
        · obtain ⟨rfl, rfl⟩ := hw
          rw [if_neg (by decide)]
          have := ihW tok [32] done cur c.ne c.htok (by simp)
          simpa using this
        · have := run_tok (cs := cs) (tok := tok) (sp := []) (val := val) (rest := m ++ textOf cs gs) (cur := cur) (res := done.filter (fun ps => ps != []))
            (out := fin (gs.foldl (llStep cs) (if m = [44, 32] then ⟨done ++ [cur ++ [(tok, val)]], [], false⟩ else ⟨done, cur ++ [(tok, val)], val == [] && m == [32]⟩))) c.ne c.htok (fun _ h => nomatch h) c.hval (fun x hx => (c.hd x hx).1) (mark_head hm) (fun hv x hx => ?_) ?_
          · simpa using this
          · rcases hm with rfl | rfl | rfl
            · simp at hx; subst hx; decide +kernel
            · simp at hx; subst hx; decide +kernel
            · exact absurd ⟨hv, rfl⟩ hw
          · refine run_mark ihF hm done _ _ (fun e => by rw [if_pos e]) fun e => ?_
            rw [if_neg e]
            congr 1
            by_cases hv : val = []
            · have : m ≠ [32] := fun e => hw ⟨hv, e⟩
              simp [this]
            · simp [hv]
    · intro tok sp done cur h0 h1 h2
      rw [text_cons, List.foldl_cons]
      dsimp only
      by_cases h : row = []
      · subst h
        rw [if_pos rfl, List.nil_append, step_empty]
        by_cases e : m = [32]
        · subst e
          rw [if_neg (by decide)]
          have := ihW tok (sp ++ [32]) done cur h0 h1 (fun x hx => by
            rcases List.mem_append.mp hx with hx | hx
            · exact h2 x hx
            · simpa using hx)
          simpa using this
        · have := run_tok (cs := cs) (tok := tok) (sp := sp) (val := []) (rest := m ++ textOf cs gs) (cur := cur) (res := done.filter (fun ps => ps != []))
            (out := fin (gs.foldl (llStep cs) (if m = [44, 32] then ⟨done ++ [cur ++ [(tok, [])]], [], false⟩ else ⟨done, cur ++ [(tok, [])], true && m == [32]⟩))) h0 h1 h2 (fun _ h => nomatch h) (by simp) (mark_head hm) (fun hv x hx => ?_) ?_
          · simpa using this
          · rcases hm with rfl | rfl | rfl
            · simp at hx; subst hx; decide +kernel
            · simp at hx; subst hx; decide +kernel
            · exact absurd rfl e
          · refine run_mark ihF hm done _ _ (fun e => by rw [if_pos e]) fun e' => ?_
            rw [if_neg e']
            congr 1
            simp [e]
      · obtain ⟨tok', val', c⟩ := cut_word hcs hrow
        rw [if_neg h, step_wait cs done cur row m tok [] h]
        have hv : ∀ x ∈ wordL cs row, pVal x = true := fun x hx => by
          rw [c.eq] at hx
          simp only [List.mem_cons, List.mem_append] at hx
          rcases hx with rfl | hx | rfl | hx
          · decide +kernel
          · exact pTok_val (c.htok x hx)
          · decide +kernel
          · exact c.hval x hx
        have hh : ∀ x ∈ (wordL cs row).head?, x ≠ 34 := fun x hx => by
          rw [c.eq] at hx
          simp at hx; subst hx; decide
        have := run_tok (cs := cs) (tok := tok) (sp := sp) (val := wordL cs row) (rest := m ++ textOf cs gs) (cur := cur) (res := done.filter (fun ps => ps != []))
            (out := fin (gs.foldl (llStep cs) (if m = [44, 32] then ⟨done ++ [cur ++ [(tok, wordL cs row)]], [], false⟩ else ⟨done, cur ++ [(tok, wordL cs row)], false⟩))) h0 h1 h2 hv hh (mark_head hm) (fun hv x hx => ?_) ?_
        · simpa using this
        · rw [c.eq] at hv; exact absurd hv (by simp)
        · exact run_mark ihF hm done _ _ (fun e => by rw [if_pos e]) fun e => by rw [if_neg e]
theorem run_text (cs : List Nat) (hcs : ∀ x ∈ cs, pTok x = true) (gs : List (List Nat × List Nat)) (hg : GOk gs) : ∃ n, Run n (textOf cs gs) [] [] (lawLists cs gs) :=
  (run_both cs hcs gs hg).1 [] [] [] (fun _ h => nomatch h)
end Mine
end
section
open PySem PySem.W PyProof.Rows
set_option linter.all false
set_option maxRecDepth 100000
namespace Mine
def pairWords (p : Pair) : List (List Nat) := if p.2.take 2 = [61, 63] then [61 :: p.1 ++ [61], p.2] else [61 :: p.1 ++ [61] ++ p.2]
def wordsOf (lists : List (List Pair)) : List (List Nat) := lists.flatMap fun ps => ps.flatMap pairWords
def dueWords (cs : List Nat) (gs : List (List Nat × List Nat)) : List (List Nat) := (gs.filter fun g => g.1 != []).map fun g => wordL cs g.1
theorem words_append (a b : List (List Pair)) : wordsOf (a ++ b) = wordsOf a ++ wordsOf b := by unfold wordsOf; rw [List.flatMap_append]
theorem words_one (cur : List Pair) : wordsOf [cur] = cur.flatMap pairWords := by unfold wordsOf; simp
theorem words_filter (l : List (List Pair)) : wordsOf (l.filter fun ps => ps != []) = wordsOf l := by
  unfold wordsOf
  induction l with
  | nil => rfl
  | cons a r ih =>
    by_cases h : a = []
    · subst h; rw [List.filter_cons_of_neg (by simp), ih, List.flatMap_cons]; simp
    · rw [List.filter_cons_of_pos (by simpa using h), List.flatMap_cons, List.flatMap_cons, ih]
def sigWords (σ : LL) : List (List Nat) := wordsOf (σ.done ++ [σ.cur])
theorem sig_comma (done : List (List Pair)) (cur : List Pair) (w w' : Bool) : sigWords ⟨done ++ [cur], [], w⟩ = sigWords ⟨done, cur, w'⟩ := by
  unfold sigWords; dsimp only; rw [words_append, words_one]; simp
theorem sig_ite (m : List Nat) (done : List (List Pair)) (cur : List Pair) (w : Bool) : sigWords (if m = [44, 32] then ⟨done ++ [cur], [], false⟩ else ⟨done, cur, w⟩) = sigWords ⟨done, cur, w⟩ := by
  split
  · exact sig_comma _ _ _ _
  · rfl
theorem sig_snoc (done : List (List Pair)) (cur : List Pair) (p : Pair) (w w' : Bool) : sigWords ⟨done, cur ++ [p], w⟩ = sigWords ⟨done, cur, w'⟩ ++ pairWords p := by
  unfold sigWords; dsimp only
  rw [words_append, words_append, words_one, words_one, List.flatMap_append]; simp
theorem pw_cut {wd tok val : List Nat} (c : Cut wd tok val) : pairWords (tok, val) = [wd] := by
  unfold pairWords
  rw [if_neg]
  · rw [c.eq]; simp
  · dsimp only
    intro e
    cases val with
    | nil => simp at e
    | cons y r => 
      have := (c.hd y rfl).2
      cases r with
      | nil => simp at e
      | cons z q => simp at e; exact this e.1
theorem pw_wait {tok : List Nat} {cs row : List Nat} : pairWords (tok, wordL cs row) = [61 :: tok ++ [61], wordL cs row] := by
  unfold pairWords; rw [if_pos]; simp [wordL]
theorem pw_empty {tok : List Nat} : pairWords (tok, []) = [61 :: tok ++ [61]] := by
  unfold pairWords; rw [if_neg (by simp)]; simp
/-- while it waits the last pair has an empty value -/
def WaitOk (σ : LL) : Prop := σ.waits = true → ∃ c0 tok, σ.cur = c0 ++ [(tok, [])]
theorem words_fold (cs : List Nat) (hcs : ∀ x ∈ cs, pTok x = true) : ∀ (gs : List (List Nat × List Nat)) (σ : LL), GOk gs → WaitOk σ → sigWords (gs.foldl (llStep cs) σ) = sigWords σ ++ dueWords cs gs
  | [], σ, _, _ => by simp [dueWords]
  | (row, m) :: gs, σ, hg, hw => by
    have hgs : GOk gs := fun g h => hg g (List.mem_cons_of_mem _ h)
    obtain ⟨hrow, hm⟩ := hg _ (List.mem_cons_self ..)
    dsimp only at hrow hm
    rw [List.foldl_cons]
    obtain ⟨done, cur, w⟩ := σ
    have wi : ∀ (cur' : List Pair) (w' : Bool), (w' = true → ∃ c0 tok, cur' = c0 ++ [(tok, [])]) → WaitOk (if m = [44, 32] then ⟨done ++ [cur'], [], false⟩ else ⟨done, cur', w'⟩) := fun cur' w' h => by
      split
      · exact fun e => Bool.noConfusion e
      · exact h
    by_cases h : row = []
    · subst h
      rw [step_empty, words_fold cs hcs gs _ hgs (wi _ _ fun e => hw (Bool.and_eq_true_iff.mp e).1), sig_ite]
      have : dueWords cs (([], m) :: gs) = dueWords cs gs := rfl
      rw [this]; rfl
    · have hd : dueWords cs ((row, m) :: gs) = wordL cs row :: dueWords cs gs := by
        unfold dueWords; rw [List.filter_cons_of_pos (by simpa using h), List.map_cons]
      obtain ⟨tok, val, c⟩ := cut_word hcs hrow
      cases w with
      | false =>
        rw [step_free cs done cur row m tok val h c, words_fold cs hcs gs _ hgs (wi _ _ fun e => ?_), sig_ite, sig_snoc _ _ _ _ false, pw_cut c, hd]
        · simp
        · obtain ⟨e1, e2⟩ := Bool.and_eq_true_iff.mp e
          have : val = [] := by simpa using e1
          exact ⟨cur, tok, by rw [this]⟩
      | true =>
        obtain ⟨c0, t0, rfl⟩ : ∃ c0 t0, cur = c0 ++ [(t0, [])] := hw rfl
        rw [step_wait cs done c0 row m t0 [] h, words_fold cs hcs gs _ hgs (wi _ _ fun e => Bool.noConfusion e), sig_ite, sig_snoc _ _ _ _ false, sig_snoc _ _ _ _ false, pw_wait, pw_empty, hd]
        simp
theorem words_lists (cs : List Nat) (hcs : ∀ x ∈ cs, pTok x = true) (gs : List (List Nat × List Nat)) (hg : GOk gs) : wordsOf (lawLists cs gs) = dueWords cs gs := by
  unfold lawLists
  rw [words_filter]
  exact (words_fold cs hcs gs ⟨[], [], false⟩ hg (fun e => Bool.noConfusion e)).trans (by simp [sigWords, wordsOf])
/-! and back again -/
theorem word_in (cs row : List Nat) : ((wordL cs row).drop (cs.length + 5)).take ((wordL cs row).length - 2 - (cs.length + 5)) = enc row := by
  have e1 : wordL cs row = ([61, 63] ++ cs ++ [63, 113, 63]) ++ (enc row ++ [63, 61]) := by simp [wordL]
  have e2 : ([61, 63] ++ cs ++ [63, 113, 63]).length = cs.length + 5 := by simp
  rw [e1, ← e2, List.drop_left]
  have e3 : ([61, 63] ++ cs ++ [63, 113, 63] ++ (enc row ++ [63, 61])).length - 2 - ([61, 63] ++ cs ++ [63, 113, 63]).length = (enc row).length := by simp; omega
  rw [e3, List.take_left]
theorem Dec.push {l out : List Nat} {c : Nat} (hc : c ≠ 61) (h : Dec l out) : Dec (c :: l) (c :: out) := by
  have k : ∀ pre : List Nat, (∀ c ∈ pre, c ≠ 61) → ∀ x ∈ c :: pre, x ≠ 61 := fun pre h x hx => by
    rcases List.mem_cons.mp hx with rfl | hx
    · exact hc
    · exact h x hx
  cases h with
  | nil h => exact .nil (k _ h)
  | @cons pre rest out o h ho q => exact Dec.cons (pre := c :: pre) (k _ h) ho q
theorem sw_app (c d : Nat) (a b : List Nat) : sw c d (a ++ b) = sw c d a ++ sw c d b := by unfold sw; rw [List.map_append]
theorem sw_encO : ∀ o ∈ octs, (sw 95 32 (encO o) = [o] ∧ o ≠ 61) ∨ sw 95 32 (encO o) = [61, hexd (o / 16), hexd (o % 16)] := by decide +kernel
theorem dec_enc : ∀ row : List Nat, (∀ o ∈ row, o ∈ octs) → Dec (sw 95 32 (enc row)) row
  | [], _ => .nil fun _ h => nomatch h
  | o :: row, h => by
    have ih := dec_enc row fun o ho => h o (List.mem_cons_of_mem _ ho)
    have ho := h o (List.mem_cons_self ..)
    rw [enc_cons, sw_app]
    rcases sw_encO o ho with ⟨e, e2⟩ | e
    · rw [e]; exact ih.push e2
    · rw [e]; exact Dec.cons (pre := []) (fun _ h => nomatch h) ho ih
theorem enc_ne {row : List Nat} (h : row ≠ []) : enc row ≠ [] := by
  cases row with
  | nil => exact absurd rfl h
  | cons o r =>
    rw [enc_cons]
    have : encO o ≠ [] := by unfold encO; split <;> (try split) <;> simp
    simp [this]
end Mine
end
section
open PySem PySem.W PyProof.Rows
set_option linter.all false
set_option maxRecDepth 100000
namespace Mine
theorem octs_get : ∀ k : Nat, k < 24 → octs.getD k 0 ∈ octs := by decide +kernel
theorem rowOf_octs (left : Int) (k : Nat) : ∀ o ∈ rowOf left k, o ∈ octs := fun o ho => by
  unfold rowOf at ho
  obtain ⟨j, _, rfl⟩ := List.mem_map.mp ho
  exact octs_get _ (fmod24 _)
theorem rowOf_len (left : Int) (k : Nat) : (rowOf left k).length = k := by unfold rowOf; simp
theorem octs_lt : ∀ o ∈ octs, o < 256 := by decide +kernel
theorem group_ok (x : Int) : (∀ o ∈ (groupOf x).1, o ∈ octs) ∧ (groupOf x).1.length ≤ 4 ∧ MarkOk (groupOf x).2 := by
  refine ⟨rowOf_octs _ _, ?_, ?_⟩
  · unfold groupOf; rw [rowOf_len]
    have h1 := Int.fmod_nonneg_of_pos (x.fdiv 3) (b := 5) (by omega)
    have h2 := Int.fmod_lt_of_pos (x.fdiv 3) (b := 5) (by omega)
    omega
  · unfold groupOf MarkOk markOf
    dsimp only
    split <;> simp
theorem groups_ok (ns : List Int) : ∀ g ∈ groupsOf ns, (∀ o ∈ g.1, o ∈ octs) ∧ g.1.length ≤ 4 ∧ MarkOk g.2 := fun g hg => by
  unfold groupsOf at hg
  obtain ⟨x, _, rfl⟩ := List.mem_map.mp hg
  exact group_ok x
theorem groups_len (ns : List Int) : (groupsOf ns).length ≤ 9 := by
  unfold groupsOf xsOf; rw [List.length_map, List.length_append, List.length_take]; simp; omega
theorem groups_gok (ns : List Int) : GOk (groupsOf ns) := fun g hg => ⟨fun o ho => octs_lt o ((groups_ok ns g hg).1 o ho), (groups_ok ns g hg).2.2⟩
theorem mark_len {m : List Nat} (h : MarkOk m) : m.length ≤ 2 := by rcases h with rfl | rfl | rfl <;> simp
theorem text_len (cs : List Nat) (hcs : cs.length ≤ 20) : ∀ gs : List (List Nat × List Nat), (∀ g ∈ gs, g.1.length ≤ 4 ∧ MarkOk g.2) → (textOf cs gs).length ≤ 41 * gs.length
  | [], _ => by simp [textOf]
  | g :: gs, h => by
    have ih := text_len cs hcs gs fun g hg => h g (List.mem_cons_of_mem _ hg)
    obtain ⟨h1, h2⟩ := h g (List.mem_cons_self ..)
    have h3 := mark_len h2
    have h4 := enc_len g.1
    rw [text_cons]
    simp only [List.length_append, List.length_cons]
    split
    · simp; omega
    · have : (wordL cs g.1).length = cs.length + 7 + (enc g.1).length := by simp [wordL]; omega
      omega
/-! the three names -/
def charsets : List (List Nat) := [[120], [117, 116, 102, 45, 56], [105, 115, 111, 45, 56, 56, 53, 57, 45, 49]]
theorem charsets_ok : ∀ cs ∈ charsets, (∀ x ∈ cs, pTok x = true) ∧ cs.length ≤ 10 := by decide +kernel
theorem dueWords_of (cs : List Nat) (gs : List (List Nat × List Nat)) : dueWords cs gs = (gs.filter fun g => g.1 != []).map fun g => wordL cs g.1 := rfl
end Mine
end
section
open PySem PySem.W PyProof.Rows
set_option linter.all false
set_option maxRecDepth 100000
namespace Mine
open PySem.Builtin PySem.Builtin.Str PySem.StrLaws
theorem occ_stay (s sub : Str) (hi limit : Nat) : ∀ (l : List Nat) (st : Array Nat × Nat), limit ≤ st.fst.size → (forIn l st (occBody s sub hi limit)).run = st
  | [], st, h => rfl
  | a :: l, st, h => by
    rw [List.forIn_cons]
    unfold occBody
    rw [if_neg (fun hc => absurd hc.1.1.1 (by omega))]
    exact occ_stay s sub hi limit l _ h
theorem occ_first (s sub : Str) (hi : Nat) : ∀ (n cur c free : Nat), free ≤ cur → cur ≤ c → c < cur + n → (∀ k, cur ≤ k → k < c → subAt s sub k = false) → c + sub.length ≤ hi → subAt s sub c = true →
    (forIn (List.range' cur n) ((#[] : Array Nat), free) (occBody s sub hi 1)).run.fst = #[c]
  | 0, cur, c, free, _, h1, h2, _, _, _ => by omega
  | n + 1, cur, c, free, hf, h1, h2, hno, hc, hs => by
    rw [List.range'_succ, List.forIn_cons]
    by_cases e : cur = c
    · subst e
      unfold occBody
      rw [if_pos ⟨⟨⟨by simp, hf⟩, hc⟩, hs⟩]
      have := occ_stay s sub hi 1 (List.range' (cur + 1) n) ((#[] : Array Nat).push cur, cur + sub.length) (by simp)
      exact congrArg Prod.fst this
    · have hx : subAt s sub cur = false := hno cur (Nat.le_refl _) (by omega)
      unfold occBody
      rw [if_neg (fun h => by rw [hx] at h; exact Bool.false_ne_true h.2)]
      exact occ_first s sub hi n (cur + 1) c free (by omega) (by omega) (by omega) (fun k a b => hno k (by omega) b) hc hs
theorem subAt_one (l : List Nat) (i : Nat) : subAt (S l) (S [61]) i = ((l.drop i).take 1 == [61]) := by
  rw [StrLaws.subAt_eq]; rfl
theorem occ_word {wd tok val : List Nat} (c : Cut wd tok val) : occurrences (S wd) (S [61]) 1 (S wd).length 1 = [cutAt wd] := by
  have hl : wd.length = tok.length + 2 + val.length := by rw [c.eq]; simp; omega
  rw [occ_eq, S_length, occ_first (S wd) (S [61]) wd.length _ 1 (cutAt wd) 1 (Nat.le_refl _) (by rw [c.at]; omega) (by rw [c.at]; omega) (fun k h1 h2 => ?_) (by rw [c.at, S_length]; simp; omega) ?_]
  · rw [subAt_one, c.at, c.eq, show 1 + tok.length = tok.length + 1 by omega, List.drop_succ_cons, List.drop_left]
    rfl
  · rw [c.at] at h2
    rw [subAt_one, c.eq]
    obtain ⟨j, rfl⟩ : ∃ j, k = j + 1 := ⟨k - 1, by omega⟩
    rw [List.drop_succ_cons, List.drop_append_of_le_length (by omega)]
    cases e : tok.drop j with
    | nil => have := congrArg List.length e; simp at this; omega
    | cons y r =>
      have : y ∈ tok := List.mem_of_mem_drop (by rw [e]; exact List.mem_cons_self ..)
      have := pTok_ne (c.htok y this)
      simpa using this
theorem gives_index_from (x y : Str) (i : Int) (t u v : Tok) (k : Nat) (rest : List Nat) (h : occurrences x y (fromIndex x.length i) x.length 1 = k :: rest) : Gives («str.index» ⟨[.str x t, .str y u, .int i v], []⟩) (.int k) := by
  show Gives (match occurrences x y (fromIndex x.length i) (min x.length x.length) 1 with | k :: _ => retInt k | [] => (do rule "str.index.not-found"; raiseError "ValueError" "substring not found")) _
  rw [Nat.min_self, h]
  exact .of_eq rfl
section
variable {prog : Program} {w : World} {A : Around} {E : Value → Shared → Prop} {h : Heap} {g : Array GenState} {d : Drawn} {tk : Nat} {os : OsState}
theorem index_K {wd tok val : List Nat} {t u v : Tok} {Q : Value → Shared → Prop} (c : Cut wd tok val) (hq : ∀ t' k, Q (.int (cutAt wd : Nat) t') ⟨h, g, d, k, os⟩) :
    wpAny (model prog w) A (call (.builtin "str.index") [.str (S wd) t, .str (Str.ofString "=") u, .int 1 v]) Q E ⟨h, g, d, tk, os⟩ := by
  rw [lit_e]
  refine call_gives F.slot_str_index (typeIs_str _ _ _) F.entry_str_index (F.args_str_index_3 _ _ _) (gives_index_from (S wd) (S [61]) 1 t u v (cutAt wd) [] ?_) (hq _ _)
  have : fromIndex (S wd).length 1 = 1 := rfl
  rw [this]; exact occ_word c
end
end Mine
end
section
open PySem PySem.W PyProof.Rows
set_option linter.all false
set_option maxRecDepth 100000
namespace Mine
abbrev testsOf (ifs : List Expr) (env : Env) : Sem Bool := forIn ifs true fun c r => if r = true then do let ok ← isTrue c env (eval c env); pure (ForInStep.yield ok) else pure (ForInStep.yield r)
/-- where a turn of a comprehension ends -/
def TurnC (h₀ : Heap) (C I L D : Addr) (io oL : Obj) (ys : Array Value) (k : Nat) (J : Array Value → List (Addr × Obj) → Prop) (s : Shared) (ys' : Array Value) (s' : Shared) : Prop :=
  ∃ h' tk' mC news, s' = { s with heap := h', toks := tk' } ∧ Fr h₀ C h' mC ∧ News h₀ C h' ((I, io) :: (L, oL) :: (D, W.listOf ys k) :: news) ∧ (∀ p ∈ news, p.1 ≠ I) ∧ (∀ p ∈ news, p.1 ≠ L) ∧ (∀ p ∈ news, p.1 ≠ D) ∧ J ys' news
section
variable {prog : Program} {w : World} {A : Around} {E : Value → Shared → Prop} {s : Shared} {env : Env} {h₀ : Heap} {L : Addr} {m : Str → Option Value}
abbrev FF : Value → Shared → Prop := fun _ _ => False
theorem noE {α : Type} {t : Sem α} {Q : α → Shared → Prop} {E' : Value → Shared → Prop} {s' : Shared} (h : wpAny (model prog w) A t Q FF s') : wpAny (model prog w) A t Q E' s' := wpAny_mono h (fun _ _ x => x) fun _ _ x => x.elim
theorem cl_loop {elt target iter : Expr} {ifs : List Expr} {scope : Scope} {pos : Pos} {it acc : Value} {R : Result → Shared → Prop} (I : Nat → Shared → Prop)
    (turn : ∀ n s, I n s → wpAny (model prog w) A (pyNext it) (fun r s₁ => match r with
      | none => R (.ok .next) s₁
      | some v => wpAny (model prog w) A (letOwnedTupleGo target it v) (fun _ s₀ => wpAny (model prog w) A (assign target env v) (fun _ s₂ =>
          wpAny (model prog w) A (testsOf ifs env) (fun ok s₃ => if ok = true then wpAny (model prog w) A (eval elt env) (fun x s₄ => wpAny (model prog w) A (call (.builtin "list.append") [acc, x]) (fun _ s₅ => ∃ m, m < n ∧ I m s₅) FF s₄) FF s₃
            else ∃ m, m < n ∧ I m s₃) FF s₂) FF s₀) FF s₁) FF s)
    (n : Nat) (h : I n s) : codeAny (model prog w) A (.compLoop (.ListComp elt [⟨target, iter, ifs, 0⟩] scope pos) 0 it acc env) R s := by
  refine codeAny_loop rfl I (fun n s hI => ?_) n h
  show wpAny (model prog w) A ((compTurn (.ListComp elt [⟨target, iter, ifs, 0⟩] scope pos) 0 it acc env).onRaise (fun x => do noteFrame x env; theTreesLotGoes x)) _ _ s
  refine wpAny_noted (noE ?_)
  rw [compTurn_list]
  refine wpAny_bind (wpAny_standAt (wpAny_bind (wpAny_mono (turn n s hI) (fun r s₁ h₁ => ?_) fun _ _ x => x)))
  cases r with
  | none => exact wpAny_pure h₁
  | some v =>
    refine wpAny_bind (wpAny_mono h₁ (fun _ s₀ h0 => wpAny_bind (wpAny_mono h0 (fun _ s₂ h₂ => wpAny_bind (wpAny_mono h₂ (fun ok s₃ h₃ => ?_) fun _ _ x => x)) fun _ _ x => x)) fun _ _ x => x)
    cases ok with
    | false => exact wpAny_pure ⟨rfl, h₃⟩
    | true => exact wpAny_bind (wpAny_bind (wpAny_mono h₃ (fun x s₄ h₄ => wpAny_bind (wpAny_mono h₄ (fun _ s₅ h₅ => wpAny_pure (wpAny_pure ⟨rfl, h₅⟩)) fun _ _ x => x)) fun _ _ x => x))

theorem comp_blk {l : Addr} {items : Array Value} {elt target iter : Expr} {ifs : List Expr} {scope : Scope} {cl : List (Str × Addr)} {pos : Pos} {news₀ : List (Addr × Obj)} {RR : Value → Addr → Result → Shared → Prop} (J : Nat → Array Value → List (Addr × Obj) → Prop)
    (hh : A.handled = none) (hl : s.heap.IsList l items) (hsz : items.size ≤ 1000) (hcell : ∀ y ∈ scope.names, y.2 ≠ .cell) (hkind : scope.kind = .function)
    (F : Fr h₀ L s.heap m) (N : News h₀ L s.heap news₀) (hj : J 0 #[] news₀)
    (hlist : ∀ (i : Nat) (ys : Array Value) (news : List (Addr × Obj)) (h : Heap), J i ys news → (∀ b o, h₀.get? b = some o → h.get? b = some o) → (∀ p ∈ news, h.get? p.1 = some p.2) → h.IsList l items)
    (hown : ∀ (I : Addr) (i : Nat) (v : Value) (s : Shared) (Q : Unit → Shared → Prop), s.heap.IsListIter I l i → Q () s → wpAny (model prog w) A (letOwnedTupleGo target (.ref I) v) Q (fun _ _ => False) s)
    (turn : ∀ i v ys k mC news h tk C I D io oL, items[i]? = some v → J i ys news → (∀ p ∈ news, p.1 ≠ I) → (∀ p ∈ news, p.1 ≠ L) → (∀ p ∈ news, p.1 ≠ D) → I ≠ L → I ≠ D → L ≠ D → ys.size ≤ i → i < items.size → Fr h₀ C h mC → News h₀ C h ((I, io) :: (L, oL) :: (D, W.listOf ys k) :: news) →
      wpAny (model prog w) A (assign target (compEnvC scope cl C env) v) (fun _ s₂ => wpAny (model prog w) A (testsOf ifs (compEnvC scope cl C env)) (fun ok s₃ => if ok = true then wpAny (model prog w) A (eval elt (compEnvC scope cl C env)) (fun x s₄ => TurnC h₀ C I L D io oL ys k (J (i + 1)) s (ys.push x) s₄) FF s₃
            else TurnC h₀ C I L D io oL ys k (J (i + 1)) s ys s₃) FF s₂) FF { s with heap := h, toks := tk })
    (done : ∀ D C ys k mC news h tk, J items.size ys news → Fr h₀ L h m → News h₀ L h ((D, W.listOf ys k) :: news) → (∀ p ∈ news, p.1 ≠ D) → h.Ns C mC → C ≠ L → C ≠ D → (∀ p ∈ news, p.1 ≠ C) → h₀.get? C = none → RR (.ref D) C (.ok .next) { s with heap := h, toks := tk }) :
    wpAny (model prog w) A (pyIter (.ref l)) (fun it s₂ => wpAny (model prog w) A (newList []) (fun acc s₃ => wpAny (model prog w) A (newFunctionEnv scope env.globals cl [] env.qual none .none (some env)) (fun cenv s₄ =>
      codeAny (model prog w) A (.compStart (.ListComp elt [⟨target, iter, ifs, 0⟩] scope pos) 0 it acc { cenv with scope := relabel scope env }) (RR acc cenv.locals) s₄) E s₃) E s₂) E s := by
  obtain ⟨ol, hol, _⟩ := id hl
  obtain ⟨oL₀, _, _, hoL, _⟩ := id F.ns
  have hLlt := Heap.lt_size hoL
  have h0L : h₀.objs.size ≤ L := F.above
  refine wpAny_pyIter_list hl ?_
  generalize hI : s.heap.objs.size = I
  have hI0 : h₀.objs.size ≤ I := by rw [← hI]; exact Nat.le_trans h0L (Nat.le_of_lt hLlt)
  have hLI : L < I := by rw [← hI]; exact hLlt
  have hlI : l < I := by rw [← hI]; exact Heap.lt_size hol
  have fresh0 : ∀ a, h₀.objs.size ≤ a → h₀.get? a = none := fun a ha => by
    cases e : h₀.get? a with
    | none => rfl
    | some o => exact absurd (Heap.lt_size e) (Nat.not_lt.mpr ha)
  have F1 := F.push { cls := .type "list_iterator", data := .fields #[.ref l, .int 0 0] }
  have N1 : News h₀ L (s.heap.push { cls := .type "list_iterator", data := .fields #[.ref l, .int 0 0] }) news₀ := fun p hp => ⟨Heap.get?_push_of_some _ (N p hp).1, (N p hp).2⟩
  have hio : (s.heap.push { cls := .type "list_iterator", data := .fields #[.ref l, .int 0 0] }).IsListIter I l 0 := ⟨_, by rw [← hI]; exact Heap.get?_push_size _ rfl, rfl, rfl⟩
  have hsz1 : (s.heap.push { cls := .type "list_iterator", data := .fields #[.ref l, .int 0 0] }).objs.size = I + 1 := by rw [Heap.size_push, hI]
  have offI : ∀ p ∈ news₀, p.1 < I := fun p hp => by rw [← hI]; exact Heap.lt_size (N p hp).1
  generalize s.heap.push { cls := .type "list_iterator", data := .fields #[.ref l, .int 0 0] } = hA at F1 N1 hio hsz1
  refine wpAny_newObj_type (wpAny_newFunctionEnv hcell (by intro y hy; simp at hy) (fun h₁ hns₁ hsb₁ => ?_) hkind)
  dsimp only at hns₁ hsb₁ ⊢
  rw [hsz1]
  generalize hH2 : hA.push { cls := .type "list", dict := none, data := .seq ([] : List Value).toArray } = H2 at hns₁ hsb₁ ⊢
  have hC : H2.objs.size = I + 1 + 1 := by rw [← hH2, Heap.size_push, hsz1]
  rw [hC] at hns₁ hsb₁ ⊢
  have old : ∀ b o, hA.get? b = some o → h₁.get? b = some o := fun b o e => by
    have hb : b < I + 1 := by rw [← hsz1]; exact Heap.lt_size e
    refine hsb₁.extBut b o (by intro e; rw [e] at hb; exact absurd hb (Nat.not_lt.mpr (Nat.le_succ _))) (Heap.get?_push_of_some _ ?_)
    rw [← hH2]; exact Heap.get?_push_of_some _ e
  have hacc : h₁.get? (I + 1) = some (W.listOf #[] 0) := by
    refine hsb₁.extBut _ _ (by intro e; exact absurd e (by simp)) (Heap.get?_push_of_some _ ?_)
    rw [← hH2, ← hsz1]; exact Heap.get?_push_size _ rfl
  generalize hDd : I + 1 = D at *
  generalize hCd : D + 1 = C at *
  have hDI : D ≠ I := by intro e; rw [e] at hDd; exact absurd hDd (by simp)
  have hCD : C ≠ D := by intro e; rw [e] at hCd; exact absurd hCd (by simp)
  have hCI : C ≠ I := by intro e; rw [← hCd, ← hDd] at e; exact absurd e (by simp [Nat.add_assoc])
  have ltC : ∀ b, b < I → b ≠ C ∧ b ≠ D ∧ b ≠ I := fun b hb => by
    rw [← hCd, ← hDd]
    refine ⟨?_, ?_, ?_⟩ <;> (intro e; rw [e] at hb; exact absurd hb (by simp [Nat.add_assoc]))
  have leC : I ≤ C := by rw [← hCd, ← hDd]; exact Nat.le_add_right I 2
  have leD : I ≤ D := by rw [← hDd]; exact Nat.le_add_right I 1
  have hC0 := fresh0 C (Nat.le_trans hI0 leC)
  have hD0 := fresh0 D (Nat.le_trans hI0 leD)
  have hI0' := fresh0 I hI0
  have hL0 := fresh0 L h0L
  have Wk := Walks.list (prog := prog) (w := w) hh I l (ltC l hlI).2.2 items
  have loop : ∀ s₃ : Shared, s₃ = { s with heap := h₁, toks := s.toks + ([] : List (Str × Value)).length } →
      codeAny (model prog w) A (.compLoop (.ListComp elt [⟨target, iter, ifs, 0⟩] scope pos) 0 (.ref I) (.ref D) (compEnvC scope cl C env)) (RR (.ref D) C) s₃ := by
    rintro s₃ rfl
    refine cl_loop (fun n s' => ∃ i ys k mC news h tk, n = items.size + 1 - i ∧ i ≤ items.size ∧ s' = { s with heap := h, toks := tk } ∧ Fr h₀ L h m ∧ News h₀ L h ((D, W.listOf ys k) :: news) ∧ h.Ns C mC ∧
      (∀ p ∈ news, p.1 ≠ I) ∧ (∀ p ∈ news, p.1 ≠ C) ∧ (∀ p ∈ news, p.1 ≠ D) ∧ J i ys news ∧ h.IsListIter I l i ∧ ys.size ≤ i) ?_ (items.size + 1 - 0)
      ⟨0, #[], 0, _, news₀, h₁, _, rfl, Nat.zero_le _, rfl, Fr.ext F1 old, fun p hp => ?_, hns₁, fun p hp => (ltC _ (offI p hp)).2.2, fun p hp => (ltC _ (offI p hp)).1, fun p hp => (ltC _ (offI p hp)).2.1, hj, hio.at fun o e => old _ _ e, Nat.le_refl _⟩
    · rintro n s' ⟨i, ys, k, mC, news, h, tk, rfl, hi, rfl, F2, N2, hnC, f1, f2, f3, hJ, hit, hys⟩
      have hll : h.IsList l items := hlist i ys news h hJ F2.keep fun p hp => (N2 p (List.mem_cons_of_mem _ hp)).1
      rcases Nat.lt_or_ge i items.size with hlt | hge
      · refine Wk.item i _ _ _ hlt ⟨hit, hll⟩ fun v h' tk' hv st hk => ?_
        have hk' : ∀ b o, b ≠ I → h.get? b = some o → h'.get? b = some o := fun b o hb e => hk b o (by simpa using hb) e
        obtain ⟨io, hio', _⟩ := id st.1
        have F3 : Fr h₀ L h' m := Fr.mv F2 hI0 (ltC L hLI).2.2 hk'
        obtain ⟨oL, e1, e2, hoL', e3⟩ := id F3.ns
        have nsL : ∀ h : Heap, h.get? L = some oL → h.Ns L m := fun h e => ⟨oL, e1, e2, e, e3⟩
        have FC : Fr h₀ C h' mC := ⟨hnC.at' fun o e => hk' _ o hCI e, F3.keep, Nat.le_trans hI0 leC⟩
        have NC : News h₀ C h' ((I, io) :: (L, oL) :: (D, W.listOf ys k) :: news) := fun p hp => by
          simp only [List.mem_cons] at hp
          rcases hp with rfl | rfl | rfl | hp
          · exact ⟨hio', Ne.symm hCI, hI0'⟩
          · exact ⟨hoL', (ltC L hLI).1, hL0⟩
          · exact ⟨hk' _ _ hDI (N2 _ (List.mem_cons_self ..)).1, Ne.symm hCD, hD0⟩
          · have z := N2 p (List.mem_cons_of_mem _ hp)
            exact ⟨hk' _ _ (f1 p hp) z.1, f2 p hp, z.2.2⟩
        refine noE (hown I (i + 1) v _ _ st.1 ?_)
        refine wpAny_mono (turn i v ys k mC news h' tk' C I D io oL hv hJ f1 (fun p hp => (N2 p (List.mem_cons_of_mem _ hp)).2.1) f3 (Ne.symm (ltC L hLI).2.2) (Ne.symm hDI) (ltC L hLI).2.1 hys hlt FC NC) (fun _ s₂ h₂ => wpAny_mono h₂ (fun ok s₃ h₃ => ?_) fun _ _ x => x) fun _ _ x => x
        have back : ∀ ys' s₄, TurnC h₀ C I L D io oL ys k (J (i + 1)) s ys' s₄ → ∃ h'' tk'' mC' news', s₄ = { s with heap := h'', toks := tk'' } ∧ Fr h₀ L h'' m ∧ News h₀ L h'' ((D, W.listOf ys k) :: news') ∧ h''.Ns C mC' ∧ (∀ p ∈ news', p.1 ≠ I) ∧ (∀ p ∈ news', p.1 ≠ C) ∧ (∀ p ∈ news', p.1 ≠ D) ∧ J (i + 1) ys' news' ∧ h''.get? I = some io := by
          rintro ys' s₄ ⟨h'', tk'', mC', news', rfl, F4, N4, g1, g2, g3, hJ'⟩
          refine ⟨h'', tk'', mC', news', rfl, ⟨nsL _ (N4 (L, oL) (List.mem_cons_of_mem _ (List.mem_cons_self ..))).1, F4.keep, h0L⟩, fun p hp => ?_, F4.ns, g1, fun p hp => (N4 p (List.mem_cons_of_mem _ (List.mem_cons_of_mem _ (List.mem_cons_of_mem _ hp)))).2.1, g3, hJ', (N4 (I, io) (List.mem_cons_self ..)).1⟩
          rcases List.mem_cons.mp hp with rfl | hp
          · exact ⟨(N4 _ (List.mem_cons_of_mem _ (List.mem_cons_of_mem _ (List.mem_cons_self ..)))).1, Ne.symm (ltC L hLI).2.1, hD0⟩
          · have z := N4 p (List.mem_cons_of_mem _ (List.mem_cons_of_mem _ (List.mem_cons_of_mem _ hp)))
            exact ⟨z.1, g2 p hp, z.2.2⟩
        have iter1 : ∀ h'' : Heap, h''.get? I = some io → h''.IsListIter I l (i + 1) := fun h'' e => st.1.at fun o e' => by
          have := Option.some.inj (hio'.symm.trans e'); exact this ▸ e
        cases ok with
        | false =>
          obtain ⟨h'', tk'', mC', news', rfl, F4, N4, n4, g1, g2, g3, hJ', hI4⟩ := back _ _ h₃
          exact ⟨items.size + 1 - (i + 1), by omega, i + 1, ys, k, mC', news', h'', tk'', rfl, hlt, rfl, F4, N4, n4, g1, g2, g3, hJ', iter1 _ hI4, by omega⟩
        | true =>
          refine wpAny_mono h₃ (fun x s₄ h₄ => ?_) fun _ _ x => x
          obtain ⟨h'', tk'', mC', news', rfl, F4, N4, n4, g1, g2, g3, hJ', hI4⟩ := back _ _ h₄
          have hd := (N4 _ (List.mem_cons_self ..)).1
          refine append_at (hsz := by rw [sizeLine_eq]; omega) hd fun h5 hs5 hd5 => ?_
          refine ⟨items.size + 1 - (i + 1), by omega, i + 1, ys.push x, k + 1, mC', news', h5, tk'', rfl, hlt, rfl, F4.change hs5 (Ne.symm (ltC L hLI).2.1) hD0, fun p hp => ?_, n4.sameBut hs5 hCD, g1, g2, g3, hJ', iter1 _ (hs5.extBut _ _ (Ne.symm hDI) hI4), by rw [Array.size_push]; omega⟩
          rcases List.mem_cons.mp hp with rfl | hp
          · exact ⟨hd5, Ne.symm (ltC L hLI).2.1, hD0⟩
          · have z := N4 p (List.mem_cons_of_mem _ hp)
            exact ⟨hs5.extBut _ _ (g3 p hp) z.1, z.2⟩
      · obtain rfl : i = items.size := by omega
        refine Wk.done _ _ _ ⟨hit, hll⟩ fun h' tk' hk => ?_
        have hk' : ∀ b o, b ≠ I → h.get? b = some o → h'.get? b = some o := fun b o hb e => hk b o (by simpa using hb) e
        refine done D C ys k mC news h' tk' hJ (Fr.mv F2 hI0 (ltC L hLI).2.2 hk') (News.mv N2 (fun p hp => ?_) hk') f3 (hnC.at' fun o e => hk' _ o hCI e) (Ne.symm (ltC L hLI).1) hCD f2 hC0
        rcases List.mem_cons.mp hp with rfl | hp
        · exact hDI
        · exact f1 p hp
    · rcases List.mem_cons.mp hp with rfl | hp
      · exact ⟨hacc, Ne.symm (ltC L hLI).2.1, hD0⟩
      · exact ⟨old _ _ (N1 p hp).1, (N1 p hp).2⟩
  exact codeAny_compStart_list (loop _ rfl) (Wk.self 0 _ _ _ ⟨hio.at fun o e => old _ _ e, hlist 0 #[] news₀ h₁ hj (Fr.ext F1 old).keep fun p hp => old _ _ (N1 p hp).1⟩ (loop _ rfl))
end
end Mine
end
section
open PySem PySem.W PyProof.Rows
set_option linter.all false
set_option maxRecDepth 100000
namespace Mine
section
variable {prog : Program} {w : World} {A : Around} {E : Value → Shared → Prop} {s : Shared} {env : Env} {h₀ : Heap} {L : Addr} {m : Str → Option Value}
theorem comp_H {elt target iter : Expr} {ifs : List Expr} {scope : Scope} {cl : List (Str × Addr)} {pos : Pos} {Q : Value → Shared → Prop}
    (hs : ∀ x, foldedSetIterable iter env x = pure x) (hclos : closureFor scope env = pure cl) (hkind : scope.kind = .function) (hnames : ∀ x ∈ scope.names, x.2 = .local → scope.names.lookup x.1 = some .local)
    (h : wpAny (model prog w) A (eval iter env) (fun x s₁ => Hold (wpAny (model prog w) A (pyIter x) (fun it s₂ => wpAny (model prog w) A (newList []) (fun acc s₃ => wpAny (model prog w) A (newFunctionEnv scope env.globals cl [] env.qual none .none (some env)) (fun cenv s₄ =>
      codeAny (model prog w) A (.compStart (.ListComp elt [⟨target, iter, ifs, 0⟩] scope pos) 0 it acc { cenv with scope := relabel scope env }) (compPost (model prog w) A E none Q acc cenv.locals) s₄) E s₃) E s₂) E s₁)) E s) :
    wpAny (model prog w) A (eval (.ListComp elt [⟨target, iter, ifs, 0⟩] scope pos) env) Q E s := by
  rw [eval_ListComp]
  exact wpAny_comprehension_free (use := none) rfl hs hclos hkind hnames (wpAny_mono h (fun _ _ q => q.out) fun _ _ q => q)
theorem storeC_K {scope : Scope} {cl : List (Str × Addr)} {C : Addr} {x : Str} {v : Value} {h : Heap} {g : Array GenState} {d : Drawn} {tk : Nat} {os : OsState} {news : List (Addr × Obj)} {Q : Unit → Shared → Prop} (hl : (compEnvC scope cl C env).kindOf x = some .local) (hk : scope.kind = .function) (F : Fr h₀ C h m) (N : News h₀ C h news)
    (hq : ∀ h' k, Fr h₀ C h' (fun y => if y = x then some v else m y) → News h₀ C h' news → Q () ⟨h', g, d, k, os⟩) : wpAny (model prog w) A (storeName (compEnvC scope cl C env) x v) Q E ⟨h, g, d, tk, os⟩ :=
  wpAny_storeName_local (s := ⟨h, g, d, tk, os⟩) hl F.ns (fun h' hn hs => hq h' _ (F.set hn hs) (N.set hs)) (by simp [compEnvC, relabel, hk])
theorem nameC_K {scope : Scope} {cl : List (Str × Addr)} {C : Addr} {x : Str} {pos : Pos} {v : Value} {Q : Value → Shared → Prop} (hl : (compEnvC scope cl C env).kindOf x = some .local) (hk : scope.kind = .function) (hd : (x == ("__debug__" : Str)) = false) (F : Fr h₀ C s.heap m) (hv : m x = some v)
    (hq : Q v s) : wpAny (model prog w) A (eval (.Name x pos) (compEnvC scope cl C env)) Q E s := wpAny_Name (wpAny_loadName_local (env := compEnvC scope cl C env) hk hl F.ns hv hq) hd
theorem news_same {h h' : Heap} {C : Addr} {news : List (Addr × Obj)} (N : News h₀ L h news) (hs : Heap.SameBut C h h') (f : ∀ p ∈ news, p.1 ≠ C) : News h₀ L h' news := fun p hp => ⟨hs.extBut _ _ (f p hp) (N p hp).1, (N p hp).2⟩
theorem comp_inv {l : Addr} {items : Array Value} {elt target iter : Expr} {ifs : List Expr} {scope : Scope} {cl : List (Str × Addr)} {pos : Pos} {news₀ : List (Addr × Obj)} {Q : Value → Shared → Prop} (J : Nat → Array Value → List (Addr × Obj) → Prop)
    (hh : A.handled = none) (hl : s.heap.IsList l items) (hsz : items.size ≤ 1000) (hcell : ∀ y ∈ scope.names, y.2 ≠ .cell) (hkind : scope.kind = .function)
    (F : Fr h₀ L s.heap m) (N : News h₀ L s.heap news₀) (hj : J 0 #[] news₀)
    (hlist : ∀ (i : Nat) (ys : Array Value) (news : List (Addr × Obj)) (h : Heap), J i ys news → (∀ b o, h₀.get? b = some o → h.get? b = some o) → (∀ p ∈ news, h.get? p.1 = some p.2) → h.IsList l items)
    (hown : ∀ (I : Addr) (i : Nat) (v : Value) (s : Shared) (Q : Unit → Shared → Prop), s.heap.IsListIter I l i → Q () s → wpAny (model prog w) A (letOwnedTupleGo target (.ref I) v) Q (fun _ _ => False) s)
    (turn : ∀ i v ys k mC news h tk C I D io oL, items[i]? = some v → J i ys news → (∀ p ∈ news, p.1 ≠ I) → (∀ p ∈ news, p.1 ≠ L) → (∀ p ∈ news, p.1 ≠ D) → I ≠ L → I ≠ D → L ≠ D → ys.size ≤ i → i < items.size → Fr h₀ C h mC → News h₀ C h ((I, io) :: (L, oL) :: (D, W.listOf ys k) :: news) →
      wpAny (model prog w) A (assign target (compEnvC scope cl C env) v) (fun _ s₂ => wpAny (model prog w) A (testsOf ifs (compEnvC scope cl C env)) (fun ok s₃ => if ok = true then wpAny (model prog w) A (eval elt (compEnvC scope cl C env)) (fun x s₄ => TurnC h₀ C I L D io oL ys k (J (i + 1)) s (ys.push x) s₄) FF s₃
            else TurnC h₀ C I L D io oL ys k (J (i + 1)) s ys s₃) FF s₂) FF { s with heap := h, toks := tk })
    (done : ∀ D ys k news h tk, J items.size ys news → Fr h₀ L h m → News h₀ L h ((D, W.listOf ys k) :: news) → (∀ p ∈ news, p.1 ≠ D) → Q (.ref D) { s with heap := h, toks := tk }) :
    wpAny (model prog w) A (pyIter (.ref l)) (fun it s₂ => wpAny (model prog w) A (newList []) (fun acc s₃ => wpAny (model prog w) A (newFunctionEnv scope env.globals cl [] env.qual none .none (some env)) (fun cenv s₄ =>
      codeAny (model prog w) A (.compStart (.ListComp elt [⟨target, iter, ifs, 0⟩] scope pos) 0 it acc { cenv with scope := relabel scope env }) (compPost (model prog w) A E none Q acc cenv.locals) s₄) E s₃) E s₂) E s := by
  refine comp_blk (RR := fun acc C => compPost (model prog w) A E none Q acc C) J hh hl hsz hcell hkind F N hj hlist hown turn fun D C ys k mC news h tk hJ F' N' f1 hnC hCL hCD f2 hC0 => ?_
  refine ⟨mC, hnC, fun h' hs' => done D ys k news h' tk hJ (F'.change hs' hCL hC0) (news_same N' hs' fun p hp => ?_) f1⟩
  rcases List.mem_cons.mp hp with rfl | hp
  · exact Ne.symm hCD
  · exact f2 p hp
theorem tests_nil {env : Env} {Q : Bool → Shared → Prop} {s : Shared} (h : Q true s) : wpAny (model prog w) A (testsOf [] env) Q E s := wpAny_tests_nil h
theorem tests_one {env : Env} {c : Expr} {Q : Bool → Shared → Prop} {s : Shared} (h : wpAny (model prog w) A (isTrue c env (eval c env)) Q E s) : wpAny (model prog w) A (testsOf [c] env) Q E s := wpAny_tests_one h
theorem comp_inv0 {l : Addr} {items : Array Value} {elt target iter : Expr} {scope : Scope} {cl : List (Str × Addr)} {pos : Pos} {news₀ : List (Addr × Obj)} {Q : Value → Shared → Prop} (J : Nat → Array Value → List (Addr × Obj) → Prop)
    (hh : A.handled = none) (hl : s.heap.IsList l items) (hsz : items.size ≤ 1000) (hcell : ∀ y ∈ scope.names, y.2 ≠ .cell) (hkind : scope.kind = .function)
    (F : Fr h₀ L s.heap m) (N : News h₀ L s.heap news₀) (hj : J 0 #[] news₀)
    (hlist : ∀ (i : Nat) (ys : Array Value) (news : List (Addr × Obj)) (h : Heap), J i ys news → (∀ b o, h₀.get? b = some o → h.get? b = some o) → (∀ p ∈ news, h.get? p.1 = some p.2) → h.IsList l items)
    (hown : ∀ (I : Addr) (i : Nat) (v : Value) (s : Shared) (Q : Unit → Shared → Prop), s.heap.IsListIter I l i → Q () s → wpAny (model prog w) A (letOwnedTupleGo target (.ref I) v) Q (fun _ _ => False) s)
    (turn : ∀ i v ys k mC news h tk C I D io oL, items[i]? = some v → J i ys news → (∀ p ∈ news, p.1 ≠ I) → (∀ p ∈ news, p.1 ≠ L) → (∀ p ∈ news, p.1 ≠ D) → I ≠ L → I ≠ D → L ≠ D → ys.size ≤ i → i < items.size → Fr h₀ C h mC → News h₀ C h ((I, io) :: (L, oL) :: (D, W.listOf ys k) :: news) →
      wpAny (model prog w) A (assign target (compEnvC scope cl C env) v) (fun _ s₂ => wpAny (model prog w) A (eval elt (compEnvC scope cl C env)) (fun x s₄ => TurnC h₀ C I L D io oL ys k (J (i + 1)) s (ys.push x) s₄) FF s₂) FF { s with heap := h, toks := tk })
    (done : ∀ D ys k news h tk, J items.size ys news → Fr h₀ L h m → News h₀ L h ((D, W.listOf ys k) :: news) → (∀ p ∈ news, p.1 ≠ D) → Q (.ref D) { s with heap := h, toks := tk }) :
    wpAny (model prog w) A (pyIter (.ref l)) (fun it s₂ => wpAny (model prog w) A (newList []) (fun acc s₃ => wpAny (model prog w) A (newFunctionEnv scope env.globals cl [] env.qual none .none (some env)) (fun cenv s₄ =>
      codeAny (model prog w) A (.compStart (.ListComp elt [⟨target, iter, [], 0⟩] scope pos) 0 it acc { cenv with scope := relabel scope env }) (compPost (model prog w) A E none Q acc cenv.locals) s₄) E s₃) E s₂) E s := by
  refine comp_inv J hh hl hsz hcell hkind F N hj hlist hown (fun i v ys k mC news h tk C I D io oL a1 a2 a3 a4 a5 a6 a7 a8 a9 a10 a11 a12 => ?_) done
  refine wpAny_mono (turn i v ys k mC news h tk C I D io oL a1 a2 a3 a4 a5 a6 a7 a8 a9 a10 a11 a12) (fun _ s₂ h₂ => tests_nil ?_) fun _ _ x => x
  rw [if_pos rfl]; exact h₂
theorem comp_inv1 {l : Addr} {items : Array Value} {elt target iter : Expr} {c : Expr} {scope : Scope} {cl : List (Str × Addr)} {pos : Pos} {news₀ : List (Addr × Obj)} {Q : Value → Shared → Prop} (J : Nat → Array Value → List (Addr × Obj) → Prop)
    (hh : A.handled = none) (hl : s.heap.IsList l items) (hsz : items.size ≤ 1000) (hcell : ∀ y ∈ scope.names, y.2 ≠ .cell) (hkind : scope.kind = .function)
    (F : Fr h₀ L s.heap m) (N : News h₀ L s.heap news₀) (hj : J 0 #[] news₀)
    (hlist : ∀ (i : Nat) (ys : Array Value) (news : List (Addr × Obj)) (h : Heap), J i ys news → (∀ b o, h₀.get? b = some o → h.get? b = some o) → (∀ p ∈ news, h.get? p.1 = some p.2) → h.IsList l items)
    (hown : ∀ (I : Addr) (i : Nat) (v : Value) (s : Shared) (Q : Unit → Shared → Prop), s.heap.IsListIter I l i → Q () s → wpAny (model prog w) A (letOwnedTupleGo target (.ref I) v) Q (fun _ _ => False) s)
    (turn : ∀ i v ys k mC news h tk C I D io oL, items[i]? = some v → J i ys news → (∀ p ∈ news, p.1 ≠ I) → (∀ p ∈ news, p.1 ≠ L) → (∀ p ∈ news, p.1 ≠ D) → I ≠ L → I ≠ D → L ≠ D → ys.size ≤ i → i < items.size → Fr h₀ C h mC → News h₀ C h ((I, io) :: (L, oL) :: (D, W.listOf ys k) :: news) →
      wpAny (model prog w) A (assign target (compEnvC scope cl C env) v) (fun _ s₂ => wpAny (model prog w) A (isTrue c (compEnvC scope cl C env) (eval c (compEnvC scope cl C env))) (fun ok s₃ => if ok = true then wpAny (model prog w) A (eval elt (compEnvC scope cl C env)) (fun x s₄ => TurnC h₀ C I L D io oL ys k (J (i + 1)) s (ys.push x) s₄) FF s₃
            else TurnC h₀ C I L D io oL ys k (J (i + 1)) s ys s₃) FF s₂) FF { s with heap := h, toks := tk })
    (done : ∀ D ys k news h tk, J items.size ys news → Fr h₀ L h m → News h₀ L h ((D, W.listOf ys k) :: news) → (∀ p ∈ news, p.1 ≠ D) → Q (.ref D) { s with heap := h, toks := tk }) :
    wpAny (model prog w) A (pyIter (.ref l)) (fun it s₂ => wpAny (model prog w) A (newList []) (fun acc s₃ => wpAny (model prog w) A (newFunctionEnv scope env.globals cl [] env.qual none .none (some env)) (fun cenv s₄ =>
      codeAny (model prog w) A (.compStart (.ListComp elt [⟨target, iter, [c], 0⟩] scope pos) 0 it acc { cenv with scope := relabel scope env }) (compPost (model prog w) A E none Q acc cenv.locals) s₄) E s₃) E s₂) E s := by
  refine comp_inv J hh hl hsz hcell hkind F N hj hlist hown (fun i v ys k mC news h tk C I D io oL a1 a2 a3 a4 a5 a6 a7 a8 a9 a10 a11 a12 => ?_) done
  exact wpAny_mono (turn i v ys k mC news h tk C I D io oL a1 a2 a3 a4 a5 a6 a7 a8 a9 a10 a11 a12) (fun _ s₂ h₂ => tests_one h₂) fun _ _ x => x
end
end Mine
end
section
open PySem PySem.W PyProof.Rows
set_option linter.all false
set_option maxRecDepth 100000
namespace Mine
open PySem.SeqAt PySem.Calls PyProof.V
abbrev AtH (h : Heap) : Addr → Obj → Prop := fun a o => h.get? a = some o
def pairD (p : Pair) : PyData := .tuple [.str (S p.1), .str (S p.2)]
def listD (ps : List Pair) : PyData := .list (ps.map pairD)
def OkS (l : List Nat) : Prop := ∀ x ∈ l, x < 1114112
def OkP (ps : List Pair) : Prop := ∀ p ∈ ps, OkS p.1 ∧ OkS p.2
theorem strOk_S {l : List Nat} (h : OkS l) : PyData.strOk (S l) = true := by
  show l.toArray.all _ = true
  rw [List.all_toArray, List.all_eq_true]
  intro x hx; simpa using h x hx
theorem reads_pairs {h : Heap} : ∀ {vs : List Value} {ps : List Pair}, All2 (PairG (AtH h)) vs ps → ∃ as, ReadsAll h vs (ps.map pairD) as
  | _, _, .nil => ⟨_, .nil⟩
  | _, _, .cons ⟨a, t1, t2, n, e, x⟩ r => by
    obtain ⟨as, q⟩ := reads_pairs r
    subst e
    exact ⟨_, .cons (.tuple x rfl rfl (.cons (.str _ _) (.cons (.str _ _) .nil))) q⟩
theorem reads_list {h : Heap} {v : Value} {ps : List Pair} (hl : ListG (AtH h) v ps) : ∃ as, Reads h v (listD ps) as := by
  obtain ⟨a, its, n, rfl, x, r⟩ := hl
  obtain ⟨as, q⟩ := reads_pairs r
  exact ⟨_, .list x rfl rfl q⟩
theorem reads_lists {h : Heap} : ∀ {vs : List Value} {ls : List (List Pair)}, All2 (ListG (AtH h)) vs ls → ∃ as, ReadsAll h vs (ls.map listD) as
  | _, _, .nil => ⟨_, .nil⟩
  | _, _, .cons a r => by
    obtain ⟨as, q⟩ := reads_lists r
    obtain ⟨bs, p⟩ := reads_list a
    exact ⟨_, .cons p q⟩
theorem reads_strs {h : Heap} : ∀ {vs : List Value} {ls : List (List Nat)}, StrsAre vs (ls.map S) → ∃ as, ReadsAll h vs (ls.map fun l => .str (S l)) as := by
  intro vs ls
  induction ls generalizing vs with
  | nil => intro q; cases q; exact ⟨_, .nil⟩
  | cons l r ih =>
    intro q
    cases q with
    | cons x t q =>
      obtain ⟨as, p⟩ := ih q
      exact ⟨_, .cons (.str _ _) p⟩
theorem lay_pairs : ∀ {ps : List Pair}, OkP ps → PyData.canLayAll0 (ps.map pairD) = true
  | [], _ => by simp [PyData.canLayAll0]
  | p :: r, h => by
    have h1 := strOk_S (h p (List.mem_cons_self ..)).1
    have h2 := strOk_S (h p (List.mem_cons_self ..)).2
    simp [PyData.canLayAll0, pairD, PyData.canLay0, h1, h2, lay_pairs fun q hq => h q (List.mem_cons_of_mem _ hq)]
theorem depth_pairs : ∀ ps : List Pair, PyData.depthAll (ps.map pairD) ≤ 1
  | [] => by simp [PyData.depthAll]
  | p :: r => by
    have := depth_pairs r
    simp only [List.map_cons, PyData.depthAll, pairD, PyData.depth]
    omega
theorem lay_lists : ∀ {ls : List (List Pair)}, (∀ ps ∈ ls, OkP ps) → PyData.canLayAll0 (ls.map listD) = true
  | [], _ => by simp [PyData.canLayAll0]
  | p :: r, h => by
    simp [PyData.canLayAll0, listD, PyData.canLay0, lay_pairs (h p (List.mem_cons_self ..)), lay_lists fun q hq => h q (List.mem_cons_of_mem _ hq)]
theorem depth_lists : ∀ ls : List (List Pair), PyData.depthAll (ls.map listD) ≤ 2
  | [] => by simp [PyData.depthAll]
  | p :: r => by
    have := depth_lists r
    have := depth_pairs p
    simp only [List.map_cons, PyData.depthAll, listD, PyData.depth]
    omega
theorem lay_strs : ∀ {ls : List (List Nat)}, (∀ l ∈ ls, OkS l) → PyData.canLayAll0 (ls.map fun l => .str (S l)) = true
  | [], _ => by simp [PyData.canLayAll0]
  | l :: r, h => by
    simp [PyData.canLayAll0, PyData.canLay0, strOk_S (h l (List.mem_cons_self ..)), lay_strs fun q hq => h q (List.mem_cons_of_mem _ hq)]
theorem depth_strs : ∀ ls : List (List Nat), PyData.depthAll (ls.map fun l => .str (S l)) ≤ 0
  | [] => by simp [PyData.depthAll]
  | p :: r => by
    have := depth_strs r
    simp only [List.map_cons, PyData.depthAll, PyData.depth]
    omega
theorem shaped_of {xs : List PyData} (h1 : PyData.canLayAll0 xs = true) (h2 : PyData.depthAll xs ≤ 10) : shaped (.list xs) = true := by
  show (PyData.canLay0 (.list xs) && decide (PyData.depth (.list xs) ≤ 64)) = true
  rw [Bool.and_eq_true]
  exact ⟨by simp only [PyData.canLay0]; exact h1, decide_eq_true (by simp only [PyData.depth]; omega)⟩
theorem nomix_pairs : ∀ ps : List Pair, noMixAll (ps.map pairD) (ps.map pairD) = true
  | [] => by simp [noMixAll]
  | p :: r => by simp [noMixAll, pairD, noMix, nomix_pairs r]
theorem nomix_lists : ∀ ls : List (List Pair), noMixAll (ls.map listD) (ls.map listD) = true
  | [] => by simp [noMixAll]
  | p :: r => by simp [noMixAll, listD, noMix, nomix_pairs p, nomix_lists r]
theorem nomix_strs : ∀ ls : List (List Nat), noMixAll (ls.map fun l => PyData.str (S l)) (ls.map fun l => PyData.str (S l)) = true
  | [] => by simp [noMixAll]
  | p :: r => by simp [noMixAll, noMix, nomix_strs r]
section
variable {prog : Program} {w : World} {A : Around} {E : Value → Shared → Prop} {s : Shared}
theorem ne_nil_L {v : Value} {l' : Addr} {n : Nat} {ps : List Pair} {b : Bool} {Q : Value → Shared → Prop} (hl : ListG (AtH s.heap) v ps) (hm : s.heap.get? l' = some (W.listOf #[] n)) (hk : OkP ps) (hu : A.units + 64 < cLine)
    (hb : (ps != []) = b) (hq : Q (.bool b) s) : wpAny (model prog w) A (compareOp .NotEq v (.ref l')) Q E s := by
  obtain ⟨as, R⟩ := reads_list hl
  have R2 : Reads s.heap (.ref l') (.list []) [l'] := .list hm rfl rfl .nil
  refine ne_dataH_same R R2 (shaped_of (lay_pairs hk) (Nat.le_trans (depth_pairs ps) (by decide))) (shaped_of (by simp [PyData.canLayAll0]) (by simp [PyData.depthAll])) hu ?_ ?_
  · cases ps <;> simp [listD, noMix, noMixAll]
  · have : (!Spec.same (listD ps) (.list [])) = b := by rw [← hb]; cases ps <;> simp [listD, Spec.same, Spec.sameAll]
    rw [this]; exact hq
theorem ne_lists {u v : Value} {ls : List (List Pair)} {Q : Value → Shared → Prop} {a b : Addr} {is js : Array Value} {n k : Nat} (h1 : s.heap.get? a = some (W.listOf is n)) (h2 : s.heap.get? b = some (W.listOf js k))
    (g1 : All2 (ListG (AtH s.heap)) is.toList ls) (g2 : All2 (ListG (AtH s.heap)) js.toList ls) (hk : ∀ ps ∈ ls, OkP ps) (hu : A.units + 64 < cLine) (hq : Q (.bool false) s) : wpAny (model prog w) A (compareOp .NotEq (.ref a) (.ref b)) Q E s := by
  obtain ⟨as, R⟩ := reads_lists g1
  obtain ⟨bs, R'⟩ := reads_lists g2
  have sh := shaped_of (lay_lists hk) (Nat.le_trans (depth_lists ls) (by decide))
  refine ne_dataH_same (.list h1 rfl rfl R) (.list h2 rfl rfl R') sh sh hu ?_ ?_
  · simp [noMix, nomix_lists]
  · rw [Spec.same_self]; exact hq
theorem eq_strs {ls : List (List Nat)} {Q : Value → Shared → Prop} {a b : Addr} {is js : Array Value} {n k : Nat} (h1 : s.heap.get? a = some (W.listOf is n)) (h2 : s.heap.get? b = some (W.listOf js k))
    (g1 : StrsAre is.toList (ls.map S)) (g2 : StrsAre js.toList (ls.map S)) (hk : ∀ l ∈ ls, OkS l) (hu : A.units + 64 < cLine) (hq : Q (.bool true) s) : wpAny (model prog w) A (compareOp .Eq (.ref a) (.ref b)) Q E s := by
  obtain ⟨as, R⟩ := reads_strs (h := s.heap) g1
  obtain ⟨bs, R'⟩ := reads_strs (h := s.heap) g2
  have sh := shaped_of (lay_strs hk) (Nat.le_trans (depth_strs ls) (by decide))
  refine eq_dataH_same (.list h1 rfl rfl R) (.list h2 rfl rfl R') sh sh hu ?_ ?_
  · simp [noMix, nomix_strs]
  · rw [Spec.same_self]; exact hq
end
/-! the signs of the pairs -/
theorem ok_word {cs row : List Nat} (h1 : ∀ x ∈ cs, x < 256) (h2 : ∀ o ∈ row, o < 256) : OkS (wordL cs row) := by
  have he : ∀ x ∈ enc row, x < 1114112 := by
    intro x hx
    unfold enc at hx
    obtain ⟨o, ho, hx⟩ := List.mem_flatMap.mp hx
    have key : ∀ o : Nat, o < 256 → (encO o).all (· < 1114112) = true := by decide +kernel
    simpa using List.all_eq_true.mp (key o (h2 o ho)) x hx
  intro x hx
  simp only [wordL, List.cons_append, List.nil_append, List.append_assoc, List.mem_cons, List.mem_append, List.not_mem_nil, or_false] at hx
  rcases hx with rfl | rfl | hx | rfl | rfl | rfl | hx | rfl | rfl
  all_goals first | (exact he _ hx) | (have := h1 _ hx; omega) | decide
theorem ok_lists {ls : List (List Pair)} (h : ∀ wd ∈ wordsOf ls, OkS wd) : ∀ ps ∈ ls, OkP ps := by
  intro ps hps p hp
  have key : ∀ wd ∈ pairWords p, OkS wd := fun wd hw => h wd (List.mem_flatMap.mpr ⟨ps, hps, List.mem_flatMap.mpr ⟨p, hp, hw⟩⟩)
  unfold pairWords at key
  split at key
  · have k1 := key _ (List.mem_cons_self ..)
    have k2 := key p.2 (by simp)
    exact ⟨fun x hx => k1 x (by simp [hx]), k2⟩
  · have k1 := key _ (List.mem_cons_self ..)
    exact ⟨fun x hx => k1 x (by simp [hx]), fun x hx => k1 x (by simp [hx])⟩
theorem ok_law {cs : List Nat} {gs : List (List Nat × List Nat)} (hcs : ∀ x ∈ cs, pTok x = true) (h1 : ∀ x ∈ cs, x < 256) (hg : GOk gs) : ∀ ps ∈ lawLists cs gs, OkP ps := by
  refine ok_lists fun wd hw => ?_
  rw [words_lists cs hcs gs hg] at hw
  unfold dueWords at hw
  obtain ⟨g, hg', rfl⟩ := List.mem_map.mp hw
  exact ok_word h1 (hg g (List.mem_filter.mp hg').1).1
theorem ok_all {cs : List Nat} {gs : List (List Nat × List Nat)} (hcs : ∀ x ∈ cs, pTok x = true) (h1 : ∀ x ∈ cs, x < 256) (hg : GOk gs) : ∀ ps ∈ (llAll cs gs).done ++ [(llAll cs gs).cur], OkP ps := by
  intro ps hps
  by_cases h : ps = []
  · subst h; intro p hp; exact nomatch hp
  · exact ok_law hcs h1 hg ps (by unfold lawLists; exact List.mem_filter.mpr ⟨hps, by simpa using h⟩)
end Mine
end
section
open PySem PySem.W PyProof.Rows
set_option linter.all false
set_option maxRecDepth 100000
namespace Mine
theorem S_inj {a b : List Nat} (h : S a = S b) : a = b := by
  have := congrArg (fun s : Str => s.cps.toList) h
  simpa [S] using this
theorem S_beq (a b : List Nat) : (S a == S b) = decide (a = b) := by
  by_cases h : a = b
  · subst h; simp
  · rw [decide_eq_false h, beq_eq_false_iff_ne]
    exact fun e => h (S_inj e)
theorem slice2 (l : List Nat) : Txt.slice (S l) none (some 2) = S (l.take 2) := by
  rcases l with _ | ⟨x, _ | ⟨y, r⟩⟩
  · decide +kernel
  · show Txt.slice (S [x]) none (some 2) = S [x]
    unfold Txt.slice
    rw [S_length, if_pos]
    exact (by decide +kernel : ((1 : Int) == 1 && (Builtin.Str.strSliceIndices none (some 2) 1 1).length == 1) = true)
  · exact slice_to (x :: y :: r) 2 (by simp)
theorem len_law {cs : List Nat} {gs : List (List Nat × List Nat)} (hct : ∀ x ∈ cs, pTok x = true) (hcs : cs.length ≤ 20) (hg : GOk gs) (hr : ∀ g ∈ gs, g.1.length ≤ 4) : ∀ ps ∈ lawLists cs gs, ∀ p ∈ ps, p.1.length ≤ 100 ∧ p.2.length ≤ 100 := by
  intro ps hps p hp
  have key : ∀ wd ∈ pairWords p, wd.length ≤ 100 := fun wd hw => by
    have : wd ∈ wordsOf (lawLists cs gs) := List.mem_flatMap.mpr ⟨ps, hps, List.mem_flatMap.mpr ⟨p, hp, hw⟩⟩
    rw [words_lists cs hct gs hg] at this
    unfold dueWords at this
    obtain ⟨g, hg', rfl⟩ := List.mem_map.mp this
    have h2 := hr g (List.mem_filter.mp hg').1
    have h4 := enc_len g.1
    have : (wordL cs g.1).length = cs.length + 7 + (enc g.1).length := by simp [wordL]; omega
    omega
  unfold pairWords at key
  split at key
  · have k1 := key _ (List.mem_cons_self ..)
    have k2 := key p.2 (by simp)
    simp at k1
    omega
  · have k1 := key _ (List.mem_cons_self ..)
    simp at k1
    omega
theorem words_take {ls : List (List Pair)} {i : Nat} {ps : List Pair} (h : ls[i]? = some ps) : wordsOf (ls.take (i + 1)) = wordsOf (ls.take i) ++ ps.flatMap pairWords := by
  rw [List.take_add_one, h, words_append]; simp [wordsOf]
theorem words_le (ls : List (List Pair)) (i : Nat) : (wordsOf (ls.take i)).length ≤ (wordsOf ls).length := by
  have : wordsOf ls = wordsOf (ls.take i) ++ wordsOf (ls.drop i) := by rw [← words_append, List.take_append_drop]
  rw [this, List.length_append]; omega
theorem flat_le {α β : Type} (f : α → List β) (ps : List α) (j : Nat) : ((ps.take j).flatMap f).length ≤ (ps.flatMap f).length := by
  have : ps.flatMap f = (ps.take j).flatMap f ++ (ps.drop j).flatMap f := by rw [← List.flatMap_append, List.take_append_drop]
  rw [this, List.length_append]; omega
theorem flat_take {α β : Type} (f : α → List β) {ps : List α} {j : Nat} {p : α} (h : ps[j]? = some p) : (ps.take (j + 1)).flatMap f = (ps.take j).flatMap f ++ f p := by
  rw [List.take_add_one, h, List.flatMap_append]; simp
theorem due_len (cs : List Nat) (gs : List (List Nat × List Nat)) : (dueWords cs gs).length ≤ gs.length := by
  unfold dueWords; rw [List.length_map]; exact List.length_filter_le _ _
/-- the octets that are due -/
def dueRows (gs : List (List Nat × List Nat)) : List (List Nat) := (gs.filter fun g => g.1 != []).map fun g => g.1
theorem strs_append {vs us : List Value} {a b : List Str} (h : StrsAre vs a) (k : StrsAre us b) : StrsAre (vs ++ us) (a ++ b) := by
  induction h with
  | nil => exact k
  | cons x t _ ih => exact .cons x t ih
theorem strs_get {vs : List Value} {ls : List (List Nat)} (h : StrsAre vs (ls.map S)) {i : Nat} {v : Value} (e : vs[i]? = some v) : ∃ l t, ls[i]? = some l ∧ v = .str (S l) t := by
  induction ls generalizing vs i with
  | nil => cases h; simp at e
  | cons l r ih =>
    cases h with
    | cons x t q =>
      cases i with
      | zero => simp at e; subst e; exact ⟨l, t, rfl, rfl⟩
      | succ i => exact ih q (by simpa using e)
end Mine
end
section
open PySem PySem.W PyProof.Rows
set_option linter.all false
set_option maxRecDepth 100000
set_option maxHeartbeats 8000000
namespace Mine
theorem fill_W9 (w : World) (h : Heap) : (KT w.params).In h → PySem.Challenge.rw_qu0026_01 = PySem.Challenge.rw_qu0026_01 := by
  k_fill
  intro _; rfl
local macro_rules | `(tactic| walk_at "exec For") => `(tactic| (with_unfolding_all refine' for_H ?_ ?hs; (case hs => (intro _; with_unfolding_all rfl))))
local macro_rules | `(tactic| walk_at "exec For Tuple Name cons nil") => `(tactic| (with_unfolding_all refine' for_H ?_ ?hs; (case hs => (intro _; with_unfolding_all rfl))))
local macro_rules | `(tactic| k_all) => `(tactic| assumption)
section
variable {w : World} {A : Around} {E : Value → Shared → Prop} {h : Heap} {g : Array GenState} {d : Drawn} {tk : Nat} {os : OsState} {h₀ : Heap} {L : Addr} {m : PySem.Str → Option Value} {news : List (Addr × Obj)}
theorem word_K {p : Program} {loose : List PySem.Str} {mean : ExcName → Option Value} {mg mb : PySem.Str → Option Value} {r : Addr} {vs : Array Value} {row cs : List Nat} {t : Tok} {Q : Value → Shared → Prop} (X : (KT w.params).In h₀) (T : Top p loose mean mg mb h₀) (hA : A.handled = none) (hA' : A.depth < 900)
    (F : Fr h₀ L h m) (N : News h₀ L h news) (hr : h₀.IsList r vs) (hi : IntsAre vs.toList (Nats row)) (hb : ∀ n ∈ row, n < 256) (hlen : row.length ≤ 4) (hcs : cs.length ≤ 20)
    (hq : ∀ t' h' k, Fr h₀ L h' m → News h₀ L h' news → Q (.str (S (wordL cs row)) t') ⟨h', g, d, k, os⟩) : wpAny (model PR w) A (call (.ref 139) [.ref r, .str (S cs) t]) Q E ⟨h, g, d, tk, os⟩ := by
  refine ret_K F N (word_call (s := ⟨h, g, d, tk, os⟩) (X.keeps F.keep) (T.keeps F.keep) hA hA' (vs := vs.toList) (by have := hr.at (F.keep _); simpa using this) hi hb (by omega) (by omega)) fun v h' k F' N' _ hv => ?_
  obtain ⟨t', rfl⟩ := hv
  exact hq t' h' k F' N'
theorem last_K {prog : Program} {value slice : PySem.Expr} {D : Addr} {dv : Array Value} {x : Value} {n : Nat} {u : Tok} {Q : Value → Shared → Prop} (N : News h₀ L h news) (hm : (D, W.listOf (dv.push x) n) ∈ news) (hq : Q x ⟨h, g, d, tk, os⟩)
    (hs : subscripted slice false (.ref D) (.int (-1) u) = operate [.ref D, .int (-1) u] (getItem (.ref D) (.int (-1) u))) :
    wpAny (model prog w) A (subscriptTail value slice (.ref D) (.int (-1) u)) Q E ⟨h, g, d, tk, os⟩ := by
  have hl : h.IsList D (dv.push x) := isList_news N hm
  refine tail_any (s := ⟨h, g, d, tk, os⟩) (T := "list") hl.typeIs slot_list_getitem.lookup (wpAny_getItem_list_neg (s := ⟨h, g, d, tk, os⟩) hl (by decide) (by rw [Array.size_push]; omega) (by decide) (x := x) ?_ hq) hs
  have : ((-1 : Int) + ((dv.push x).size : Nat)).toNat = dv.size := by rw [Array.size_push]; omega
  rw [this, Array.getElem?_push_size]
theorem first_K {prog : Program} {value slice : PySem.Expr} {D : Addr} {x y : Value} {n : Nat} {u : Tok} {Q : Value → Shared → Prop} (N : News h₀ L h news) (hm : (D, tupOf #[x, y] n) ∈ news) (hq : Q x ⟨h, g, d, tk, os⟩)
    (hs : subscripted slice false (.ref D) (.int 0 u) = operate [.ref D, .int 0 u] (getItem (.ref D) (.int 0 u))) :
    wpAny (model prog w) A (subscriptTail value slice (.ref D) (.int 0 u)) Q E ⟨h, g, d, tk, os⟩ := by
  have hl : IsTup h D #[x, y] := ⟨_, (N _ hm).1, rfl, _, rfl⟩
  exact tail_any (s := ⟨h, g, d, tk, os⟩) (T := "tuple") hl.typeIs slot_tuple_getitem.lookup (getItem_tuple (s := ⟨h, g, d, tk, os⟩) hl (by decide) (by decide) (j := 0) (by rfl) (by rfl) hq) hs
theorem last_push (its : Array Value) (y : Value) : kl_last (its.push y).toList = some (its.toList, y) := by
  rw [Array.toList_push]
  generalize its.toList = l
  induction l with
  | nil => rfl
  | cons a r ih =>
    show (match kl_last (r ++ [y]) with | some (p, y) => some (a :: p, y) | none => some ([], a)) = _
    rw [ih]
theorem len_K {prog : Program} {l : List Nat} {t : Tok} {Q : Value → Shared → Prop} (hl : l.length ≤ 1000) (hq : ∀ t' k, Q (.int (l.length : Nat) t') ⟨h, g, d, k, os⟩) : wpAny (model prog w) A (call (.builtin "len") [.str (S l) t]) Q E ⟨h, g, d, tk, os⟩ := by
  have e := S_length l
  refine len_str (s := ⟨h, g, d, tk, os⟩) (by rw [e]; omega) ?_
  rw [e]; exact hq _ _
theorem pop_K {prog : Program} {D : Addr} {its : Array Value} {y : Value} {n : Nat} {news' : List (Addr × Obj)} {Q : Value → Shared → Prop} (F : Fr h₀ L h m) (N : News h₀ L h news) (U : Upd D (W.listOf (its.push y) n) (W.listOf its (n + 1)) news news') (hz : its.size ≤ 1000)
    (hq : ∀ h', Fr h₀ L h' m → News h₀ L h' news' → Q y ⟨h', g, d, tk, os⟩) : wpAny (model prog w) A (call (.builtin "list.pop") [.ref D]) Q E ⟨h, g, d, tk, os⟩ := by
  refine kl_pop (s := ⟨h, g, d, tk, os⟩) F N (last_push its y) (by rw [Array.toArray_toList]; exact U) (by rw [Array.toList_push, sizeLine_eq]; simp; omega) fun h' F' N' => hq h' F' N'
theorem ne_nil_K {prog : Program} {r l' : Addr} {vs : Array Value} {row : List Nat} {b : Bool} {Q : Value → Shared → Prop} (F : Fr h₀ L h m) (N : News h₀ L h news) (hr : h₀.IsList r vs) (hi : IntsAre vs.toList (Nats row)) (hm : (l', W.listOf #[] 0) ∈ news) (hu : A.units + 64 < cLine)
    (hb : (row != []) = b) (hq : Q (.bool b) ⟨h, g, d, tk, os⟩) : wpAny (model prog w) A (compareOp .NotEq (.ref r) (.ref l')) Q E ⟨h, g, d, tk, os⟩ := by
  refine ne_intsK (s := ⟨h, g, d, tk, os⟩) (vs := vs.toList) (ns := Nats row) (us := []) (ms := []) (by have := hr.at (F.keep _); simpa using this) hi (isList_news N hm) .nil hu ?_
  have : (!decide (Nats row = [])) = b := by rw [← hb]; cases row <;> simp [Nats]
  rw [this]; exact hq
theorem ne_nilC {prog : Program} {v : Value} {l' : Addr} {ps : List Pair} {n : Nat} {b : Bool} {fz : List (Addr × Obj)} {Q : Value → Shared → Prop} (N : News h₀ L h news) (hl : ListG (InL fz) v ps) (hs : ∀ p ∈ fz, p ∈ news) (hm : (l', W.listOf #[] n) ∈ news) (hk : OkP ps) (hu : A.units + 64 < cLine)
    (hb : (ps != []) = b) (hq : Q (.bool b) ⟨h, g, d, tk, os⟩) : wpAny (model prog w) A (compareOp .NotEq v (.ref l')) Q E ⟨h, g, d, tk, os⟩ :=
  ne_nil_L (s := ⟨h, g, d, tk, os⟩) (hl.mono fun a o e => (N _ (hs _ e)).1) (N _ hm).1 hk hu hb hq
end
local macro_rules | `(tactic| walk_at "subs") => `(tactic| (intro p hp; (repeat (refine List.mem_cons_of_mem _ ?_)); exact hp))
local macro_rules | `(tactic| walk_at "subs3") => `(tactic| (intro p hp; (rcases List.mem_cons.mp hp with h | hp); (subst h; repeat (first | exact List.mem_cons_self .. | refine List.mem_cons_of_mem _ ?_)); (repeat (refine List.mem_cons_of_mem _ ?_)); exact hp))
local macro_rules | `(tactic| walk_at "compareOp NotEq ref ref") => `(tactic| (refine' ne_nilC ?k1 ?k2 ?k3 ?k5 ?k4 ?k6 ?k7 ?_; (case k1 => k_asm); (case k2 => assumption); (case k3 => walk_at "subs3"); (case k4 => assumption); (case k5 => with_unfolding_all k_mem); (case k6 => (have hcL' := cLine_is; simp only [units_deeper]; omega)); (case k7 => assumption)))
local macro_rules | `(tactic| walk_at "compareOp NotEq ref ref") => `(tactic| (refine' ne_nil_K ?k1 ?k2 ?k3 ?k4 ?k5 ?k6 ?k7 ?_; (case k1 => first | k_asm); (case k2 => first | k_asm); (case k3 => first | assumption); (case k4 => first | assumption); (case k5 => first | k_mem | with_unfolding_all k_mem); (case k6 => first | (have hcL' := cLine_is; simp only [units_deeper]; omega)); (case k7 => first | assumption)))
local macro_rules | `(tactic| walk_at "call builtin:list.append") => `(tactic| ((try dsimp only [List.cons_append, List.nil_append]); k_dflt (refine' append_K ?k1 ?k2 ?k3 ?_ ?z; (case k1 => k_asm); (case k2 => k_asm); (case k3 => k_upd); (case z => (rw [sizeLine_eq]; (try simp only [List.size_toArray, Array.size_push]); omega))); intro h' F' N'; (try k_sweep)))
local macro_rules | `(tactic| walk_at "subscriptTail") => `(tactic| (first | (refine' last_K ?k1 ?k2 ?_ ?k3; (case k1 => k_asm); (case k2 => with_unfolding_all k_mem); (case k3 => with_unfolding_all rfl)) | (refine' first_K ?k1 ?k2 ?_ ?k3; (case k1 => k_asm); (case k2 => first | assumption | ((repeat refine List.mem_cons_of_mem _ ?_); assumption)); (case k3 => with_unfolding_all rfl))))
local macro_rules | `(tactic| walk_at "subscriptTail Name UnaryOp ref int") => `(tactic| walk_at "subscriptTail")
local macro_rules | `(tactic| walk_at "mysize") => `(tactic| (simp only [sizeLine_eq, lit_a, lit_b, lit_c, lit_e, lit_0, S_length, mk_len, empty_len, len_app, List.length_cons, List.length_nil, List.length_drop, List.length_take]; omega))
local macro_rules | `(tactic| size_fits) => `(tactic| walk_at "mysize")
local macro_rules | `(tactic| walk_at "call builtin:len") => `(tactic| ((try dsimp only [List.cons_append, List.nil_append]); refine' len_K ?z ?_; (case z => omega); intro t' k'))
local macro_rules | `(tactic| walk_at "call builtin:list.pop") => `(tactic| ((try dsimp only [List.cons_append, List.nil_append]); refine' pop_K ?k1 ?k2 ?k3 ?z ?_; (case k1 => k_asm); (case k2 => k_asm); (case k3 => k_upd); (case z => omega); intro h' F' N'; (try dsimp only [List.cons_append, List.nil_append] at N')))
local macro_rules | `(tactic| walk_at "storeName") => `(tactic| ((with_reducible show wpAny _ _ (storeName (compEnvC _ _ _ _) _ _) _ _ _); refine' storeC_K ?k1 ?k2 ?k3 ?k4 ?_; (case k1 => with_unfolding_all rfl); (case k2 => rfl); (case k3 => k_asm); (case k4 => k_asm); intro h' k' F' N'))
local macro_rules | `(tactic| walk_at "eval Name") => `(tactic| ((with_reducible show wpAny _ _ (eval (Expr.Name _ _) (compEnvC _ _ _ _)) _ _ _); refine' nameC_K ?k1 ?k2 ?k3 ?k4 ?k5 ?_; (case k1 => with_unfolding_all rfl); (case k2 => rfl); (case k3 => decide); (case k4 => k_asm); (case k5 => with_unfolding_all rfl)))
local macro_rules | `(tactic| walk_at "eval ListComp") => `(tactic| (refine' comp_H ?c1 ?c2 ?c3 ?c4 ?_; (case c1 => (intro _; with_unfolding_all rfl)); (case c2 => with_unfolding_all rfl); (case c3 => rfl); (case c4 => decide)))
local macro_rules | `(tactic| walk_at "call builtin:str.index") => `(tactic| ((try dsimp only [List.cons_append, List.nil_append]); refine index_K (by assumption) ?_; intro t' k'))
local macro_rules | `(tactic| walk_at "call ref") => `(tactic| ((try dsimp only [List.cons_append, List.nil_append]); refine' word_K ?k1 ?k2 ?k3 ?k4 ?k5 ?k6 ?k7 ?k8 ?k9 ?k10 ?k11 ?_; (case k1 => assumption); (case k2 => assumption); (case k3 => rfl); (case k5 => k_asm); (case k6 => k_asm); (case k7 => assumption); (case k8 => assumption); (case k4 => first | (show _ + 1 < 900; omega) | omega); (case k9 => assumption); (case k10 => assumption); (case k11 => assumption); intro t' h' k' F' N'))
theorem m_open6 {m m₀ : PySem.Str → Option Value} {a b c d e f : PySem.Str} (h : ∀ y, y ∉ [a, b, c, d, e, f] → m y = m₀ y) :
    ∃ ua ub uc ud ue uf, m = fun y => if y = a then ua else if y = b then ub else if y = c then uc else if y = d then ud else if y = e then ue else if y = f then uf else m₀ y := by
  refine ⟨m a, m b, m c, m d, m e, m f, ?_⟩
  funext y
  split
  · rename_i q; rw [q]
  split
  · rename_i q; rw [q]
  split
  · rename_i q; rw [q]
  split
  · rename_i q; rw [q]
  split
  · rename_i q; rw [q]
  split
  · rename_i q; rw [q]
  exact h y (by simp [*])
theorem wait_fold (cs : List Nat) (hcs : ∀ x ∈ cs, pTok x = true) : ∀ (gs : List (List Nat × List Nat)) (σ : LL), GOk gs → WaitOk σ → WaitOk (gs.foldl (llStep cs) σ)
  | [], σ, _, h => h
  | (row, m) :: gs, σ, hg, hw => by
    have hgs : GOk gs := fun g h => hg g (List.mem_cons_of_mem _ h)
    obtain ⟨hrow, hm⟩ := hg _ (List.mem_cons_self ..)
    dsimp only at hrow hm
    rw [List.foldl_cons]
    refine wait_fold cs hcs gs _ hgs ?_
    obtain ⟨done, cur, w⟩ := σ
    have wi : ∀ (cur' : List Pair) (w' : Bool), (w' = true → ∃ c0 tok, cur' = c0 ++ [(tok, [])]) → WaitOk (if m = [44, 32] then ⟨done ++ [cur'], [], false⟩ else ⟨done, cur', w'⟩) := fun cur' w' h => by
      split
      · exact fun e => Bool.noConfusion e
      · exact h
    by_cases h : row = []
    · subst h; rw [step_empty]; exact wi _ _ fun e => hw (Bool.and_eq_true_iff.mp e).1
    · obtain ⟨tok, val, c⟩ := cut_word hcs hrow
      cases w with
      | false =>
        rw [step_free cs done cur row m tok val h c]
        refine wi _ _ fun e => ?_
        obtain ⟨e1, e2⟩ := Bool.and_eq_true_iff.mp e
        have : val = [] := by simpa using e1
        exact ⟨cur, tok, by rw [this]⟩
      | true =>
        obtain ⟨c0, t0, rfl⟩ : ∃ c0 t0, cur = c0 ++ [(t0, [])] := hw rfl
        rw [step_wait cs done c0 row m t0 [] h]
        exact wi _ _ fun e => Bool.noConfusion e
theorem wait_all (cs : List Nat) (hcs : ∀ x ∈ cs, pTok x = true) (gs : List (List Nat × List Nat)) (hg : GOk gs) : WaitOk (llAll cs gs) := wait_fold cs hcs gs _ hg fun e => Bool.noConfusion e
theorem news_sub {h₀ h : Heap} {L : Addr} {a b : List (Addr × Obj)} (N : News h₀ L h a) (hs : ∀ p ∈ b, p ∈ a) : News h₀ L h b := fun p hp => N p (hs p hp)
def LJ (cs : List Nat) (LI : Addr) (t : Tok) (mR : Str → Option Value) (i : Nat) (σ : LL) (m : Str → Option Value) (nx : List (Addr × Obj)) : Prop :=
  ∃ (its1 dv : Array Value) (n1 n2 : Nat) (fz : List (Addr × Obj)) (CU : Addr), nx = (CU, W.listOf its1 n1) :: (LI, W.listOf (dv.push (.ref CU)) n2) :: fz ∧ CU ≠ LI ∧ (∀ p ∈ fz, p.1 ≠ CU) ∧ (∀ p ∈ fz, p.1 ≠ LI) ∧
      All2 (PairG (InL fz)) its1.toList σ.cur ∧ All2 (ListG (InL fz)) dv.toList σ.done ∧ m (Str.ofString "waits") = some (.bool σ.waits) ∧ its1.size ≤ i ∧ dv.size ≤ i ∧
      (∀ y, y ∉ [Str.ofString "row", Str.ofString "mark", Str.ofString "word", Str.ofString "name", Str.ofString "cut", Str.ofString "waits"] → m y = if y = Str.ofString "lists" then some (.ref LI) else if y = Str.ofString "charset" then some (.str (S cs) t) else mR y)
theorem lj_mk {cs : List Nat} {LI : Addr} {t : Tok} {mR : Str → Option Value} {i : Nat} {σ σ' : LL} {m : Str → Option Value} {its1 dv : Array Value} {n1 n2 : Nat} {fz : List (Addr × Obj)} {CU : Addr} (e : σ' = σ)
    (d1 : CU ≠ LI) (f1 : ∀ p ∈ fz, p.1 ≠ CU) (f2 : ∀ p ∈ fz, p.1 ≠ LI) (c1 : All2 (PairG (InL fz)) its1.toList σ.cur) (c2 : All2 (ListG (InL fz)) dv.toList σ.done) (hw : m (Str.ofString "waits") = some (.bool σ.waits)) (z1 : its1.size ≤ i) (z2 : dv.size ≤ i)
    (hm : ∀ y, y ∉ [Str.ofString "row", Str.ofString "mark", Str.ofString "word", Str.ofString "name", Str.ofString "cut", Str.ofString "waits"] → m y = if y = Str.ofString "lists" then some (.ref LI) else if y = Str.ofString "charset" then some (.str (S cs) t) else mR y) :
    LJ cs LI t mR i σ' m ((CU, W.listOf its1 n1) :: (LI, W.listOf (dv.push (.ref CU)) n2) :: fz) := by
  subst e; exact ⟨its1, dv, n1, n2, fz, CU, rfl, d1, f1, f2, c1, c2, hw, z1, z2, hm⟩
theorem cu_done {fz fz' : List (Addr × Obj)} {its1 dv : Array Value} {CU : Addr} {n1 : Nat} {done : List (List Pair)} {cur : List Pair} (hs : ∀ p ∈ fz, p ∈ fz') (hm : (CU, W.listOf its1 n1) ∈ fz') (c1 : All2 (PairG (InL fz)) its1.toList cur) (c2 : All2 (ListG (InL fz)) dv.toList done) :
    All2 (ListG (InL fz')) (dv.push (.ref CU)).toList (done ++ [cur]) := by
  rw [Array.toList_push]
  exact All2.snoc (c2.mono fun _ _ q => q.mono fun _ _ e => hs _ e) ⟨CU, its1, n1, rfl, hm, c1.mono fun _ _ q => q.mono fun _ _ e => hs _ e⟩
theorem permE1 {h₀ h : Heap} {L : Addr} {a b c i cu li : Addr × Obj} {fz : List (Addr × Obj)} (N : News h₀ L h (a :: b :: c :: i :: cu :: li :: fz)) : News h₀ L h (i :: a :: li :: c :: b :: cu :: fz) := fun p hp => N p (by
  simp only [List.mem_cons] at hp ⊢
  rcases hp with h | h | h | h | h | h | h <;> simp [h])
theorem permE2 {h₀ h : Heap} {L : Addr} {b c i cu li : Addr × Obj} {fz : List (Addr × Obj)} (N : News h₀ L h (b :: c :: i :: cu :: li :: fz)) : News h₀ L h (i :: cu :: li :: c :: b :: fz) := fun p hp => N p (by
  simp only [List.mem_cons] at hp ⊢
  rcases hp with h | h | h | h | h | h <;> simp [h])
theorem far_use {fz : List (Addr × Obj)} {X : Addr} {p : Addr × Obj} (h : ∀ q ∈ fz, q.1 ≠ X) (hp : p ∈ fz) : p.1 ≠ X := h p hp
theorem far_lt {fz : List (Addr × Obj)} {X : Addr} {p : Addr × Obj} (h : AllLt X fz) (hp : p ∈ fz) : p.1 ≠ X := Nat.ne_of_lt (allLt_all h p hp)
local macro_rules | `(tactic| walk_at "far") => `(tactic| (intro p hp; (repeat (rcases List.mem_cons.mp hp with h | hp; · (rw [h]; first | assumption | (refine neN ?_; dsimp only; omega)))); first | exact far_use (by assumption) hp | exact far_lt (by assumption) hp | exact absurd hp List.not_mem_nil))
local macro_rules | `(tactic| walk_at "names") => `(tactic| (intro y hy; (simp only [List.mem_cons, List.not_mem_nil, or_false, not_or] at hy); (simp only [if_neg hy.1, if_neg hy.2.1, if_neg hy.2.2.1, if_neg hy.2.2.2.1, if_neg hy.2.2.2.2.1, if_neg hy.2.2.2.2.2])))
local macro_rules | `(tactic| walk_at "waits") => `(tactic| (refine (if_pos rfl).trans ?_; first | rfl | (refine congrArg (fun b => some (Value.bool b)) ?_; first | rfl | decide +kernel | (dsimp only; decide +kernel) | (simp only [Bool.true_and, Bool.false_and]; decide +kernel))))
local macro_rules | `(tactic| walk_at "subs2") => `(tactic| (intro a o hp; (repeat (refine List.mem_cons_of_mem _ ?_)); exact hp))
local macro_rules | `(tactic| walk_at "subs") => `(tactic| (intro p hp; (repeat (refine List.mem_cons_of_mem _ ?_)); exact hp))
theorem all2_last {G : Addr → Obj → Prop} {its : Array Value} {c0 : List Pair} {p : Pair} (h : All2 (PairG G) its.toList (c0 ++ [p])) : ∃ (its0 : Array Value) (pv : Value), its = its0.push pv ∧ All2 (PairG G) its0.toList c0 ∧ PairG G pv p := by
  have key : ∀ (as : List Value) (c0 : List Pair), All2 (PairG G) as (c0 ++ [p]) → ∃ as0 pv, as = as0 ++ [pv] ∧ All2 (PairG G) as0 c0 ∧ PairG G pv p := by
    intro as c0
    induction c0 generalizing as with
    | nil =>
      intro h
      cases h with
      | cons r q => cases q; exact ⟨[], _, rfl, .nil, r⟩
    | cons b bs ih =>
      intro h
      cases h with
      | cons r q =>
        obtain ⟨as0, pv, rfl, h1, h2⟩ := ih _ q
        exact ⟨_ :: as0, pv, rfl, .cons r h1, h2⟩
  obtain ⟨as0, pv, e, h1, h2⟩ := key _ _ h
  refine ⟨as0.toArray, pv, ?_, by simpa using h1, h2⟩
  apply Array.toList_inj.mp
  rw [e, Array.toList_push]
theorem word_len (cs row : List Nat) (h1 : cs.length ≤ 20) (h2 : row.length ≤ 4) : (wordL cs row).length ≤ 100 := by
  have h4 := enc_len row
  have : (wordL cs row).length = cs.length + 7 + (enc row).length := by simp [wordL]; omega
  omega
theorem Cut.le {wd tok val : List Nat} (c : Cut wd tok val) : cutAt wd + 1 ≤ wd.length := by rw [c.at, c.eq]; simp; omega
theorem Cut.slice1 {wd tok val : List Nat} (c : Cut wd tok val) : Txt.slice (S wd) (some 1) (some ((cutAt wd : Nat) : Int)) = S tok := by
  have h := c.le
  have := slice_mid wd 1 (cutAt wd) (by rw [c.at]; omega) (by omega)
  rw [← List.drop_take, c.front] at this
  exact this
theorem Cut.slice2 {wd tok val : List Nat} (c : Cut wd tok val) : Txt.slice (S wd) (some (((cutAt wd : Nat) : Int) + 1)) none = S val := by
  have := slice_from wd (cutAt wd + 1) c.le
  rw [c.back] at this
  exact this
theorem Cut.fullI {wd tok val : List Nat} (c : Cut wd tok val) : (((cutAt wd : Nat) : Int) + 1 == ((wd.length : Nat) : Int)) = (val == []) := by
  rw [← c.full]
  by_cases h : cutAt wd + 1 = wd.length
  · have : ((cutAt wd : Nat) : Int) + 1 = ((wd.length : Nat) : Int) := by omega
    rw [beq_iff_eq.mpr this, beq_iff_eq.mpr h]
  · have : ¬ ((cutAt wd : Nat) : Int) + 1 = ((wd.length : Nat) : Int) := by omega
    rw [beq_eq_false_iff_ne.mpr this, beq_eq_false_iff_ne.mpr h]
theorem cu_snoc {fz fz' : List (Addr × Obj)} {its1 : Array Value} {T : Addr} {n : Nat} {a b : List Nat} {t1 t2 : Tok} {cur : List Pair} (hs : ∀ p ∈ fz, p ∈ fz') (hT : (T, tupOf #[.str (S a) t1, .str (S b) t2] n) ∈ fz') (c1 : All2 (PairG (InL fz)) its1.toList cur) :
    All2 (PairG (InL fz')) (its1.push (.ref T)).toList (cur ++ [(a, b)]) := by
  rw [Array.toList_push]
  exact All2.snoc (c1.mono fun _ _ q => q.mono fun _ _ e => hs _ e) ⟨T, t1, t2, n, rfl, hT⟩
theorem cu_done2 {fz fz' : List (Addr × Obj)} {its1 dv : Array Value} {CU T : Addr} {n1 n : Nat} {a b : List Nat} {t1 t2 : Tok} {done : List (List Pair)} {cur : List Pair} (hs : ∀ p ∈ fz, p ∈ fz') (hm : (CU, W.listOf (its1.push (.ref T)) n1) ∈ fz') (hT : (T, tupOf #[.str (S a) t1, .str (S b) t2] n) ∈ fz') (c1 : All2 (PairG (InL fz)) its1.toList cur) (c2 : All2 (ListG (InL fz)) dv.toList done) :
    All2 (ListG (InL fz')) (dv.push (.ref CU)).toList (done ++ [cur ++ [(a, b)]]) := by
  rw [Array.toList_push]
  exact All2.snoc (c2.mono fun _ _ q => q.mono fun _ _ e => hs _ e) ⟨CU, _, n1, rfl, hm, cu_snoc hs hT c1⟩
theorem permF1 {h₀ h : Heap} {L : Addr} {nl T a b i cu li : Addr × Obj} {fz : List (Addr × Obj)} (N : News h₀ L h (nl :: T :: a :: b :: i :: cu :: li :: fz)) : News h₀ L h (i :: nl :: li :: T :: a :: b :: cu :: fz) := fun p hp => N p (by
  simp only [List.mem_cons] at hp ⊢
  rcases hp with h | h | h | h | h | h | h | h <;> simp [h])
theorem permF2 {h₀ h : Heap} {L : Addr} {T a b i cu li : Addr × Obj} {fz : List (Addr × Obj)} (N : News h₀ L h (T :: a :: b :: i :: cu :: li :: fz)) : News h₀ L h (i :: cu :: li :: T :: a :: b :: fz) := fun p hp => N p (by
  simp only [List.mem_cons] at hp ⊢
  rcases hp with h | h | h | h | h | h | h <;> simp [h])
theorem permG1 {h₀ h : Heap} {L : Addr} {nl T a i cu li : Addr × Obj} {fz : List (Addr × Obj)} (N : News h₀ L h (nl :: T :: a :: i :: cu :: li :: fz)) : News h₀ L h (i :: nl :: li :: T :: a :: cu :: fz) := fun p hp => N p (by
  simp only [List.mem_cons] at hp ⊢
  rcases hp with h | h | h | h | h | h | h <;> simp [h])
theorem permG2 {h₀ h : Heap} {L : Addr} {T a i cu li : Addr × Obj} {fz : List (Addr × Obj)} (N : News h₀ L h (T :: a :: i :: cu :: li :: fz)) : News h₀ L h (i :: cu :: li :: T :: a :: fz) := fun p hp => N p (by
  simp only [List.mem_cons] at hp ⊢
  rcases hp with h | h | h | h | h | h <;> simp [h])
theorem comma_of {g2 : List Nat} (h : (S g2 == Str.ofString ", ") = true) : g2 = [44, 32] := by
  have e : Str.ofString ", " = S [44, 32] := by decide +kernel
  rw [e, S_beq] at h; exact of_decide_eq_true h
theorem comma_not {g2 : List Nat} (h : (S g2 == Str.ofString ", ") = false) : g2 ≠ [44, 32] := by
  have e : Str.ofString ", " = S [44, 32] := by decide +kernel
  rw [e, S_beq] at h; exact of_decide_eq_false h
theorem fr_pin {h₀ h : Heap} {L : Addr} {m : Str → Option Value} {a b : Str} {va vb : Option Value} (F : Fr h₀ L h (fun y => if y = a then va else if y = b then vb else m y)) (c : Str) (vc : Option Value) (e : m c = vc) :
    Fr h₀ L h (fun y => if y = a then va else if y = b then vb else if y = c then vc else m y) := by
  have : (fun y => if y = a then va else if y = b then vb else m y) = fun y => if y = a then va else if y = b then vb else if y = c then vc else m y := by
    funext y
    by_cases h : y = c
    · subst h; rw [if_pos rfl, e]
    · rw [if_neg h]
  rw [← this]; exact F
theorem lists_call {w : World} {p : Program} {loose : List Str} {mean : ExcName → Option Value} {mg mb : Str → Option Value} {A : Around} {s : Shared} {G : Addr} {its : Array Value} {cs : List Nat} {t : Tok} {gs : List (List Nat × List Nat)}
    (X : (KT w.params).In s.heap) (T : Top p loose mean mg mb s.heap) (hA : A.handled = none) (hA' : A.depth < 890) (hU : A.units ≤ 5000)
    (hG : s.heap.IsList G its) (hgs : All2 (GrpG fun a o => s.heap.get? a = some o) its.toList gs) (hcs : cs.length ≤ 20) (hct : ∀ x ∈ cs, pTok x = true) (hc256 : ∀ x ∈ cs, x < 256) (hlen : gs.length ≤ 9) (hrow : ∀ g ∈ gs, g.1.length ≤ 4 ∧ (∀ c ∈ g.1, c < 256) ∧ MarkOk g.2) :
    codeAny (model PR w) A (.call (.ref 144) ⟨[.ref G, .str (S cs) t], []⟩) (RetIs s fun v h' => ∃ r its n fz, v = .ref r ∧ (∀ q ∈ (r, W.listOf its n) :: fz, h'.get? q.1 = some q.2 ∧ s.heap.get? q.1 = none) ∧ All2 (ListG (InL fz)) its.toList (lawLists cs gs)) s := by
  obtain ⟨hnd, dep, frs, gds, uts⟩ := A
  obtain rfl : hnd = none := hA
  refine codeAny_call_def (fd := fnOf _ _ _ _ _ _ _ _ _ _ _ _) (Nat.lt_trans hA' (by decide)) (X 144 _ (by k_is)) rfl T.nolimit (codeRec_of X (by k_is)) rfl (BindsTo.of_eq rfl) (by decide) (locs rfl) (fun h₁ hns hk => ?_)
  have F : Fr s.heap s.heap.objs.size h₁ (fun x => _) := ⟨hns, hk, Nat.le_refl _⟩
  have N : News s.heap s.heap.objs.size h₁ [] := News.nil
  clear hns hk
  refine wpAny_mono (E := fun _ _ => False) ?_ (fun _ _ h => h) (fun _ _ h => h.elim)
  have hA2 : dep < 890 := hA'
  have hU2 : uts ≤ 5000 := hU
  w_on
  k_steps
  rename Fr _ _ _ _ => F1
  rename News _ _ _ _ => N1
  rename_i CU0 _ _ LI _ lLC _ _
  obtain ⟨mR, F1⟩ : ∃ mR : Str → Option Value, Fr s.heap s.heap.objs.size _ (fun y => if y = Str.ofString "waits" then some (.bool false) else if y = Str.ofString "lists" then some (.ref LI) else if y = Str.ofString "charset" then some (.str (S cs) t) else mR y) := ⟨_, fr_pin F1 _ _ (by with_unfolding_all rfl)⟩
  refine ⟨?_⟩
  try dsimp only
  refine' for_inv (news₀ := [(CU0, W.listOf #[] 0), (LI, W.listOf #[.ref CU0] 0)]) (fun i m nx => LJ cs LI t mR i (llAll cs (gs.take i)) m nx) ?hh ?hl ?F ?N ?_ ?_ ?_ ?_ ?_
  case hh => rfl
  case hl => exact hG.at (F1.keep _)
  case F => exact F1
  case N =>
    intro p hp
    exact N1 p (by simp only [List.mem_cons, List.not_mem_nil, or_false] at hp ⊢; rcases hp with h | h <;> simp [h])
  · refine lj_mk (dv := #[]) (fz := []) (n1 := 0) (n2 := 0) (its1 := #[]) (CU := CU0) (σ := ⟨[], [], false⟩) rfl (neN (by omega)) (fun _ h => nomatch h) (fun _ h => nomatch h) All2.nil All2.nil (if_pos rfl) (by simp) (by simp) fun y hy => ?_
    simp only [List.mem_cons, List.not_mem_nil, or_false, not_or] at hy
    rw [if_neg hy.2.2.2.2.2]
  · rintro i m news h _ F2 _
    exact hG.at (F2.keep _)
  · intro I i v s Q hI hq
    exact own_tuple hI hq
  · rintro i v m news h tk I io hv hJ hn F2 N2
    obtain ⟨its1, dv, n1, n2, fz, CU, rfl, dCL, fC, fL, hc, hd, hw, hz1, hz2, hm⟩ := hJ
    clear F1 N1
    obtain ⟨g, hg, a, v1, tm, na, rfl, hga, r, rits, nr, rfl, hgr, hri⟩ := hgs.get (by simpa using hv)
    have hrL : s.heap.IsList r rits := ⟨_, hgr, rfl, _, rfl⟩
    have htT : h.IsTuple a #[.ref r, .str (S g.2) tm] := ⟨_, F2.keep _ _ hga, rfl, _, rfl⟩
    obtain ⟨u1, u2, u3, u4, u5, u6, rfl⟩ := m_open6 hm
    obtain rfl : u6 = _ := hw
    have hgm := List.mem_of_getElem? hg
    have hi9 : i < 9 := by have := (List.getElem?_eq_some_iff.mp hg).1; omega
    obtain ⟨hr4, hr256, hmk⟩ := hrow g hgm
    have q1 := neN dCL
    have q2 := neN (hn _ (List.mem_cons_self ..))
    have q3 := neN (hn _ (List.mem_cons_of_mem _ (List.mem_cons_self ..)))
    dsimp only at q2 q3
    have fI : ∀ p ∈ fz, p.1 ≠ I := fun p hp => hn p (List.mem_cons_of_mem _ (List.mem_cons_of_mem _ hp))
    obtain ⟨g1, g2⟩ := g
    dsimp only at hri htT hr4 hr256 hmk
    have hst : llAll cs (gs.take (i + 1)) = llStep cs (llAll cs (gs.take i)) (g1, g2) := by
      unfold llAll; rw [List.take_add_one, hg, List.foldl_append]; rfl
    have hwo : WaitOk (llAll cs (gs.take i)) := wait_all cs hct _ fun g hg => ⟨(hrow g (List.mem_of_mem_take hg)).2.1, (hrow g (List.mem_of_mem_take hg)).2.2⟩
    generalize llAll cs (gs.take i) = σ at hc hd F2 hst hwo
    obtain ⟨done, cur, wb⟩ := σ
    dsimp only at hc hd F2 hwo
    have hl1 : Str.ofString ", " = S [44, 32] := by decide +kernel
    have hl2 : Str.ofString "; " = S [59, 32] := by decide +kernel
    have hl3 : Str.ofString " " = S [32] := by decide +kernel
    have hwl := word_len cs g1 hcs hr4
    have hsp : (S g2 == Str.ofString " ") = (g2 == [32]) := by rw [hl3, S_beq]; by_cases h : g2 = [32] <;> simp [h]
    by_cases hre : g1 = []
    · have hb : (g1 != []) = false := by simp [hre]
      subst hre
      rw [step_empty] at hst
      k_steps
      all_goals (rename Fr _ _ _ _ => F6)
      all_goals (rename News _ _ _ _ => N6)
      all_goals first
      | (have hg2 : g2 = [44, 32] := comma_of (by assumption)
         rename (_ ∧ _ ∧ _ ∧ _ ∧ _ ∧ AllLt _ _) => lN
         have lA := lN.2.2.2.2.2
         rw [if_pos hg2] at hst
         refine ⟨_, _, _, _, rfl, F6, permE1 N6, (by walk_at "far"), lj_mk hst (neN (by omega)) (by walk_at "far") (by walk_at "far") All2.nil (cu_done (by walk_at "subs") (List.mem_cons_of_mem _ (List.mem_cons_of_mem _ (List.mem_cons_self ..))) hc hd) ?_ (by simp) (by rw [Array.size_push]; omega) (by walk_at "names")⟩
         refine (if_pos rfl).trans (congrArg (fun b => some (Value.bool b)) ?_)
         dsimp only
         first | assumption | (rw [hsp, hg2]; rfl) | rfl)
      | (have hg2 : g2 ≠ [44, 32] := comma_not (by assumption)
         rw [if_neg hg2] at hst
         refine ⟨_, _, _, _, rfl, F6, permE2 N6, (by walk_at "far"), lj_mk hst q1 (by walk_at "far") (by walk_at "far") (hc.mono fun _ _ q => q.mono (by walk_at "subs2")) (hd.mono fun _ _ q => q.mono (by walk_at "subs2")) ?_ (by omega) (by omega) (by walk_at "names")⟩
         refine (if_pos rfl).trans (congrArg (fun b => some (Value.bool b)) ?_)
         dsimp only
         first | (rw [hsp]; simp [*]; done) | (simp [*]; done))
    · have hb : (g1 != []) = true := by simp [hre]
      obtain ⟨tok, val, hcut⟩ := cut_word hct hr256
      have hs1 := hcut.slice1
      have hs2 := hcut.slice2
      have hfu := hcut.fullI
      have hfu2 : val = [] ↔ ((cutAt (wordL cs g1) : Nat) : Int) + 1 = (((wordL cs g1).length : Nat) : Int) := by rw [← beq_iff_eq (a := val), ← hfu, beq_iff_eq]
      cases wb
      · rw [step_free cs done cur g1 g2 tok val hre hcut] at hst
        k_steps
        all_goals (rename Fr _ _ _ _ => F6)
        all_goals (rename News _ _ _ _ => N6)
        all_goals (rw [hs1, hs2] at N6)
        all_goals first
        | (have hg2 : g2 = [44, 32] := comma_of (by assumption)
           rename (_ ∧ _ ∧ _ ∧ _ ∧ _ ∧ _ ∧ AllLt _ _) => lN
           have lA := lN.2.2.2.2.2.2
           rw [if_pos hg2] at hst
           refine ⟨_, _, _, _, rfl, F6, permF1 N6, (by walk_at "far"), lj_mk hst (neN (by omega)) (by walk_at "far") (by walk_at "far") All2.nil (cu_done2 (by walk_at "subs") (List.mem_cons_of_mem _ (List.mem_cons_of_mem _ (List.mem_cons_of_mem _ (List.mem_cons_self ..)))) (List.mem_cons_self ..) hc hd) ?_ (by simp) (by rw [Array.size_push]; omega) (by walk_at "names")⟩
           refine (if_pos rfl).trans (congrArg (fun b => some (Value.bool b)) ?_)
           dsimp only
           first
           | (rw [hsp, hg2]; rfl)
           | (rw [hfu, beq_eq_false_iff_ne]; exact fun e => absurd (hfu2.mp e) (by assumption)))
        | (have hg2 : g2 ≠ [44, 32] := comma_not (by assumption)
           rw [if_neg hg2] at hst
           refine ⟨_, _, _, _, rfl, F6, permF2 N6, (by walk_at "far"), lj_mk hst q1 (by walk_at "far") (by walk_at "far") (cu_snoc (by walk_at "subs") (List.mem_cons_self ..) hc) (hd.mono fun _ _ q => q.mono (by walk_at "subs2")) ?_ (by rw [Array.size_push]; omega) (by omega) (by walk_at "names")⟩
           refine (if_pos rfl).trans (congrArg (fun b => some (Value.bool b)) ?_)
           dsimp only
           first
           | (rw [hsp, hfu2.mpr (by assumption)]; rfl)
           | (have hv : val ≠ [] := fun e => absurd (hfu2.mp e) (by assumption); rw [hfu]; simp [hv]; done))
      · obtain ⟨c0, t0, rfl⟩ := hwo rfl
        rw [step_wait cs done c0 g1 g2 t0 [] hre] at hst
        obtain ⟨its0, pv, rfl, hc0, tp, tt1, tt2, tn, rfl, htp⟩ := all2_last hc
        have hz0 : its0.size ≤ 1000 := by rw [Array.size_push] at hz1; omega
        have hz0' : its0.size + 1 ≤ i + 1 := by rw [Array.size_push] at hz1; omega
        k_steps
        all_goals (rename Fr _ _ _ _ => F6)
        all_goals (rename News _ _ _ _ => N6)
        all_goals first
        | (have hg2 : g2 = [44, 32] := comma_of (by assumption)
           rename (_ ∧ _ ∧ _ ∧ _ ∧ _ ∧ AllLt _ _) => lN
           have lA := lN.2.2.2.2.2
           rw [if_pos hg2] at hst
           refine ⟨_, _, _, _, rfl, F6, permG1 N6, (by walk_at "far"), lj_mk hst (neN (by omega)) (by walk_at "far") (by walk_at "far") All2.nil (cu_done2 (by walk_at "subs") (List.mem_cons_of_mem _ (List.mem_cons_of_mem _ (List.mem_cons_self ..))) (List.mem_cons_self ..) hc0 hd) ?_ (by simp) (by rw [Array.size_push]; omega) (by walk_at "names")⟩
           exact if_pos rfl)
        | (have hg2 : g2 ≠ [44, 32] := comma_not (by assumption)
           rw [if_neg hg2] at hst
           refine ⟨_, _, _, _, rfl, F6, permG2 N6, (by walk_at "far"), lj_mk hst q1 (by walk_at "far") (by walk_at "far") (cu_snoc (by walk_at "subs") (List.mem_cons_self ..) hc0) (hd.mono fun _ _ q => q.mono (by walk_at "subs2")) ?_ (by rw [Array.size_push]; omega) (by omega) (by walk_at "names")⟩
           exact if_pos rfl)
  · rintro m news h tk hJ F2 N2
    obtain ⟨its1, dv, n1, n2, fz, CU, rfl, dCL, fC, fL, hc, hd, hw, hz1, hz2, hm⟩ := hJ
    clear F1 N1
    obtain ⟨u1, u2, u3, u4, u5, u6, rfl⟩ := m_open6 hm
    have hGl := hgs.len
    have hG9 : its.size ≤ 9 := by have : its.toList.length = its.size := rfl; omega
    have eG : gs.take its.size = gs := List.take_of_length_le (by have : its.toList.length = its.size := rfl; omega)
    rw [eG] at hc hd
    k_steps
    rename Fr _ _ _ _ => F6
    rename News _ _ _ _ => N6
    refine ⟨?_⟩
    try dsimp only
    have hall : All2 (ListG (InL ((CU, W.listOf its1 n1) :: fz))) (dv.push (.ref CU)).toList ((llAll cs gs).done ++ [(llAll cs gs).cur]) := cu_done (by walk_at "subs") (List.mem_cons_self ..) hc hd
    have hok := ok_all hct hc256 (gs := gs) fun g hg => ⟨(hrow g hg).2.1, (hrow g hg).2.2⟩
    have hls : lawLists cs gs = ((llAll cs gs).done ++ [(llAll cs gs).cur]).filter fun ps => ps != [] := rfl
    generalize (llAll cs gs).done ++ [(llAll cs gs).cur] = ls at hall hok hls
    refine' comp_inv1 (fun i ys nx => nx = (CU, W.listOf its1 n1) :: (LI, W.listOf (dv.push (.ref CU)) n2) :: fz ∧ All2 (ListG (InL ((CU, W.listOf its1 n1) :: fz))) ys.toList ((ls.take i).filter fun ps => ps != [])) ?hh ?hl ?hz ?hcell ?hkind F6 N6 ⟨rfl, by simpa using All2.nil⟩ ?_ ?_ ?_ ?_
    case hh => rfl
    case hl => exact isList_news N6 (List.mem_cons_of_mem _ (List.mem_cons_self ..))
    case hz => rw [Array.size_push]; omega
    case hcell => decide
    case hkind => rfl
    · rintro i ys nx h ⟨rfl, _⟩ _ hn
      exact ⟨_, hn _ (List.mem_cons_of_mem _ (List.mem_cons_self ..)), rfl, _, rfl⟩
    · intro I i v s Q hI hq
      exact own_name hq
    · rintro i v ys k mC nx h tk C I D io oL hv ⟨rfl, hys⟩ hnI hnL hnD dIL dID dLD hyz hiz FC NC
      clear N6 F6
      obtain ⟨ps, hps, hv'⟩ := hall.get (by rw [Array.getElem?_toList]; exact hv)
      have hokp := hok ps (List.mem_of_getElem? hps)
      obtain ⟨a, pits, pn, rfl, hpa, hpp⟩ := id hv'
      have hfl : (ls.take (i + 1)).filter (fun ps => ps != []) = (ls.take i).filter (fun ps => ps != []) ++ (if (ps != []) = true then [ps] else []) := by
        rw [List.take_add_one, hps, List.filter_append]; simp [List.filter_cons]
      by_cases hb0 : ps = []
      · have hb : (ps != []) = false := by simp [hb0]
        k_steps
        rename Fr _ _ _ _ => F7
        rename News _ _ _ _ => N7
        refine ⟨_, _, _, _, rfl, F7, fun p hp => N7 p (List.mem_cons_of_mem _ hp), hnI, hnL, hnD, rfl, ?_⟩
        rw [hfl, hb]; simpa using hys
      · have hb : (ps != []) = true := by simp [hb0]
        k_steps
        rename Fr _ _ _ _ => F7
        rename News _ _ _ _ => N7
        refine ⟨_, _, _, _, rfl, F7, fun p hp => N7 p (List.mem_cons_of_mem _ hp), hnI, hnL, hnD, rfl, ?_⟩
        rw [hfl, if_pos hb, Array.toList_push]; exact All2.snoc hys hv'
    · rintro D ys k nx h tk ⟨rfl, hys⟩ F7 N7 hnD
      k_steps
      refine RetIs.mk F7 ⟨D, ys, k, (CU, W.listOf its1 n1) :: fz, rfl, fun q hq => ?_, ?_⟩
      · have hq' : q ∈ (D, W.listOf ys k) :: (CU, W.listOf its1 n1) :: (LI, W.listOf (dv.push (.ref CU)) n2) :: fz := by
          simp only [List.mem_cons] at hq ⊢
          rcases hq with h | h | h <;> simp [h]
        exact ⟨(N7 q hq').1, (N7 q hq').2.2⟩
      · have e : ls.take (dv.push (Value.ref CU)).size = ls := List.take_of_length_le (by have h1 := hall.len; have h2 : (dv.push (Value.ref CU)).toList.length = (dv.push (Value.ref CU)).size := rfl; omega)
        rw [e] at hys
        rw [hls]; exact hys
end Mine
end
section
open PySem PySem.W PyProof.Rows
set_option linter.all false
set_option maxRecDepth 100000
namespace Mine
section
variable {prog : Program} {w : World} {A : Around} {E : Value → Shared → Prop} {h : Heap} {g : Array GenState} {d : Drawn} {tk : Nat} {os : OsState} {env : Env} {h₀ : Heap} {L : Addr} {m : Str → Option Value} {news : List (Addr × Obj)} {x : Str} {pos : Pos} {v : Value}
theorem nameL {Q : Value → Shared → Prop} (hl : env.kindOf x = some .local) (hk : env.scope.kind = .function) (hd : (x == ("__debug__" : Str)) = false) (F : Fr h₀ env.locals h m) (hv : m x = some v)
    (hq : Q v ⟨h, g, d, tk, os⟩) : wpAny (model prog w) A (eval (.Name x pos) env) Q E ⟨h, g, d, tk, os⟩ := wpAny_Name (wpAny_loadName_local (s := ⟨h, g, d, tk, os⟩) hk hl F.ns hv hq) hd
theorem nameG {K : Frag} {mg mb : Str → Option Value} {mean : ExcName → Option Value} {p : Program} {loose : List Str} {Q : Value → Shared → Prop} (hl : env.kindOf x = some .globalImplicit) (hk : env.scope.kind = .function) (hd : (x == ("__debug__" : Str)) = false) (hg : env.globals = mainGlobals)
    (F : Fr h₀ L h m) (X : K.In h₀) (T : Top p loose mean mg mb h₀) (e : nsIn K mainGlobals x = some (some v)) (hq : Q v ⟨h, g, d, tk, os⟩) : wpAny (model prog w) A (eval (.Name x pos) env) Q E ⟨h, g, d, tk, os⟩ :=
  Calls.Name_function_global hk hl (Calls.loadGlobal_global (s := ⟨h, g, d, tk, os⟩) (by rw [hg]; exact T.g.keeps F.keep) (mg_of X T.g e) hq) hd
theorem nameB {K : Frag} {mg mb : Str → Option Value} {mean : ExcName → Option Value} {p : Program} {loose : List Str} {Q : Value → Shared → Prop} (hl : env.kindOf x = some .globalImplicit) (hk : env.scope.kind = .function) (hd : (x == ("__debug__" : Str)) = false) (hg : env.globals = mainGlobals) (hb : env.builtins = builtinsNs)
    (F : Fr h₀ L h m) (X : K.In h₀) (T : Top p loose mean mg mb h₀) (e : nsIn K mainGlobals x = some none) (hv : bootBuiltins x = some v) (hn : x ≠ "__name__") (hq : Q v ⟨h, g, d, tk, os⟩) : wpAny (model prog w) A (eval (.Name x pos) env) Q E ⟨h, g, d, tk, os⟩ :=
  Calls.Name_function_global hk hl (Calls.loadGlobal_builtin (s := ⟨h, g, d, tk, os⟩) (by rw [hg]; exact T.g.keeps F.keep) (mg_none_of X T.g e) (by rw [hb]; exact T.b.keeps F.keep) ((T.builtins x hn).trans hv) hq) hd
theorem nameCell {c : Addr} {o : Obj} {Q : Value → Shared → Prop} (hl : env.kindOf x = some .cell) (hk : env.scope.kind = .function) (hd : (x == ("__debug__" : Str)) = false) (hc : env.cells.lookup x = some c) (N : News h₀ L h news) (hm : (c, o) ∈ news) (ho : o.data = .cell (some v))
    (hq : Q v ⟨h, g, d, tk, os⟩) : wpAny (model prog w) A (eval (.Name x pos) env) Q E ⟨h, g, d, tk, os⟩ := wpAny_Name (wpAny_loadName_cell (s := ⟨h, g, d, tk, os⟩) hk hl hc ⟨o, (N _ hm).1, ho⟩ hq) hd
theorem storeL {Q : Unit → Shared → Prop} (hl : env.kindOf x = some .local) (hk : env.scope.kind = .function) (F : Fr h₀ env.locals h m) (N : News h₀ env.locals h news)
    (hq : ∀ h' k, Fr h₀ env.locals h' (fun y => if y = x then some v else m y) → News h₀ env.locals h' news → Q () ⟨h', g, d, k, os⟩) : wpAny (model prog w) A (storeName env x v) Q E ⟨h, g, d, tk, os⟩ :=
  wpAny_storeName_local (s := ⟨h, g, d, tk, os⟩) hl F.ns (fun h' hn hs => hq h' _ (F.set hn hs) (N.set hs)) (by rw [hk]; rfl)
/-- a cell is filled; of the ledger it alone stays -/
theorem storeCell {c : Addr} {o : Obj} {v₀ : Option Value} {Q : Unit → Shared → Prop} (hl : env.kindOf x = some .cell) (hk : env.scope.kind = .function) (hc : env.cells.lookup x = some c) (F : Fr h₀ L h m) (N : News h₀ L h news) (hm : (c, o) ∈ news) (ho : o.data = .cell v₀)
    (hq : ∀ h' o', o'.data = .cell (some v) → Fr h₀ L h' m → News h₀ L h' [(c, o')] → Q () ⟨h', g, d, tk, os⟩) : wpAny (model prog w) A (storeName env x v) Q E ⟨h, g, d, tk, os⟩ := by
  have z := N _ hm
  refine wpAny_storeName_cell (s := ⟨h, g, d, tk, os⟩) hk hl hc ⟨o, z.1, ho⟩ fun h' hc' hs => ?_
  obtain ⟨o', e1, e2⟩ := hc'
  exact hq h' o' e2 (F.change hs z.2.1 z.2.2) fun p hp => by
    obtain rfl := List.mem_singleton.mp hp
    exact ⟨e1, z.2⟩
theorem chars_S : Str.ofString "x" = S [120] ∧ Str.ofString "utf-8" = S [117, 116, 102, 45, 56] ∧ Str.ofString "iso-8859-1" = S [105, 115, 111, 45, 56, 56, 53, 57, 45, 49] := by decide +kernel
theorem pick3 {value slice : PySem.Expr} {T : Addr} {t1 t2 t3 u : Tok} {n : Nat} {k : Int} {Q : Value → Shared → Prop} (N : News h₀ L h news) (hm : (T, tupOf #[.str (Str.ofString "x") t1, .str (Str.ofString "utf-8") t2, .str (Str.ofString "iso-8859-1") t3] n) ∈ news) (h0 : 0 ≤ k) (h1 : k < 3)
    (hs : subscripted slice false (.ref T) (.int k u) = operate [.ref T, .int k u] (getItem (.ref T) (.int k u)))
    (hq : ∀ cs t, cs ∈ charsets → Q (.str (S cs) t) ⟨h, g, d, tk, os⟩) : wpAny (model prog w) A (subscriptTail value slice (.ref T) (.int k u)) Q E ⟨h, g, d, tk, os⟩ := by
  have hl : IsTup h T #[.str (Str.ofString "x") t1, .str (Str.ofString "utf-8") t2, .str (Str.ofString "iso-8859-1") t3] := ⟨_, (N _ hm).1, rfl, _, rfl⟩
  obtain ⟨e1, e2, e3⟩ := chars_S
  have hk : k = 0 ∨ k = 1 ∨ k = 2 := by omega
  rcases hk with rfl | rfl | rfl
  · exact tail_any (s := ⟨h, g, d, tk, os⟩) (T := "tuple") hl.typeIs slot_tuple_getitem.lookup (getItem_tuple (s := ⟨h, g, d, tk, os⟩) hl (by decide) (by decide) (j := 0) (by rfl) (by rfl) (by rw [e1]; exact hq _ _ (List.mem_cons_self ..))) hs
  · exact tail_any (s := ⟨h, g, d, tk, os⟩) (T := "tuple") hl.typeIs slot_tuple_getitem.lookup (getItem_tuple (s := ⟨h, g, d, tk, os⟩) hl (by decide) (by decide) (j := 1) (by rfl) (by rfl) (by rw [e2]; exact hq _ _ (List.mem_cons_of_mem _ (List.mem_cons_self ..)))) hs
  · exact tail_any (s := ⟨h, g, d, tk, os⟩) (T := "tuple") hl.typeIs slot_tuple_getitem.lookup (getItem_tuple (s := ⟨h, g, d, tk, os⟩) hl (by decide) (by decide) (j := 2) (by rfl) (by rfl) (by rw [e3]; exact hq _ _ (List.mem_cons_of_mem _ (List.mem_cons_of_mem _ (List.mem_cons_self ..))))) hs
end
end Mine
end
section
open PySem PySem.W PyProof.Rows
set_option linter.all false
set_option maxRecDepth 100000
namespace Mine
section
variable {prog : Program} {w : World} {A : Around} {E : Value → Shared → Prop} {s : Shared} {env : Env} {h₀ : Heap} {m : Str → Option Value}
theorem comp_AH {elt target iter : Expr} {ifs : List Expr} {scope : Scope} {cl : List (Str × Addr)} {pos spos py : Pos} {y : Str} {Q : Flow → Shared → Prop}
    (hsw : swapsWith (.ListComp elt [⟨target, iter, ifs, 0⟩] scope pos) (some (.Name y py)) spos.line env = pure true)
    (hs : ∀ x, foldedSetIterable iter env x = pure x) (hclos : closureFor scope env = pure cl) (hkind : scope.kind = .function) (hnames : ∀ x ∈ scope.names, x.2 = .local → scope.names.lookup x.1 = some .local)
    (h : wpAny (model prog w) A (eval iter env) (fun x s₁ => Hold (wpAny (model prog w) A (pyIter x) (fun it s₂ => wpAny (model prog w) A (newList []) (fun acc s₃ => wpAny (model prog w) A (newFunctionEnv scope env.globals cl [] env.qual none .none (some env)) (fun cenv s₄ =>
      codeAny (model prog w) A (.compStart (.ListComp elt [⟨target, iter, ifs, 0⟩] scope pos) 0 it acc { cenv with scope := relabel scope env }) (compPost (model prog w) A E (some (assign (.Name y py) env)) (fun _ s' => Q .next s') acc cenv.locals) s₄) E s₃) E s₂) E s₁)) E s) :
    wpAny (model prog w) A (exec (.Assign [.Name y py] (.ListComp elt [⟨target, iter, ifs, 0⟩] scope pos) spos) env) Q E s := by
  rw [exec_Assign_Name_used _ _ _ _ hsw]
  refine wpAny_bind (wpAny_standAt (wpAny_bind ?_))
  show wpAny (model prog w) A (do let _ ← comprehension (.ListComp elt [⟨target, iter, ifs, 0⟩] scope pos) scope env _ (newList []) false (eval iter env) (some (assign (.Name y py) env))) _ _ s
  refine wpAny_bind (wpAny_mono (wpAny_comprehension_free (use := some (assign (.Name y py) env)) (Q := fun _ s' => Q .next s') rfl hs hclos hkind hnames
    (wpAny_mono h (fun _ _ q => q.out) fun _ _ q => q)) (fun _ s' hq => wpAny_pure (wpAny_pure hq)) fun _ _ e => e)
theorem comp_invA1 {l : Addr} {items : Array Value} {c elt target iter : Expr} {scope : Scope} {cl : List (Str × Addr)} {pos py : Pos} {y : Str} {news₀ : List (Addr × Obj)} {Q : Shared → Prop} (J : Nat → Array Value → List (Addr × Obj) → Prop)
    (hy : env.kindOf y = some .local) (hek : env.scope.kind = .function)
    (hh : A.handled = none) (hl : s.heap.IsList l items) (hsz : items.size ≤ 1000) (hcell : ∀ y ∈ scope.names, y.2 ≠ .cell) (hkind : scope.kind = .function)
    (F : Fr h₀ env.locals s.heap m) (N : News h₀ env.locals s.heap news₀) (hj : J 0 #[] news₀)
    (hlist : ∀ (i : Nat) (ys : Array Value) (news : List (Addr × Obj)) (h : Heap), J i ys news → (∀ b o, h₀.get? b = some o → h.get? b = some o) → (∀ p ∈ news, h.get? p.1 = some p.2) → h.IsList l items)
    (hown : ∀ (I : Addr) (i : Nat) (v : Value) (s : Shared) (Q : Unit → Shared → Prop), s.heap.IsListIter I l i → Q () s → wpAny (model prog w) A (letOwnedTupleGo target (.ref I) v) Q (fun _ _ => False) s)
    (turn : ∀ i v ys k mC news h tk C I D io oL, items[i]? = some v → J i ys news → (∀ p ∈ news, p.1 ≠ I) → (∀ p ∈ news, p.1 ≠ env.locals) → (∀ p ∈ news, p.1 ≠ D) → I ≠ env.locals → I ≠ D → env.locals ≠ D → ys.size ≤ i → i < items.size → Fr h₀ C h mC → News h₀ C h ((I, io) :: (env.locals, oL) :: (D, W.listOf ys k) :: news) →
      wpAny (model prog w) A (assign target (compEnvC scope cl C env) v) (fun _ s₂ => wpAny (model prog w) A (isTrue c (compEnvC scope cl C env) (eval c (compEnvC scope cl C env))) (fun ok s₃ => if ok = true then wpAny (model prog w) A (eval elt (compEnvC scope cl C env)) (fun x s₄ => TurnC h₀ C I env.locals D io oL ys k (J (i + 1)) s (ys.push x) s₄) FF s₃
            else TurnC h₀ C I env.locals D io oL ys k (J (i + 1)) s ys s₃) FF s₂) FF { s with heap := h, toks := tk })
    (done : ∀ D ys k news h tk, J items.size ys news → Fr h₀ env.locals h (fun z => if z = y then some (.ref D) else m z) → News h₀ env.locals h ((D, W.listOf ys k) :: news) → (∀ p ∈ news, p.1 ≠ D) → Q { s with heap := h, toks := tk }) :
    wpAny (model prog w) A (pyIter (.ref l)) (fun it s₂ => wpAny (model prog w) A (newList []) (fun acc s₃ => wpAny (model prog w) A (newFunctionEnv scope env.globals cl [] env.qual none .none (some env)) (fun cenv s₄ =>
      codeAny (model prog w) A (.compStart (.ListComp elt [⟨target, iter, [c], 0⟩] scope pos) 0 it acc { cenv with scope := relabel scope env }) (compPost (model prog w) A E (some (assign (.Name y py) env)) (fun _ s' => Q s') acc cenv.locals) s₄) E s₃) E s₂) E s := by
  refine comp_blk (RR := fun acc C => compPost (model prog w) A E (some (assign (.Name y py) env)) (fun _ s' => Q s') acc C) J hh hl hsz hcell hkind F N hj hlist hown
    (fun i v ys k mC news h tk C I D io oL a1 a2 a3 a4 a5 a6 a7 a8 a9 a10 a11 a12 => ?_) fun D C ys k mC news h tk hJ F' N' f1 hnC hCL hCD f2 hC0 => ?_
  · exact wpAny_mono (turn i v ys k mC news h tk C I D io oL a1 a2 a3 a4 a5 a6 a7 a8 a9 a10 a11 a12) (fun _ s₂ h₂ => tests_one h₂) fun _ _ x => x
  · show wpAny (model prog w) A (assign (.Name y py) env (.ref D)) _ _ _
    refine wpAny_assign_Name (wpAny_storeName_local hy F'.ns (fun h₂ hn₂ hs₂ => ?_) (by rw [hek]; rfl))
    refine ⟨mC, hnC.sameBut hs₂ hCL, fun h' hs' => done D ys k news h' _ hJ ((F'.set hn₂ hs₂).change hs' hCL hC0) (news_same (N'.set hs₂) hs' fun p hp => ?_) f1⟩
    rcases List.mem_cons.mp hp with rfl | hp
    · exact Ne.symm hCD
    · exact f2 p hp
end
end Mine
end
section
open PySem PySem.W PyProof.Rows
set_option linter.all false
set_option maxRecDepth 100000
set_option maxHeartbeats 8000000
namespace Mine
theorem fill_W10 (w : World) (h : Heap) : (KT w.params).In h → PySem.Challenge.rw_qu0026_01 = PySem.Challenge.rw_qu0026_01 := by
  k_fill
  intro _; rfl
local macro_rules | `(tactic| walk_at "dummy0") => `(tactic| skip)
local macro_rules | `(tactic| k_all) => `(tactic| assumption)
local macro_rules | `(tactic| walk_at "eval Name") => `(tactic| (k_dflt (refine' nameCell ?k1 ?k2 ?k3 ?k4 ?k5 ?k6 ?k7 ?_; (case k1 => with_unfolding_all rfl); (case k2 => rfl); (case k3 => decide); (case k4 => with_unfolding_all rfl); (case k5 => k_asm); (case k6 => k_mem); (case k7 => assumption))))
local macro_rules | `(tactic| walk_at "eval Name") => `(tactic| (k_dflt (refine' nameB ?k1 ?k2 ?k3 ?k4 ?k5 ?k6 ?k7 ?k8 ?k9 ?k10 ?k11 ?_; (case k1 => with_unfolding_all rfl); (case k2 => rfl); (case k3 => decide); (case k4 => rfl); (case k5 => rfl); (case k6 => k_asm); (case k7 => assumption); (case k8 => assumption); (case k9 => k_is); (case k10 => boot_by_name); (case k11 => decide))))
local macro_rules | `(tactic| walk_at "eval Name") => `(tactic| (k_dflt (refine' nameG ?k1 ?k2 ?k3 ?k4 ?k5 ?k6 ?k7 ?k8 ?_; (case k1 => with_unfolding_all rfl); (case k2 => rfl); (case k3 => decide); (case k4 => rfl); (case k5 => k_asm); (case k6 => assumption); (case k7 => assumption); (case k8 => k_is))))
local macro_rules | `(tactic| walk_at "eval Name") => `(tactic| (k_dflt (refine' nameL ?k1 ?k2 ?k3 ?k4 ?k5 ?_; (case k1 => with_unfolding_all rfl); (case k2 => rfl); (case k3 => decide); (case k4 => k_asm); (case k5 => with_unfolding_all rfl))))
local macro_rules | `(tactic| walk_at "storeName") => `(tactic| (first
  | (refine' storeL ?k1 ?k2 ?k3 ?k4 ?_; (case k1 => with_unfolding_all rfl); (case k2 => rfl); (case k3 => k_asm); (case k4 => k_asm); intro h' k' F' N')
  | (refine' storeCell ?k1 ?k2 ?k3 ?k4 ?k5 ?k6 ?k7 ?_; (case k1 => with_unfolding_all rfl); (case k2 => rfl); (case k3 => with_unfolding_all rfl); (case k4 => k_asm); (case k5 => k_asm); (case k6 => k_mem); (case k7 => assumption); intro h' o' e' F' N')))
local macro_rules | `(tactic| walk_at "subscriptTail") => `(tactic| (refine' pick3 ?k1 ?k2 ?k3 ?k4 ?k5 ?_; (case k1 => k_asm); (case k2 => with_unfolding_all k_mem); (case k3 => exact Int.fmod_nonneg_of_pos _ (by decide)); (case k4 => exact Int.fmod_lt_of_pos _ (by decide)); (case k5 => with_unfolding_all rfl); intro cs' t' hcs'))
local macro_rules | `(tactic| walk_at "eval ListComp") => `(tactic| (refine' comp_H ?c1 ?c2 ?c3 ?c4 ?_; (case c1 => (intro _; with_unfolding_all rfl)); (case c2 => with_unfolding_all rfl); (case c3 => rfl); (case c4 => decide)))
section
variable {w : World} {A : Around} {E : Value → Shared → Prop} {h : Heap} {g : Array GenState} {d : Drawn} {tk : Nat} {os : OsState} {h₀ : Heap} {L : Addr} {m : PySem.Str → Option Value} {news : List (Addr × Obj)}
theorem bytesRow_K {prog : Program} {r : Addr} {rits : Array Value} {row : List Nat} {n : Nat} {Q : Value → Shared → Prop} (F : Fr h₀ L h m) (N : News h₀ L h news) (hm : (r, W.listOf rits n) ∈ news) (hi : IntsAre rits.toList (Nats row)) (hb : ∀ o ∈ row, o < 256) (hz : row.length ≤ 4) (hA : A.handled = none)
    (hq : ∀ t' h' k, Fr h₀ L h' m → News h₀ L h' news → Q (.bytes (octB row).toArray t') ⟨h', g, d, k, os⟩) : wpAny (model prog w) A (call (.type "bytes") [.ref r]) Q E ⟨h, g, d, tk, os⟩ := by
  have hl : h.IsList r rits.toList.toArray := by rw [Array.toArray_toList]; exact isList_news N hm
  have hlen := hi.length
  refine call_bytes_ints (s := ⟨h, g, d, tk, os⟩) hl hi (fun n hn => ?_) (by rw [hlen, sizeLine_eq]; simp [Nats]; omega) hA fun h' t' k hk => ?_
  · obtain ⟨o, ho, rfl⟩ := List.mem_map.mp hn
    have := hb o ho
    omega
  · have e : (Nats row).map (fun n => n.toNat.toUInt8) = octB row := by unfold octB Nats; rw [List.map_map]; rfl
    have := hq t' h' k (Fr.ext F hk) (News.ext N hk)
    rw [← e] at this; exact this
theorem henc_K {p : Program} {loose : List PySem.Str} {mean : ExcName → Option Value} {mg mb : PySem.Str → Option Value} {row cs : List Nat} {t t2 : Tok} {Q : Value → Shared → Prop} (X : (KT w.params).In h₀) (T : Top p loose mean mg mb h₀) (hA : A.handled = none) (hA' : A.depth < 900)
    (hz : row.length ≤ 4) (ho : ∀ c ∈ row, c ∈ octs) (hcs : cs.length ≤ 20) (F : Fr h₀ L h m) (N : News h₀ L h news)
    (hq : ∀ t' h' k, Fr h₀ L h' m → News h₀ L h' news → Q (.str (S (if row = [] then [] else wordL cs row)) t') ⟨h', g, d, k, os⟩) : wpAny (model PR w) A (call (.ref 106) [.bytes (octB row).toArray t, .str (S cs) t2]) Q E ⟨h, g, d, tk, os⟩ := by
  refine ret_K F N (henc_call (s := ⟨h, g, d, tk, os⟩) (X.keeps F.keep) (T.keeps F.keep) hA hA' (by unfold octB; simpa using hz) ho (by omega)) fun v h' k F' N' _ hv => ?_
  obtain ⟨t', rfl⟩ := hv
  exact hq t' h' k F' N'
theorem extend_K {prog : Program} {D b : Addr} {its its2 : Array Value} {n n2 : Nat} {news' : List (Addr × Obj)} {Q : Value → Shared → Prop} (F : Fr h₀ L h m) (N : News h₀ L h news) (hb : (b, W.listOf its2 n2) ∈ news) (U : Upd D (W.listOf its n) (W.listOf (its.toList ++ its2.toList).toArray (n + 1)) news news')
    (hne : its2.toList.length ≠ 0) (hz : its.size ≤ 1000) (hz2 : its2.size ≤ 1000) (hq : ∀ h', Fr h₀ L h' m → News h₀ L h' news' → Q .none ⟨h', g, d, tk, os⟩) : wpAny (model prog w) A (call (.builtin "list.extend") [.ref D, .ref b]) Q E ⟨h, g, d, tk, os⟩ := by
  have e1 : its.toList.length = its.size := rfl
  refine kl_extend (s := ⟨h, g, d, tk, os⟩) F N hb rfl hne U (fun hc => ?_) (by rw [sizeLine_eq]; omega) (by rw [sizeLine_eq]; omega) hq
  have : Builtin.List.listTooLong (its.size + its2.size) = false := by unfold Builtin.List.listTooLong; rw [sizeLine_eq]; simp; omega
  rw [this, Bool.and_false] at hc
  exact Bool.false_ne_true hc
theorem ne_listsK {prog : Program} {l1 l2 : Addr} {its1 its2 : Array Value} {n1 n2 : Nat} {ls : List (List Pair)} {Q : Value → Shared → Prop} (N : News h₀ L h news) (h1 : (l1, W.listOf its1 n1) ∈ news) (h2 : (l2, W.listOf its2 n2) ∈ news) (g1 : All2 (ListG (InL news)) its1.toList ls) (g2 : All2 (ListG (InL news)) its2.toList ls)
    (hk : ∀ ps ∈ ls, OkP ps) (hu : A.units + 64 < cLine) (hq : Q (.bool false) ⟨h, g, d, tk, os⟩) : wpAny (model prog w) A (compareOp .NotEq (.ref l1) (.ref l2)) Q E ⟨h, g, d, tk, os⟩ :=
  ne_lists (u := .none) (v := .none) (s := ⟨h, g, d, tk, os⟩) (N _ h1).1 (N _ h2).1 (g1.mono fun _ _ q => q.mono fun _ _ e => (N _ e).1) (g2.mono fun _ _ q => q.mono fun _ _ e => (N _ e).1) hk hu hq
theorem ne_nil_I {prog : Program} {r l' : Addr} {rits : Array Value} {row : List Nat} {n k : Nat} {b : Bool} {Q : Value → Shared → Prop} (N : News h₀ L h news) (hr : (r, W.listOf rits n) ∈ news) (hm : (l', W.listOf #[] k) ∈ news) (hi : IntsAre rits.toList (Nats row)) (hu : A.units + 64 < cLine)
    (hb : (row != []) = b) (hq : Q (.bool b) ⟨h, g, d, tk, os⟩) : wpAny (model prog w) A (compareOp .NotEq (.ref r) (.ref l')) Q E ⟨h, g, d, tk, os⟩ := by
  refine ne_intsK (s := ⟨h, g, d, tk, os⟩) (vs := rits.toList) (ns := Nats row) (us := []) (ms := []) (by rw [Array.toArray_toList]; exact isList_news N hr) hi (isList_news N hm) .nil hu ?_
  have : (!decide (Nats row = [])) = b := by rw [← hb]; cases row <;> simp [Nats]
  rw [this]; exact hq
theorem flat1 : ∀ l : List Nat, (l.map fun o => [o]).flatten = l
  | [] => rfl
  | x :: r => by rw [List.map_cons, List.flatten_cons, flat1 r]; rfl
theorem due_get {cs : List Nat} {gs : List (List Nat × List Nat)} {i : Nat} {wd : List Nat} (h : (dueWords cs gs)[i]? = some wd) : ∃ g, (dueRows gs)[i]? = some g.1 ∧ wd = wordL cs g.1 ∧ g ∈ gs ∧ g.1 ≠ [] := by
  unfold dueWords at h
  rw [List.getElem?_map] at h
  obtain ⟨g, hg, rfl⟩ := Option.map_eq_some_iff.mp h
  have hm := List.mem_filter.mp (List.mem_of_getElem? hg)
  refine ⟨g, ?_, rfl, hm.1, by simpa using hm.2⟩
  unfold dueRows
  rw [List.getElem?_map, hg]; rfl
theorem slice_dec (cs row : List Nat) : Txt.slice (S (wordL cs row)) (some ((cs.length : Nat) + 5 : Int)) (some (-2)) = S (enc row) := by
  have hl : (wordL cs row).length = cs.length + 7 + (enc row).length := by simp [wordL]; omega
  have h1 := StrLaws.sliceText_neg_hi (S (wordL cs row)) (some ((cs.length : Nat) + 5 : Int)) (j := -2) (by decide) (by rw [S_length]; omega)
  have e1 : ((-2 : Int) + (S (wordL cs row)).length) = (((wordL cs row).length - 2 : Nat) : Int) := by rw [S_length]; omega
  have e2 : ((cs.length : Nat) + 5 : Int) = ((cs.length + 5 : Nat) : Int) := by omega
  rw [e1, e2] at h1
  rw [e2]
  refine Eq.trans h1 ?_
  refine (slice_mid (wordL cs row) (cs.length + 5) ((wordL cs row).length - 2) (by omega) (by omega)).trans ?_
  rw [word_in]
theorem hdec_K {p : Program} {loose : List PySem.Str} {mean : ExcName → Option Value} {mg mb : PySem.Str → Option Value} {x : Str} {l out : List Nat} {t : Tok} {Q : Value → Shared → Prop} (X : (KT w.params).In h₀) (T : Top p loose mean mg mb h₀) (hA : A.handled = none) (hA' : A.depth < 890)
    (hx : x = S l) (hl : l.length ≤ 2000) (hne : l ≠ []) (hd : Dec (sw 95 32 l) out) (F : Fr h₀ L h m) (N : News h₀ L h news)
    (hq : ∀ t' h' k, Fr h₀ L h' m → News h₀ L h' news → Q (.str (S out) t') ⟨h', g, d, k, os⟩) : wpAny (model PR w) A (call (.ref 125) [.str x t]) Q E ⟨h, g, d, tk, os⟩ := by
  subst hx
  refine ret_K F N (hdec_call (s := ⟨h, g, d, tk, os⟩) (X.keeps F.keep) (T.keeps F.keep) hA hA' hl hne hd) fun v h' k F' N' _ hv => ?_
  obtain ⟨t', rfl⟩ := hv
  exact hq t' h' k F' N'
theorem eq_strsK {prog : Program} {a b : Addr} {is js : Array Value} {n k : Nat} {ls : List (List Nat)} {Q : Value → Shared → Prop} (N : News h₀ L h news) (h1 : (a, W.listOf is n) ∈ news) (h2 : (b, W.listOf js k) ∈ news) (g1 : StrsAre is.toList (ls.map S)) (g2 : StrsAre js.toList (ls.map S)) (hk : ∀ l ∈ ls, OkS l) (hu : A.units + 64 < cLine)
    (hq : Q (.bool true) ⟨h, g, d, tk, os⟩) : wpAny (model prog w) A (compareOp .Eq (.ref a) (.ref b)) Q E ⟨h, g, d, tk, os⟩ :=
  eq_strs (s := ⟨h, g, d, tk, os⟩) (N _ h1).1 (N _ h2).1 g1 g2 hk hu hq
theorem due_take {gs : List (List Nat × List Nat)} {i : Nat} {g : List Nat × List Nat} (h : gs[i]? = some g) : dueRows (gs.take (i + 1)) = dueRows (gs.take i) ++ (if (g.1 != []) = true then [g.1] else []) := by
  unfold dueRows
  rw [List.take_add_one, h, List.filter_append, List.map_append]
  congr 1
  simp only [Option.toList_some]
  by_cases e : (g.1 != []) = true
  · rw [List.filter_cons_of_pos (by simpa using e), if_pos e]; rfl
  · rw [List.filter_cons_of_neg (by simpa using e), if_neg e]; rfl
theorem ret_G {prog : Program} {f : Value} {args : List Value} {P : Array Value → List (Addr × Obj) → Prop} {Q : Value → Shared → Prop} (F : Fr h₀ L h m) (N : News h₀ L h news)
    (c : codeAny (model prog w) A (.call f ⟨args, []⟩) (RetIs ⟨h, g, d, tk, os⟩ fun v h' => ∃ r its n fz, v = .ref r ∧ (∀ q ∈ (r, W.listOf its n) :: fz, h'.get? q.1 = some q.2 ∧ h.get? q.1 = none) ∧ P its fz) ⟨h, g, d, tk, os⟩)
    (hq : ∀ r its n fz h' k, Fr h₀ L h' m → News h₀ L h' ((r, W.listOf its n) :: (fz ++ news)) → (∀ q ∈ (r, W.listOf its n) :: fz, ∀ p ∈ news, q.1 ≠ p.1) → P its fz → Q (.ref r) ⟨h', g, d, k, os⟩) : wpAny (model prog w) A (call f args) Q E ⟨h, g, d, tk, os⟩ := by
  refine ret_K F N c fun v h' k F' N' he hp => ?_
  obtain ⟨r, its, n, fz, rfl, hz, hP⟩ := hp
  obtain ⟨oL, _, _, hoL, _⟩ := id F.ns
  refine hq r its n fz h' k F' (fun p hp => ?_) (fun q hq p hp e => ?_) hP
  · have key : ∀ q ∈ (r, W.listOf its n) :: fz, h'.get? q.1 = some q.2 ∧ q.1 ≠ L ∧ h₀.get? q.1 = none := fun q hq => by
      have z := hz q hq
      refine ⟨z.1, fun e => ?_, ?_⟩
      · rw [e, hoL] at z; exact absurd z.2 (by simp)
      · cases e : h₀.get? q.1 with
        | none => rfl
        | some o => rw [F.keep _ _ e] at z; exact absurd z.2 (by simp)
    rcases List.mem_cons.mp hp with e | hp
    · exact key p (e ▸ List.mem_cons_self ..)
    · rcases List.mem_append.mp hp with hp | hp
      · exact key p (List.mem_cons_of_mem _ hp)
      · exact N' p hp
  · have := (hz q hq).2
    rw [e, (N p hp).1] at this
    exact absurd this (by simp)
end
local macro_rules | `(tactic| walk_at "mem") => `(tactic| (first | assumption | ((repeat refine List.mem_cons_of_mem _ ?_); assumption)))
local macro_rules | `(tactic| walk_at "call type:bytes") => `(tactic| ((try dsimp only [List.cons_append, List.nil_append]); refine' bytesRow_K ?k1 ?k2 ?k3 ?k4 ?k5 ?k6 ?k7 ?_; (case k1 => k_asm); (case k2 => k_asm); (case k3 => walk_at "mem"); (case k4 => assumption); (case k5 => assumption); (case k6 => assumption); (case k7 => rfl); intro t' h' k' F' N'))
local macro_rules | `(tactic| walk_at "exec Assign cons ListComp") => `(tactic| (k_dflt (refine' comp_AH ?c0 ?c1 ?c2 ?c3 ?c4 ?_; (case c0 => with_unfolding_all rfl); (case c1 => (intro _; with_unfolding_all rfl)); (case c2 => with_unfolding_all rfl); (case c3 => rfl); (case c4 => decide))))
local macro_rules | `(tactic| walk_at "exec Assign") => `(tactic| (k_dflt (refine' comp_AH ?c0 ?c1 ?c2 ?c3 ?c4 ?_; (case c0 => with_unfolding_all rfl); (case c1 => (intro _; with_unfolding_all rfl)); (case c2 => with_unfolding_all rfl); (case c3 => rfl); (case c4 => decide))))
local macro_rules | `(tactic| walk_at "call ref") => `(tactic| ((try dsimp only [List.cons_append, List.nil_append]); first
  | k_dflt (refine' henc_K ?k1 ?k2 ?k3 ?k4 ?k5 ?k6 ?k7 ?k8 ?k9 ?_; (case k1 => assumption); (case k2 => assumption); (case k3 => rfl); (case k4 => (show _ + 1 < 900; omega)); (case k5 => assumption); (case k6 => assumption); (case k7 => assumption); (case k8 => k_asm); (case k9 => k_asm); intro t' h' k' F' N')
  | k_dflt (refine' hdec_K ?k1 ?k2 ?k3 ?k4 ?k5 ?k6 ?k7 ?k8 ?k9 ?k10 ?_; (case k1 => assumption); (case k2 => assumption); (case k3 => rfl); (case k4 => (show _ + 1 < 890; omega)); (case k5 => assumption); (case k6 => assumption); (case k7 => assumption); (case k8 => assumption); (case k9 => k_asm); (case k10 => k_asm); intro t' h' k' F' N')
  | refine' Hold.out ?_))
local macro_rules | `(tactic| walk_at "call builtin:len") => `(tactic| ((try dsimp only [List.cons_append, List.nil_append]); k_dflt (refine' len_K ?z ?_; (case z => omega)); intro t' k'))
local macro_rules | `(tactic| walk_at "mysize") => `(tactic| (simp only [sizeLine_eq, lit_a, lit_b, lit_c, lit_e, lit_0, S_length, mk_len, empty_len, len_app, List.length_cons, List.length_nil, List.length_drop, List.length_take]; omega))
local macro_rules | `(tactic| size_fits) => `(tactic| walk_at "mysize")
local macro_rules | `(tactic| walk_at "call builtin:str.join") => `(tactic| ((try dsimp only [List.cons_append, List.nil_append]); k_dflt (refine' join_S (isList_news (by k_asm) (by k_mem)) (by assumption) ?z ?_; (case z => omega)); intro t' k'))
local macro_rules | `(tactic| walk_at "exec For") => `(tactic| (with_unfolding_all refine' for_H ?_ ?hs; (case hs => (intro _; with_unfolding_all rfl))))
local macro_rules | `(tactic| walk_at "exec For Tuple Name cons nil") => `(tactic| (with_unfolding_all refine' for_H ?_ ?hs; (case hs => (intro _; with_unfolding_all rfl))))
local macro_rules | `(tactic| walk_at "exec For Name Name cons nil") => `(tactic| (with_unfolding_all refine' for_H ?_ ?hs; (case hs => (intro _; with_unfolding_all rfl))))
local macro_rules | `(tactic| walk_at "compareOp NotEq ref ref") => `(tactic| (k_dflt (refine' ne_nil_I ?k1 ?k2 ?k3 ?k4 ?k5 ?k6 ?_; (case k1 => k_asm); (case k2 => walk_at "mem"); (case k3 => k_mem); (case k4 => assumption); (case k5 => (have hcL' := cLine_is; simp only [units_deeper]; omega)); (case k6 => assumption))))
local macro_rules | `(tactic| walk_at "compareOp Eq ref ref") => `(tactic| (k_dflt (refine' eq_strsK ?k1 ?k2 ?k3 ?k4 ?k5 ?k6 ?k7 ?_; (case k1 => k_asm); (case k2 => k_mem); (case k3 => k_mem); (case k4 => assumption); (case k5 => assumption); (case k6 => assumption); (case k7 => (have hcL' := cLine_is; simp only [units_deeper]; omega)))))
local macro_rules | `(tactic| walk_at "call builtin:list.extend") => `(tactic| ((try dsimp only [List.cons_append, List.nil_append]); k_dflt (refine' extend_K ?k1 ?k2 ?k3 ?k4 ?k5 ?z1 ?z2 ?_; (case k1 => k_asm); (case k2 => k_asm); (case k3 => k_mem); (case k4 => k_upd); (case k5 => (intro e; exact absurd e (by simp))); (case z1 => omega); (case z2 => simp)); intro h' F' N'; (try k_sweep)))
local macro_rules | `(tactic| walk_at "binaryOp Add str str") => `(tactic| (refine' add_str ?_ ?z; (case z => walk_at "mysize"); intro t' k'))
theorem m_open3 {m m₀ : PySem.Str → Option Value} {a b c : PySem.Str} (h : ∀ y, y ∉ [a, b, c] → m y = m₀ y) : ∃ ua ub uc, m = fun y => if y = a then ua else if y = b then ub else if y = c then uc else m₀ y := by
  refine ⟨m a, m b, m c, ?_⟩
  funext y
  split
  · rename_i q; rw [q]
  split
  · rename_i q; rw [q]
  split
  · rename_i q; rw [q]
  exact h y (by simp [*])
theorem fr_pin1 {h₀ h : Heap} {L : Addr} {m : Str → Option Value} {a : Str} {va : Option Value} (F : Fr h₀ L h (fun y => if y = a then va else m y)) (c : Str) (vc : Option Value) (e : m c = vc) :
    Fr h₀ L h (fun y => if y = a then va else if y = c then vc else m y) := by
  have : (fun y => if y = a then va else m y) = fun y => if y = a then va else if y = c then vc else m y := by
    funext y
    by_cases h : y = c
    · subst h; rw [if_pos rfl, e]
    · rw [if_neg h]
  rw [← this]; exact F
theorem charsets_256 : ∀ cs ∈ charsets, ∀ x ∈ cs, x < 256 := by decide +kernel
theorem law_call {w : World} {p : Program} {loose : List Str} {mean : ExcName → Option Value} {mg mb : Str → Option Value} {A : Around} {s : Shared} {r : Addr} {vs : List Value} {ns : List Int}
    (X : (KT w.params).In s.heap) (T : Top p loose mean mg mb s.heap) (hA : A.handled = none) (hA' : A.depth < 800) (hU : A.units ≤ 4000)
    (hr : s.heap.IsList r vs.toArray) (hi : IntsAre vs ns) (hlen : ns.length ≤ 63) :
    codeAny (model PR w) A (.call (.ref 149) ⟨[.ref r], []⟩) (RetIs s fun v _ => v = .bool true) s := by
  obtain ⟨hnd, dep, frs, gds, uts⟩ := A
  obtain rfl : hnd = none := hA
  have hA2 : dep < 800 := hA'
  have hU2 : uts ≤ 4000 := hU
  refine codeAny_call_cells (fd := fnOf _ _ _ _ _ _ _ _ _ _ _ _) (binds := [(Str.ofString "script", .ref r)]) (Nat.lt_trans hA' (by decide)) (X 149 _ (by k_is)) rfl T.nolimit (codeRec_of X (by k_is)) rfl rfl rfl (fun y hy => by
    obtain rfl := List.mem_singleton.mp hy; exact .inl (by with_unfolding_all rfl)) (fun s₁ x => ?_)
  obtain ⟨h₁, tk, rfl, _⟩ := x.done
  obtain ⟨oc, hc1, hc2⟩ := x.cell (Str.ofString "charset") (s.heap.objs.size + 1) (by with_unfolding_all rfl)
  have F : Fr s.heap s.heap.objs.size h₁ (fun y => if y = Str.ofString "script" then some (.ref r) else none) := ⟨by
    have := x.toInCall.ns; unfold bindL at this; rw [if_pos (by with_unfolding_all rfl)] at this; exact this, x.toInCall.keep, Nat.le_refl _⟩
  have hL := Heap.lt_size (F.ns.choose_spec.choose_spec.choose_spec.1)
  have N : News s.heap s.heap.objs.size h₁ [(s.heap.objs.size + 1, oc)] := fun p hp => by
    obtain rfl := List.mem_singleton.mp hp
    refine ⟨hc1, by intro e; exact absurd e (by simp), ?_⟩
    cases e : s.heap.get? (s.heap.objs.size + 1) with
    | none => rfl
    | some o => exact absurd (Heap.lt_size e) (by simp)
  clear x
  refine wpAny_mono (E := fun _ _ => False) ?_ (fun _ _ h => h) (fun _ _ h => h.elim)
  w_on
  k_steps
  rename Fr _ _ _ _ => F1
  rename News _ _ _ _ => N1
  rename _ = Data.cell _ => hcell
  rename Obj => oc'
  rename List Nat => cs
  rename _ ∈ charsets => hcs
  rename Tok => tcs
  refine ⟨?_⟩
  refine ret_G F1 N1 (groups_call (s := ⟨_, _, _, _, _⟩) (X.keeps F1.keep) (T.keeps F1.keep) rfl (show dep + 1 < 900 by omega) (hr.at (F1.keep _)) hi hlen) fun gr gits gn fz h2 k2 F2 N2 hd2 hG => ?_
  replace N2 : News s.heap s.heap.objs.size h2 ((s.heap.objs.size + 1, oc') :: (gr, W.listOf gits gn) :: fz) := fun p hp => N2 p (by
    simp only [List.mem_cons, List.mem_append] at hp ⊢
    rcases hp with h | h | h <;> simp [h])
  clear F1 N1
  have hdcg : s.heap.objs.size + 1 ≠ gr := fun e => hd2 _ (List.mem_cons_self ..) (s.heap.objs.size + 1, oc') (by simp) e.symm
  have hdcz : ∀ p ∈ fz, p.1 ≠ s.heap.objs.size + 1 := fun p hp => hd2 p (List.mem_cons_of_mem _ hp) (s.heap.objs.size + 1, oc') (by simp)
  clear hd2
  have hgk := groups_ok ns
  have hg9 := groups_len ns
  obtain ⟨hct, hcl⟩ := charsets_ok cs hcs
  have hcl2 : cs.length ≤ 20 := by omega
  generalize hgs : groupsOf ns = gs at hG hgk hg9
  have hgz : gits.size ≤ 9 := by have := hG.len; have h2 : gits.toList.length = gits.size := rfl; omega
  k_steps
  rename Fr _ _ _ _ => F3
  rename News _ _ _ _ => N3
  refine ⟨?_⟩
  try dsimp only
  refine' comp_inv0 (fun i ys nx => nx = (s.heap.objs.size + 1, oc') :: (gr, W.listOf gits gn) :: fz ∧ StrsAre ys.toList (((gs.take i).map fun g => (if g.1 = [] then [] else wordL cs g.1) ++ g.2).map S)) ?hh ?hl ?hz ?hcell ?hkind F3 N3 ⟨rfl, by simpa using StrsAre.nil⟩ ?_ ?_ ?_ ?_
  case hh => rfl
  case hl => exact isList_news N3 (List.mem_cons_of_mem _ (List.mem_cons_self ..))
  case hz => omega
  case hcell => decide
  case hkind => rfl
  · rintro i ys nx h ⟨rfl, _⟩ _ hn
    exact ⟨_, hn _ (List.mem_cons_of_mem _ (List.mem_cons_self ..)), rfl, _, rfl⟩
  · intro I i v s Q hI hq
    exact own_tuple hI hq
  · rintro i v ys k mC nx h tk C I D io oL hv ⟨rfl, hys⟩ hnI hnL hnD dIL dID dLD hyz hiz FC NC
    clear F3 N3
    obtain ⟨⟨g1, g2⟩, hg, a, v1, tm, na, rfl, hga, rr, rits, nr, rfl, hgr, hri⟩ := hG.get (by rw [Array.getElem?_toList]; exact hv)
    dsimp only at hri hga
    have htT : h.IsTuple a #[.ref rr, .str (S g2) tm] := ⟨_, (NC (a, _) (List.mem_cons_of_mem _ (List.mem_cons_of_mem _ (List.mem_cons_of_mem _ (List.mem_cons_of_mem _ (List.mem_cons_of_mem _ hga)))))).1, rfl, _, rfl⟩
    obtain ⟨ho, hr4, hmk⟩ := hgk _ (List.mem_of_getElem? hg)
    dsimp only at ho hr4 hmk
    have hr256 : ∀ o ∈ g1, o < 256 := fun o h => octs_lt o (ho o h)
    have hm2 := mark_len hmk
    have hwl : (if g1 = [] then [] else wordL cs g1).length ≤ 100 := by
      split
      · simp
      · exact word_len cs g1 hcl2 hr4
    k_steps
    rename Fr _ _ _ _ => F7
    rename News _ _ _ _ => N7
    refine ⟨_, _, _, _, rfl, F7, N7, hnI, hnL, hnD, rfl, ?_⟩
    rw [Array.toList_push, take_snoc _ hg, List.map_append, S_append]
    exact strs_snoc hys _ _
  rintro D ys k nx h tk ⟨rfl, hys⟩ F4 N4 hnD
  clear F3 N3
  rw [List.take_of_length_le (by have := hG.len; have h2 : gits.toList.length = gits.size := rfl; omega)] at hys
  have hfl : (gs.map fun g => (if g.1 = [] then [] else wordL cs g.1) ++ g.2).flatten = textOf cs gs := by unfold textOf; rw [List.flatMap_def]
  have hgok : GOk gs := fun g hg => ⟨fun o ho => octs_lt o ((hgk g hg).1 o ho), (hgk g hg).2.2⟩
  have htl := text_len cs hcl2 gs fun g hg => (hgk g hg).2
  have hjz : (gs.map fun g => (if g.1 = [] then [] else wordL cs g.1) ++ g.2).flatten.length ≤ 1000 := by rw [hfl]; omega
  k_steps
  rename Fr _ _ _ _ => F5
  rename News _ _ _ _ => N5
  rename Addr => hv
  try clear F4
  try clear N4
  clear hys
  rw [hfl] at N5
  obtain ⟨nr, hrun⟩ := run_text cs hct gs hgok
  have hgo := hgs ▸ groups_gok ns
  have hok := ok_law (cs := cs) hct (fun x hx => charsets_256 cs hcs x hx) hgok
  have hwds := words_lists cs hct gs hgok
  refine ⟨?_⟩
  refine ret_G F5 N5 (split_call (s := ⟨_, _, _, _, _⟩) (X.keeps F5.keep) (T.keeps F5.keep) rfl (show dep + 1 < 890 by omega) (isList_news N5 (List.mem_cons_self ..)) (by omega) hrun) fun l1 its1 n1 fz1 h6 k6 F6 N6 hd6 hL1 => ?_
  obtain ⟨Z, hZ1, hZ2, N6⟩ : ∃ Z, (∀ p ∈ fz1, p ∈ Z) ∧ (∀ p ∈ fz, p ∈ Z) ∧ News s.heap s.heap.objs.size h6 ((s.heap.objs.size + 1, oc') :: (gr, W.listOf gits gn) :: (l1, W.listOf its1 n1) :: Z) :=
    ⟨fz1 ++ fz, fun p hp => List.mem_append_left _ hp, fun p hp => List.mem_append_right _ hp, fun p hp => N6 p (by
      simp only [List.mem_cons, List.mem_append] at hp ⊢
      rcases hp with h | h | h | h | h <;> simp [h])⟩
  try clear F5
  try clear N5
  clear hd6 hrun
  replace hG := All2.mono hG fun _ _ q => q.mono fun _ _ e => hZ2 _ e
  replace hL1 := All2.mono hL1 fun _ _ q => q.mono fun _ _ e => hZ1 _ e
  clear hZ1 hZ2 hdcz
  k_steps
  rename Fr _ _ _ _ => F7
  rename News _ _ _ _ => N7
  try clear F6
  try clear N6
  refine ⟨?_⟩
  refine ret_G F7 N7 (lists_call (s := ⟨_, _, _, _, _⟩) (X.keeps F7.keep) (T.keeps F7.keep) rfl (show dep + 1 < 890 by omega) (show uts + 3 ≤ 5000 by omega) (isList_news N7 (List.mem_cons_of_mem _ (List.mem_cons_self ..)))
    (hG.mono fun _ _ q => q.mono fun _ _ e => (N7 _ (List.mem_cons_of_mem _ (List.mem_cons_of_mem _ (List.mem_cons_of_mem _ e)))).1) hcl2 hct (charsets_256 cs hcs) hg9 fun g hg => ⟨(hgk g hg).2.1, fun o ho => octs_lt o ((hgk g hg).1 o ho), (hgk g hg).2.2⟩) fun l2 its2 n2 fz2 h8 k8 F8 N8 hd8 hL2 => ?_
  clear hd8
  refine ne_listsK (ls := lawLists cs gs) N8 (List.mem_cons_of_mem _ (List.mem_append_right _ (List.mem_cons_of_mem _ (List.mem_cons_of_mem _ (List.mem_cons_self ..))))) (List.mem_cons_self ..)
    (hL1.mono fun _ _ q => q.mono fun _ _ e => List.mem_cons_of_mem _ (List.mem_append_right _ (List.mem_cons_of_mem _ (List.mem_cons_of_mem _ (List.mem_cons_of_mem _ e)))))
    (hL2.mono fun _ _ q => q.mono fun _ _ e => List.mem_cons_of_mem _ (List.mem_append_left _ e)) hok (by have hcL' := cLine_is; simp only [units_deeper]; omega) ?_
  replace N8 : News s.heap s.heap.objs.size h8 ((s.heap.objs.size + 1, oc') :: (gr, W.listOf gits gn) :: (l1, W.listOf its1 n1) :: Z) := news_sub N8 fun p hp => List.mem_cons_of_mem _ (List.mem_append_right _ hp)
  clear F7 N7 hL2
  k_steps
  rename Fr _ _ _ _ => F9
  rename News _ _ _ _ => N9
  try clear F8
  try clear N8
  rename Addr => WD
  rename (_ ∧ _ ∧ _ ∧ AllLt _ _) => lW
  have hll := len_law (cs := cs) hct hcl2 hgok fun g hg => (hgk g hg).2.1
  have hdl := due_len cs gs
  rw [← hwds] at hdl
  generalize hLs : lawLists cs gs = ls at hL1 hok hwds hll hdl
  have q1 : @Ne Nat WD gr := by omega
  have q2 : @Ne Nat WD (s.heap.objs.size + 1) := by omega
  have q3 : @Ne Nat WD l1 := by omega
  have q4 : ∀ p ∈ Z, p.1 ≠ WD := fun p hp => Nat.ne_of_lt (allLt_all lW.2.2.2 p hp)
  obtain ⟨mR, F9⟩ : ∃ mR : Str → Option Value, Fr s.heap s.heap.objs.size _ (fun y => if y = Str.ofString "words" then some (.ref WD) else if y = Str.ofString "groups" then some (.ref gr) else mR y) := ⟨_, fr_pin1 F9 _ _ (by with_unfolding_all rfl)⟩
  refine ⟨?_⟩
  try dsimp only
  refine' for_names (news₀ := (WD, W.listOf #[] 0) :: (s.heap.objs.size + 1, oc') :: (gr, W.listOf gits gn) :: (l1, W.listOf its1 n1) :: Z) [Str.ofString "pairs", Str.ofString "name", Str.ofString "value"]
    (fun i nx => ∃ wits wn, nx = (WD, W.listOf wits wn) :: (s.heap.objs.size + 1, oc') :: (gr, W.listOf gits gn) :: (l1, W.listOf its1 n1) :: Z ∧ StrsAre wits.toList ((wordsOf (ls.take i)).map S)) ?hx ?hp ?hh ?hl ?F ?N ?_ ?_ ?_ ?_
  case hx => rfl
  case hp => rfl
  case hh => rfl
  case hl => exact isList_news N9 (List.mem_cons_of_mem _ (List.mem_cons_of_mem _ (List.mem_cons_of_mem _ (List.mem_cons_self ..))))
  case F => exact F9
  case N => exact N9
  · exact ⟨#[], 0, rfl, by simpa [wordsOf] using StrsAre.nil⟩
  · rintro i news h ⟨wits, wn, rfl, _⟩ _ N
    exact isList_news N (List.mem_cons_of_mem _ (List.mem_cons_of_mem _ (List.mem_cons_of_mem _ (List.mem_cons_self ..))))
  · rintro i v m news h tk I io hv ⟨wits, wn, rfl, hws⟩ hn hm F N
    try clear F9
    try clear N9
    obtain ⟨ps, hps, pa, pits, pn, rfl, hpa, hpp⟩ := hL1.get (by rw [Array.getElem?_toList]; exact hv)
    obtain ⟨u1, u2, u3, rfl⟩ := m_open3 hm
    have hpsm := List.mem_of_getElem? hps
    have hwt := words_take hps
    have hwl := words_le ls (i + 1)
    rw [hwt, List.length_append] at hwl
    have i1 : @Ne Nat WD I := hn _ (List.mem_cons_self ..)
    k_steps
    rename Fr _ _ _ _ => F1
    rename News _ _ _ _ => N1
    refine ⟨?_⟩
    try dsimp only
    refine' for_inv (news₀ := (I, io) :: (WD, W.listOf wits wn) :: (s.heap.objs.size + 1, oc') :: (gr, W.listOf gits gn) :: (l1, W.listOf its1 n1) :: Z) (fun j m nx => (∀ y, y ∉ [Str.ofString "name", Str.ofString "value"] → m y = if y = Str.ofString "pairs" then some (.ref pa) else if y = Str.ofString "words" then some (.ref WD) else if y = Str.ofString "groups" then some (.ref gr) else mR y) ∧
      ∃ wits wn, nx = (I, io) :: (WD, W.listOf wits wn) :: (s.heap.objs.size + 1, oc') :: (gr, W.listOf gits gn) :: (l1, W.listOf its1 n1) :: Z ∧ StrsAre wits.toList ((wordsOf (ls.take i) ++ (ps.take j).flatMap pairWords).map S)) ?hh ?hl ?F ?N ?_ ?_ ?_ ?_ ?_
    case hh => rfl
    case hl => exact isList_news N1 (by walk_at "mem")
    case F => exact F1
    case N => exact N1
    · refine ⟨fun y hy => ?_, wits, wn, rfl, by simpa using hws⟩
      simp only [List.mem_cons, List.not_mem_nil, or_false, not_or] at hy
      by_cases e : y = Str.ofString "pairs"
      · simp only [if_pos e]
      · simp only [if_neg e, if_neg hy.1, if_neg hy.2]
    · rintro j m nx h ⟨_, wits, wn, rfl, _⟩ _ N
      exact isList_news N (by walk_at "mem")
    · intro I i v s Q hI hq
      exact own_tuple hI hq
    · rintro j v m nx h tk I' io' hv' ⟨hm', wits', wn', rfl, hws'⟩ hn' F2 N2
      clear F1 N1
      obtain ⟨⟨p1, p2⟩, hp, ta, tt1, tt2, tn, rfl, hta⟩ := hpp.get (by rw [Array.getElem?_toList]; exact hv')
      dsimp only at hta
      obtain ⟨v1, v2, rfl⟩ := m_open2 hm'
      have htT : h.IsTuple ta #[.str (S p1) tt1, .str (S p2) tt2] := ⟨_, (N2 (ta, _) (List.mem_cons_of_mem _ (List.mem_cons_of_mem _ (List.mem_cons_of_mem _ (List.mem_cons_of_mem _ (List.mem_cons_of_mem _ (List.mem_cons_of_mem _ hta))))))).1, rfl, _, rfl⟩
      obtain ⟨hz1, hz2⟩ := hll ps hpsm _ (List.mem_of_getElem? hp)
      dsimp only at hz1 hz2
      have hft := flat_take pairWords hp
      have hfl2 := flat_le pairWords ps j
      have hwz : wits'.size ≤ 9 := by
        have h1 := strs_len hws'
        simp only [List.length_map, List.length_append] at h1
        have h2 : wits'.toList.length = wits'.size := rfl
        omega
      have i2 : @Ne Nat WD I' := (hn' _ (List.mem_cons_of_mem _ (List.mem_cons_self ..)))
      have hsl := slice2 p2
      by_cases h6 : p2.take 2 = [61, 63]
      · have hcmp : (Txt.slice (S p2) none (some 2) == Str.ofString "=?") = true := by rw [hsl, lit_a, S_beq]; simpa using h6
        k_steps
        rename Fr _ _ _ _ => F3
        rename News _ _ _ _ => N3
        refine ⟨_, _, _, _, rfl, F3, fun p hp => N3 p (List.mem_cons_of_mem _ hp), fun p hp => ?_, fun y hy => ?_, _, _, rfl, ?_⟩
        · rcases List.mem_cons.mp hp with h | hp
          · rw [h]; exact hn' (I, io) (List.mem_cons_self ..)
          · rcases List.mem_cons.mp hp with h | hp
            · rw [h]; exact i2
            · exact hn' p (List.mem_cons_of_mem _ (List.mem_cons_of_mem _ hp))
        · have hy2 := hy
          simp only [List.mem_cons, List.not_mem_nil, or_false, not_or] at hy2
          have := hm' y hy
          simp only [if_neg hy2.1, if_neg hy2.2] at this ⊢
        · rw [hft, ← List.append_assoc, List.map_append]
          have hpw : pairWords (p1, p2) = [61 :: p1 ++ [61], p2] := by unfold pairWords; exact if_pos h6
          rw [hpw]
          refine strs_append hws' ?_
          rw [lit_e, S_append, S_append]
          exact .cons _ _ (.cons _ _ .nil)
      · have hcmp : (Txt.slice (S p2) none (some 2) == Str.ofString "=?") = false := by rw [hsl, lit_a, S_beq]; simpa using h6
        k_steps
        rename Fr _ _ _ _ => F3
        rename News _ _ _ _ => N3
        refine ⟨_, _, _, _, rfl, F3, fun p hp => N3 p (List.mem_cons_of_mem _ hp), fun p hp => ?_, fun y hy => ?_, _, _, rfl, ?_⟩
        · rcases List.mem_cons.mp hp with h | hp
          · rw [h]; exact hn' (I, io) (List.mem_cons_self ..)
          · rcases List.mem_cons.mp hp with h | hp
            · rw [h]; exact i2
            · exact hn' p (List.mem_cons_of_mem _ (List.mem_cons_of_mem _ hp))
        · have hy2 := hy
          simp only [List.mem_cons, List.not_mem_nil, or_false, not_or] at hy2
          have := hm' y hy
          simp only [if_neg hy2.1, if_neg hy2.2] at this ⊢
        · rw [hft, ← List.append_assoc, List.map_append]
          have hpw : pairWords (p1, p2) = [61 :: p1 ++ [61] ++ p2] := by unfold pairWords; exact if_neg h6
          rw [hpw]
          refine strs_append hws' ?_
          rw [lit_e, S_append, S_append, S_append]
          exact .cons _ _ .nil
    rintro m nx h tk ⟨hm', wits', wn', rfl, hws'⟩ F2 N2
    clear F1 N1
    obtain ⟨v1, v2, rfl⟩ := m_open2 hm'
    have et : ps.take pits.size = ps := List.take_of_length_le (by have := hpp.len; have h2 : pits.toList.length = pits.size := rfl; omega)
    rw [et, ← hwt] at hws'
    dsimp only
    k_steps
    rename Fr _ _ _ _ => F3
    rename News _ _ _ _ => N3
    refine ⟨_, _, _, _, rfl, F3, N3, fun p hp => ?_, fun y hy => ?_, wits', wn', rfl, hws'⟩
    · rcases List.mem_cons.mp hp with h | hp
      · rw [h]; exact i1
      · exact hn p (List.mem_cons_of_mem _ hp)
    · simp only [List.mem_cons, List.not_mem_nil, or_false, not_or] at hy
      simp only [if_neg hy.1, if_neg hy.2.1, if_neg hy.2.2]
  rintro m nx h tk ⟨wits, wn, rfl, hws⟩ hm F N
  try clear F9
  try clear N9
  obtain ⟨u1, u2, u3, rfl⟩ := m_open3 hm
  rw [List.take_of_length_le (by have := hL1.len; have h2 : its1.toList.length = its1.size := rfl; omega), hwds] at hws
  dsimp only
  k_steps
  refine ⟨?_⟩
  try dsimp only
  refine' comp_invA1 (fun i ys nx => nx = (WD, W.listOf wits wn) :: (s.heap.objs.size + 1, oc') :: (gr, W.listOf gits gn) :: (l1, W.listOf its1 n1) :: Z ∧ StrsAre ys.toList ((dueRows (gs.take i)).map S)) ?hy ?hek ?hh ?hl ?hz ?hcell ?hkind ?F ?N ?hj ?_ ?_ ?_ ?_
  case F => exact F
  case N => exact N
  case hj => exact ⟨rfl, by simpa [dueRows] using StrsAre.nil⟩
  case hy => with_unfolding_all rfl
  case hek => rfl
  case hh => rfl
  case hl => exact isList_news N (List.mem_cons_of_mem _ (List.mem_cons_of_mem _ (List.mem_cons_self ..)))
  case hz => omega
  case hcell => decide
  case hkind => rfl
  · rintro i ys nx h ⟨rfl, _⟩ _ hn
    exact ⟨_, hn _ (List.mem_cons_of_mem _ (List.mem_cons_of_mem _ (List.mem_cons_self ..))), rfl, _, rfl⟩
  · intro I i v s Q hI hq
    exact own_tuple hI hq
  · rintro i v ys k mC nx h tk C I D io oL hv ⟨rfl, hys⟩ hnI hnL hnD dIL dID dLD hyz hiz FC NC
    clear F N
    obtain ⟨⟨g1, g2⟩, hg, a, v1, tm, na, rfl, hga, rr, rits, nr, rfl, hgr, hri⟩ := hG.get (by rw [Array.getElem?_toList]; exact hv)
    dsimp only at hri hga
    have htT : h.IsTuple a #[.ref rr, .str (S g2) tm] := ⟨_, (NC (a, _) (List.mem_cons_of_mem _ (List.mem_cons_of_mem _ (List.mem_cons_of_mem _ (List.mem_cons_of_mem _ (List.mem_cons_of_mem _ (List.mem_cons_of_mem _ (List.mem_cons_of_mem _ hga)))))))).1, rfl, _, rfl⟩
    obtain ⟨ho, hr4, hmk⟩ := hgk _ (List.mem_of_getElem? hg)
    dsimp only at ho hr4 hmk
    have hdr := due_take hg
    by_cases hre : g1 = []
    · have hb : (g1 != []) = false := by simp [hre]
      k_steps
      rename Fr _ _ _ _ => F7
      rename News _ _ _ _ => N7
      refine ⟨_, _, _, _, rfl, F7, fun p hp => N7 p (List.mem_cons_of_mem _ hp), hnI, hnL, hnD, rfl, ?_⟩
      rw [hdr, hb]; simpa using hys
    · have hb : (g1 != []) = true := by simp [hre]
      k_steps
      rename Fr _ _ _ _ => F7
      rename News _ _ _ _ => N7
      obtain ⟨B2, hB2, N7⟩ : ∃ B2, B2 = (I, io) :: (s.heap.objs.size, oL) :: (D, W.listOf ys k) :: (WD, W.listOf wits wn) :: (s.heap.objs.size + 1, oc') :: (gr, W.listOf gits gn) :: (l1, W.listOf its1 n1) :: Z ∧ News s.heap _ _ B2 :=
        ⟨_, rfl, fun p hp => N7 p (List.mem_cons_of_mem _ hp)⟩
      have hrr : (rr, W.listOf rits nr) ∈ B2 := by rw [hB2]; walk_at "mem"
      have hrl : rits.toList.length = g1.length := by have := hri.length; simpa [Nats] using this
      have hrz : rits.size ≤ 4 := by have : rits.toList.length = rits.size := rfl; omega
      have hfl1 : (g1.map fun o => [o]).flatten = g1 := flat1 g1
      have hjz1 : (g1.map fun o => [o]).flatten.length ≤ 1000 := by rw [hfl1]; omega
      refine ⟨?_⟩
      refine' comp_inv0 (fun j zs nx => nx = B2 ∧ StrsAre zs.toList (((g1.take j).map fun o => [o]).map S)) ?hh ?hl ?hz ?hcell ?hkind F7 N7 ⟨rfl, by simpa using StrsAre.nil⟩ ?_ ?_ ?_ ?_
      case hh => rfl
      case hl => exact isList_news N7 hrr
      case hz => omega
      case hcell => decide
      case hkind => rfl
      · rintro j zs nx h ⟨rfl, _⟩ _ hn
        exact ⟨_, hn _ hrr, rfl, _, rfl⟩
      · intro I i v s Q hI hq
        exact own_name hq
      · rintro j v zs kz mC2 nx h tk C2 I2 D2 io2 oL2 hv2 ⟨rfl, hzs⟩ hnI2 hnL2 hnD2 e1 e2 e3 e4 e5 FC2 NC2
        obtain ⟨o, ho', tv, rfl⟩ := ints_get (vs := rits.toList) hri (by rw [Array.toArray_toList]; exact hv2)
        have hor := octs_lt o (ho o (List.mem_of_getElem? ho'))
        have ho2 : (o : Int) < 256 := by omega
        have ho3 : (0 : Int) ≤ o := by omega
        clear F7 N7
        k_steps
        rename Fr _ _ _ _ => F8
        rename News _ _ _ _ => N8
        refine ⟨_, _, _, _, rfl, F8, N8, hnI2, hnL2, hnD2, rfl, ?_⟩
        rw [Array.toList_push, take_snoc _ ho', List.map_append, chr_S]
        exact strs_snoc hzs _ _
      rintro D2 zs kz nx h tk ⟨rfl, hzs⟩ F8 N8 hnD2
      clear F7 N7
      rw [List.take_of_length_le (by have h2 : rits.toList.length = rits.size := rfl; omega)] at hzs
      k_steps
      subst hB2
      refine ⟨_, _, _, _, rfl, F8, fun p hp => N8 p (List.mem_cons_of_mem _ hp), hnI, hnL, hnD, rfl, ?_⟩
      rw [hfl1, hdr, if_pos hb, List.map_append, Array.toList_push]
      exact strs_snoc hys _ _
  rintro DU dys dk nx h tk ⟨rfl, hdys⟩ F9 N9 hnDU
  clear F N
  rw [List.take_of_length_le (by have := hG.len; have h2 : gits.toList.length = gits.size := rfl; omega)] at hdys
  have hWl := strs_len hws
  have hWz : wits.size ≤ 9 := by
    have h1 := due_len cs gs
    have h2 : wits.toList.length = wits.size := rfl
    rw [List.length_map] at hWl
    omega
  k_steps
  rename Fr _ _ _ _ => F3
  rename News _ _ _ _ => N3
  refine ⟨?_⟩
  refine' comp_inv0 (fun i ys nx => nx = (DU, W.listOf dys dk) :: (WD, W.listOf wits wn) :: (s.heap.objs.size + 1, oc') :: (gr, W.listOf gits gn) :: (l1, W.listOf its1 n1) :: Z ∧ StrsAre ys.toList (((dueRows gs).take i).map S)) ?hh ?hl ?hz ?hcell ?hkind F3 N3 ⟨rfl, by simpa using StrsAre.nil⟩ ?_ ?_ ?_ ?_
  case hh => rfl
  case hl => exact isList_news N3 (List.mem_cons_of_mem _ (List.mem_cons_self ..))
  case hz => omega
  case hcell => decide
  case hkind => rfl
  · rintro i ys nx h ⟨rfl, _⟩ _ hn
    exact ⟨_, hn _ (List.mem_cons_of_mem _ (List.mem_cons_self ..)), rfl, _, rfl⟩
  · intro I i v s Q hI hq
    exact own_name hq
  · rintro i v ys k mC nx h tk C I D io oL hv ⟨rfl, hys⟩ hnI hnL hnD dIL dID dLD hyz hiz FC NC
    clear F3 N3
    obtain ⟨wd, twd, hwd, rfl⟩ := strs_get hws (by rw [Array.getElem?_toList]; exact hv)
    obtain ⟨g1, hrow1, rfl, hg1, hgne⟩ := due_get hwd
    obtain ⟨ho, hr4, hmk⟩ := hgk _ hg1
    have hsl := slice_dec cs g1.1
    have hwl := word_len cs g1.1 hcl2 hr4
    have hdec := dec_enc g1.1 ho
    have hen := enc_ne hgne
    have hel : (enc g1.1).length ≤ 2000 := by have := enc_len g1.1; omega
    k_steps
    rename Fr _ _ _ _ => F7
    rename News _ _ _ _ => N7
    refine ⟨_, _, _, _, rfl, F7, N7, hnI, hnL, hnD, rfl, ?_⟩
    rw [Array.toList_push, take_snoc S hrow1]
    exact strs_snoc hys _ _
  rintro D ys k nx h tk ⟨rfl, hys⟩ F4 N4 hnD
  clear F3 N3
  have hdl2 : (dueRows gs).length = (dueWords cs gs).length := by unfold dueRows dueWords; rw [List.length_map, List.length_map]
  rw [List.length_map] at hWl
  rw [List.take_of_length_le (by have h2 : wits.toList.length = wits.size := rfl; omega)] at hys
  have hokr : ∀ l ∈ dueRows gs, OkS l := fun l hl x hx => by
    unfold dueRows at hl
    obtain ⟨g, hg, rfl⟩ := List.mem_map.mp hl
    have := octs_lt x ((hgk g (List.mem_filter.mp hg).1).1 x hx)
    omega
  k_steps
  dsimp only
  exact RetIs.mk F4 rfl
end Mine
end
section
open PySem PySem.W PyProof.Rows
set_option linter.all false
set_option maxRecDepth 100000
namespace Mine
noncomputable abbrev tb' : String → Option Builtin := PySem.W.Fast.tw14364793385576792824
noncomputable abbrev segGo' := PySem.W.Fast.tw10295753902157049106
noncomputable abbrev segRun' := PySem.W.Fast.tw10110043849684766642
noncomputable def envT : Env := { scope := PR.main.scope, locals := mainNs, globals := mainNs, cells := [], code := .ref 30, frame := some 31 }
abbrev q0 : Pos := ⟨0, 0, 0, 0⟩
noncomputable def bodyT : List Stmt := behindTheImports PR
noncomputable abbrev cT : Code := .body bodyT envT
noncomputable abbrev BT0 : List Frame := [topFrame q0]
noncomputable def g1 : List Stmt := bodyT.take 9
noncomputable def g2 : List Stmt := (bodyT.drop 9).take 1
noncomputable def g3 : List Stmt := (bodyT.drop 10).take 8
noncomputable def g4 : List Stmt := (bodyT.drop 18).take 2
noncomputable def g5 : List Stmt := bodyT.drop 20
abbrev p1 : Pos := ⟨48, 0, 48, 10⟩
abbrev p2 : Pos := ⟨49, 0, 49, 11⟩
abbrev p3 : Pos := ⟨57, 9, 57, 74⟩
abbrev p4 : Pos := ⟨60, 9, 60, 110⟩
abbrev p5 : Pos := ⟨119, 0, 131, 78⟩
abbrev annT : Option Value := some (.ref 6)
noncomputable abbrev W0 (w : World) : World := (w.withFollow "comprehension-iter-twice" false).withFollow "special-get-raises" false
def thrOf : Option (SharedT × Thread) → Thread
  | some (_, t) => t
  | none => ⟨.pure (.done .next), .builtin "" {}, q0, []⟩
noncomputable def t2 (w : World) (os : OsState) : Thread := thrOf (segGo' tb' PR (W0 w) 28 annT 1 52 (s1T (W0 w) os) (piecesOf g2 envT cT p1 BT0))
noncomputable def t3 (w : World) (os : OsState) : Thread := thrOf (segGo' tb' PR (W0 w) 28 annT 1 152 (s2T (W0 w) os) (piecesOf g3 envT cT p2 BT0))
noncomputable def t4 (w : World) (os : OsState) : Thread := thrOf (segGo' tb' PR (W0 w) 28 annT 1 34 (s3T (W0 w) os) (piecesOf g4 envT cT p3 BT0))
noncomputable def t5 (w : World) (os : OsState) : Thread := thrOf (segGo' tb' PR (W0 w) 28 annT 1 99 (s4T (W0 w) os) (piecesOf g5 envT cT p4 BT0))
theorem r1 (w : World) (os : OsState) : segRun' tb' PR w 28 annT 1 604 (sBT w os) (piecesOf g1 envT cT q0 BT0) = some (.next, s1T w os, cT, p1) := by kernel_rfl
end Mine
end
section
open PySem PySem.W PyProof.Rows
set_option linter.all false
set_option maxRecDepth 100000
namespace Mine
noncomputable abbrev Wab (w : World) (a b : Bool) : World := (w.withFollow "comprehension-iter-twice" a).withFollow "special-get-raises" b
theorem r2ff (w : World) (os : OsState) : segGo' tb' PR (Wab w false false) 28 annT 1 52 (s1T (Wab w false false) os) (piecesOf g2 envT cT p1 BT0) = some (s2aT (Wab w false false) os, t2 (Wab w false false) os) := by kernel_rfl
theorem r2ft (w : World) (os : OsState) : segGo' tb' PR (Wab w false true) 28 annT 1 52 (s1T (Wab w false true) os) (piecesOf g2 envT cT p1 BT0) = some (s2aT (Wab w false true) os, t2 (Wab w false true) os) := by kernel_rfl
theorem r2tf (w : World) (os : OsState) : segGo' tb' PR (Wab w true false) 28 annT 1 42 (s1T (Wab w true false) os) (piecesOf g2 envT cT p1 BT0) = some (s2aT (Wab w true false) os, t2 (Wab w true false) os) := by kernel_rfl
theorem r2tt (w : World) (os : OsState) : segGo' tb' PR (Wab w true true) 28 annT 1 42 (s1T (Wab w true true) os) (piecesOf g2 envT cT p1 BT0) = some (s2aT (Wab w true true) os, t2 (Wab w true true) os) := by kernel_rfl
theorem r2e (w : World) (os : OsState) : segRun' tb' PR w 28 annT 1 9600 (s2aT w os) (t2 w os) = some (.next, s2T w os, cT, p2) := by kernel_rfl
end Mine
end
section
open PySem PySem.W PyProof.Rows
set_option linter.all false
set_option maxRecDepth 100000
namespace Mine
noncomputable abbrev Wb (w : World) (b : Bool) : World := w.withFollow "special-get-raises" b
theorem r3f (w : World) (os : OsState) : segGo' tb' PR (Wb w false) 28 annT 1 152 (s2T (Wb w false) os) (piecesOf g3 envT cT p2 BT0) = some (s3aT (Wb w false) os, t3 (Wb w false) os) := by kernel_rfl
theorem r3t (w : World) (os : OsState) : segGo' tb' PR (Wb w true) 28 annT 1 152 (s2T (Wb w true) os) (piecesOf g3 envT cT p2 BT0) = some (s3aT (Wb w true) os, t3 (Wb w true) os) := by kernel_rfl
theorem r3e (w : World) (os : OsState) : segRun' tb' PR w 28 annT 1 4400 (s3aT w os) (t3 w os) = some (.next, s3T w os, cT, p3) := by kernel_rfl
end Mine
end
section
open PySem PySem.W PyProof.Rows
set_option linter.all false
set_option maxRecDepth 100000
namespace Mine
theorem r4f (w : World) (os : OsState) : segGo' tb' PR (Wb w false) 28 annT 1 34 (s3T (Wb w false) os) (piecesOf g4 envT cT p3 BT0) = some (s4aT (Wb w false) os, t4 (Wb w false) os) := by kernel_rfl
theorem r4t (w : World) (os : OsState) : segGo' tb' PR (Wb w true) 28 annT 1 34 (s3T (Wb w true) os) (piecesOf g4 envT cT p3 BT0) = some (s4aT (Wb w true) os, t4 (Wb w true) os) := by kernel_rfl
theorem r4e (w : World) (os : OsState) : segRun' tb' PR w 28 annT 1 4400 (s4aT w os) (t4 w os) = some (.next, s4T w os, cT, p4) := by kernel_rfl
end Mine
end
section
open PySem PySem.W PyProof.Rows
set_option linter.all false
set_option maxRecDepth 100000
namespace Mine
theorem r5f (w : World) (os : OsState) : segGo' tb' PR (Wb w false) 28 annT 1 99 (s4T (Wb w false) os) (piecesOf g5 envT cT p4 BT0) = some (s5aT (Wb w false) os, t5 (Wb w false) os) := by kernel_rfl
theorem r5t (w : World) (os : OsState) : segGo' tb' PR (Wb w true) 28 annT 1 99 (s4T (Wb w true) os) (piecesOf g5 envT cT p4 BT0) = some (s5aT (Wb w true) os, t5 (Wb w true) os) := by kernel_rfl
theorem r5e (w : World) (os : OsState) : segRun' tb' PR w 28 annT 1 4400 (s5aT w os) (t5 w os) = some (.next, s5T w os, cT, p5) := by kernel_rfl
end Mine
end
section
open PySem PySem.W PyProof.Rows
set_option linter.all false
set_option maxRecDepth 100000
namespace Mine
theorem tb_eq : treeTable = tb' := PySem.W.Fast.te14364793385576792824
theorem segGo_eq : @segGoT = @segGo' := PySem.W.Fast.te10295753902157049106
theorem segRun_eq : @segRunT = @segRun' := PySem.W.Fast.te10110043849684766642
theorem segRun_mono {tb : String → Option Builtin} {p : Program} {w : World} {n₀ : Nat} {ann : Option Value} {b : Nat} (k : Nat) : ∀ (n : Nat) (s : Shared) (t : Thread) (r : Flow × Shared × Code × Pos), segRun tb p w n₀ ann b n s t = some r → segRun tb p w n₀ ann b (n + k) s t = some r
  | 0, _, _, _, h => by simp [segRun] at h
  | n + 1, s, t, r, h => by
    rw [show n + 1 + k = n + k + 1 by omega]
    unfold segRun at h ⊢
    cases he : endAt b t with
    | some f => rw [he] at h; exact h
    | none =>
      rw [he] at h
      cases hk : stepOk n₀ ann t with
      | false => rw [hk] at h; cases h
      | true =>
        rw [hk] at h
        cases hs : step (denote tb) p w s t with
        | halt o s' => rw [hs] at h; cases h
        | go s' t' => rw [hs] at h; exact segRun_mono k n s' t' r h
/-- a piece's two parts, joined -/
theorem join_seg {w : World} {n M N : Nat} {s s' s'' : SharedT} {t t' : Thread} {f : Flow} {c : Code} {p : Pos} (a : segGo' tb' PR w 28 annT 1 n s t = some (s', t'))
    (e : segRun' tb' PR w 28 annT 1 M s' t' = some (f, s'', c, p)) (h : n + M ≤ N) : segRun treeTable PR w 28 annT 1 N s.abs t = some (f, s''.abs, c, p) := by
  have a' : segGoT treeTable PR w 28 annT 1 n s t = some (s', t') := by rw [tb_eq, segGo_eq]; exact a
  have e' : segRunT treeTable PR w 28 annT 1 M s' t' = some (f, s'', c, p) := by rw [tb_eq, segRun_eq]; exact e
  have := segRun_mono (N - (n + M)) _ _ _ _ (seg_go (segGo_of a') (segRun_of e'))
  rwa [show n + M + (N - (n + M)) = N by omega] at this
theorem z1 (w : World) (os : OsState) : segRun treeTable PR w 28 annT 1 604 (sBT w os).abs (piecesOf g1 envT cT q0 BT0) = some (.next, (s1T w os).abs, cT, p1) := by
  have e' : segRunT treeTable PR w 28 annT 1 604 (sBT w os) (piecesOf g1 envT cT q0 BT0) = some (.next, s1T w os, cT, p1) := by rw [tb_eq, segRun_eq]; exact r1 w os
  exact segRun_of e'
abbrev R1 : String := "comprehension-iter-twice"
abbrev R2 : String := "special-get-raises"
theorem z2 (w : World) (os : OsState) : segRun treeTable PR w 28 annT 1 9700 (s1T w os).abs (piecesOf g2 envT cT p1 BT0) = some (.next, (s2T w os).abs, cT, p2) := by
  let G : World → Prop := fun w => segRun treeTable PR w 28 annT 1 9700 (s1T w os).abs (piecesOf g2 envT cT p1 BT0) = some (.next, (s2T w os).abs, cT, p2)
  have hf : ∀ w : World, G (w.withFollow R2 false) := byRow2 R1 (P := fun w => G (w.withFollow R2 false)) (fun w => join_seg (r2ff w os) (r2e (Wab w false false) os) (by decide)) (fun w => join_seg (r2tf w os) (r2e (Wab w true false) os) (by decide))
  have ht : ∀ w : World, G (w.withFollow R2 true) := byRow2 R1 (P := fun w => G (w.withFollow R2 true)) (fun w => join_seg (r2ft w os) (r2e (Wab w false true) os) (by decide)) (fun w => join_seg (r2tt w os) (r2e (Wab w true true) os) (by decide))
  exact byRow2 R2 (P := G) hf ht w
theorem z3 (w : World) (os : OsState) : segRun treeTable PR w 28 annT 1 4600 (s2T w os).abs (piecesOf g3 envT cT p2 BT0) = some (.next, (s3T w os).abs, cT, p3) :=
  byRow2 R2 (P := fun w => segRun treeTable PR w 28 annT 1 4600 (s2T w os).abs (piecesOf g3 envT cT p2 BT0) = some (.next, (s3T w os).abs, cT, p3)) (fun w => join_seg (r3f w os) (r3e (Wb w false) os) (by decide)) (fun w => join_seg (r3t w os) (r3e (Wb w true) os) (by decide)) w
theorem z4 (w : World) (os : OsState) : segRun treeTable PR w 28 annT 1 4600 (s3T w os).abs (piecesOf g4 envT cT p3 BT0) = some (.next, (s4T w os).abs, cT, p4) :=
  byRow2 R2 (P := fun w => segRun treeTable PR w 28 annT 1 4600 (s3T w os).abs (piecesOf g4 envT cT p3 BT0) = some (.next, (s4T w os).abs, cT, p4)) (fun w => join_seg (r4f w os) (r4e (Wb w false) os) (by decide)) (fun w => join_seg (r4t w os) (r4e (Wb w true) os) (by decide)) w
theorem z5 (w : World) (os : OsState) : segRun treeTable PR w 28 annT 1 4600 (s4T w os).abs (piecesOf g5 envT cT p4 BT0) = some (.next, (s5T w os).abs, cT, p5) :=
  byRow2 R2 (P := fun w => segRun treeTable PR w 28 annT 1 4600 (s4T w os).abs (piecesOf g5 envT cT p4 BT0) = some (.next, (s5T w os).abs, cT, p5)) (fun w => join_seg (r5f w os) (r5e (Wb w false) os) (by decide)) (fun w => join_seg (r5t w os) (r5e (Wb w true) os) (by decide)) w
noncomputable abbrev topGo' := PySem.W.Fast.tw15667345088766844465
noncomputable abbrev topRun' := PySem.W.Fast.tw14082659384304107361
noncomputable abbrev segRunL' := PySem.W.Fast.tw14374325043358763698
noncomputable abbrev denote' := PySem.W.Fast.tw11892475500146522536
theorem topGo_eq : @topGo = @topGo' := PySem.W.Fast.te15667345088766844465
theorem topRun_eq : @topRun = @topRun' := PySem.W.Fast.te14082659384304107361
theorem segRunL_eq : @segRun = @segRunL' := PySem.W.Fast.te14374325043358763698
theorem denote_eq : @denote = @denote' := PySem.W.Fast.te11892475500146522536
theorem rpre (w : World) (os : OsState) : topGo' tb' PR w 28 annT 12 ⟨h0 w.params, #[], {}, 276, os⟩ (topStub PR) = some (⟨hA w.params, #[], {}, 282, os⟩, ⟨denote' tb' cT, cT, q0, BT0⟩) := by kernel_rfl
theorem spre (w : World) (os : OsState) : topGo treeTable PR w 28 annT 12 ⟨h0 w.params, #[], {}, 276, os⟩ (topStub PR) = some (⟨hA w.params, #[], {}, 282, os⟩, ⟨denote treeTable cT, cT, q0, BT0⟩) := by
  rw [tb_eq, topGo_eq, denote_eq]; exact rpre w os
theorem rblock (w : World) (os : OsState) : segRunL' tb' PR w 28 annT 1 1 ⟨hA w.params, #[], {}, 282, os⟩ (blockOf bodyT envT cT q0 BT0) = some (.next, (sBT w os).abs, cT, q0) := by kernel_rfl
theorem sblock (w : World) (os : OsState) : segRun treeTable PR w 28 annT 1 1 ⟨hA w.params, #[], {}, 282, os⟩ (blockOf bodyT envT cT q0 BT0) = some (.next, (sBT w os).abs, cT, q0) := by
  rw [tb_eq, segRunL_eq]; exact rblock w os
theorem rfin (w : World) (os : OsState) : topRun' tb' PR w 28 annT 2 (s5T w os).abs ⟨doneF .next, cT, p5, BT0⟩ = some ⟨hF w.params, #[], {}, 2191, os⟩ := by kernel_rfl
theorem sfin (w : World) (os : OsState) : topRun treeTable PR w 28 annT 2 (s5T w os).abs ⟨doneF .next, cT, p5, BT0⟩ = some ⟨hF w.params, #[], {}, 2191, os⟩ := by
  rw [tb_eq, topRun_eq]; exact rfin w os
theorem body_eq : bodyT = g1 ++ (g2 ++ (g3 ++ (g4 ++ (g5 ++ [])))) := by kernel_rfl
theorem runAll (w : World) (os : OsState) : topRun treeTable PR w 28 annT (12 + (1 + (604 + (9700 + (4600 + (4600 + (4600 + 2))))))) ⟨h0 w.params, #[], {}, 276, os⟩ (topStub PR) = some ⟨hF w.params, #[], {}, 2191, os⟩ := by
  refine go_top (spre w os) (piece_block (sblock w os) ?_)
  refine (congrArg (fun l => topRun treeTable PR w 28 annT (604 + (9700 + (4600 + (4600 + (4600 + 2))))) (sBT w os).abs (restOf l envT cT q0 BT0)) body_eq).trans ?_
  exact piece_app (z1 w os) (piece_app (z2 w os) (piece_app (z3 w os) (piece_app (z4 w os) (piece_app (z5 w os) (piece_nil (sfin w os))))))
end Mine
end
section
open PySem PySem.W PyProof.Rows
set_option linter.all false
set_option maxRecDepth 100000
namespace Mine
noncomputable abbrev impEnds' := PySem.W.Fast.tw10274390034422433532
noncomputable abbrev fence' := PySem.W.Fast.tw14289696077712309145
noncomputable abbrev start' := PySem.W.Fast.tw1435165496053646825
noncomputable abbrev openSeen' := @PySem.W.Fast.tw4187177175401517315
theorem impEnds_eq : @importEnds = @impEnds' := PySem.W.Fast.te10274390034422433532
theorem fence_eq : @fenceModules? = @fence' := PySem.W.Fast.te14289696077712309145
theorem start_eq : @start = @start' := PySem.W.Fast.te1435165496053646825
theorem openSeen_eq : @openSeen = @openSeen' := PySem.W.Fast.te4187177175401517315
theorem ropen (w : World) : ((impEnds' tb' (opening PR) w 30000 (start' (opening PR)).1 (start' (opening PR)).2).bind (fence' PR)).map (fun s => (s.heap, s.gens, s.drawn, s.toks)) = some (h0 w.params, #[], {}, 276) := by kernel_rfl
theorem sopen (w : World) : (fencedOpening treeTable PR w 30000).map (fun s => (s.heap, s.gens, s.drawn, s.toks)) = some (h0 w.params, #[], {}, 276) := by
  unfold fencedOpening
  rw [tb_eq, impEnds_eq, start_eq, fence_eq]; exact ropen w
theorem ssize (w : World) : ((h0 w.params).isNs mainGlobals && (#[] : Array GenState).size == 0, (h0 w.params).objs.size, (h0 w.params).nsMap mainGlobals "__annotations__") = (true, 28, annT) := by kernel_rfl
noncomputable def qT : Program := view PR [0, 2, 3, 4, 5, 6, 7, 8, 9, 10, 11, 12, 13, 14, 15, 16, 21, 23, 26, 27, 29, 30, 31, 32]
noncomputable def looseT : List Str := ["_twin_re_5", "HEADER_TOKEN_RE", "HEADER_QUOTED_VALUE_RE", "HEADER_VALUE_RE", "HEADER_ESCAPE_RE", "_twin_re_1", "_QUOPRI_MAP", "_QUOPRI_HEADER_MAP", "_QUOPRI_BODY_MAP", "ascii_letters", "header_encode", "_QUOPRI_BODY_ENCODE_MAP"]
noncomputable abbrev rowT : RowW := PySem.Challenge.rw_qu0026_01.row.toRowW
noncomputable abbrev XtT (s : Shared) : Bool := xlAt qT [] s && recOk (RowW.records rowT) s
noncomputable abbrev sF (w : World) (os : OsState) : Shared := ⟨hF w.params, #[], {}, 2191, os⟩
noncomputable abbrev mods : List Str := importedModules PR.main.body
theorem k1 (w : World) : (fun os : OsState => (staticsOk mods (h0 w.params) (hF w.params) && namesBound PR (hF w.params) && gensDone (sF w os) && laidKept (h0 w.params) (hF w.params))) = fun _ => true := by kernel_rfl
theorem k2 (w : World) : (fun os : OsState => openSeen' qT looseT mods XtT true (sF w os)) = fun _ => openGood qT looseT := by kernel_rfl
theorem k3 (w : World) : asK.map (hF w.params).get? = (KT w.params).map fun p => some p.2 := by kernel_rfl
theorem k4 (P : Params) : asK = (KT P).map (·.1) := by kernel_rfl
end Mine
end
section
open PySem PySem.W PyProof.Rows
set_option linter.all false
set_option maxRecDepth 100000
set_option maxHeartbeats 8000000
namespace Mine
noncomputable abbrev HK : Hook := kHook KT asK k4
theorem leftT : LeftO PR qT looseT XtT HK.obs HK.val 30000 true := by
  refine LeftO.of_pieces (H₀ := h0) (H₁ := hF) (gs₀ := #[]) (gs₁ := #[]) (d₀ := {}) (d₁ := {}) (k₀ := 276) (k₁ := 2191) (m₀ := 28) (ann := annT) sopen ssize (fun w os => runAll w os) (by decide) (fun w => ?_)
  have a := k1 w
  have b : (fun os : OsState => openSeen qT looseT mods XtT true (sF w os)) = fun _ => openGood qT looseT := by rw [openSeen_eq]; exact k2 w
  have c := k3 w
  funext os
  exact Prod.ext (congrFun a os) (Prod.ext (congrFun b os) c)
theorem said_row : PySem.Challenge.rw_qu0026_01.row.wellSaid = true := by kernel_rfl
theorem said_law : PySem.Challenge.rw_qu0026_01.wellSaid = true := by
  unfold OpenLaw.wellSaid
  rw [said_row]
  simp only [Bool.and_eq_true, Bool.true_and]
  repeat' apply And.intro
  all_goals kernel_rfl
theorem hdT {d : DefRec} {kwd : List (Str × Expr)} (hdef : defOf qT rowT.name = some (d, kwd)) (hp : PR.theDef rowT.name = some (d.params, d.body, d.scope)) (hk : kwWritten? d.params.kwonlyargs d.params.kw_defaults = some kwd)
    (call : WalkO qT looseT (XL qT []) HK.says rowT d kwd fun f vs => PySem.call f vs) : PySem.Challenge.rw_qu0026_01.Holds := by
  w_on
  refine holds_law said_law fun said => ?_
  refine holds_open (r := PySem.Challenge.rw_qu0026_01.row) (q := qT) (loose := looseT) (Xt := XtT) (XP := XL qT []) (Yf := HK.obs) (Ya := HK.val) (YP := HK.says) (N := 30000) leftT HK.of HK.keeps (fun s e => xl_of s (Bool.and_eq_true_iff.mp e).1) XL.keeps hdef hp hk (fun s e => recFacts_of (Bool.and_eq_true_iff.mp e).2) (by rfl) (by assumption) (by decide +kernel) ⟨rfl, rfl, rfl, rfl, rfl, by decide +kernel⟩ ?hw call
  case hw => w_witness2
end Mine
end
section
open PySem PySem.W PyProof.Rows
set_option linter.all false
set_option maxRecDepth 100000
set_option maxHeartbeats 8000000
namespace Mine
theorem fill_W11 (w : World) (h : Heap) : (KT w.params).In h → PySem.Challenge.rw_qu0026_01 = PySem.Challenge.rw_qu0026_01 := by
  k_fill
  intro _; rfl
theorem law_at (P : Params) : nsIn (KT P) mainGlobals (Str.ofString "law") = some (some (.ref 149)) := by k_is
theorem law_walk : PySem.Challenge.rw_qu0026_01.Holds := by
  refine hdT (by with_unfolding_all rfl) (by with_unfolding_all rfl) (by with_unfolding_all rfl) ?_
  w_on
  intro w s₀ s₁ mg mb G Y fa o pm cd doc dV kV ho hd hcd hD hmg hg args vals as hpre hlay hrd hwl hlo
  have KX := kIn_of Y
  refine Ground.open G ?_
  intro T B D TE TW
  have e2 := mg_of KX T.g (law_at w.params)
  have e3 : fa = 149 := by
    have := hmg.symm.trans e2
    exact Value.ref.inj (Option.some.inj this)
  subst e3
  clear hmg e2 B D TE TW hD hcd ho hd
  wrow_args hpre hlay hrd hwl hlo
  rename Heap.IsList _ _ _ => hL
  rename IntsAre _ _ => hI
  rename ¬ _ < _ => hlen
  refine wpAny_call (codeAny_mono (law_call KX T rfl (by decide) (by decide) hL hI (by omega)) fun r s' hr => ?_)
  obtain ⟨v, h', tk, rfl, rfl, he, rfl⟩ := hr
  dsimp only
  refine ⟨.inl ⟨_, .bool true, [], rfl, fun _ => rfl, ?_, ?_, fun _ => ⟨List.nodup_nil, fun _ h => nomatch h⟩⟩, .of_keep he, rfl, .of_eq hg⟩
  · exact .bool true
  · with_unfolding_all rfl
end Mine
end
theorem PySem.Challenge.cw_qu0026_01_holds : PySem.Challenge.rw_qu0026_01.Holds := by
  exact Mine.law_walk
