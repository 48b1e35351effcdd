import PyProof.Rows.All
import Wide.All
import OpenK.AllK
import Wide.FinOn
import Lean
import PySem.Challenge.RW_ta0068_02
set_option Elab.async false
set_option linter.all false
section
open PySem PySem.Sre
set_option Elab.async false
set_option maxRecDepth 100000
set_option linter.all false
namespace Mine

theorem runFor_fix (m : Sre.M) (h : m.outcome.isSome = true) : ∀ n, m.runFor n = m
  | 0 => rfl
  | n + 1 => by show (if m.outcome.isSome then m else _) = m; rw [if_pos h]
theorem runFor_add (m : Sre.M) : ∀ a b, m.runFor (a + b) = (m.runFor a).runFor b
  | 0, b => by rw [Nat.zero_add]; rfl
  | a + 1, b => by
    by_cases h : m.outcome.isSome = true
    · rw [runFor_fix m h, runFor_fix m h, runFor_fix m h]
    · rw [Nat.add_right_comm]
      show (if m.outcome.isSome then m else M.runFor (a + b) m.step) = M.runFor b (if m.outcome.isSome then m else M.runFor a m.step)
      rw [if_neg h, if_neg h, runFor_add m.step a b]
/-- m comes to m' in n steps -/
noncomputable def Go (n : Nat) (m m' : Sre.M) : Prop := m.runFor n = m'
theorem Go.trans {a b : Nat} {m m' m'' : Sre.M} (h : Go a m m') (k : Go b m' m'') : Go (a + b) m m'' := by
  unfold Go at *; rw [runFor_add, h, k]
theorem Go.one {m m' : Sre.M} (h0 : m.outcome = none) (h : m.step = m') : Go 1 m m' := by
  show (if m.outcome.isSome then m else M.runFor 0 m.step) = m'
  rw [h0, if_neg (by simp), h]; rfl
theorem Go.upto {n k : Nat} {m m' : Sre.M} (h : Go n m m') (o : m'.outcome.isSome = true) (hk : n ≤ k) : m.runFor k = m' := by
  obtain ⟨j, rfl⟩ := Nat.exists_eq_add_of_le hk
  rw [runFor_add, h, runFor_fix _ o]

section
variable {prog : Program} {w : World} {A : Around} {E : Value → Shared → Prop} {s : Shared}
open PySem.Builtin.Re
theorem drive {Q : Sre.M → Shared → Prop} : ∀ (t : Nat) (m m' : Sre.M), m.runFor (4 * (t + 1)) = m' → m'.outcome.isSome = true → Q m' s → wpAny (model prog w) A (reDrive (t + 1) m) Q E s
  | t, m, m', h, o, q => by
    have e : 4 * (t + 1) = 4 + 4 * t := by omega
    rw [e, runFor_add] at h
    show wpAny _ _ (if (m.runFor 4).outcome.isSome then pure (m.runFor 4) else do rule "sre.turn"; reDrive t (m.runFor 4)) _ _ _
    by_cases c : (m.runFor 4).outcome.isSome = true
    · rw [if_pos c]
      rw [runFor_fix _ c] at h
      subst h
      exact wpAny_pure q
    · rw [if_neg c]
      refine wpAny_bind (wpAny_rule ?_)
      cases t with
      | zero => exact absurd (h ▸ o) c
      | succ t => exact drive t _ m' h o q
theorem forIn_quiet {xs : List Nat} {f : Nat → PUnit → Sem (ForInStep PUnit)} {Q : PUnit → Shared → Prop} (hf : ∀ i (Q' : ForInStep PUnit → Shared → Prop), Q' (.yield ⟨⟩) s → wpAny (model prog w) A (f i ⟨⟩) Q' E s) (h : Q ⟨⟩ s) : wpAny (model prog w) A (forIn xs PUnit.unit f) Q E s := by
  induction xs with
  | nil => exact wpAny_pure h
  | cons i xs ih =>
    rw [List.forIn_cons]
    exact wpAny_bind (hf i _ ih)
theorem toEnd {m m' : Sre.M} {n : Nat} {Q : Option Sre.M → Shared → Prop} (h : Go n m m') (hn : n ≤ 2 ^ 66) (yes : Bool) (o : m'.outcome = some (if yes = true then .matched else .failed)) (q : Q (if yes = true then some m' else none) s) :
    wpAny (model prog w) A (reRunToEnd m) Q E s := by
  unfold reRunToEnd
  have os : m'.outcome.isSome = true := by rw [o]; rfl
  refine wpAny_bind (drive (2 ^ 64 - 1) m m' (h.upto os (by omega)) os ?_)
  refine wpAny_bind (forIn_quiet (fun i Q' hq => ?_) ?_)
  · by_cases c : m'.seen.has i = true
    · simp only [c, if_true]
      exact wpAny_bind (wpAny_rule (wpAny_pure hq))
    · simp only [c]
      first | exact wpAny_bind (wpAny_pure (wpAny_pure hq)) | exact wpAny_pure hq
  · rw [o]
    cases yes with
    | true => exact wpAny_pure q
    | false => exact wpAny_pure q
end

-- the machine of ^\. with many lines
noncomputable def dotC : Array Nat := #[14, 4, 0, 1, 1, 6, 1, 16, 46, 1]
/-- the machine that looks for C's body at place s -/
noncomputable def seeks (code text : Array Nat) (b s : Nat) (first must : Bool) (seen : Seen) : Sre.M :=
  { code, text, lim := text.size, start := s, lastStart := text.size, mustAdvance := must, pc := b, pos := s, handed := s, outermost := first, marks := #[],
    frames := [{ wait := .nextStart, pc := b, pos := s, outermost := first }], weight := 1, seen }
noncomputable def atLine (text : Array Nat) (s : Nat) : Bool := s == 0 || text.getD (s - 1) 0 == 10

end Mine
end
section
open PySem PySem.Sre
set_option Elab.async false
set_option maxRecDepth 100000
set_option linter.all false
namespace Mine
section
variable {m : Sre.M}
theorem step_exec (o : m.outcome = none) (a : m.answer = none) (c : m.pc < m.code.size) : m.step = m.exec := by
  unfold M.step
  rw [o, a]
  simp [c]
theorem step_resume {f : Sre.Frame} {rest : List Sre.Frame} {yes : Bool} (o : m.outcome = none) (a : m.answer = some yes) (hf : m.frames = f :: rest) :
    m.step = M.resume { m with answer := none, frames := rest, weight := m.weight - (1 + f.kept.marks.size), pc := f.pc, pos := f.pos, outermost := f.outermost } f yes := by
  unfold M.step
  rw [o, a, hf]
  rfl
theorem step_end {yes : Bool} (o : m.outcome = none) (a : m.answer = some yes) (hf : m.frames = []) : m.step = { m with outcome := some (if yes = true then .matched else .failed) } := by
  unfold M.step
  rw [o, a, hf]
  rfl
theorem go_lit (o : m.outcome = none) (a : m.answer = none) (c : m.pc < m.code.size) (w : m.word 0 = 16) (hp : m.pos < m.lim) (ht : m.text.getD m.pos 0 = m.word 1) :
    ∃ sn, Go 1 m { m with seen := sn, pc := m.pc + 2, pos := m.pos + 1 } := by
  refine ⟨_, Go.one o (m' := { m with seen := m.seen.add 16, pc := m.pc + 2, pos := m.pos + 1 }) ?_⟩
  rw [step_exec o a c]
  unfold M.exec
  have w' : m.code.getD m.pc 0 = 16 := w
  rw [w]
  show (if m.pos ≥ m.lim then _ else (match accepts m.code m.pc (m.text.getD m.pos 0) (m.seen.add 16) with | .error why => _ | .ok (false, seen) => _ | .ok (true, seen) => _)) = _
  rw [if_neg (by omega)]
  unfold accepts
  rw [w']
  show (match (Except.ok (m.text.getD m.pos 0 == m.word 1, m.seen.add 16) : Except String (Bool × Seen)) with | .error why => _ | .ok (false, seen) => _ | .ok (true, seen) => _) = _
  rw [ht, beq_self_eq_true]
  unfold itemWidth
  show ({ m with seen := m.seen.add 16, pc := m.pc + (match ops[m.code.getD m.pc 0]? with | some .ANY | some .ANY_ALL => 1 | some .IN | some .IN_IGNORE | some .IN_UNI_IGNORE | some .IN_LOC_IGNORE => 1 + m.code.getD (m.pc + 1) 0 | _ => 2), pos := m.pos + 1 } : Sre.M) = _
  rw [w']
  rfl
theorem go_litNo (o : m.outcome = none) (a : m.answer = none) (c : m.pc < m.code.size) (w : m.word 0 = 16) (h : m.pos < m.lim → m.text.getD m.pos 0 ≠ m.word 1) :
    ∃ sn, Go 1 m { m with seen := sn, answer := some false } := by
  refine ⟨_, Go.one o (m' := { m with seen := m.seen.add 16, answer := some false }) ?_⟩
  rw [step_exec o a c]
  unfold M.exec
  have w' : m.code.getD m.pc 0 = 16 := w
  rw [w]
  show (if m.pos ≥ m.lim then _ else (match accepts m.code m.pc (m.text.getD m.pos 0) (m.seen.add 16) with | .error why => _ | .ok (false, seen) => _ | .ok (true, seen) => _)) = _
  by_cases hp : m.pos < m.lim
  · rw [if_neg (by omega)]
    unfold accepts
    rw [w']
    show (match (Except.ok (m.text.getD m.pos 0 == m.word 1, m.seen.add 16) : Except String (Bool × Seen)) with | .error why => _ | .ok (false, seen) => _ | .ok (true, seen) => _) = _
    rw [beq_eq_false_iff_ne.mpr (h hp)]
    rfl
  · rw [if_pos (by omega)]; rfl
theorem go_jump (o : m.outcome = none) (a : m.answer = none) (c : m.pc < m.code.size) (w : m.word 0 = 15) : ∃ sn, Go 1 m { m with seen := sn, pc := m.pc + 1 + m.word 1 } := by
  refine ⟨_, Go.one o (m' := { m with seen := m.seen.add 15, pc := m.pc + 1 + m.word 1 }) ?_⟩
  rw [step_exec o a c]
  unfold M.exec
  rw [w]
  rfl
theorem go_succ (o : m.outcome = none) (a : m.answer = none) (c : m.pc < m.code.size) (w : m.word 0 = 1) (h1 : m.wholeText = false) (h2 : m.mustAdvance = false) : ∃ sn, Go 1 m { m with seen := sn, handed := m.pos, answer := some true } := by
  refine ⟨_, Go.one o (m' := { m with seen := m.seen.add 1, handed := m.pos, answer := some true }) ?_⟩
  rw [step_exec o a c]
  unfold M.exec
  rw [w]
  show (if (m.outermost && ((m.wholeText && m.pos != m.lim) || (m.mustAdvance && m.pos == m.start))) = true then _ else _) = _
  rw [h1, h2]
  simp [M.say]
theorem go_at (o : m.outcome = none) (a : m.answer = none) (c : m.pc < m.code.size) (w : m.word 0 = 6) (w1 : m.word 1 = 1) (h : (m.pos == 0 || m.text.getD (m.pos - 1) 0 == 10) = true) : ∃ sn, Go 1 m { m with seen := sn, pc := m.pc + 2 } := by
  refine ⟨_, Go.one o (m' := { m with seen := (m.seen.add 6).add 44, pc := m.pc + 2 }) ?_⟩
  rw [step_exec o a c]
  unfold M.exec
  rw [w]
  show (match M.isAt { m with seen := m.seen.add 6 } (m.word 1) with | .error why => _ | .ok yes => _) = _
  rw [w1]
  show (if (m.pos == 0 || m.text.getD (m.pos - 1) 0 == 10) = true then ({ m with seen := (m.seen.add 6).add (43 + m.word 1), pc := m.pc + 2 } : Sre.M) else _) = _
  rw [if_pos h, w1]
theorem go_atNo (o : m.outcome = none) (a : m.answer = none) (c : m.pc < m.code.size) (w : m.word 0 = 6) (w1 : m.word 1 = 1) (h : (m.pos == 0 || m.text.getD (m.pos - 1) 0 == 10) = false) : ∃ sn, Go 1 m { m with seen := sn, answer := some false } := by
  refine ⟨_, Go.one o (m' := { m with seen := (m.seen.add 6).add 44, answer := some false }) ?_⟩
  rw [step_exec o a c]
  unfold M.exec
  rw [w]
  show (match M.isAt { m with seen := m.seen.add 6 } (m.word 1) with | .error why => _ | .ok yes => _) = _
  rw [w1]
  show (if (m.pos == 0 || m.text.getD (m.pos - 1) 0 == 10) = true then _ else M.say { m with seen := (m.seen.add 6).add (43 + m.word 1) } false) = _
  rw [if_neg (by rw [h]; decide), w1]; rfl
theorem go_branch (o : m.outcome = none) (a : m.answer = none) (c : m.pc < m.code.size) (w : m.word 0 = 7) (hi : m.inner = none) (hw : m.weight + 1 ≤ 16777216) (hn : (m.code.getD (m.pc + 1) 0 == 0) = false) :
    ∃ sn, Go 1 m { m with seen := sn, frames := { wait := .nextBranch, pc := m.pc + 1, pos := m.pos, outermost := m.outermost, kept := { lastmark := m.lastmark, lastindex := m.lastindex, whole := false, marks := #[] } } :: m.frames, weight := m.weight + 1, pc := m.pc + 2, handed := m.pos } := by
  refine ⟨m.seen.add 7, Go.one o ?_⟩
  rw [step_exec o a c]
  unfold M.exec
  rw [w]
  show M.alternative { m with seen := m.seen.add 7 } (m.pc + 1) (M.keep { m with seen := m.seen.add 7 } m.inner.isSome) = _
  rw [hi]
  unfold M.alternative
  show (if (m.code.getD (m.pc + 1) 0 == 0) = true then _ else _) = _
  rw [if_neg (by rw [hn]; decide)]
  unfold M.attempt
  show (if m.weight + 1 + 0 > 16777216 then _ else _) = _
  rw [if_neg (by omega)]
  rfl
theorem go_end {yes : Bool} (o : m.outcome = none) (a : m.answer = some yes) (hf : m.frames = []) : Go 1 m { m with outcome := some (if yes = true then .matched else .failed) } := Go.one o (step_end o a hf)
theorem go_yes {f : Sre.Frame} {rest : List Sre.Frame} (o : m.outcome = none) (a : m.answer = some true) (hf : m.frames = f :: rest) (hw : f.wait = .nextBranch ∨ f.wait = .nextStart) :
    Go 1 m { m with answer := some true, frames := rest, weight := m.weight - (1 + f.kept.marks.size), pc := f.pc, pos := f.pos, outermost := f.outermost } := by
  refine Go.one o ?_
  rw [step_resume o a hf]
  unfold M.resume
  rcases hw with hw | hw <;> rw [hw] <;> rfl
theorem go_nextAlt {f : Sre.Frame} {rest : List Sre.Frame} (o : m.outcome = none) (a : m.answer = some false) (hf : m.frames = f :: rest) (hw : f.wait = .nextBranch) (hk : f.kept = { lastmark := m.lastmark, lastindex := m.lastindex, whole := false, marks := #[] }) (hwt : m.weight - 1 + 1 ≤ 16777216)
    (hn : (m.code.getD (f.pc + m.code.getD f.pc 0) 0 == 0) = false) :
    Go 1 m { m with answer := none, frames := { wait := .nextBranch, pc := f.pc + m.code.getD f.pc 0, pos := f.pos, outermost := f.outermost, kept := f.kept } :: rest, weight := m.weight - 1 + 1, pc := f.pc + m.code.getD f.pc 0 + 1, pos := f.pos, handed := f.pos, outermost := f.outermost } := by
  refine Go.one o ?_
  rw [step_resume o a hf]
  unfold M.resume
  rw [hw, hk]
  show M.alternative { m with answer := none, frames := rest, weight := m.weight - (1 + 0), pc := f.pc, pos := f.pos, outermost := f.outermost } (f.pc + m.code.getD f.pc 0) _ = _
  unfold M.alternative
  show (if (m.code.getD (f.pc + m.code.getD f.pc 0) 0 == 0) = true then _ else _) = _
  rw [if_neg (by rw [hn]; decide)]
  unfold M.attempt
  show (if m.weight - (1 + 0) + 1 + 0 > 16777216 then _ else _) = _
  rw [if_neg (by omega)]
  rfl
theorem go_assertNot (o : m.outcome = none) (a : m.answer = none) (c : m.pc < m.code.size) (w : m.word 0 = 5) (w2 : m.word 2 = 0) (hi : m.inner = none) (hw : m.weight + 1 ≤ 16777216) :
    ∃ sn, Go 1 m { m with seen := sn, frames := { wait := .lookNot, pc := m.pc, pos := m.pos, outermost := m.outermost, kept := { lastmark := m.lastmark, lastindex := m.lastindex, whole := false, marks := #[] } } :: m.frames, weight := m.weight + 1, pc := m.pc + 3, handed := m.pos, outermost := false } := by
  refine ⟨m.seen.add 5, Go.one o ?_⟩
  rw [step_exec o a c]
  unfold M.exec
  rw [w]
  show (if m.pos < m.word 2 then _ else M.attempt { m with seen := m.seen.add 5 } { M.frame { m with seen := m.seen.add 5 } .lookNot with kept := M.keep { m with seen := m.seen.add 5 } (true && m.inner.isSome) } (m.pc + 3) (m.pos - m.word 2) false) = _
  rw [w2, hi, if_neg (by omega)]
  unfold M.attempt
  show (if m.weight + 1 + 0 > 16777216 then _ else _) = _
  rw [if_neg (by omega)]
  rfl
theorem go_lookNot {f : Sre.Frame} {rest : List Sre.Frame} (o : m.outcome = none) (a : m.answer = some false) (hf : m.frames = f :: rest) (hw : f.wait = .lookNot) (hk : f.kept = { lastmark := m.lastmark, lastindex := m.lastindex, whole := false, marks := #[] }) :
    Go 1 m { m with answer := none, frames := rest, weight := m.weight - 1, pc := f.pc + 1 + m.code.getD (f.pc + 1) 0, pos := f.pos, outermost := f.outermost } := by
  refine Go.one o ?_
  rw [step_resume o a hf]
  unfold M.resume
  rw [hw, hk]
  rfl
end
end Mine
end
section
open PySem PySem.Sre
set_option Elab.async false
set_option maxRecDepth 100000
set_option linter.all false
namespace Mine

/-- a machine at work from place p on -/
noncomputable def st (code text : Array Nat) (p : Nat) (frames : List Sre.Frame) (weight pc pos handed : Nat) (outer : Bool) (ans : Option Bool) (seen : Seen) : Sre.M :=
  { code, text, lim := text.size, start := p, lastStart := text.size, mustAdvance := false, pc, pos, handed, outermost := outer, marks := #[], frames, weight, answer := ans, seen }
noncomputable def fs (b p : Nat) (first : Bool) : Sre.Frame := { wait := .nextStart, pc := b, pos := p, outermost := first }
theorem seeks_st (code text : Array Nat) (b p : Nat) (first : Bool) (seen : Seen) : seeks code text b p first false seen = st code text p [fs b p first] 1 b p p first none seen := rfl

noncomputable def hitD (text : Array Nat) (p : Nat) : Prop := atLine text p = true ∧ text.getD p 0 = 46

theorem go_nextStart {text : Array Nat} {p pc pos handed : Nat} {outer first : Bool} {sn : Seen} :
    Go 1 (st dotC text p [fs 5 p first] 1 pc pos handed outer (some false) sn) (if p < text.size then seeks dotC text 5 (p + 1) false false sn else st dotC text p [] 0 5 p handed first (some false) sn) := by
  refine Go.one rfl ?_
  rw [step_resume (f := fs 5 p first) (rest := []) rfl rfl rfl]
  show (if p < text.size then M.attemptFrom _ (p + 1) false else _) = _
  by_cases h : p < text.size
  · rw [if_pos h, if_pos h]; rfl
  · rw [if_neg h, if_neg h]; rfl

theorem dot_run (text : Array Nat) : ∀ k s, s + k = text.size → ∀ first seen, ∃ n m', n ≤ 6 * (k + 1) ∧ Go n (seeks dotC text 5 s first false seen) m' ∧
    ((∃ p, s ≤ p ∧ p < text.size ∧ hitD text p ∧ (∀ q, s ≤ q → q < p → ¬ hitD text q) ∧ m'.outcome = some .matched ∧ m'.start = p ∧ m'.handed = p + 1) ∨
      ((∀ q, s ≤ q → q < text.size → ¬ hitD text q) ∧ m'.outcome = some .failed)) := by
  intro k
  induction k with
  | zero =>
    intro s hk first seen
    rw [seeks_st]
    have no : ∃ n sn pc pos, n ≤ 2 ∧ Go n (st dotC text s [fs 5 s first] 1 5 s s first none seen) (st dotC text s [fs 5 s first] 1 pc pos s first (some false) sn) := by
      by_cases h : atLine text s = true
      · obtain ⟨sn, g1⟩ : ∃ sn, Go 1 (st dotC text s [fs 5 s first] 1 5 s s first none seen) (st dotC text s [fs 5 s first] 1 7 s s first none sn) := go_at rfl rfl (Nat.le_of_ble_eq_true rfl) rfl rfl h
        obtain ⟨sn2, g2⟩ : ∃ sn2, Go 1 (st dotC text s [fs 5 s first] 1 7 s s first none sn) (st dotC text s [fs 5 s first] 1 7 s s first (some false) sn2) := go_litNo rfl rfl (Nat.le_of_ble_eq_true rfl) rfl (fun q => absurd (show s < text.size from q) (by omega))
        exact ⟨2, sn2, 7, s, by omega, g1.trans g2⟩
      · obtain ⟨sn, g1⟩ : ∃ sn, Go 1 (st dotC text s [fs 5 s first] 1 5 s s first none seen) (st dotC text s [fs 5 s first] 1 5 s s first (some false) sn) := go_atNo rfl rfl (Nat.le_of_ble_eq_true rfl) rfl rfl (eq_false_of_ne_true h)
        exact ⟨1, sn, 5, s, by omega, g1⟩
    obtain ⟨n, sn, pc, pos, hn, g⟩ := no
    have g2 := go_nextStart (text := text) (p := s) (pc := pc) (pos := pos) (handed := s) (outer := first) (first := first) (sn := sn)
    rw [if_neg (by omega)] at g2
    have g3 : Go 1 (st dotC text s [] 0 5 s s first (some false) sn) { st dotC text s [] 0 5 s s first (some false) sn with outcome := some .failed } := go_end (yes := false) rfl rfl rfl
    exact ⟨_, _, by omega, (g.trans g2).trans g3, .inr ⟨fun q h1 h2 => by omega, rfl⟩⟩
  | succ k ih =>
    intro s hk first seen
    rw [seeks_st]
    by_cases hit : hitD text s
    · obtain ⟨h1, h2⟩ := hit
      obtain ⟨sn, g1⟩ : ∃ sn, Go 1 (st dotC text s [fs 5 s first] 1 5 s s first none seen) (st dotC text s [fs 5 s first] 1 7 s s first none sn) := go_at rfl rfl (Nat.le_of_ble_eq_true rfl) rfl rfl h1
      obtain ⟨sn2, g2⟩ : ∃ sn2, Go 1 (st dotC text s [fs 5 s first] 1 7 s s first none sn) (st dotC text s [fs 5 s first] 1 9 (s + 1) s first none sn2) := go_lit rfl rfl (Nat.le_of_ble_eq_true rfl) rfl (show s < text.size by omega) h2
      obtain ⟨sn3, g3⟩ : ∃ sn3, Go 1 (st dotC text s [fs 5 s first] 1 9 (s + 1) s first none sn2) (st dotC text s [fs 5 s first] 1 9 (s + 1) (s + 1) first (some true) sn3) := go_succ rfl rfl (Nat.le_of_ble_eq_true rfl) rfl rfl rfl
      have g4 : Go 1 (st dotC text s [fs 5 s first] 1 9 (s + 1) (s + 1) first (some true) sn3) (st dotC text s [] 0 5 s (s + 1) first (some true) sn3) := go_yes (f := fs 5 s first) (rest := []) rfl rfl rfl (.inr rfl)
      have g5 : Go 1 (st dotC text s [] 0 5 s (s + 1) first (some true) sn3) { st dotC text s [] 0 5 s (s + 1) first (some true) sn3 with outcome := some .matched } := go_end (yes := true) rfl rfl rfl
      exact ⟨_, _, by omega, (((g1.trans g2).trans g3).trans g4).trans g5, .inl ⟨s, Nat.le_refl _, by omega, ⟨h1, h2⟩, fun q a b => by omega, rfl, rfl, rfl⟩⟩
    · have no : ∃ n sn pc pos, n ≤ 2 ∧ Go n (st dotC text s [fs 5 s first] 1 5 s s first none seen) (st dotC text s [fs 5 s first] 1 pc pos s first (some false) sn) := by
        by_cases h : atLine text s = true
        · obtain ⟨sn, g1⟩ : ∃ sn, Go 1 (st dotC text s [fs 5 s first] 1 5 s s first none seen) (st dotC text s [fs 5 s first] 1 7 s s first none sn) := go_at rfl rfl (Nat.le_of_ble_eq_true rfl) rfl rfl h
          obtain ⟨sn2, g2⟩ : ∃ sn2, Go 1 (st dotC text s [fs 5 s first] 1 7 s s first none sn) (st dotC text s [fs 5 s first] 1 7 s s first (some false) sn2) := go_litNo rfl rfl (Nat.le_of_ble_eq_true rfl) rfl (fun _ q => hit ⟨h, q⟩)
          exact ⟨2, sn2, 7, s, by omega, g1.trans g2⟩
        · obtain ⟨sn, g1⟩ : ∃ sn, Go 1 (st dotC text s [fs 5 s first] 1 5 s s first none seen) (st dotC text s [fs 5 s first] 1 5 s s first (some false) sn) := go_atNo rfl rfl (Nat.le_of_ble_eq_true rfl) rfl rfl (eq_false_of_ne_true h)
          exact ⟨1, sn, 5, s, by omega, g1⟩
      obtain ⟨n, sn, pc, pos, hn, g⟩ := no
      have g2 := go_nextStart (text := text) (p := s) (pc := pc) (pos := pos) (handed := s) (outer := first) (first := first) (sn := sn)
      rw [if_pos (by omega)] at g2
      obtain ⟨n', m', hn', g', r⟩ := ih (s + 1) (by omega) false sn
      refine ⟨_, m', by omega, (g.trans g2).trans g', ?_⟩
      have ext : ∀ q, s ≤ q → (s + 1 ≤ q → ¬ hitD text q) → ¬ hitD text q := fun q a b => by
        by_cases e : q = s
        · subst e; exact hit
        · exact b (by omega)
      rcases r with ⟨p, a, b, c, d, e⟩ | ⟨a, b⟩
      · exact .inl ⟨p, by omega, b, c, fun q x y => ext q x fun z => d q z y, e⟩
      · exact .inr ⟨fun q x y => ext q x fun z => a q z y, b⟩

theorem dot_search (text : Array Nat) (s : Nat) (hs : s ≤ text.size) : ∃ n m', n ≤ 6 * (text.size + 1) ∧ Go n (forSearch dotC text 0 s text.size false) m' ∧
    ((∃ p, s ≤ p ∧ p < text.size ∧ hitD text p ∧ (∀ q, s ≤ q → q < p → ¬ hitD text q) ∧ m'.outcome = some .matched ∧ m'.start = p ∧ m'.handed = p + 1) ∨
      ((∀ q, s ≤ q → q < text.size → ¬ hitD text q) ∧ m'.outcome = some .failed)) := by
  by_cases h : s < text.size
  · have e : forSearch dotC text 0 s text.size false = seeks dotC text 5 s true false (({} : Seen).add 14) := by
      unfold forSearch
      show (if (decide (s > text.size) || decide (text.size - s < 1)) = true then _ else _) = _
      rw [if_neg (by simp; omega)]
      rfl
    rw [e]
    obtain ⟨n, m', hn, r⟩ := dot_run text (text.size - s) s (by omega) true (({} : Seen).add 14)
    exact ⟨n, m', by omega, r⟩
  · have e : ∃ m, forSearch dotC text 0 s text.size false = m ∧ m.outcome = none ∧ m.answer = some false ∧ m.frames = [] := by
      refine ⟨_, rfl, ?_⟩
      unfold forSearch
      show (if (decide (s > text.size) || decide (text.size - s < 1)) = true then _ else _ : Sre.M).outcome = none ∧ (if (decide (s > text.size) || decide (text.size - s < 1)) = true then _ else _ : Sre.M).answer = some false ∧ (if (decide (s > text.size) || decide (text.size - s < 1)) = true then _ else _ : Sre.M).frames = []
      rw [if_pos (by simp; omega)]
      exact ⟨rfl, rfl, rfl⟩
    obtain ⟨m, e, o, a, f⟩ := e
    rw [e]
    exact ⟨1, _, by omega, go_end (yes := false) o a f, .inr ⟨fun q x y => by omega, rfl⟩⟩
end Mine
end
section
open PySem PySem.Sre
set_option Elab.async false
set_option maxRecDepth 100000
set_option linter.all false
namespace Mine
noncomputable def eolC : Array Nat := #[14, 9, 4, 1, 2, 16, 10, 16, 13, 0, 7, 7, 16, 13, 16, 10, 15, 18, 5, 16, 10, 15, 13, 11, 16, 13, 5, 5, 0, 16, 10, 1, 15, 2, 0, 1]
noncomputable def hitE (text : Array Nat) (p : Nat) : Prop := text.getD p 0 = 10 ∨ text.getD p 0 = 13
noncomputable def endE (text : Array Nat) (p : Nat) : Nat := if text.getD p 0 = 13 ∧ p + 1 < text.size ∧ text.getD (p + 1) 0 = 10 then p + 2 else p + 1

theorem inSetE (c : Nat) (seen : Seen) : ∃ sn, inSet eolC c 36 5 true seen = .ok (decide (c = 10 ∨ c = 13), sn) := by
  have e : inSet eolC c 36 5 true seen = (if c == 10 then .ok (true, seen.add 16) else if c == 13 then .ok (true, (seen.add 16).add 16) else .ok (false, ((seen.add 16).add 16).add 0)) := rfl
  rw [e]
  by_cases h1 : c = 10
  · subst h1; exact ⟨_, rfl⟩
  · rw [if_neg (by simpa using h1)]
    by_cases h2 : c = 13
    · subst h2; exact ⟨_, rfl⟩
    · rw [if_neg (by simpa using h2)]
      exact ⟨_, by rw [decide_eq_false (by omega)]⟩

theorem admittedE (m : Sre.M) (hc : m.code = eolC) : ∀ (k s : Nat) (seen : Seen), s + k = m.lim → ∃ sn, (∃ p, s ≤ p ∧ p < m.lim ∧ hitE m.text p ∧ (∀ q, s ≤ q → q < p → ¬ hitE m.text q) ∧ M.admitted m (k + 1) s seen = .ok (some p, sn)) ∨
      ((∀ q, s ≤ q → q < m.lim → ¬ hitE m.text q) ∧ M.admitted m (k + 1) s seen = .ok (none, sn))
  | 0, s, seen, h => ⟨seen, .inr ⟨fun q a b => by omega, by
      unfold M.admitted
      rw [if_pos (by omega)]⟩⟩
  | k + 1, s, seen, h => by
    obtain ⟨sn, e⟩ := inSetE (m.text.getD s 0) seen
    have u : M.admitted m (k + 1 + 1) s seen = (match inSet m.code (m.text.getD s 0) m.code.size 5 true seen with | .ok (true, seen) => .ok (some s, seen) | .ok (false, seen) => M.admitted m (k + 1) (s + 1) seen | .error why => .error why) := by
      show (if s ≥ m.lim then _ else _) = _
      rw [if_neg (by omega)]
      rfl
    have sz : m.code.size = 36 := by rw [hc]; rfl
    rw [u, sz, hc, e]
    by_cases hit : hitE m.text s
    · rw [decide_eq_true (show m.text.getD s 0 = 10 ∨ m.text.getD s 0 = 13 from hit)]
      exact ⟨sn, .inl ⟨s, Nat.le_refl _, by omega, hit, fun q a b => by omega, rfl⟩⟩
    · rw [decide_eq_false (show ¬ (m.text.getD s 0 = 10 ∨ m.text.getD s 0 = 13) from hit)]
      obtain ⟨sn', r⟩ := admittedE m hc k (s + 1) sn (by omega)
      have ext : ∀ q, s ≤ q → (s + 1 ≤ q → ¬ hitE m.text q) → ¬ hitE m.text q := fun q a b => by
        by_cases e : q = s
        · subst e; exact hit
        · exact b (by omega)
      rcases r with ⟨p, a, b, c, d, e⟩ | ⟨a, b⟩
      · exact ⟨sn', .inl ⟨p, by omega, b, c, fun q x y => ext q x fun z => d q z y, e⟩⟩
      · exact ⟨sn', .inr ⟨fun q x y => ext q x fun z => a q z y, b⟩⟩

noncomputable def fb (alt p : Nat) (first : Bool) : Sre.Frame := { wait := .nextBranch, pc := alt, pos := p, outermost := first, kept := { lastmark := -1, lastindex := -1, whole := false, marks := #[] } }
noncomputable def fl (p : Nat) (first : Bool) : Sre.Frame := { wait := .lookNot, pc := 26, pos := p, outermost := first, kept := { lastmark := -1, lastindex := -1, whole := false, marks := #[] } }

/-- from the sign that ends the match on -/
theorem eol_fin (text : Array Nat) (p e alt h0 : Nat) (first : Bool) (seen : Seen) : ∃ m', Go 4 (st eolC text p [fb alt p first, fs 10 p first] 2 35 e h0 first none seen) m' ∧ m'.outcome = some .matched ∧ m'.start = p ∧ m'.handed = e := by
  obtain ⟨sn, g1⟩ : ∃ sn, Go 1 (st eolC text p [fb alt p first, fs 10 p first] 2 35 e h0 first none seen) (st eolC text p [fb alt p first, fs 10 p first] 2 35 e e first (some true) sn) := go_succ rfl rfl (Nat.le_of_ble_eq_true rfl) rfl rfl rfl
  have g2 : Go 1 (st eolC text p [fb alt p first, fs 10 p first] 2 35 e e first (some true) sn) (st eolC text p [fs 10 p first] 1 alt p e first (some true) sn) := go_yes (f := fb alt p first) (rest := [fs 10 p first]) rfl rfl rfl (.inl rfl)
  have g3 : Go 1 (st eolC text p [fs 10 p first] 1 alt p e first (some true) sn) (st eolC text p [] 0 10 p e first (some true) sn) := go_yes (f := fs 10 p first) (rest := []) rfl rfl rfl (.inr rfl)
  have g4 : Go 1 (st eolC text p [] 0 10 p e first (some true) sn) { st eolC text p [] 0 10 p e first (some true) sn with outcome := some .matched } := go_end (yes := true) rfl rfl rfl
  exact ⟨_, ((g1.trans g2).trans g3).trans g4, rfl, rfl, rfl⟩

theorem eol_run (text : Array Nat) (p : Nat) (hp : p < text.size) (hit : hitE text p) (first : Bool) (seen : Seen) : ∃ n m', n ≤ 20 ∧ Go n (seeks eolC text 10 p first false seen) m' ∧ m'.outcome = some .matched ∧ m'.start = p ∧ m'.handed = endE text p := by
  rw [seeks_st]
  obtain ⟨s1, g1⟩ : ∃ sn, Go 1 (st eolC text p [fs 10 p first] 1 10 p p first none seen) (st eolC text p [fb 11 p first, fs 10 p first] 2 12 p p first none sn) := go_branch rfl rfl (Nat.le_of_ble_eq_true rfl) rfl rfl (Nat.le_of_ble_eq_true rfl) rfl
  by_cases h13 : text.getD p 0 = 13
  · obtain ⟨s2, g2⟩ : ∃ sn, Go 1 (st eolC text p [fb 11 p first, fs 10 p first] 2 12 p p first none s1) (st eolC text p [fb 11 p first, fs 10 p first] 2 14 (p + 1) p first none sn) := go_lit rfl rfl (Nat.le_of_ble_eq_true rfl) rfl hp h13
    by_cases h10 : p + 1 < text.size ∧ text.getD (p + 1) 0 = 10
    · obtain ⟨s3, g3⟩ : ∃ sn, Go 1 (st eolC text p [fb 11 p first, fs 10 p first] 2 14 (p + 1) p first none s2) (st eolC text p [fb 11 p first, fs 10 p first] 2 16 (p + 2) p first none sn) := go_lit rfl rfl (Nat.le_of_ble_eq_true rfl) rfl h10.1 h10.2
      obtain ⟨s4, g4⟩ : ∃ sn, Go 1 (st eolC text p [fb 11 p first, fs 10 p first] 2 16 (p + 2) p first none s3) (st eolC text p [fb 11 p first, fs 10 p first] 2 35 (p + 2) p first none sn) := go_jump rfl rfl (Nat.le_of_ble_eq_true rfl) rfl
      obtain ⟨m', g5, r⟩ := eol_fin text p (p + 2) 11 p first s4
      refine ⟨_, m', ?_, (((g1.trans g2).trans g3).trans g4).trans g5, ?_⟩
      · omega
      · unfold endE; rw [if_pos ⟨h13, h10.1, h10.2⟩]; exact r
    · obtain ⟨s3, g3⟩ : ∃ sn, Go 1 (st eolC text p [fb 11 p first, fs 10 p first] 2 14 (p + 1) p first none s2) (st eolC text p [fb 11 p first, fs 10 p first] 2 14 (p + 1) p first (some false) sn) := go_litNo rfl rfl (Nat.le_of_ble_eq_true rfl) rfl (fun a b => h10 ⟨a, b⟩)
      have g4 : Go 1 (st eolC text p [fb 11 p first, fs 10 p first] 2 14 (p + 1) p first (some false) s3) (st eolC text p [fb 18 p first, fs 10 p first] 2 19 p p first none s3) := go_nextAlt (f := fb 11 p first) (rest := [fs 10 p first]) rfl rfl rfl rfl rfl (Nat.le_of_ble_eq_true rfl) rfl
      obtain ⟨s5, g5⟩ : ∃ sn, Go 1 (st eolC text p [fb 18 p first, fs 10 p first] 2 19 p p first none s3) (st eolC text p [fb 18 p first, fs 10 p first] 2 19 p p first (some false) sn) := go_litNo rfl rfl (Nat.le_of_ble_eq_true rfl) rfl (fun _ (b : text.getD p 0 = 10) => by omega)
      have g6 : Go 1 (st eolC text p [fb 18 p first, fs 10 p first] 2 19 p p first (some false) s5) (st eolC text p [fb 23 p first, fs 10 p first] 2 24 p p first none s5) := go_nextAlt (f := fb 18 p first) (rest := [fs 10 p first]) rfl rfl rfl rfl rfl (Nat.le_of_ble_eq_true rfl) rfl
      obtain ⟨s7, g7⟩ : ∃ sn, Go 1 (st eolC text p [fb 23 p first, fs 10 p first] 2 24 p p first none s5) (st eolC text p [fb 23 p first, fs 10 p first] 2 26 (p + 1) p first none sn) := go_lit rfl rfl (Nat.le_of_ble_eq_true rfl) rfl hp h13
      obtain ⟨s8, g8⟩ : ∃ sn, Go 1 (st eolC text p [fb 23 p first, fs 10 p first] 2 26 (p + 1) p first none s7) (st eolC text p [fl (p + 1) first, fb 23 p first, fs 10 p first] 3 29 (p + 1) (p + 1) false none sn) := go_assertNot rfl rfl (Nat.le_of_ble_eq_true rfl) rfl rfl rfl (Nat.le_of_ble_eq_true rfl)
      obtain ⟨s9, g9⟩ : ∃ sn, Go 1 (st eolC text p [fl (p + 1) first, fb 23 p first, fs 10 p first] 3 29 (p + 1) (p + 1) false none s8) (st eolC text p [fl (p + 1) first, fb 23 p first, fs 10 p first] 3 29 (p + 1) (p + 1) false (some false) sn) := go_litNo rfl rfl (Nat.le_of_ble_eq_true rfl) rfl (fun a b => h10 ⟨a, b⟩)
      have g10 : Go 1 (st eolC text p [fl (p + 1) first, fb 23 p first, fs 10 p first] 3 29 (p + 1) (p + 1) false (some false) s9) (st eolC text p [fb 23 p first, fs 10 p first] 2 32 (p + 1) (p + 1) first none s9) := go_lookNot (f := fl (p + 1) first) (rest := [fb 23 p first, fs 10 p first]) rfl rfl rfl rfl rfl
      obtain ⟨s11, g11⟩ : ∃ sn, Go 1 (st eolC text p [fb 23 p first, fs 10 p first] 2 32 (p + 1) (p + 1) first none s9) (st eolC text p [fb 23 p first, fs 10 p first] 2 35 (p + 1) (p + 1) first none sn) := go_jump rfl rfl (Nat.le_of_ble_eq_true rfl) rfl
      obtain ⟨m', g12, r⟩ := eol_fin text p (p + 1) 23 (p + 1) first s11
      refine ⟨_, m', ?_, ((((((((((g1.trans g2).trans g3).trans g4).trans g5).trans g6).trans g7).trans g8).trans g9).trans g10).trans g11).trans g12, ?_⟩
      · omega
      · unfold endE; rw [if_neg (fun z => h10 z.2)]; exact r
  · have h10 : text.getD p 0 = 10 := hit.resolve_right h13
    obtain ⟨s2, g2⟩ : ∃ sn, Go 1 (st eolC text p [fb 11 p first, fs 10 p first] 2 12 p p first none s1) (st eolC text p [fb 11 p first, fs 10 p first] 2 12 p p first (some false) sn) := go_litNo rfl rfl (Nat.le_of_ble_eq_true rfl) rfl (fun _ b => h13 b)
    have g4 : Go 1 (st eolC text p [fb 11 p first, fs 10 p first] 2 12 p p first (some false) s2) (st eolC text p [fb 18 p first, fs 10 p first] 2 19 p p first none s2) := go_nextAlt (f := fb 11 p first) (rest := [fs 10 p first]) rfl rfl rfl rfl rfl (Nat.le_of_ble_eq_true rfl) rfl
    obtain ⟨s5, g5⟩ : ∃ sn, Go 1 (st eolC text p [fb 18 p first, fs 10 p first] 2 19 p p first none s2) (st eolC text p [fb 18 p first, fs 10 p first] 2 21 (p + 1) p first none sn) := go_lit rfl rfl (Nat.le_of_ble_eq_true rfl) rfl hp h10
    obtain ⟨s6, g6⟩ : ∃ sn, Go 1 (st eolC text p [fb 18 p first, fs 10 p first] 2 21 (p + 1) p first none s5) (st eolC text p [fb 18 p first, fs 10 p first] 2 35 (p + 1) p first none sn) := go_jump rfl rfl (Nat.le_of_ble_eq_true rfl) rfl
    obtain ⟨m', g7, r⟩ := eol_fin text p (p + 1) 18 p first s6
    refine ⟨_, m', ?_, ((((g1.trans g2).trans g4).trans g5).trans g6).trans g7, ?_⟩
    · omega
    · unfold endE; rw [if_neg (fun z => h13 z.1)]; exact r

theorem eol_search (text : Array Nat) (s : Nat) (hs : s ≤ text.size) : ∃ n m', n ≤ 21 ∧ Go n (forSearch eolC text 0 s text.size false) m' ∧
    ((∃ p, s ≤ p ∧ p < text.size ∧ hitE text p ∧ (∀ q, s ≤ q → q < p → ¬ hitE text q) ∧ m'.outcome = some .matched ∧ m'.start = p ∧ m'.handed = endE text p) ∨
      ((∀ q, s ≤ q → q < text.size → ¬ hitE text q) ∧ m'.outcome = some .failed)) := by
  by_cases h : s < text.size
  · let m0 : Sre.M := { code := eolC, text, lim := text.size, start := s, lastStart := text.size, pc := 10, pos := s, handed := s, marks := #[], seen := ({} : Seen).add 14 }
    have e : forSearch eolC text 0 s text.size false = (match M.admitted m0 (text.size + 1 - s) s m0.seen with
      | .ok (some s, seen) => M.attemptAt { m0 with mustAdvance := false, seen } s true
      | .ok (none, seen) => M.say { m0 with seen } false
      | .error why => m0.stick why) := by
      unfold forSearch
      show (if (decide (s > text.size) || decide (text.size - s < 1)) = true then _ else _) = _
      rw [if_neg (by simp; omega)]
      rfl
    have k : text.size + 1 - s = (text.size - s) + 1 := by omega
    rw [e, k]
    obtain ⟨sn, r⟩ := admittedE m0 rfl (text.size - s) s m0.seen (show s + (text.size - s) = text.size by omega)
    rcases r with ⟨p, a, b, c, d, e⟩ | ⟨a, b⟩
    · rw [e]
      obtain ⟨n, m', hn, g, r⟩ := eol_run text p b c true sn
      exact ⟨n, m', by omega, g, .inl ⟨p, a, b, c, d, r⟩⟩
    · rw [b]
      exact ⟨1, _, by omega, go_end (yes := false) rfl rfl rfl, .inr ⟨a, rfl⟩⟩
  · have e : ∃ m, forSearch eolC text 0 s text.size false = m ∧ m.outcome = none ∧ m.answer = some false ∧ m.frames = [] := by
      refine ⟨_, rfl, ?_⟩
      unfold forSearch
      show (if (decide (s > text.size) || decide (text.size - s < 1)) = true then _ else _ : Sre.M).outcome = none ∧ (if (decide (s > text.size) || decide (text.size - s < 1)) = true then _ else _ : Sre.M).answer = some false ∧ (if (decide (s > text.size) || decide (text.size - s < 1)) = true then _ else _ : Sre.M).frames = []
      rw [if_pos (by simp; omega)]
      exact ⟨rfl, rfl, rfl⟩
    obtain ⟨m, e, o, a, f⟩ := e
    rw [e]
    exact ⟨1, _, by omega, go_end (yes := false) o a f, .inr ⟨fun q x y => by omega, rfl⟩⟩
end Mine
end
section
open PySem PySem.W PyProof.Rows
set_option Elab.async false
namespace Mine

abbrev Tx := PySem.Str

/-- scalars -/
inductive Sc where
  | none | bool (b : Bool) | int (i : Int) | str (s : Tx) | byt (b : Array UInt8)

inductive ScR : Value → Sc → Prop
  | none : ScR .none .none
  | bool (b : Bool) : ScR (.bool b) (.bool b)
  | int (i : Int) (t : Tok) : ScR (.int i t) (.int i)
  | str (x : Tx) (t : Tok) : ScR (.str x t) (.str x)
  | byt (b : Array UInt8) (t : Tok) : ScR (.bytes b t) (.byt b)

inductive ScsR : List Value → List Sc → Prop
  | nil : ScsR [] []
  | cons {v : Value} {x : Sc} {vs : List Value} {xs : List Sc} (h : ScR v x) (r : ScsR vs xs) : ScsR (v :: vs) (x :: xs)

theorem ScsR.length {vs : List Value} {xs : List Sc} (h : ScsR vs xs) : vs.length = xs.length := by
  induction h with
  | nil => rfl
  | cons _ _ ih => simp [ih]
theorem ScsR.get {vs : List Value} {xs : List Sc} (h : ScsR vs xs) : ∀ {i : Nat} {x : Sc}, xs[i]? = some x → ∃ v, vs[i]? = some v ∧ ScR v x := by
  induction h with
  | nil => intro i x e; simp at e
  | cons h _ ih =>
    intro i x e
    cases i with
    | zero => simp at e; subst e; exact ⟨_, rfl, h⟩
    | succ i => simpa using ih (by simpa using e)
theorem ScsR.append {vs ws : List Value} {xs ys : List Sc} (h : ScsR vs xs) (g : ScsR ws ys) : ScsR (vs ++ ws) (xs ++ ys) := by
  induction h with
  | nil => exact g
  | cons h _ ih => exact .cons h ih

/-- the values that the walk speaks of -/
inductive PV where
  | sc (x : Sc) | list (l : List Sc) | tup (l : List Sc) | obj (a : Addr)

noncomputable def seqObj (c : String) (vs : List Value) (n : Nat) : Obj := { cls := .type c, data := .seq vs.toArray n }

inductive Rep (X : List Addr) (h : Heap) : Value → PV → Prop
  | sc {v : Value} {x : Sc} (r : ScR v x) : Rep X h v (.sc x)
  | list {a : Addr} {vs : List Value} {l : List Sc} (hx : a ∉ X) (ho : h.IsList a vs.toArray) (r : ScsR vs l) : Rep X h (.ref a) (.list l)
  | tup {a : Addr} {vs : List Value} {l : List Sc} (hx : a ∉ X) (ho : IsTup h a vs.toArray) (r : ScsR vs l) : Rep X h (.ref a) (.tup l)
  | obj (a : Addr) : Rep X h (.ref a) (.obj a)

noncomputable def DictAt (h : Heap) (b : Addr) : Prop := ∃ o es n, h.get? b = some o ∧ o.data = .dict es n
/-- the same object, but for a dict's slots (a frame's marks) where x is false -/
noncomputable def SmO (x : Option Nat) (b : Addr) (o o' : Obj) : Prop := o' = o ∨ ((∃ n, x = some n ∧ n ≤ b) ∧ (∃ es n, o.data = .dict es n) ∧ o'.cls = o.cls ∧ o'.dict = o.dict ∧ o'.data = o.data)
theorem SmO.refl (x : Option Nat) (b : Addr) (o : Obj) : SmO x b o o := .inl rfl
theorem SmO.trans {x : Option Nat} {p : Addr} {o o' o'' : Obj} (a : SmO x p o o') (b : SmO x p o' o'') : SmO x p o o'' := by
  rcases a with rfl | ⟨a1, a2, a3, a4, a5⟩
  · exact b
  · rcases b with rfl | ⟨b1, b2, b3, b4, b5⟩
    · exact .inr ⟨a1, a2, a3, a4, a5⟩
    · exact .inr ⟨a1, a2, b3.trans a3, b4.trans a4, b5.trans a5⟩
theorem SmO.data {x : Option Nat} {p : Addr} {o o' : Obj} (a : SmO x p o o') : o'.data = o.data := by
  rcases a with rfl | a
  · rfl
  · exact a.2.2.2.2
theorem SmO.eq {x : Option Nat} {p : Addr} {o o' : Obj} (a : SmO x p o o') (n : ∀ es m, o.data ≠ .dict es m) : o' = o := a.resolve_right fun q => by obtain ⟨es, m, e⟩ := q.2.1; exact n _ _ e
/-- every object of h but those at Y stands in h' as it stood (but for a dict's slots), and a dict stays one -/
structure Kp (x : Option Nat) (Y : List Addr) (h h' : Heap) : Prop where
  old : ∀ b o, b ∉ Y → h.get? b = some o → ∃ o', h'.get? b = some o' ∧ SmO x b o o'
  dict : ∀ b, DictAt h b → DictAt h' b
theorem Kp.refl {x : Option Nat} (Y : List Addr) (h : Heap) : Kp x Y h h := ⟨fun _ o _ e => ⟨o, e, .refl _ _ _⟩, fun _ d => d⟩
theorem Kp.trans {x : Option Nat} {Y : List Addr} {h h' h'' : Heap} (a : Kp x Y h h') (b : Kp x Y h' h'') : Kp x Y h h'' :=
  ⟨fun z o n e => let ⟨o1, e1, s1⟩ := a.old z o n e; let ⟨o2, e2, s2⟩ := b.old z o1 n e1; ⟨o2, e2, s1.trans s2⟩, fun z d => b.dict z (a.dict z d)⟩
theorem Kp.mono {x : Option Nat} {Y Z : List Addr} {h h' : Heap} (a : Kp x Y h h') (s : ∀ x ∈ Y, x ∈ Z) : Kp x Z h h' := ⟨fun z o n e => a.old z o (fun m => n (s z m)) e, a.dict⟩
theorem Kp.all {x : Option Nat} {Y : List Addr} {h h' : Heap} (a : Kp x [] h h') : Kp x Y h h' := a.mono fun _ m => (nomatch m)
theorem Kp.get {x : Option Nat} {Y : List Addr} {h h' : Heap} (a : Kp x Y h h') {b : Addr} {o : Obj} (n : b ∉ Y) (e : h.get? b = some o) (nd : ∀ es m, o.data ≠ .dict es m) : h'.get? b = some o := by
  obtain ⟨o', e', s⟩ := a.old b o n e
  rw [e', s.eq nd]
theorem Kp.get0 {x : Option Nat} {h h' : Heap} (a : Kp x [] h h') {b : Addr} {o : Obj} (e : h.get? b = some o) (nd : ∀ es m, o.data ≠ .dict es m) : h'.get? b = some o := a.get (fun m => nomatch m) e nd
theorem Kp.live {x : Option Nat} {Y : List Addr} {h h' : Heap} (a : Kp x Y h h') {b : Addr} {o : Obj} (n : b ∉ Y) (e : h.get? b = some o) : (h'.get? b).isSome = true := by
  obtain ⟨o', e', _⟩ := a.old b o n e
  rw [e']; rfl
theorem Kp.keeps {Y : List Addr} {h h' : Heap} (a : Kp Option.none Y h h') : ∀ b o, b ∉ Y → h.get? b = some o → h'.get? b = some o := fun b o n e => by
  obtain ⟨o', e', s⟩ := a.old b o n e
  rcases s with rfl | s
  · exact e'
  · obtain ⟨n, q, _⟩ := s.1; cases q
theorem DictAt.keeps {h h' : Heap} (a : ∀ b o, h.get? b = some o → h'.get? b = some o) {b : Addr} (d : DictAt h b) : DictAt h' b := let ⟨o, es, n, e, q⟩ := d; ⟨o, es, n, a _ _ e, q⟩
theorem Kp.of {x : Option Nat} {h h' : Heap} (a : ∀ b o, h.get? b = some o → h'.get? b = some o) : Kp x [] h h' := ⟨fun b o _ e => ⟨o, a b o e, .refl _ _ _⟩, fun _ d => d.keeps a⟩
theorem Kp.weak {x : Option Nat} {Y : List Addr} {h h' : Heap} (a : Kp Option.none Y h h') : Kp x Y h h' := ⟨fun b o n e => ⟨o, a.keeps b o n e, .refl _ _ _⟩, a.dict⟩
theorem Kp.push {x : Option Nat} (h : Heap) (o : Obj) : Kp x [] h (h.push o) := .of fun _ _ e => Heap.get?_push_of_some o e
theorem Kp.but {x : Option Nat} {h h' : Heap} {L : Addr} (s : Heap.SameBut L h h') (hd : DictAt h L → DictAt h' L) : Kp x [L] h h' :=
  ⟨fun b o n e => ⟨o, (s.2 b (fun q => n (by simp [q]))).trans e, .refl _ _ _⟩, fun b d => by
    by_cases q : b = L
    · subst q; exact hd d
    · obtain ⟨o, es, n, e, z⟩ := d; exact ⟨o, es, n, (s.2 b q).trans e, z⟩⟩
theorem notDict {h : Heap} {a : Addr} {o : Obj} (e : h.get? a = some o) (nd : ∀ es m, o.data ≠ .dict es m) : ¬ DictAt h a := by
  rintro ⟨o', es, n, e', d⟩
  rw [e] at e'; cases e'; exact nd _ _ d
theorem Kp.ofBut {x : Option Nat} {Y : List Addr} {h h' : Heap} (a : ∀ b o, b ∉ Y → h.get? b = some o → h'.get? b = some o) (hY : ∀ b ∈ Y, ¬ DictAt h b) : Kp x Y h h' :=
  ⟨fun b o n e => ⟨o, a b o n e, .refl _ _ _⟩, fun b d => by
    by_cases q : b ∈ Y
    · exact absurd d (hY b q)
    · obtain ⟨o, es, n, e, z⟩ := d; exact ⟨o, es, n, a b o q e, z⟩⟩
/-- steps that touch nothing that stood at first -/
theorem Kp.then {x : Option Nat} {Y Z : List Addr} {h h' h'' : Heap} (a : Kp x Y h h') (b : Kp x Z h' h'') (n : ∀ z ∈ Z, ∀ o, h.get? z = some o → False) : Kp x Y h h'' :=
  ⟨fun z o ny e => let ⟨o1, e1, s1⟩ := a.old z o ny e; let ⟨o2, e2, s2⟩ := b.old z o1 (fun m => n z m o e) e1; ⟨o2, e2, s1.trans s2⟩, fun z d => b.dict z (a.dict z d)⟩
theorem Kp.then2 {x : Option Nat} {Y Z : List Addr} {h h' h'' : Heap} (a : Kp x Y h h') (b : Kp x Z h' h'') (n : ∀ z ∈ Z, z ∉ Y → ∀ o, h.get? z = some o → False) : Kp x Y h h'' :=
  ⟨fun z o ny e => let ⟨o1, e1, s1⟩ := a.old z o ny e; let ⟨o2, e2, s2⟩ := b.old z o1 (fun m => n z m ny o e) e1; ⟨o2, e2, s1.trans s2⟩, fun z d => b.dict z (a.dict z d)⟩
theorem fields_notDict {h : Heap} {b : Addr} (q : ∃ o fs, h.get? b = some o ∧ o.data = .fields fs) : ¬ DictAt h b := by
  obtain ⟨o, fs, e, d⟩ := q
  exact notDict e fun es m z => by rw [d] at z; cases z
theorem Kp.ns {x : Option Nat} {Y : List Addr} {h h' : Heap} (k : Kp x Y h h') {a : Addr} {m : Tx → Option Value} (hn : h.Ns a m) (n : a ∉ Y) : h'.Ns a m := by
  obtain ⟨o, es, ep, e1, e2, e3, e4⟩ := hn
  obtain ⟨o', e', s⟩ := k.old a o n e1
  exact ⟨o', es, ep, e', s.data.trans e2, e3, e4⟩
theorem Ns.dictAt {h : Heap} {a : Addr} {m : Tx → Option Value} (hn : h.Ns a m) : DictAt h a := let ⟨o, es, ep, e1, e2, _⟩ := hn; ⟨o, es, ep, e1, e2⟩
/-- an object that is a list's or a tuple's -/
noncomputable def SeqAt (h : Heap) (a : Addr) : Prop := ∃ o vs n, h.get? a = some o ∧ o.data = .seq vs n
theorem IsList.seq {h : Heap} {a : Addr} {vs : Array Value} (l : h.IsList a vs) : SeqAt h a := let ⟨o, ho, _, n, hd⟩ := l; ⟨o, vs, n, ho, hd⟩
theorem IsTup.seq {h : Heap} {a : Addr} {vs : Array Value} (l : IsTup h a vs) : SeqAt h a := let ⟨o, ho, _, n, hd⟩ := l; ⟨o, vs, n, ho, hd⟩
theorem Rep.keep {x0 : Option Nat} {X Y : List Addr} {h h' : Heap} {v : Value} {x : PV} (r : Rep X h v x) (k : Kp x0 Y h h') (s : ∀ a ∈ Y, a ∈ X ∨ ¬ SeqAt h a) : Rep X h' v x := by
  have ne : ∀ {a : Addr}, a ∉ X → SeqAt h a → a ∉ Y := fun hx ho hy => (s _ hy).elim hx fun q => q ho
  cases r with
  | sc r => exact .sc r
  | list hx ho r =>
    have n := ne hx (IsList.seq ho); obtain ⟨o, q, z, m, z2⟩ := ho
    exact .list hx ⟨o, k.get n q (fun es m e => by rw [z2] at e; cases e), z, m, z2⟩ r
  | tup hx ho r =>
    have n := ne hx (IsTup.seq ho); obtain ⟨o, q, z, m, z2⟩ := ho
    exact .tup hx ⟨o, k.get n q (fun es m e => by rw [z2] at e; cases e), z, m, z2⟩ r
  | obj a => exact .obj a
theorem not_seq_dict {h : Heap} {a : Addr} (q : ∃ es n c d sl, h.get? a = some ⟨c, d, .dict es n, sl⟩) : ¬ SeqAt h a := by
  rintro ⟨o, vs, n, e, d⟩
  obtain ⟨es, m, c, d', sl, q⟩ := q
  rw [q] at e; cases e; cases d
theorem not_seq_fields {h : Heap} {a : Addr} (q : ∃ o fs, h.get? a = some o ∧ o.data = .fields fs) : ¬ SeqAt h a := by
  rintro ⟨o, vs, n, e, d⟩
  obtain ⟨o', fs, q, d'⟩ := q
  rw [q] at e; cases e; rw [d] at d'; cases d'
theorem Rep.kp {x0 : Option Nat} {X : List Addr} {h h' : Heap} {v : Value} {x : PV} (r : Rep X h v x) (k : Kp x0 [] h h') : Rep X h' v x := r.keep k fun _ m => (nomatch m)
theorem Rep.less {X Z : List Addr} {h : Heap} {v : Value} {x : PV} (r : Rep X h v x) (s : ∀ a ∈ Z, a ∈ X) : Rep Z h v x := by
  cases r with
  | sc r => exact .sc r
  | list hx ho r => exact .list (fun m => hx (s _ m)) ho r
  | tup hx ho r => exact .tup (fun m => hx (s _ m)) ho r
  | obj a => exact .obj a

/-- what stands around: the program, the world, the objects of the text; ex: not even a frame's marks change -/
structure Cx where
  prog : Program
  w : World
  n0 : Nat
  W : Heap → Prop
  nw : Addr → Prop
  nwle : ∀ a, nw a → n0 ≤ a
  stab : ∀ h h' Y, W h → Kp (some n0) Y h h' → (∀ a ∈ Y, nw a) → W h'
  low : ∀ h, W h → nw h.objs.size
  ex : Option Nat
  hex : ex = Option.none ∨ ex = some n0
noncomputable def Cx.exact (C : Cx) : Cx := { C with ex := Option.none, hex := .inl rfl }
theorem Kp.weaker {C : Cx} {Y : List Addr} {h h' : Heap} (a : Kp C.ex Y h h') : Kp (some C.n0) Y h h' := by
  rcases C.hex with q | q
  · rw [q] at a; exact a.weak
  · rw [q] at a; exact a

/-- the frames around are objects of the heap -/
noncomputable def Fo (n : Nat) (A : Around) (h : Heap) : Prop := ∃ l, A.frames = some l ∧ ∀ e ∈ l, e.scope.kind ≠ .module ∧ ∃ L, e.frame = some L ∧ n ≤ L ∧ DictAt h L
theorem Fo.kp {n : Nat} {x : Option Nat} {Y : List Addr} {A : Around} {h h' : Heap} (f : Fo n A h) (k : Kp x Y h h') : Fo n A h' :=
  let ⟨l, e, q⟩ := f; ⟨l, e, fun z m => let ⟨n, L, a, b, c⟩ := q z m; ⟨n, L, a, b, k.dict _ c⟩⟩
theorem Fo.deeper {n0 : Nat} {A : Around} {h : Heap} (f : Fo n0 A h) {env : Env} {L : Addr} (n : env.scope.kind ≠ .module) (e : env.frame = some L) (hL : n0 ≤ L) (d : DictAt h L) : Fo n0 (A.deeper env) h := by
  obtain ⟨l, e1, q⟩ := f
  refine ⟨env :: l, by simp [Around.deeper, e1], fun z m => ?_⟩
  rcases List.mem_cons.mp m with rfl | m
  · exact ⟨n, L, e, hL, d⟩
  · exact q z m
structure Cx.Ws (C : Cx) (A : Around) (s : Shared) : Prop where
  w : C.W s.heap
  t : 1 ≤ s.toks
  f : Fo C.n0 A s.heap
/-- as Ws, at a call's start: no token need be taken yet -/
structure Cx.W0 (C : Cx) (A : Around) (s : Shared) : Prop where
  w : C.W s.heap
  f : Fo C.n0 A s.heap
theorem Cx.Ws.w0 {C : Cx} {A : Around} {s : Shared} (w : C.Ws A s) : C.W0 A s := ⟨w.1, w.3⟩
theorem Cx.Ws.next {C : Cx} {A : Around} {s : Shared} {h' : Heap} {t' : Nat} {Y : List Addr} (w : C.Ws A s) (k : Kp C.ex Y s.heap h') (n : ∀ a ∈ Y, C.nw a) (ht : 1 ≤ t') : C.Ws A { s with heap := h', toks := t' } := ⟨C.stab _ _ _ w.1 k.weaker n, ht, w.f.kp k⟩
theorem Cx.Ws.next0 {C : Cx} {A : Around} {s : Shared} {h' : Heap} {t' : Nat} (w : C.Ws A s) (k : Kp C.ex [] s.heap h') (ht : 1 ≤ t') : C.Ws A { s with heap := h', toks := t' } := w.next k (fun _ m => nomatch m) ht

/-- a def's (or a comprehension's) standing data -/
structure Fn where
  sc : Scope
  cd : Value
  fk : sc.kind = .function
  q : Tx
  fa : Option Addr
  fr : Addr → Option Addr
  cs : Addr → List (Tx × Addr)
noncomputable def Fn.env (f : Fn) (L : Addr) : Env := { scope := f.sc, locals := L, globals := mainGlobals, cells := f.cs L, qual := f.q, func := f.fa, code := f.cd, frame := f.fr L, builtins := builtinsNs }
noncomputable def Fn.of (nm : Tx) (sc : Scope) (a : Addr) (cd : Value) (fk : sc.kind = .function) : Fn := ⟨sc, cd, fk, nm ++ ".<locals>.", some a, some, fun _ => []⟩
/-- the frame of a comprehension that stands in f's frame at L -/
noncomputable def Fn.comp (f : Fn) (sc : Scope) (fk : sc.kind = .function) (L : Addr) : Fn := ⟨sc, f.cd, fk, f.q, none, fun _ => f.fr L, fun _ => []⟩
noncomputable def Rm (c : Nat) (A : Around) : Prop := A.handled = Option.none ∧ A.depth + c < recursionLimit ∧ A.units + 8 * c < cLine
theorem Rm.handled {c : Nat} {A : Around} (r : Rm c A) : A.handled = Option.none := r.1
theorem Rm.lt {c : Nat} {A : Around} (r : Rm c A) : A.depth < recursionLimit := Nat.lt_of_le_of_lt (Nat.le_add_right _ _) r.2.1
theorem Rm.units {c : Nat} {A : Around} (r : Rm c A) : A.units < cLine := Nat.lt_of_le_of_lt (Nat.le_add_right _ _) r.2.2
theorem Rm.less {c d : Nat} {A : Around} (r : Rm c A) (h : d ≤ c) : Rm d A := ⟨r.1, by have := r.2.1; omega, by have := r.2.2; omega⟩
theorem Rm.deeper {c : Nat} {A : Around} {env : Env} (r : Rm (c + 1) A) : Rm c (A.deeper env) := ⟨r.1, by have := r.2.1; show A.depth + 1 + c < _; omega, by have := r.2.2; show A.units + 3 + 8 * c < _; omega⟩

noncomputable def Bd (X : List Addr) (h : Heap) : Prop := ∀ a ∈ X, (h.get? a).isSome = true
theorem Bd.kp {x : Option Nat} {X : List Addr} {h h' : Heap} (b : Bd X h) (k : Kp x [] h h') : Bd X h' := fun a m => by
  obtain ⟨o, ho⟩ := Option.isSome_iff_exists.mp (b a m)
  exact k.live (fun m => nomatch m) ho
theorem Bd.size {X : List Addr} {h : Heap} (b : Bd X h) : h.objs.size ∉ X := fun m => by
  obtain ⟨o, ho⟩ := Option.isSome_iff_exists.mp (b _ m)
  exact absurd (Heap.lt_size ho) (Nat.lt_irrefl _)

abbrev Lo := Tx → Option PV
noncomputable def upd (ρ : Lo) (y : Tx) (x : PV) : Lo := fun z => if z = y then some x else ρ z
theorem upd_same (ρ : Lo) (y : Tx) (x : PV) : upd ρ y x y = some x := if_pos rfl
theorem upd_ne (ρ : Lo) {y z : Tx} (x : PV) (h : z ≠ y) : upd ρ y x z = ρ z := if_neg h

noncomputable def Loc (X : List Addr) (h : Heap) (L : Addr) (ρ : Lo) : Prop := ∃ m, h.Ns L m ∧ ∀ y x, ρ y = some x → ∃ v, m y = some v ∧ Rep X h v x
theorem Loc.kp {x0 : Option Nat} {X : List Addr} {h h' : Heap} {L : Addr} {ρ : Lo} (l : Loc X h L ρ) (k : Kp x0 [] h h') : Loc X h' L ρ :=
  let ⟨m, hn, hv⟩ := l
  ⟨m, k.ns hn (fun m => nomatch m), fun y x e => let ⟨v, a, r⟩ := hv y x e; ⟨v, a, r.kp k⟩⟩

section
variable (C : Cx) (c : Nat)

/-- what an expression gives back in a frame whose names hold ρ -/
noncomputable def EV (f : Fn) (e : Expr) (ρ : Lo) (P : PV → Prop) : Prop :=
  ∀ (A : Around) (X : List Addr) (L : Addr) (s : Shared) (Q E : Value → Shared → Prop), Rm c A → C.Ws A s → True → Bd X s.heap → Loc X s.heap L ρ →
    (∀ x v h' t', P x → Kp C.ex [] s.heap h' → Rep X h' v x → Q v { s with heap := h', toks := t' }) → wpAny (model C.prog C.w) A (eval e (f.env L)) Q E s

/-- what a step upon values gives back -/
noncomputable def OV (t : Value → Value → Sem Value) (a b : PV) (P : PV → Prop) : Prop :=
  ∀ (A : Around) (X : List Addr) (s : Shared) (va vb : Value) (Q E : Value → Shared → Prop), Rm c A → C.Ws A s → Bd X s.heap → Rep X s.heap va a → Rep X s.heap vb b →
    (∀ x v h' t', P x → Kp C.ex [] s.heap h' → Rep X h' v x → Q v { s with heap := h', toks := t' }) → wpAny (model C.prog C.w) A (t va vb) Q E s

/-- the truth of an expression -/
noncomputable def TV (f : Fn) (e : Expr) (ρ : Lo) (P : Bool → Prop) : Prop :=
  ∀ (A : Around) (X : List Addr) (L : Addr) (s : Shared) (Q : Bool → Shared → Prop) (E : Value → Shared → Prop), Rm c A → C.Ws A s → True → Bd X s.heap → Loc X s.heap L ρ →
    (∀ x h' t', P x → Kp C.ex [] s.heap h' → Q x { s with heap := h', toks := t' }) → wpAny (model C.prog C.w) A (isTrue e (f.env L) (eval e (f.env L))) Q E s
end

section
variable {C : Cx} {c : Nat} {f : Fn} {ρ : Lo} {P : PV → Prop}

theorem EV.mono {e : Expr} {P' : PV → Prop} (h : EV C c f e ρ P) (i : ∀ x, P x → P' x) : EV C c f e ρ P' :=
  fun A X L s Q E r w n b l k => h A X L s Q E r w n b l fun x v h' t' p => k x v h' t' (i x p)
theorem EV.name {x : Tx} {pos : Pos} {v : PV} (hv : ρ x = some v) (hp : P v) (hl : f.sc.names.lookup x = some .local) (hd : (x == ("__debug__" : Tx)) = false := by decide) :
    EV C c f (.Name x pos) ρ P := by
  intro A X L s Q E r w n b l k
  obtain ⟨m, hn, hm⟩ := l
  obtain ⟨u, hu, rep⟩ := hm x v hv
  exact wpAny_Name (wpAny_loadName_local (env := f.env L) f.fk hl hn hu (k v u s.heap s.toks hp (Kp.refl _ _) rep)) hd

theorem EV.int {i : Int} {k : Nat} {pos : Pos} (hp : P (.sc (.int i))) : EV C c f (.Constant (.int i) k pos) ρ P :=
  fun _ _ _ s _ _ _ _ _ _ _ kk => wpAny_Constant_int (kk _ _ s.heap _ hp (Kp.refl _ _) (.sc (.int i _)))
theorem EV.str {x : Tx} {k : Nat} {pos : Pos} (hp : P (.sc (.str x))) : EV C c f (.Constant (.str x) k pos) ρ P :=
  fun _ _ _ s _ _ _ _ _ _ _ kk => wpAny_Constant_str (kk _ _ s.heap _ hp (Kp.refl _ _) (.sc (.str x _)))
theorem EV.bool {x : Bool} {k : Nat} {pos : Pos} (hp : P (.sc (.bool x))) : EV C c f (.Constant (.bool x) k pos) ρ P :=
  fun _ _ _ s _ _ _ _ _ _ _ kk => wpAny_Constant_bool (kk _ _ s.heap s.toks hp (Kp.refl _ _) (.sc (.bool x)))
theorem EV.none {k : Nat} {pos : Pos} (hp : P (.sc .none)) : EV C c f (.Constant .none k pos) ρ P :=
  fun _ _ _ s _ _ _ _ _ _ _ kk => wpAny_Constant_none (kk _ _ s.heap s.toks hp (Kp.refl _ _) (.sc .none))

theorem EV.run {e : Expr} (h : EV C c f e ρ P) {A : Around} {X : List Addr} {L : Addr} {s : Shared} {Q E : Value → Shared → Prop} (rm : Rm c A) (w : C.Ws A s) (n : True) (b : Bd X s.heap) (lo : Loc X s.heap L ρ)
    (k : ∀ x v h' t', P x → Kp C.ex [] s.heap h' → Rep X h' v x → C.Ws A { s with heap := h', toks := t' } → Bd X h' → Loc X h' L ρ → Q v { s with heap := h', toks := t' }) : wpAny (model C.prog C.w) A (eval e (f.env L)) Q E s :=
  wpAny_with_toks (n := 1) w.2 (h A X L s _ _ rm w n b lo fun x v h' t' p kk r ht => k x v h' t' p kk r (w.next0 kk ht) (b.kp kk) (lo.kp kk))
theorem OV.run {t : Value → Value → Sem Value} {a b : PV} (h : OV C c t a b P) {A : Around} {X : List Addr} {s : Shared} {va vb : Value} {Q E : Value → Shared → Prop} (rm : Rm c A) (w : C.Ws A s) (bd : Bd X s.heap) (ra : Rep X s.heap va a) (rb : Rep X s.heap vb b)
    (k : ∀ x v h' t', P x → Kp C.ex [] s.heap h' → Rep X h' v x → C.Ws A { s with heap := h', toks := t' } → Q v { s with heap := h', toks := t' }) : wpAny (model C.prog C.w) A (t va vb) Q E s :=
  wpAny_with_toks (n := 1) w.2 (h A X s va vb _ _ rm w bd ra rb fun x v h' t' p kk r ht => k x v h' t' p kk r (w.next0 kk ht))

/-- two operands, the one after the other, then a step upon both -/
theorem two {l r : Expr} {t : Value → Value → Sem Value} (h : EV C c f l ρ fun a => EV C c f r ρ fun b => OV C c t a b P)
    {A : Around} {X : List Addr} {L : Addr} {s : Shared} {Q E : Value → Shared → Prop} (rm : Rm c A) (w : C.Ws A s) (n : True) (b : Bd X s.heap) (lo : Loc X s.heap L ρ)
    (k : ∀ x v h' t', P x → Kp C.ex [] s.heap h' → Rep X h' v x → Q v { s with heap := h', toks := t' }) :
    wpAny (model C.prog C.w) A (eval l (f.env L)) (fun a s₁ => wpAny (model C.prog C.w) A (eval r (f.env L)) (fun b s₂ => wpAny (model C.prog C.w) A (t a b) Q E s₂) E s₁) E s := by
  refine h.run rm w n b lo fun a va h1 t1 ha k1 r1 w1 b1 l1 => ?_
  refine EV.run ha rm w1 n b1 l1 fun b' vb h2 t2 hb k2 r2 w2 b2 l2 => ?_
  exact hb A X _ va vb Q E rm w2 b2 (r1.kp k2) r2 fun x v h3 t3 p k3 r3 => k x v h3 t3 p ((k1.trans k2).trans k3) r3

theorem EV.bin {l r : Expr} {op : Operator} {pos : Pos} (h : EV C c f l ρ fun a => EV C c f r ρ fun b => OV C c (binaryOp op) a b P) : EV C c f (.BinOp l op r pos) ρ P :=
  fun _ _ _ _ _ _ rm w n b lo k => wpAny_BinOp (two h rm w n b lo k)
theorem EV.cmp {l r : Expr} {op : CmpOp} {pos : Pos} (h : EV C c f l ρ fun a => EV C c f r ρ fun b => OV C c (compareOp op) a b P)
    (hm : behindInMarks op r = false := by with_unfolding_all rfl) : EV C c f (.Compare l [op] [r] pos) ρ P :=
  fun _ _ _ _ _ _ rm w n b lo k => wpAny_Compare1 (two h rm w n b lo k) hm

-- steps upon scalars
theorem OV.ints {t : Value → Value → Sem Value} {i j : Int} {P : PV → Prop}
    (h : ∀ (A : Around) (s : Shared) (ti tj : Tok) (Q E : Value → Shared → Prop), Rm c A → (∀ x v t', P (.sc x) → ScR v x → Q v { s with toks := t' }) → wpAny (model C.prog C.w) A (t (.int i ti) (.int j tj)) Q E s) :
    OV C c t (.sc (.int i)) (.sc (.int j)) P := by
  intro A X s va vb Q E r w b ra rb k
  cases ra with | sc ra => cases rb with | sc rb => cases ra; cases rb; exact h A s _ _ Q E r fun x v t' p q => k _ v s.heap t' p (Kp.refl _ _) (.sc q)
theorem OV.strs {t : Value → Value → Sem Value} {i j : Tx} {P : PV → Prop}
    (h : ∀ (A : Around) (s : Shared) (ti tj : Tok) (Q E : Value → Shared → Prop), Rm c A → (∀ x v t', P (.sc x) → ScR v x → Q v { s with toks := t' }) → wpAny (model C.prog C.w) A (t (.str i ti) (.str j tj)) Q E s) :
    OV C c t (.sc (.str i)) (.sc (.str j)) P := by
  intro A X s va vb Q E r w b ra rb k
  cases ra with | sc ra => cases rb with | sc rb => cases ra; cases rb; exact h A s _ _ Q E r fun x v t' p q => k _ v s.heap t' p (Kp.refl _ _) (.sc q)

theorem OV.add {i j : Int} (hp : P (.sc (.int (i + j)))) : OV C c (binaryOp .Add) (.sc (.int i)) (.sc (.int j)) P :=
  .ints fun _ _ _ _ _ _ _ k => PyProof.Rows.add_int (k _ _ _ hp (.int _ _))
theorem OV.sub {i j : Int} (hp : P (.sc (.int (i - j)))) : OV C c (binaryOp .Sub) (.sc (.int i)) (.sc (.int j)) P :=
  .ints fun _ _ _ _ _ _ _ k => PyProof.Rows.sub_int (k _ _ _ hp (.int _ _))
theorem OV.mul {i j : Int} (hm : IntMulOk i j) (hp : P (.sc (.int (i * j)))) : OV C c (binaryOp .Mult) (.sc (.int i)) (.sc (.int j)) P :=
  .ints fun _ _ _ _ _ _ _ k => PyProof.Rows.mul_int (k _ _ _ hp (.int _ _)) hm
theorem OV.mod {i j : Int} (hj : 0 < j) (hp : P (.sc (.int (i % j)))) : OV C c (binaryOp .Mod) (.sc (.int i)) (.sc (.int j)) P :=
  .ints fun _ _ _ _ _ _ _ k => PyProof.Rows.mod_int (by omega) (k _ _ _ (by rw [Int.fmod_eq_emod_of_nonneg _ (Int.le_of_lt hj)]; exact hp) (.int _ _))
theorem OV.fdiv {i j : Int} (hj : 0 < j) (hj2 : j < 1073741824) (hp : P (.sc (.int (i / j)))) : OV C c (binaryOp .FloorDiv) (.sc (.int i)) (.sc (.int j)) P :=
  .ints fun _ _ _ _ _ _ _ k => PyProof.Rows.floordiv_int (by omega) (k _ _ _ (by rw [Int.fdiv_eq_ediv_of_nonneg _ (Int.le_of_lt hj)]; exact hp) (.int _ _)) (.inl (PyProof.noPylong_small (by omega)))
theorem OV.eqI {i j : Int} (hp : P (.sc (.bool (i == j)))) : OV C c (compareOp .Eq) (.sc (.int i)) (.sc (.int j)) P :=
  .ints fun _ _ _ _ _ _ _ k => PyProof.Rows.eq_int (k _ _ _ hp (.bool _))
theorem OV.ltI {i j : Int} (hp : P (.sc (.bool (decide (i < j))))) : OV C c (compareOp .Lt) (.sc (.int i)) (.sc (.int j)) P :=
  .ints fun _ _ _ _ _ _ _ k => PyProof.Rows.lt_int (k _ _ _ hp (.bool _))
theorem OV.eqS {i j : Tx} (hp : P (.sc (.bool (i == j)))) : OV C c (compareOp .Eq) (.sc (.str i)) (.sc (.str j)) P :=
  .strs fun _ _ _ _ _ _ _ k => PyProof.Rows.eq_str (k _ _ _ hp (.bool _))
theorem OV.addS {i j : Tx} (hz : i.length + j.length ≤ sizeLine) (hp : P (.sc (.str (i ++ j)))) : OV C c (binaryOp .Add) (.sc (.str i)) (.sc (.str j)) P :=
  .strs fun _ _ _ _ _ _ _ k => PyProof.Rows.add_str (fun _ _ => k _ _ _ hp (.str _ _)) hz
end
end Mine
end
section
open PySem PySem.W PyProof.Rows
set_option Elab.async false
namespace Mine

/-- as EV, and what comes back is new -/
noncomputable def EVN (C : Cx) (c : Nat) (f : Fn) (e : Expr) (ρ : Lo) (P : PV → Prop) : Prop :=
  ∀ (A : Around) (X : List Addr) (L : Addr) (s : Shared) (Q E : Value → Shared → Prop), Rm c A → C.Ws A s → True → Bd X s.heap → Loc X s.heap L ρ →
    (∀ x v h' t', P x → Kp C.ex [] s.heap h' → Rep X h' v x → (∀ a, v = .ref a → s.heap.get? a = none ∧ C.nw a) → Q v { s with heap := h', toks := t' }) → wpAny (model C.prog C.w) A (eval e (f.env L)) Q E s

noncomputable def SI (C : Cx) (X : List Addr) (O : List (Tx × Addr)) (h : Heap) (L : Addr) (ρ : Lo) : Prop :=
  (∃ m, h.Ns L m ∧ (∀ y x, y ∉ O.map (·.1) → ρ y = some x → ∃ v, m y = some v ∧ Rep (O.map (·.2) ++ X) h v x) ∧
    ∀ p ∈ O, m p.1 = some (.ref p.2) ∧ ∃ vs n l, h.get? p.2 = some (seqObj "list" vs n) ∧ ScsR vs l ∧ ρ p.1 = some (.list l)) ∧
  (O.map (·.1)).Nodup ∧ (O.map (·.2)).Nodup ∧ (∀ p ∈ O, C.nw p.2 ∧ p.2 ∉ X) ∧ Bd (O.map (·.2) ++ X) h

inductive Out where
  | next (ρ : Lo) | ret (x : PV) | brk (ρ : Lo) | cont (ρ : Lo)

noncomputable def OutR (C : Cx) (X : List Addr) (O : List (Tx × Addr)) (h : Heap) (L : Addr) (fl : Flow) : Out → Prop
  | .next ρ => fl = .next ∧ SI C X O h L ρ
  | .brk ρ => fl = .brk ∧ SI C X O h L ρ
  | .cont ρ => fl = .cont ∧ SI C X O h L ρ
  | .ret x => ∃ v, fl = .ret v ∧ Rep X h v x

noncomputable def ESof (C : Cx) (c : Nat) (t : Addr → Sem Flow) (ρ : Lo) (O : List (Tx × Addr)) (P : Out → Prop) : Prop :=
  ∀ (A : Around) (X : List Addr) (L : Addr) (s : Shared) (Q : Flow → Shared → Prop) (E : Value → Shared → Prop), Rm c A → C.Ws A s → C.nw L → SI C X O s.heap L ρ →
    (∀ o fl h' t', P o → Kp C.ex (L :: O.map (·.2)) s.heap h' → OutR C X O h' L fl o → Q fl { s with heap := h', toks := t' }) → wpAny (model C.prog C.w) A (t L) Q E s
noncomputable def ES (C : Cx) (c : Nat) (f : Fn) (sts : List Stmt) (ρ : Lo) (O : List (Tx × Addr)) (P : Out → Prop) : Prop := ESof C c (fun L => execs sts (f.env L)) ρ O P
noncomputable def ES1 (C : Cx) (c : Nat) (f : Fn) (st : Stmt) (ρ : Lo) (O : List (Tx × Addr)) (P : Out → Prop) : Prop := ESof C c (fun L => exec st (f.env L)) ρ O P

section
variable {C : Cx} {c : Nat} {f : Fn} {ρ : Lo}

theorem SI.loc {X : List Addr} {O : List (Tx × Addr)} {h : Heap} {L : Addr} (i : SI C X O h L ρ) : Loc X h L ρ :=
  let ⟨⟨m, hn, hv, ho⟩, _, _, n3, _⟩ := i
  ⟨m, hn, fun y x e => by
    by_cases hy : y ∈ O.map (·.1)
    · obtain ⟨p, hp, rfl⟩ := List.mem_map.mp hy
      obtain ⟨q1, vs, n, l, q2, q3, q4⟩ := ho p hp
      rw [e] at q4; cases q4
      exact ⟨_, q1, .list (n3 p hp).2 ⟨_, q2, rfl, n, rfl⟩ q3⟩
    · obtain ⟨v, hm, q⟩ := hv y x hy e
      exact ⟨v, hm, q.less fun a m => List.mem_append_right _ m⟩⟩
theorem Bd.right {X Y : List Addr} {h : Heap} (b : Bd (Y ++ X) h) : Bd X h := fun a m => b a (List.mem_append_right _ m)
theorem SI.bd {X : List Addr} {O : List (Tx × Addr)} {h : Heap} {L : Addr} (i : SI C X O h L ρ) : Bd X h := i.2.2.2.2.right
theorem SI.n0 {X : List Addr} {O : List (Tx × Addr)} {h : Heap} {L : Addr} (i : SI C X O h L ρ) (hL : C.nw L) : ∀ a ∈ L :: O.map (·.2), C.nw a := by
  intro a m
  rcases List.mem_cons.mp m with rfl | m
  · exact hL
  · obtain ⟨p, hp, rfl⟩ := List.mem_map.mp m
    exact (i.2.2.2.1 p hp).1
theorem SI.dictL {X : List Addr} {O : List (Tx × Addr)} {h : Heap} {L : Addr} (i : SI C X O h L ρ) : ∃ es n c d sl, h.get? L = some ⟨c, d, .dict es n, sl⟩ := by
  obtain ⟨⟨m, hn, _⟩, _⟩ := i
  obtain ⟨⟨c, d, dt, sl⟩, es, ep, e1, e2, _⟩ := hn
  simp only at e2; subst e2
  exact ⟨es, ep, c, d, sl, e1⟩
/-- steps that touch nothing of the frame's -/
theorem SI.keepG {x0 : Option Nat} {X Y : List Addr} {O : List (Tx × Addr)} {h h' : Heap} {L : Addr} (i : SI C X O h L ρ) (k : Kp x0 Y h h') (nL : L ∉ Y) (hY : ∀ b ∈ Y, ¬ SeqAt h b) (hbd : Bd (O.map (·.2) ++ X) h') : SI C X O h' L ρ := by
  obtain ⟨⟨m, hn, hv, ho⟩, a, b, d, _⟩ := i
  refine ⟨⟨m, k.ns hn nL, fun y x hy e => ?_, fun p hp => ?_⟩, a, b, d, hbd⟩
  · obtain ⟨v, hm, q⟩ := hv y x hy e
    exact ⟨v, hm, q.keep k fun a m => .inr (hY a m)⟩
  · obtain ⟨q1, vs, n, l, q2, q3, q4⟩ := ho p hp
    exact ⟨q1, vs, n, l, k.get (fun m => hY _ m ⟨_, _, _, q2, rfl⟩) q2 (fun es m e => by cases e), q3, q4⟩
theorem SI.kp {x0 : Option Nat} {X : List Addr} {O : List (Tx × Addr)} {h h' : Heap} {L : Addr} (i : SI C X O h L ρ) (k : Kp x0 [] h h') : SI C X O h' L ρ :=
  i.keepG k (fun m => nomatch m) (fun _ m => nomatch m) (i.2.2.2.2.kp k)

theorem Bd.but {X : List Addr} {h h' : Heap} {L : Addr} (b : Bd X h) (s : Heap.SameBut L h h') (hL : (h'.get? L).isSome = true) : Bd X h' := fun a m => by
  by_cases q : a = L
  · subst q; exact hL
  · rw [s.2 a q]; exact b a m

/-- a name of the frame gets another value -/
theorem SI.store {X : List Addr} {O : List (Tx × Addr)} {h h' : Heap} {L : Addr} {m : Tx → Option Value} {y : Tx} {v : Value} {x : PV} (i : SI C X O h L ρ) (hm0 : h.Ns L m)
    (hm : h'.Ns L (fun z => if z = y then some v else m z)) (s : Heap.SameBut L h h') (r : Rep (O.map (·.2) ++ X) h v x) (hy : y ∉ O.map (·.1)) : SI C X O h' L (upd ρ y x) := by
  have hL := i.dictL
  obtain ⟨⟨m', hn, hv, ho⟩, a, b, d, e⟩ := i
  have hmm : m' = m := by
    obtain ⟨o, es, ep, e1, e2, _, e4⟩ := hn
    obtain ⟨o', es', ep', f1, f2, _, f4⟩ := hm0
    rw [e1] at f1; cases f1
    rw [e2] at f2; cases f2
    funext z; rw [← e4, ← f4]
  subst hmm
  have keep : ∀ {Z : List Addr} {u : Value} {z : PV}, Rep Z h u z → Rep Z h' u z := fun r => r.keep (Kp.but (x := Option.none) s fun _ => Ns.dictAt hm) fun a m => by
    obtain rfl : a = L := by simpa using m
    exact .inr (not_seq_dict hL)
  refine ⟨⟨_, hm, fun z w hz hzw => ?_, fun p hp => ?_⟩, a, b, d, e.but s (by obtain ⟨o, _, _, q, _⟩ := hm; rw [q]; rfl)⟩
  · by_cases hzy : z = y
    · subst hzy
      rw [upd_same] at hzw; cases hzw
      exact ⟨v, by simp, keep r⟩
    · rw [upd_ne _ _ hzy] at hzw
      obtain ⟨u, hu, q⟩ := hv z w hz hzw
      exact ⟨u, by simp [hzy, hu], keep q⟩
  · have hne : p.1 ≠ y := fun q => hy (q ▸ List.mem_map.mpr ⟨p, hp, rfl⟩)
    obtain ⟨q1, vs, n, l, q2, q3, q4⟩ := ho p hp
    refine ⟨by simp [hne, q1], vs, n, l, (s.2 _ fun q => ?_).trans q2, q3, by rw [upd_ne _ _ hne]; exact q4⟩
    obtain ⟨es, n', c', d', sl, w⟩ := hL
    rw [← q, q2] at w; cases w

theorem TV.run {e : Expr} {P : Bool → Prop} (h : TV C c f e ρ P) {A : Around} {X : List Addr} {L : Addr} {s : Shared} {Q : Bool → Shared → Prop} {E : Value → Shared → Prop} (rm : Rm c A) (w : C.Ws A s) (n : True) (b : Bd X s.heap) (lo : Loc X s.heap L ρ)
    (k : ∀ x h' t', P x → Kp C.ex [] s.heap h' → C.Ws A { s with heap := h', toks := t' } → Q x { s with heap := h', toks := t' }) : wpAny (model C.prog C.w) A (isTrue e (f.env L) (eval e (f.env L))) Q E s :=
  wpAny_with_toks (n := 1) w.2 (h A X L s _ _ rm w n b lo fun x h' t' p kk ht => k x h' t' p kk (w.next0 kk ht))
theorem ESof.run {t : Addr → Sem Flow} {O : List (Tx × Addr)} {P : Out → Prop} (h : ESof C c t ρ O P) {A : Around} {X : List Addr} {L : Addr} {s : Shared} {Q : Flow → Shared → Prop} {E : Value → Shared → Prop} (rm : Rm c A) (w : C.Ws A s) (n : C.nw L) (i : SI C X O s.heap L ρ)
    (k : ∀ o fl h' t', P o → Kp C.ex (L :: O.map (·.2)) s.heap h' → OutR C X O h' L fl o → C.Ws A { s with heap := h', toks := t' } → Q fl { s with heap := h', toks := t' }) : wpAny (model C.prog C.w) A (t L) Q E s :=
  wpAny_with_toks (n := 1) w.2 (h A X L s _ _ rm w n i fun o fl h' t' p kk oR ht => k o fl h' t' p kk oR (w.next kk (i.n0 n) ht))

theorem ES.nil {O : List (Tx × Addr)} {P : Out → Prop} (h : P (.next ρ)) : ES C c f [] ρ O P :=
  fun _ _ L s _ _ _ _ _ i k => wpAny_execs_nil (k _ _ s.heap s.toks h (Kp.refl _ _) ⟨rfl, i⟩)

theorem ES.cons {O : List (Tx × Addr)} {st : Stmt} {rest : List Stmt} {P : Out → Prop} (h : ES1 C c f st ρ O fun o => match o with | .next ρ' => ES C c f rest ρ' O P | o => P o) : ES C c f (st :: rest) ρ O P := by
  intro A X L s Q E r w n i k
  refine wpAny_execs_cons (ESof.run h r w n i fun o fl h' t' p kk oR w' => ?_)
  cases o with
  | next ρ' =>
    obtain ⟨rfl, i'⟩ := oR
    exact p A X L _ Q E r w' n i' fun o' fl' h'' t'' p' kk' oR' => k o' fl' h'' t'' p' (kk.trans kk') oR'
  | ret x => obtain ⟨v, rfl, q⟩ := oR; exact k _ _ h' t' p kk ⟨v, rfl, q⟩
  | brk ρ' => obtain ⟨rfl, q⟩ := oR; exact k _ _ h' t' p kk ⟨rfl, q⟩
  | cont ρ' => obtain ⟨rfl, q⟩ := oR; exact k _ _ h' t' p kk ⟨rfl, q⟩

theorem ES1.ret {O : List (Tx × Addr)} {e : Expr} {pos : Pos} {P : Out → Prop} (h : EV C c f e ρ fun x => P (.ret x)) : ES1 C c f (.Return (some e) pos) ρ O P :=
  fun A X L s _ E r w n i k => wpAny_Return_some (h A X L s _ E r w trivial i.bd i.loc fun x v h' t' p kk rep => k (.ret x) _ h' t' p kk.all ⟨v, rfl, rep⟩)

theorem ES1.ite {O : List (Tx × Addr)} {e : Expr} {b o : List Stmt} {pos : Pos} {P : Out → Prop} (h : TV C c f e ρ fun t => if t = true then ES C c f b ρ O P else ES C c f o ρ O P) : ES1 C c f (.If e b o pos) ρ O P := by
  intro A X L s Q E r w n i k
  refine wpAny_If (h.run r w trivial i.bd i.loc fun t h' t' p kk w' => ?_)
  have i' := i.kp kk
  cases t with
  | true => exact p A X L _ Q E r w' n i' fun o' fl' h'' t'' p' kk' oR' => k o' fl' h'' t'' p' (kk.all.trans kk') oR'
  | false => exact p A X L _ Q E r w' n i' fun o' fl' h'' t'' p' kk' oR' => k o' fl' h'' t'' p' (kk.all.trans kk') oR'

noncomputable def PV.isSc : PV → Bool
  | .sc _ => true
  | _ => false
theorem Rep.any {X Z : List Addr} {h : Heap} {v : Value} {x : PV} (r : Rep X h v x) (e : x.isSc = true) : Rep Z h v x := by
  cases r with
  | sc r => exact .sc r
  | list => cases e
  | tup => cases e
  | obj => cases e

theorem ES1.assign {O : List (Tx × Addr)} {y : Tx} {value : Expr} {pos pos' : Pos} {P : Out → Prop} (h : EV C c f value ρ fun x => (x.isSc = true ∨ O = []) ∧ P (.next (upd ρ y x))) (hy : y ∉ O.map (·.1))
    (hl : f.sc.names.lookup y = some .local) (hs : ∀ L, swapsWith value (some (.Name y pos')) pos.line (f.env L) = pure false) : ES1 C c f (.Assign [.Name y pos'] value pos) ρ O P := by
  intro A X L s Q E r w n i k
  refine wpAny_Assign_Name (h A X L s _ E r w trivial i.bd i.loc fun x v h1 t1 p k1 r1 => ?_) (hs L)
  have i' := i.kp k1
  obtain ⟨m, hn, _⟩ := i'.1
  refine wpAny_storeName_local (env := f.env L) hl hn (fun h2 hn2 sb => ?_) (by show (f.sc.kind == .class || (f.sc.kind == .module && L != mainGlobals)) = false; rw [f.fk]; rfl)
  have rep : Rep (O.map (·.2) ++ X) h1 v x := by
    rcases p.1 with q | q
    · exact r1.any q
    · subst q; exact r1
  exact k _ _ h2 _ p.2 ((k1.all.trans (Kp.but (L := L) sb fun _ => Ns.dictAt hn2)).mono fun a m => by rw [List.mem_singleton.mp m]; exact List.mem_cons_self) ⟨rfl, i'.store hn hn2 sb rep hy⟩

-- truth
theorem TV.val {e : Expr} {P : Bool → Prop} (h : EV C c f e ρ fun x => ∃ b, x = .sc (.bool b) ∧ P b)
    (he : ∀ L, isTrue e (f.env L) (eval e (f.env L)) = (do let v ← eval e (f.env L); standAt e.pos; holding [v] (truthy v))) : TV C c f e ρ P := by
  intro A X L s Q E r w n b l k
  refine wpAny_isTrue_value (h A X L s _ E r w n b l fun x v h' t' p kk rep => ?_) (he L)
  obtain ⟨t, rfl, p⟩ := p
  cases rep with | sc q => cases q; exact wpAny_truthy_bool (k t h' t' p kk)
theorem TV.cmp {l r : Expr} {op : CmpOp} {pos : Pos} {P : Bool → Prop} (h : EV C c f l ρ fun a => EV C c f r ρ fun b => OV C c (compareOp op) a b fun x => ∃ t, x = .sc (.bool t) ∧ P t)
    (hm : behindInMarks op r = false := by with_unfolding_all rfl) : TV C c f (.Compare l [op] [r] pos) ρ P := by
  intro A X L s Q E rm w n b lo k
  refine wpAny_isTrue_Compare1 (two (t := compareOp op) h rm w n b lo fun x v h' t' p kk rep => ?_) hm
  obtain ⟨t, rfl, p⟩ := p
  cases rep with | sc q => cases q; exact wpAny_truthy_bool (k t h' t' p kk)
theorem TV.not {e : Expr} {pos : Pos} {P : Bool → Prop} (h : TV C c f e ρ fun b => P (!b)) : TV C c f (.UnaryOp .Not e pos) ρ P :=
  fun A X L s _ E r w n b l k => wpAny_isTrue_Not (h A X L s _ E r w n b l fun x h' t' p kk => k _ h' t' p kk)
theorem TV.mono {e : Expr} {P P' : Bool → Prop} (h : TV C c f e ρ P) (i : ∀ b, P b → P' b) : TV C c f e ρ P' :=
  fun A X L s Q E r w n b l k => h A X L s Q E r w n b l fun x h' t' p => k x h' t' (i x p)

/-- all of several tests, or one of them -/
noncomputable def TVs (C : Cx) (c : Nat) (f : Fn) (op : BoolOp) (es : List Expr) (ρ : Lo) (P : Bool → Prop) : Prop :=
  ∀ (A : Around) (X : List Addr) (L : Addr) (s : Shared) (Q : Bool → Shared → Prop) (E : Value → Shared → Prop), Rm c A → C.Ws A s → True → Bd X s.heap → Loc X s.heap L ρ →
    (∀ x h' t', P x → Kp C.ex [] s.heap h' → Q x { s with heap := h', toks := t' }) → wpAny (model C.prog C.w) A (allTrue op es (f.env L)) Q E s
theorem TV.boolOp {op : BoolOp} {es : List Expr} {pos : Pos} {P : Bool → Prop} (h : TVs C c f op es ρ P) : TV C c f (.BoolOp op es pos) ρ P :=
  fun A X L s Q E r w n b l k => wpAny_isTrue_BoolOp (h A X L s Q E r w n b l k)
theorem TVs.andNil {P : Bool → Prop} (h : P true) : TVs C c f .And [] ρ P := fun _ _ _ s _ _ _ _ _ _ _ k => wpAny_allTrue_And_nil (k _ s.heap s.toks h (Kp.refl _ _))
theorem TVs.orNil {P : Bool → Prop} (h : P false) : TVs C c f .Or [] ρ P := fun _ _ _ s _ _ _ _ _ _ _ k => wpAny_allTrue_Or_nil (k _ s.heap s.toks h (Kp.refl _ _))
theorem TVs.andCons {e : Expr} {es : List Expr} {P : Bool → Prop} (h : TV C c f e ρ fun b => if b = true then TVs C c f .And es ρ P else P false) : TVs C c f .And (e :: es) ρ P := by
  intro A X L s Q E r w n b l k
  refine wpAny_allTrue_And_cons (h.run r w n b l fun t h' t' p kk w' => ?_)
  cases t with
  | true => exact p A X L _ Q E r w' n (b.kp kk) (l.kp kk) fun x h'' t'' p' kk' => k x h'' t'' p' (kk.trans kk')
  | false => exact k _ h' t' p kk
theorem TVs.orCons {e : Expr} {es : List Expr} {P : Bool → Prop} (h : TV C c f e ρ fun b => if b = true then P true else TVs C c f .Or es ρ P) : TVs C c f .Or (e :: es) ρ P := by
  intro A X L s Q E r w n b l k
  refine wpAny_allTrue_Or_cons (h.run r w n b l fun t h' t' p kk w' => ?_)
  cases t with
  | false => exact p A X L _ Q E r w' n (b.kp kk) (l.kp kk) fun x h'' t'' p' kk' => k x h'' t'' p' (kk.trans kk')
  | true => exact k _ h' t' p kk
theorem EV.ite {t b o : Expr} {pos : Pos} {P : PV → Prop} (h : TV C c f t ρ fun x => if x = true then EV C c f b ρ P else EV C c f o ρ P) : EV C c f (.IfExp t b o pos) ρ P := by
  intro A X L s Q E r w n bd l k
  refine wpAny_IfExp (h.run r w n bd l fun x h' t' p kk w' => ?_)
  cases x with
  | true => exact p A X L _ Q E r w' n (bd.kp kk) (l.kp kk) fun x v h'' t'' p' kk' => k x v h'' t'' p' (kk.trans kk')
  | false => exact p A X L _ Q E r w' n (bd.kp kk) (l.kp kk) fun x v h'' t'' p' kk' => k x v h'' t'' p' (kk.trans kk')
end
end Mine
end
section
open PySem PySem.W PyProof.Rows
set_option Elab.async false
namespace Mine

section
variable {C : Cx} {c : Nat} {f : Fn} {ρ : Lo} {O : List (Tx × Addr)}

theorem ES1.while {P : Out → Prop} {test : Expr} {body orelse : List Stmt} {pos : Pos} (J : Nat → Lo → Prop) (n : Nat) (h0 : J n ρ)
    (turn : ∀ k ρ', J k ρ' → TV C c f test ρ' fun b => if b = true then ES C c f body ρ' O (fun o => match o with
      | .next ρ'' => ∃ j, j < k ∧ J j ρ'' | .cont ρ'' => ∃ j, j < k ∧ J j ρ'' | .brk ρ'' => P (.next ρ'') | .ret x => P (.ret x)) else ES C c f orelse ρ' O P) :
    ES1 C c f (.While test body orelse pos) ρ O P := by
  intro A X L s Q E r w n0 i k
  refine wpAny_mono (Q := Q) (E := fun _ _ => False) ?_ (fun _ _ x => x) (fun _ _ x => x.elim)
  refine whl_start 0 ?_
  have main : ∀ (m : Nat) (ρ' : Lo) (h' : Heap) (t' : Nat), J m ρ' → Kp C.ex (L :: O.map (·.2)) s.heap h' → SI C X O h' L ρ' → C.Ws A { s with heap := h', toks := t' } →
      WhlRest C.prog C.w A (fun _ _ => False) (f.env L) test body orelse Q 0 { s with heap := h', toks := t' } := by
    intro m
    induction m using Nat.strongRecOn with
    | ind m ih =>
      intro ρ' h' t' hJ kk i' w'
      refine whl_turn (k := 0) PassesOwn.never (TV.run (turn m ρ' hJ) r w' trivial i'.bd i'.loc fun b h1 t1 p k1 w1 => ?_)
      cases b with
      | true =>
        refine WhlIf.yes rfl (ESof.run p r w1 n0 (i'.kp k1) fun o fl h2 t2 p2 k2 o2 w2 => ?_)
        have kk2 := (kk.trans k1.all).trans k2
        cases o with
        | next ρ'' => obtain ⟨rfl, i2⟩ := o2; obtain ⟨j, hj, hJ'⟩ := p2; exact ih j hj ρ'' h2 t2 hJ' kk2 i2 w2
        | cont ρ'' => obtain ⟨rfl, i2⟩ := o2; obtain ⟨j, hj, hJ'⟩ := p2; exact ih j hj ρ'' h2 t2 hJ' kk2 i2 w2
        | brk ρ'' => obtain ⟨rfl, i2⟩ := o2; exact k _ _ h2 t2 p2 kk2 ⟨rfl, i2⟩
        | ret x => obtain ⟨v, rfl, q⟩ := o2; exact k _ _ h2 t2 p2 kk2 ⟨v, rfl, q⟩
      | false =>
        refine WhlIf.no rfl (p A X L _ _ _ r w1 n0 (i'.kp k1) fun o fl h2 t2 p2 k2 o2 => k o fl h2 t2 p2 ((kk.trans k1.all).trans k2) o2)
  exact main n ρ s.heap s.toks h0 (Kp.refl _ _) i w

/-- v can be walked over, and its items are xs -/
noncomputable def Itb (C : Cx) (X : List Addr) (h : Heap) (v : Value) (xs : List Sc) : Prop :=
  ∀ (A : Around) (s : Shared) (Q E : Value → Shared → Prop), A.handled = Option.none → Kp C.ex [] h s.heap → Bd X s.heap →
    (∀ I fp wr Pv St h' t', Walks C.prog C.w A I fp wr xs.length Pv St → St 0 h' → (∀ i v, i < xs.length → Pv i v → ∃ x, xs[i]? = some x ∧ ScR v x) → Kp C.ex [] s.heap h' →
      (∀ b ∈ wr, s.heap.get? b = Option.none) → (∀ b ∈ fp, b ∉ X) → (∀ i h'', St i h'' → ∀ b ∈ fp, ∃ o, h''.get? b = some o ∧ ∀ es n, o.data ≠ .dict es n) →
      (∀ i h'', St i h'' → ∀ b ∈ wr, ∃ o fs, h''.get? b = some o ∧ o.data = .fields fs) → Q (.ref I) { s with heap := h', toks := t' }) →
    wpAny (model C.prog C.w) A (pyIter v) Q E s

theorem Itb.list {X : List Addr} {h : Heap} {v : Value} {l : List Sc} (r : Rep X h v (.list l)) : Itb C X h v l := by
  intro A s Q E hh k bd kk
  cases r with
  | @list a vs _ hx ho r =>
    have hl : s.heap.IsList a vs.toArray := let ⟨o, q, z, m, z2⟩ := ho; ⟨o, k.get0 q (fun es m e => by rw [z2] at e; cases e), z, m, z2⟩
    obtain ⟨o0, ho', hrest⟩ := id hl
    refine wpAny_pyIter_list hl ?_
    have hlt := Heap.lt_size ho'
    have hne : a ≠ s.heap.objs.size := Nat.ne_of_lt hlt
    have W := Walks.list (prog := C.prog) (w := C.w) hh s.heap.objs.size a hne vs.toArray
    have e : vs.toArray.size = l.length := by rw [List.size_toArray]; exact r.length
    rw [e] at W
    refine kk _ _ _ _ _ _ s.toks W ⟨⟨_, Heap.get?_push_size _ rfl, rfl, rfl⟩, ⟨o0, Heap.get?_push_of_some _ ho', hrest⟩⟩ (fun i v hi hv => ?_) (Kp.push _ _) (fun b hb => ?_) (fun b hb => ?_) (fun i h'' st b hb => ?_) fun i h'' st b hb => ?_
    · have hx' : l[i]? = some l[i] := by simp [hi]
      obtain ⟨u, hu, q⟩ := r.get hx'
      rw [List.getElem?_toArray, hu] at hv
      cases hv
      exact ⟨_, hx', q⟩
    · obtain rfl : b = _ := by simpa using hb
      cases q : s.heap.get? s.heap.objs.size with
      | none => rfl
      | some o => exact absurd (Heap.lt_size q) (Nat.lt_irrefl _)
    · simp only [List.mem_cons, List.not_mem_nil, or_false] at hb
      rcases hb with rfl | rfl
      · exact bd.size
      · exact hx
    · simp only [List.mem_cons, List.not_mem_nil, or_false] at hb
      rcases hb with rfl | rfl
      · obtain ⟨⟨o, q1, _, q2⟩, _⟩ := st; exact ⟨o, q1, fun es n q => by rw [q2] at q; cases q⟩
      · obtain ⟨_, ⟨o, q1, _, m, q2⟩⟩ := st; exact ⟨o, q1, fun es n q => by rw [q2] at q; cases q⟩
    · obtain rfl : b = _ := by simpa using hb
      obtain ⟨⟨o, q1, _, q2⟩, _⟩ := st; exact ⟨o, _, q1, q2⟩

noncomputable def signs (x : Tx) : List Sc := x.cps.toList.map fun n => Sc.str ⟨#[n]⟩
theorem signs_length (x : Tx) : (signs x).length = x.cps.size := by simp [signs]

theorem Itb.str {X : List Addr} {h : Heap} {v : Value} {x : Tx} (r : Rep X h v (.sc (.str x))) : Itb C X h v (signs x) := by
  intro A s Q E hh k bd kk
  cases r with | sc r =>
  cases r with | str _ t =>
  refine wpAny_pyIter_strU ?_
  have fin : ∀ (ty : String), Walks C.prog C.w A s.heap.objs.size [s.heap.objs.size] [s.heap.objs.size] x.cps.size (SignAt x) (fun i h => h.IsStrIter s.heap.objs.size ty x t i) →
      Q (.ref s.heap.objs.size) { s with heap := s.heap.push { cls := .type ty, data := .fields #[.str x t, .int 0 0] } } := by
    intro ty W
    rw [← signs_length] at W
    refine kk _ _ _ _ _ _ s.toks W ⟨_, Heap.get?_push_size _ rfl, rfl, rfl⟩ (fun i v hi hv => ?_) (Kp.push _ _) (fun b hb => ?_) (fun b hb => ?_) (fun i h'' st b hb => ?_) fun i h'' st b hb => ?_
    · obtain ⟨c, u, hc, rfl⟩ := hv
      exact ⟨.str ⟨#[c]⟩, by simp [signs, hc], .str _ _⟩
    · obtain rfl : b = _ := by simpa using hb
      cases q : s.heap.get? s.heap.objs.size with
      | none => rfl
      | some o => exact absurd (Heap.lt_size q) (Nat.lt_irrefl _)
    · obtain rfl : b = _ := by simpa using hb
      exact bd.size
    · obtain rfl : b = _ := by simpa using hb
      obtain ⟨o, q1, _, q2⟩ := st; exact ⟨o, q1, fun es n q => by rw [q2] at q; cases q⟩
    · obtain rfl : b = _ := by simpa using hb
      obtain ⟨o, q1, _, q2⟩ := st; exact ⟨o, _, q1, q2⟩
  unfold strIterType
  split
  · first | exact fin _ (Walks.strAscii hh _ x t) | exact fin _ (Walks.strWide hh _ x t)
  · first | exact fin _ (Walks.strWide hh _ x t) | exact fin _ (Walks.strAscii hh _ x t)

noncomputable def EVI (C : Cx) (c : Nat) (f : Fn) (e : Expr) (ρ : Lo) (P : List Sc → Prop) : Prop :=
  ∀ (A : Around) (X : List Addr) (L : Addr) (s : Shared) (Q E : Value → Shared → Prop), Rm c A → C.Ws A s → True → Bd X s.heap → Loc X s.heap L ρ →
    (∀ xs v h' t', P xs → Kp C.ex [] s.heap h' → Itb C X h' v xs → Q v { s with heap := h', toks := t' }) → wpAny (model C.prog C.w) A (eval e (f.env L)) Q E s
theorem EVI.of {e : Expr} {P : List Sc → Prop} (h : EV C c f e ρ fun x => match x with | .list l => P l | .sc (.str x) => P (signs x) | _ => False) : EVI C c f e ρ P := by
  intro A X L s Q E r w n b l k
  refine h A X L s Q E r w n b l fun x v h' t' p kk rep => ?_
  match x, p, rep with
  | .list l, p, rep => exact k l v h' t' p kk (.list rep)
  | .sc (.str x), p, rep => exact k _ v h' t' p kk (.str rep)

theorem EVI.run {e : Expr} {P : List Sc → Prop} (h : EVI C c f e ρ P) {A : Around} {X : List Addr} {L : Addr} {s : Shared} {Q E : Value → Shared → Prop} (rm : Rm c A) (w : C.Ws A s) (n : True) (b : Bd X s.heap) (lo : Loc X s.heap L ρ)
    (k : ∀ xs v h' t', P xs → Kp C.ex [] s.heap h' → Itb C X h' v xs → C.Ws A { s with heap := h', toks := t' } → Q v { s with heap := h', toks := t' }) : wpAny (model C.prog C.w) A (eval e (f.env L)) Q E s :=
  wpAny_with_toks (n := 1) w.2 (h A X L s _ _ rm w n b lo fun xs v h' t' p kk r ht => k xs v h' t' p kk r (w.next0 kk ht))

noncomputable def hide (ρ : Lo) (O : List (Tx × Addr)) : Lo := fun z => if z ∈ O.map (·.1) then none else ρ z
theorem SI.hidden {X : List Addr} {h : Heap} {L : Addr} (i : SI C X O h L ρ) : Loc (O.map (·.2) ++ X) h L (hide ρ O) := by
  obtain ⟨⟨m, hn, hv, _⟩, _⟩ := i
  refine ⟨m, hn, fun y x e => ?_⟩
  unfold hide at e
  split at e
  · cases e
  · rename_i hy
    exact hv y x hy e

theorem SI.keepY {x0 : Option Nat} {X Y : List Addr} {h h' : Heap} {L : Addr} (i : SI C X O h L ρ) (k : Kp x0 Y h h') (hY : ∀ b ∈ Y, ∃ o fs, h.get? b = some o ∧ o.data = .fields fs) (hbd : Bd (O.map (·.2) ++ X) h') : SI C X O h' L ρ :=
  i.keepG k (fun m => by
    obtain ⟨o, fs, q1, q2⟩ := hY L m
    obtain ⟨es, n, c, d, sl, q⟩ := i.dictL
    rw [q] at q1; cases q1; cases q2) (fun b m => not_seq_fields (hY b m)) hbd
end
end Mine
end
section
open PySem PySem.W PyProof.Rows
set_option Elab.async false
namespace Mine

section
variable {C : Cx} {c : Nat} {f : Fn} {ρ : Lo} {O : List (Tx × Addr)}

/-- what a turn's end hands on -/
noncomputable def forK (P : Out → Prop) (J : Lo → Prop) : Out → Prop
  | .next ρ => J ρ
  | .cont ρ => J ρ
  | .brk ρ => P (.next ρ)
  | .ret x => P (.ret x)

theorem ES1.for {P : Out → Prop} {t : Tx} {px pos : Pos} {iter : Expr} {body : List Stmt}
    (h : EVI C c f iter (hide ρ O) fun xs => ∃ J : Nat → Lo → Prop, J 0 ρ ∧ (∀ i x ρ', xs[i]? = some x → J i ρ' → ES C c f body (upd ρ' t (.sc x)) O (forK P (J (i + 1)))) ∧ ∀ ρ', J xs.length ρ' → P (.next ρ'))
    (ht : t ∉ O.map (·.1)) (hl : f.sc.names.lookup t = some .local) (hs : ∀ L x, foldedSetIterable iter (f.env L) x = pure x) : ES1 C c f (.For (.Name t px) iter body [] pos) ρ O P := by
  intro A X L s Q E r w n0 i k
  refine wpAny_mono (Q := Q) (E := fun _ _ => False) ?_ (fun _ _ x => x) (fun _ _ x => x.elim)
  refine wpAny_For (h.run r w trivial i.2.2.2.2 i.hidden fun xs v h1 t1 p k1 itb w1 => ?_) (hs L)
  obtain ⟨J, j0, turn, done⟩ := p
  have i1 := i.kp k1
  refine wpAny_with_toks (n := 1) w1.2 (itb A _ _ _ r.handled (Kp.refl _ _) i1.2.2.2.2 fun I fp wr Pv St h2 t2 W st0 items k2 hwr hfp hfpo hwro ht2 => ?_)
  have k12 : Kp C.ex [] s.heap h2 := k1.trans k2
  refine codeAny_forLoop (fun n s' => ∃ (j : Nat) (ρ' : Lo) (h' : Heap) (t' : Nat), s' = { s with heap := h', toks := t' } ∧ n = xs.length - j ∧ j ≤ xs.length ∧ St j h' ∧ SI C X O h' L ρ' ∧ J j ρ' ∧ Kp C.ex (L :: O.map (·.2)) s.heap h' ∧ 1 ≤ t') ?_ xs.length
    ⟨0, ρ, h2, t2, rfl, by omega, by omega, st0, i1.kp k2, j0, k12.all, ht2⟩
  rintro n s' ⟨j, ρ', h', t', rfl, rfl, hj, st, i', jj, kk, ht'⟩
  -- what the walk touches is nobody's else
  have low : ∀ b ∈ wr, ∀ o, s.heap.get? b = some o → False := fun b hb o q => by
    have := k1.live (fun m => nomatch m) q
    rw [hwr b hb] at this; cases this
  have isL : ∀ b ∈ fp, b ≠ L := fun b hb q => by
    subst q
    obtain ⟨o, q1, q2⟩ := hfpo 0 h2 st0 b hb
    obtain ⟨es, n, c', d, sl, q⟩ := (i1.kp k2).dictL
    rw [q] at q1; cases q1; exact q2 _ _ rfl
  have bdAll : ∀ {h3 : Heap}, Kp C.ex wr h' h3 → Bd (O.map (·.2) ++ X) h3 := fun k3 z hz => by
    have hzw : z ∉ wr := fun m => hfp z (W.sub z m) hz
    obtain ⟨o, ho⟩ := Option.isSome_iff_exists.mp (i'.2.2.2.2 z hz)
    exact k3.live hzw ho
  have wrK : ∀ {h3 : Heap}, (∀ b o, b ∉ wr → h'.get? b = some o → h3.get? b = some o) → Kp C.ex wr h' h3 := fun a => .ofBut a fun b hb => fields_notDict (hwro j h' st b hb)
  by_cases hlt : j < xs.length
  · refine wpAny_with_toks (n := 1) ht' (W.item j _ _ _ hlt st fun v h3 t3 pv st3 k3 ht3 => ?_)
    obtain ⟨x, hx, sr⟩ := items j v hlt pv
    replace k3 := wrK k3
    have i3 : SI C X O h3 L ρ' := i'.keepY k3 (hwro j h' st) (bdAll k3)
    have kk3 : Kp C.ex (L :: O.map (·.2)) s.heap h3 := kk.then k3 low
    obtain ⟨m, hn, _⟩ := i3.1
    refine wpAny_assign_Name (wpAny_storeName_local (env := f.env L) hl hn (fun h4 hn4 sb => ?_) (by show (f.sc.kind == .class || (f.sc.kind == .module && L != mainGlobals)) = false; rw [f.fk]; rfl))
    have i4 : SI C X O h4 L (upd ρ' t (.sc x)) := i3.store hn hn4 sb (.sc sr) ht
    have k4 : Kp C.ex (L :: O.map (·.2)) s.heap h4 := kk3.trans ((Kp.but (L := L) sb fun _ => Ns.dictAt hn4).mono fun a m => by rw [List.mem_singleton.mp m]; exact List.mem_cons_self)
    have st4 : St (j + 1) h4 := W.frame _ h3 h4 st3 fun b hb o e => (sb.2 b (isL b hb)).trans e
    refine ESof.run (turn j x ρ' hx jj) r (w.next (t' := t3 + 1) k4 (i.n0 n0) (by omega)) n0 i4 fun o fl h5 t5 p5 k5 o5 w5 => ?_
    have st5 : St (j + 1) h5 := W.frame _ h4 h5 st4 fun b hb o e => k5.get (fun m => by
      rcases List.mem_cons.mp m with q | q
      · exact isL b hb q
      · exact hfp b hb (List.mem_append_left _ q)) e (fun es m z => by
        obtain ⟨o', e', nd⟩ := hfpo (j + 1) h4 st4 b hb
        rw [e] at e'; cases e'; exact nd _ _ z)
    have kk5 := k4.trans k5
    cases o with
    | next ρ'' => obtain ⟨rfl, i5⟩ := o5; exact ⟨xs.length - (j + 1), by omega, j + 1, ρ'', h5, t5, rfl, rfl, by omega, st5, i5, p5, kk5, w5.2⟩
    | cont ρ'' => obtain ⟨rfl, i5⟩ := o5; exact ⟨xs.length - (j + 1), by omega, j + 1, ρ'', h5, t5, rfl, rfl, by omega, st5, i5, p5, kk5, w5.2⟩
    | brk ρ'' => obtain ⟨rfl, i5⟩ := o5; exact k _ _ h5 t5 p5 kk5 ⟨rfl, i5⟩
    | ret z => obtain ⟨v, rfl, q⟩ := o5; exact k _ _ h5 t5 p5 kk5 ⟨v, rfl, q⟩
  · obtain rfl : j = xs.length := by omega
    refine W.done _ _ _ st fun h3 t3 k3 => ?_
    replace k3 := wrK k3
    have kk3 : Kp C.ex (L :: O.map (·.2)) s.heap h3 := kk.then k3 low
    have keepWr : ∀ b ∈ wr, ∃ o fs, h'.get? b = some o ∧ o.data = .fields fs := hwro _ h' st
    have i3 : SI C X O h3 L ρ' := i'.keepY k3 keepWr (bdAll k3)
    exact wpAny_execs_nil (k _ _ h3 t3 (done ρ' jj) kk3 ⟨rfl, i3⟩)

end
end Mine
end
section
open PySem PySem.W PyProof.Rows
set_option Elab.async false
namespace Mine

inductive Reps (X : List Addr) (h : Heap) : List Value → List PV → Prop
  | nil : Reps X h [] []
  | cons {v : Value} {x : PV} {vs : List Value} {xs : List PV} (r : Rep X h v x) (rs : Reps X h vs xs) : Reps X h (v :: vs) (x :: xs)
theorem Reps.kp {x0 : Option Nat} {X : List Addr} {h h' : Heap} {vs : List Value} {xs : List PV} (r : Reps X h vs xs) (k : Kp x0 [] h h') : Reps X h' vs xs := by
  induction r with
  | nil => exact .nil
  | cons a _ ih => exact .cons (a.kp k) ih
theorem Reps.length {X : List Addr} {h : Heap} {vs : List Value} {xs : List PV} (r : Reps X h vs xs) : vs.length = xs.length := by
  induction r with
  | nil => rfl
  | cons _ _ ih => simp [ih]

/-- the top's facts that the walk asks of every heap -/
structure Gd (C : Cx) (mg mb : Tx → Option Value) : Prop where
  g : ∀ h, C.W h → h.Ns mainGlobals mg
  b : ∀ h, C.W h → h.Ns builtinsNs mb
  nolimit : ∀ h, C.W h → h.NoLimit

noncomputable def Fct (C : Cx) (c : Nat) (a : Addr) (as : List PV) (P : PV → Prop) : Prop :=
  ∀ (A : Around) (X : List Addr) (s : Shared) (vs : List Value) (Q E : Value → Shared → Prop), Rm c A → C.Ws A s → Bd X s.heap → Reps X s.heap vs as →
    (∀ x v h' t', P x → Kp C.ex [] s.heap h' → Rep X h' v x → Q v { s with heap := h', toks := t' }) → wpAny (model C.prog C.w) A (call (.ref a) vs) Q E s
/-- as Fct, and no token need be taken yet -/
noncomputable def Fct0 (C : Cx) (c : Nat) (a : Addr) (as : List PV) (P : PV → Prop) : Prop :=
  ∀ (A : Around) (X : List Addr) (s : Shared) (vs : List Value) (Q E : Value → Shared → Prop), Rm c A → C.W0 A s → Bd X s.heap → Reps X s.heap vs as →
    (∀ x v h' t', P x → Kp C.ex [] s.heap h' → Rep X h' v x → Q v { s with heap := h', toks := t' }) → wpAny (model C.prog C.w) A (call (.ref a) vs) Q E s
theorem Fct0.fct {C : Cx} {c : Nat} {a : Addr} {as : List PV} {P : PV → Prop} (h : Fct0 C c a as P) : Fct C c a as P := fun A X s vs Q E r w b rs k => h A X s vs Q E r w.w0 b rs k
theorem Fct.mono {C : Cx} {c : Nat} {a : Addr} {as : List PV} {P P' : PV → Prop} (h : Fct C c a as P) (i : ∀ x, P x → P' x) : Fct C c a as P' :=
  fun A X s vs Q E r w b rs k => h A X s vs Q E r w b rs fun x v h' t' p => k x v h' t' (i x p)
theorem Fct.less {C : Cx} {c d : Nat} {a : Addr} {as : List PV} {P : PV → Prop} (h : Fct C c a as P) (hd : c ≤ d) : Fct C d a as P :=
  fun A X s vs Q E r w b rs k => h A X s vs Q E (r.less hd) w b rs k

noncomputable def EVs (C : Cx) (c : Nat) (f : Fn) (es : List Expr) (ρ : Lo) (P : List PV → Prop) : Prop :=
  ∀ (pos : Pos) (A : Around) (X : List Addr) (L : Addr) (s : Shared) (Q : List Value → Shared → Prop) (E : Value → Shared → Prop), Rm c A → C.Ws A s → True → Bd X s.heap → Loc X s.heap L ρ →
    (∀ xs vs h' t', P xs → Kp C.ex [] s.heap h' → Reps X h' vs xs → Q vs { s with heap := h', toks := t' }) → wpAny (model C.prog C.w) A (spliced (backTo pos (starEach es (f.env L)))) Q E s

section
variable {C : Cx} {c : Nat} {f : Fn} {ρ : Lo} {mg mb : Tx → Option Value}

theorem EVs.nil {P : List PV → Prop} (h : P []) : EVs C c f [] ρ P := fun _ _ _ _ s _ _ _ _ _ _ _ k => wpAny_items_nil (k _ _ s.heap s.toks h (Kp.refl _ _) .nil)
theorem EVs.cons {e : Expr} {es : List Expr} {P : List PV → Prop} (h : EV C c f e ρ fun x => EVs C c f es ρ fun xs => P (x :: xs))
    (he : ∀ L, starEach (e :: es) (f.env L) = (false, eval e (f.env L)) :: starEach es (f.env L)) : EVs C c f (e :: es) ρ P := by
  intro pos A X L s Q E r w n b l k
  refine wpAny_items_cons (h.run r w n b l fun x v h1 t1 p k1 r1 w1 b1 l1 => ?_) (he L)
  exact p pos A X L _ _ E r w1 n b1 l1 fun xs vs h2 t2 p2 k2 r2 => k _ _ h2 t2 p2 (k1.trans k2) (.cons (r1.kp k2) r2)

theorem EVs.run {es : List Expr} {P : List PV → Prop} (h : EVs C c f es ρ P) {pos : Pos} {A : Around} {X : List Addr} {L : Addr} {s : Shared} {Q : List Value → Shared → Prop} {E : Value → Shared → Prop} (rm : Rm c A) (w : C.Ws A s) (n : True) (b : Bd X s.heap) (lo : Loc X s.heap L ρ)
    (k : ∀ xs vs h' t', P xs → Kp C.ex [] s.heap h' → Reps X h' vs xs → C.Ws A { s with heap := h', toks := t' } → Q vs { s with heap := h', toks := t' }) : wpAny (model C.prog C.w) A (spliced (backTo pos (starEach es (f.env L)))) Q E s :=
  wpAny_with_toks (n := 1) w.2 (h pos A X L s _ _ rm w n b lo fun xs vs h' t' p kk r ht => k xs vs h' t' p kk r (w.next0 kk ht))

/-- a call of one of the text's own defs -/
theorem EV.call {g : Tx} {p pos : Pos} {args : List Expr} {a : Addr} {P : PV → Prop} (G : Gd C mg mb) (hmg : mg g = some (.ref a)) (hfn : ∀ h, C.W h → ∃ o fd, h.get? a = some o ∧ o.data = .func fd)
    (hne : args ≠ []) (hargs : ∀ L, (backTo pos (starEach args (f.env L))).head?.map (·.1) = some false)
    (h : EVs C c f args ρ fun xs => Fct C c a xs P) (hk : f.sc.names.lookup g = some .globalImplicit) (hd : (g == ("__debug__" : Tx)) = false := by decide) : EV C c f (.Call (.Name g p) args [] pos) ρ P := by
  intro A X L s Q E r w n b l k
  refine wpAny_Call_NameR (Calls.Name_function_global f.fk hk (Calls.loadGlobal_global (env := f.env L) (G.g _ w.1) hmg ?_) hd)
  obtain ⟨o, fd, ho, hdat⟩ := hfn _ w.1
  refine Calls.callWith_function (o := o) (fd := fd) ?_
  have hx := h.run (pos := pos) (Q := fun vs s' => (s'.heap.get? a = some o ∧ o.data = .func fd) ∧ wpAny (model C.prog C.w) A (PySem.call (.ref a) vs) Q E s') (E := E) r w n b l fun xs vs h1 t1 p k1 r1 w1 =>
    ⟨⟨k1.get0 ho (fun es m e => by rw [hdat] at e; cases e), hdat⟩, p A X _ vs Q E r w1 (b.kp k1) r1 fun x v h2 t2 p2 k2 r2 => k x v h2 t2 p2 (k1.trans k2) r2⟩
  have hh := hargs L
  cases q : backTo pos (starEach args (f.env L)) with
  | nil => rw [q] at hh; cases hh
  | cons y ys =>
    obtain ⟨b', x⟩ := y
    rw [q] at hh hx
    obtain rfl : b' = false := by simpa using hh
    exact Calls.evalArgs_plain hx

/-- a def's contract out of its body -/
theorem Fct0.of {nm : Tx} {sc : Scope} {a : Addr} {cd : Value} {fk : sc.kind = .function} {params : Arguments} {body : List Stmt} {pm doc : Value} {ps : List Tx} {as : List PV} {P : PV → Prop} (G : Gd C mg mb)
    (hfn : ∀ h, C.W h → ∃ o, h.get? a = some o ∧ o.data = .func (Calls.docDef nm params body sc pm cd doc)) (hcd : ∀ h, C.W h → h.CodeRec cd nm)
    (hbind : ∀ vs : List Value, vs.length = as.length → bindArgs (Calls.docDef nm params body sc pm cd doc) ⟨vs, []⟩ = pure (ps.zip vs)) (hlen : ps.length = as.length)
    (hloc : (ps.all fun y => decide (sc.names.lookup y = some .local)) = true)
    (h : ES C c (Fn.of nm sc a cd fk) body (fun y => (ps.zip as).reverse.lookup y) [] fun o => match o with | .ret x => P x | .next _ => P (.sc .none) | _ => False)
    (hco : sc.isCoroutine = false) (hgen : sc.isGenerator = false) (hcell : ∀ x ∈ sc.names, x.2 ≠ .cell) (hne : 1 ≤ ps.length) : Fct0 C (c + 1) a as P := by
  intro A X s vs Q E r w b rs k
  obtain ⟨o, ho, hdat⟩ := hfn _ w.1
  refine wpAny_call (call_plain_ret r.lt ho hdat (G.nolimit _ w.1) (hcd _ w.1) (hbind vs rs.length) ?_ (fun h₁ F => ?_) hco hgen fk hcell)
  · intro x hx
    have := List.all_eq_true.mp hloc x.1 (List.of_mem_zip hx).1
    exact of_decide_eq_true this
  · have k1 : Kp C.ex [] s.heap h₁ := Kp.of F.keep
    have i : SI C X [] h₁ s.heap.objs.size (fun y => (ps.zip as).reverse.lookup y) := by
      refine ⟨⟨_, F.ns, fun y x _ e => ?_, fun p hp => nomatch hp⟩, .nil, .nil, (fun p hp => nomatch hp), b.kp k1⟩
      have rs' : Reps X h₁ vs as := rs.kp k1
      have hl : ps.length = vs.length := hlen.trans rs.length.symm
      have key : ∀ (ps : List Tx) (vs : List Value) (as : List PV), Reps X h₁ vs as → ps.length = vs.length → (∀ y x, (ps.zip as).reverse.lookup y = some x → ∃ v, (ps.zip vs).reverse.lookup y = some v ∧ Rep X h₁ v x) ∧
          (∀ y, (ps.zip as).reverse.lookup y = none → (ps.zip vs).reverse.lookup y = none) := by
        intro ps
        induction ps with
        | nil => intro vs as _ _; exact ⟨fun y x e => by simp at e, fun y _ => by simp⟩
        | cons p ps ih =>
          intro vs as rs hl
          cases rs with
          | nil => cases hl
          | @cons v x vs xs r rs =>
            obtain ⟨i1, i2⟩ := ih vs xs rs (by simpa using hl)
            refine ⟨fun y z e => ?_, fun y e => ?_⟩
            · simp only [List.zip_cons_cons, List.reverse_cons, List.lookup_append] at e ⊢
              cases q : (ps.zip xs).reverse.lookup y with
              | some u =>
                rw [q] at e
                obtain ⟨v', hv', rr⟩ := i1 y u q
                cases e
                exact ⟨v', by rw [hv']; rfl, rr⟩
              | none =>
                rw [q] at e
                rw [i2 y q]
                simp only [Option.none_or] at e ⊢
                simp only [List.lookup] at e ⊢
                split at e
                · cases e; exact ⟨v, rfl, r⟩
                · cases e
            · simp only [List.zip_cons_cons, List.reverse_cons, List.lookup_append] at e ⊢
              obtain ⟨e1, e2⟩ := Option.or_eq_none_iff.mp e
              rw [i2 y e1]
              simp only [Option.none_or]
              simp only [List.lookup] at e2 ⊢
              split at e2
              · cases e2
              · rfl
      obtain ⟨v, hv, rr⟩ := (key ps vs as rs' hl).1 y x e
      exact ⟨v, hv, by simpa using rr⟩
    refine h _ X s.heap.objs.size _ _ _ r.deeper ⟨C.stab _ _ [] w.1 k1.weaker (fun _ m => nomatch m), (by show 1 ≤ s.toks + (ps.zip vs).length; rw [List.length_zip, ← rs.length.trans hlen.symm |>.symm, Nat.min_self]; exact Nat.le_trans hne (Nat.le_add_left _ _)), (w.2.kp k1).deeper (by show sc.kind ≠ .module; rw [fk]; decide) rfl (C.nwle _ (C.low _ w.1)) (Ns.dictAt F.ns)⟩ (C.low _ w.1) i fun o fl h' t' p kk oR => ?_
    have kk' : Kp C.ex [] s.heap h' := k1.then kk fun x m o' e => by
      obtain rfl : x = s.heap.objs.size := by simpa using m
      exact absurd (Heap.lt_size e) (Nat.lt_irrefl _)
    cases o with
    | ret x => obtain ⟨v, rfl, q⟩ := oR; exact k x v h' t' p kk' q
    | next _ => obtain ⟨rfl, _⟩ := oR; exact k _ _ h' t' p kk' (.sc .none)
    | brk _ => exact p.elim
    | cont _ => exact p.elim
end
end Mine
end
section
open PySem PySem.W PyProof.Rows
set_option Elab.async false
namespace Mine

noncomputable def BV (C : Cx) (c : Nat) (id : String) (as : List PV) (P : PV → Prop) : Prop :=
  ∀ (A : Around) (X : List Addr) (s : Shared) (vs : List Value) (Q E : Value → Shared → Prop), Rm c A → C.Ws A s → Bd X s.heap → Reps X s.heap vs as →
    (∀ x v h' t', P x → Kp C.ex [] s.heap h' → Rep X h' v x → Q v { s with heap := h', toks := t' }) → wpAny (model C.prog C.w) A (call (.builtin id) vs) Q E s

section
variable {C : Cx} {c : Nat} {f : Fn} {ρ : Lo} {mg mb : Tx → Option Value}

theorem args_of {es : List Expr} {P : List PV → Prop} (h : EVs C c f es ρ P) (g : Value) {pos : Pos} {A : Around} {X : List Addr} {L : Addr} {s : Shared} {Q : Args → Shared → Prop} {E : Value → Shared → Prop} (rm : Rm c A) (w : C.Ws A s) (n : True) (b : Bd X s.heap) (lo : Loc X s.heap L ρ)
    (hp : (backTo pos (starEach es (f.env L))).any (·.1) = false)
    (k : ∀ xs vs h' t', P xs → Kp C.ex [] s.heap h' → Reps X h' vs xs → C.Ws A { s with heap := h', toks := t' } → Q ⟨vs, []⟩ { s with heap := h', toks := t' }) :
    wpAny (model C.prog C.w) A (evalArgs g true (backTo pos (starEach es (f.env L))) []) Q E s := by
  have hx := h.run (pos := pos) (Q := fun vs s' => Q ⟨vs, []⟩ s') (E := E) rm w n b lo k
  cases q : backTo pos (starEach es (f.env L)) with
  | nil =>
    rw [q] at hx
    unfold evalArgs
    show wpAny _ _ (spliced [] >>= _) Q E s
    refine wpAny_bind (wpAny_mono hx (fun vs s' h' => ?_) fun _ _ x => x)
    refine wpAny_holding ?_
    exact wpAny_bind (wpAny_pure (wpAny_bind (wpAny_pure (wpAny_pure h'))))
  | cons y ys =>
    obtain ⟨b', x⟩ := y
    rw [q] at hp hx
    obtain rfl : b' = false := by simp at hp; exact hp.1
    exact Calls.evalArgs_plain hx

theorem EV.builtin {g : Tx} {p pos : Pos} {args : List Expr} {id : String} {P : PV → Prop} (G : Gd C mg mb) (hmg : mg g = Option.none) (hmb : mb g = some (.builtin id))
    (h : EVs C c f args ρ fun xs => BV C c id xs P) (hargs : ∀ L, (backTo pos (starEach args (f.env L))).any (·.1) = false) (hk : f.sc.names.lookup g = some .globalImplicit) (hd : (g == ("__debug__" : Tx)) = false := by decide) :
    EV C c f (.Call (.Name g p) args [] pos) ρ P := by
  intro A X L s Q E r w n b l k
  refine wpAny_Call_NameR (Calls.Name_function_global f.fk hk (Calls.loadGlobal_builtin (env := f.env L) (G.g _ w.1) hmg (G.b _ w.1) hmb ?_) hd)
  refine Calls.callWith_builtin (hargs L) (args_of h _ r w n b l (hargs L) fun xs vs h1 t1 p k1 r1 w1 => ?_)
  exact p A X _ vs Q E r w1 (b.kp k1) r1 fun x v h2 t2 p2 k2 r2 => k x v h2 t2 p2 (k1.trans k2) r2

/-- the name of the type that a value is of -/
noncomputable def OfType (C : Cx) (T : String) (x : PV) : Prop := ∀ (X : List Addr) (s : Shared) (v : Value), C.W s.heap → Rep X s.heap v x → s.TypeIs v T ∧ ∀ a, v = .ref a → ∃ ob, s.heap.get? a = some ob ∧ ob.dict = Option.none
theorem OfType.str (x : Tx) : OfType C "str" (.sc (.str x)) := by
  intro X s v w r
  cases r with | sc r => cases r; exact ⟨typeIs_str _ _ _, fun a e => nomatch e⟩
/-- a call of a method of a built-in type -/
theorem EV.meth {o : Expr} {name : Tx} {apos pos : Pos} {args : List Expr} {T id : String} {P : PV → Prop} (pa : PlainAttrs T) (slot : Slot T name id) (hty : typeOf (.builtin id) = pure (.type "method_descriptor"))
    (h : EV C c f o ρ fun ov => OfType C T ov ∧ EVs C c f args ρ fun xs => BV C c id (ov :: xs) P)
    (hbase : ∀ L, attributeBase o name (f.env L) (eval o (f.env L)) = eval o (f.env L))
    (hfew : ∀ L, ((backTo pos (starEach args (f.env L))).all (fun x => !x.1) && (backToKw pos (keywordEach [] (f.env L))).all (fun x => x.1.isSome)
      && decide (args.length + ([] : List Keyword).length + (if ([] : List Keyword).isEmpty then 0 else 1) < 30)) = true)
    (hline : (apos.endLine == pos.line) = true) : EV C c f (.Call (.Attribute o name apos) args [] pos) ρ P := by
  intro A X L s Q E r w n b l k
  have hargs : (backTo pos (starEach args (f.env L))).any (·.1) = false := by
    have q := (Bool.and_eq_true_iff.mp (Bool.and_eq_true_iff.mp (hfew L)).1).1
    rw [List.any_eq_false]
    intro x hx
    have := List.all_eq_true.mp q x hx
    simpa using this
  refine wpAny_Call_method_lateS (hbase L) (hfew L) hline (h.run r w n b l fun ov v h1 t1 p k1 r1 w1 b1 l1 => ?_)
  obtain ⟨ot, p⟩ := p
  obtain ⟨hT, hdict⟩ := ot X _ v w1.1 r1
  refine ⟨T, id, pa, slot, hty, hT, hdict, Calls.callWith_builtin hargs (args_of p _ r w1 n b1 l1 hargs fun xs vs h2 t2 p2 k2 r2 w2 => ?_)⟩
  exact p2 A X _ (v :: vs) Q E r w2 (b1.kp k2) (.cons (r1.kp k2) r2) fun x u h3 t3 p3 k3 r3 => k x u h3 t3 p3 ((k1.trans k2).trans k3) r3

-- single built-ins
theorem BV.sc1 {id : String} {x : Sc} {P : PV → Prop}
    (h : ∀ (A : Around) (s : Shared) (v : Value) (Q E : Value → Shared → Prop), Rm c A → ScR v x → (∀ y u t', P (.sc y) → ScR u y → Q u { s with toks := t' }) → wpAny (model C.prog C.w) A (call (.builtin id) [v]) Q E s) :
    BV C c id [.sc x] P := by
  intro A X s vs Q E r w b rs k
  cases rs with | cons r1 rs => cases rs; cases r1 with | sc r1 => exact h A s _ Q E r r1 fun y u t' p q => k _ u s.heap t' p (Kp.refl _ _) (.sc q)

theorem BV.ord {n : Nat} {P : PV → Prop} (hp : P (.sc (.int n))) : BV C c "ord" [.sc (.str ⟨#[n]⟩)] P :=
  .sc1 fun _ _ _ _ _ _ r k => by cases r; exact PySem.P.ord_of_char (k _ _ _ hp (.int _ _))
theorem BV.chr {i : Int} {P : PV → Prop} (h0 : 0 ≤ i) (h1 : i ≤ 0x10FFFF) (hp : P (.sc (.str ⟨#[i.toNat]⟩))) : BV C c "chr" [.sc (.int i)] P :=
  .sc1 fun _ _ _ _ _ _ r k => by cases r; exact PySem.P.chr_of_int (by simp; omega) (k _ _ _ hp (.str _ _))
theorem BV.len {l : List Sc} {P : PV → Prop} (hx : l.length ≤ sizeLine) (hp : P (.sc (.int l.length))) : BV C c "len" [.list l] P := by
  intro A X s vs Q E r w b rs k
  cases rs with | cons r1 rs => cases rs; cases r1 with | @list a us _ hx' ho r1 =>
  have e : us.toArray.size = l.length := by rw [List.size_toArray]; exact r1.length
  refine PySem.Calls.call_len_list (items := us.toArray) ho ?_ ?_
  · rw [e]; have : sizeLine < 2 ^ 63 := by decide
    omega
  · rw [e]; exact k _ _ s.heap _ hp (Kp.refl _ _) (.sc (.int _ _))
theorem BV.min2 {i j : Int} {P : PV → Prop} (hp : P (.sc (.int (min i j)))) : BV C c "min" [.sc (.int i), .sc (.int j)] P := by
  intro A X s vs Q E r w b rs k
  cases rs with | cons r1 rs => cases rs with | cons r2 rs => cases rs; cases r1 with | sc r1 => cases r2 with | sc r2 =>
  cases r1 with | int _ t => cases r2 with | int _ u =>
  refine min_two_ints r.handled fun h' tk kk => ?_
  by_cases q : j < i
  · rw [if_pos q]; exact k _ _ h' tk (by rw [Int.min_eq_right (by omega)] at hp; exact hp) (Kp.of kk) (.sc (.int _ _))
  · rw [if_neg q]; exact k _ _ h' tk (by rw [Int.min_eq_left (by omega)] at hp; exact hp) (Kp.of kk) (.sc (.int _ _))
theorem BV.max2 {i j : Int} {P : PV → Prop} (hp : P (.sc (.int (max i j)))) : BV C c "max" [.sc (.int i), .sc (.int j)] P := by
  intro A X s vs Q E r w b rs k
  cases rs with | cons r1 rs => cases rs with | cons r2 rs => cases rs; cases r1 with | sc r1 => cases r2 with | sc r2 =>
  cases r1 with | int _ t => cases r2 with | int _ u =>
  refine max_two_ints r.handled fun h' tk kk => ?_
  by_cases q : j > i
  · rw [if_pos q]; exact k _ _ h' tk (by rw [Int.max_eq_right (by omega)] at hp; exact hp) (Kp.of kk) (.sc (.int _ _))
  · rw [if_neg q]; exact k _ _ h' tk (by rw [Int.max_eq_left (by omega)] at hp; exact hp) (Kp.of kk) (.sc (.int _ _))
end
end Mine
end
section
open PySem PySem.W PyProof.Rows
set_option Elab.async false
namespace Mine
section
variable {C : Cx} {c : Nat} {f : Fn} {ρ : Lo} {mg mb : Tx → Option Value}

theorem OV.inS {y x : Tx} {P : PV → Prop} (hp : P (.sc (.bool (Txt.contains x y)))) : OV C c (compareOp .In) (.sc (.str y)) (.sc (.str x)) P :=
  .strs fun _ _ _ _ _ _ _ k => SB.contains (k _ _ _ hp (.bool _))

theorem BV.count {x y : Tx} {P : PV → Prop} (hp : P (.sc (.int (Txt.count x y)))) : BV C c "str.count" [.sc (.str x), .sc (.str y)] P := by
  intro A X s vs Q E r w b rs k
  cases rs with | cons r1 rs => cases rs with | cons r2 rs => cases rs; cases r1 with | sc r1 => cases r2 with | sc r2 =>
  cases r1; cases r2
  exact SC.count (k _ _ s.heap _ hp (Kp.refl _ _) (.sc (.int _ _)))
theorem BV.lower {x : Tx} {P : PV → Prop} (hx : (Txt.lower x).length ≤ sizeLine) (hp : P (.sc (.str (Txt.lower x)))) : BV C c "str.lower" [.sc (.str x)] P :=
  .sc1 fun _ _ _ _ _ _ r k => by cases r; exact SC.lower (by unfold Builtin.Str.tooLong; exact decide_eq_false (by omega)) (k _ _ _ hp (.str _ _))

noncomputable def strsOf : List Sc → Option (List Tx)
  | [] => some []
  | .str x :: r => (strsOf r).map (x :: ·)
  | _ :: _ => none
theorem strsAre_of {vs : List Value} {l : List Sc} (h : ScsR vs l) : ∀ {ys : List Tx}, strsOf l = some ys → StrsAre vs ys := by
  induction h with
  | nil => intro ys e; cases e; exact .nil
  | cons h _ ih =>
    intro ys e
    cases h with
    | str x t =>
      simp only [strsOf] at e
      obtain ⟨zs, hz, rfl⟩ := Option.map_eq_some_iff.mp e
      exact .cons x t (ih hz)
    | _ => cases e
theorem BV.join {x : Tx} {l : List Sc} {ys : List Tx} {P : PV → Prop} (hl : strsOf l = some ys) (hok : (ys.map (·.length)).sum + ys.length * x.length ≤ 16777216) (hp : P (.sc (.str (Txt.join x ys)))) :
    BV C c "str.join" [.sc (.str x), .list l] P := by
  intro A X s vs Q E r w b rs k
  cases rs with | cons r1 rs => cases rs with | cons r2 rs => cases rs; cases r1 with | sc r1 => cases r1; cases r2 with | @list a us _ hx ho r2 =>
  exact PyProof.Rows.join_list (items := us.toArray) ho (strsAre_of r2 hl) hok fun t' kk => k _ _ s.heap kk hp (Kp.refl _ _) (.sc (.str _ _))

theorem EV.join {o : Expr} {e : Expr} {apos pos : Pos} {x : Tx} {P : PV → Prop}
    (h : EV C c f o ρ fun ov => ov = .sc (.str x) ∧ EVs C c f [e] ρ fun xs => BV C c "str.join" (ov :: xs) P)
    (hbase : ∀ L, attributeBase o "join" (f.env L) (eval o (f.env L)) = eval o (f.env L))
    (hfew : ∀ L, ((backTo pos (starEach [e] (f.env L))).all (fun x => !x.1) && (backToKw pos (keywordEach [] (f.env L))).all (fun x => x.1.isSome)
      && decide ([e].length + ([] : List Keyword).length + (if ([] : List Keyword).isEmpty then 0 else 1) < 30)) = true)
    (hline : (apos.endLine == pos.line) = true) : EV C c f (.Call (.Attribute o "join" apos) [e] [] pos) ρ P :=
  EV.meth F.plainAttrs_str F.slot_str_join F.type_str_join (h.mono fun ov q => by obtain ⟨rfl, q⟩ := q; exact ⟨OfType.str _, q⟩) hbase hfew hline
theorem EV.lower {o : Expr} {apos pos : Pos} {x : Tx} {P : PV → Prop}
    (h : EV C c f o ρ fun ov => ov = .sc (.str x) ∧ EVs C c f [] ρ fun xs => BV C c "str.lower" (ov :: xs) P)
    (hbase : ∀ L, attributeBase o "lower" (f.env L) (eval o (f.env L)) = eval o (f.env L))
    (hfew : ∀ L, ((backTo pos (starEach [] (f.env L))).all (fun x => !x.1) && (backToKw pos (keywordEach [] (f.env L))).all (fun x => x.1.isSome)
      && decide (([] : List Expr).length + ([] : List Keyword).length + (if ([] : List Keyword).isEmpty then 0 else 1) < 30)) = true)
    (hline : (apos.endLine == pos.line) = true) : EV C c f (.Call (.Attribute o "lower" apos) [] [] pos) ρ P :=
  EV.meth F.plainAttrs_str F.slot_str_lower F.type_str_lower (h.mono fun ov q => by obtain ⟨rfl, q⟩ := q; exact ⟨OfType.str _, q⟩) hbase hfew hline

/-- x.replace('..', '..'), its two words written -/
theorem EV.replace {o : Expr} {apos pos : Pos} {y z : Tx} {k1 k2 : Nat} {p1 p2 : Pos} {P : PV → Prop}
    (h : EV C c f o ρ fun ov => ∃ x, ov = .sc (.str x) ∧ x.length + (x.length + 1) * z.length ≤ 16777216 ∧ P (.sc (.str (Txt.replace x y z))))
    (hyz : (y == z) = false)
    (hbase : ∀ L, attributeBase o "replace" (f.env L) (eval o (f.env L)) = eval o (f.env L))
    (hline : (apos.endLine == pos.line) = true) : EV C c f (.Call (.Attribute o "replace" apos) [.Constant (.str y) k1 p1, .Constant (.str z) k2 p2] [] pos) ρ P := by
  intro A X L s Q E r w n b l k
  refine wpAny_Call_method_lateS (hbase L) (by rfl) hline (h.run r w n b l fun ov v h1 t1 p kk1 r1 w1 b1 l1 => ?_)
  obtain ⟨x, rfl, hx, p⟩ := p
  cases r1 with | sc r1 => cases r1 with | str _ t =>
  refine ⟨"str", "str.replace", F.plainAttrs_str, F.slot_str_replace, F.type_str_replace, typeIs_str _ _ _, (fun a e => nomatch e), Calls.callWith_builtin (by rfl) (Calls.evalArgs_plain ?_)⟩
  refine wpAny_items_cons (pos := pos) (e := .Constant (.str y) k1 p1) (rest := [.Constant (.str z) k2 p2]) (wpAny_Constant_str ?_) rfl
  refine wpAny_items_cons (pos := pos) (e := .Constant (.str z) k2 p2) (rest := []) (wpAny_Constant_str ?_) rfl
  refine wpAny_items_nil ?_
  have ht : 1 ≤ t1 := w1.2
  exact SC.replace (by show t1 ≠ 0; omega) (by show t1 + 1 ≠ 0; omega) (by show t1 ≠ t1 + 1; omega) hyz hx fun t' kk => k _ _ h1 kk p kk1 (.sc (.str _ _))
end
end Mine
end
section
open PySem PySem.W PyProof.Rows
set_option Elab.async false
namespace Mine
section
variable {C : Cx} {c : Nat} {f : Fn} {ρ : Lo} {mg mb : Tx → Option Value}

theorem EVN.ev {e : Expr} {P : PV → Prop} (h : EVN C c f e ρ P) : EV C c f e ρ P :=
  fun A X L s Q E r w n b l k => h A X L s Q E r w n b l fun x v h' t' p kk rr _ => k x v h' t' p kk rr
theorem scsR_of {X : List Addr} {h : Heap} : ∀ {l : List Sc} {vs : List Value}, Reps X h vs (l.map PV.sc) → ScsR vs l
  | [], vs, r => by cases r; exact .nil
  | x :: l, vs, r => by cases r with | cons a r => cases a with | sc a => exact .cons a (scsR_of r)

theorem fresh_size (h : Heap) : h.get? h.objs.size = Option.none := by
  cases q : h.get? h.objs.size with
  | none => rfl
  | some o => exact absurd (Heap.lt_size q) (Nat.lt_irrefl _)
theorem fresh_of {x0 : Option Nat} {h h' : Heap} (k : Kp x0 [] h h') : h.get? h'.objs.size = Option.none := by
  cases q : h.get? h'.objs.size with
  | none => rfl
  | some o =>
    obtain ⟨o', e, _⟩ := k.old _ _ (fun m => nomatch m) q
    exact absurd (Heap.lt_size e) (Nat.lt_irrefl _)

theorem EVN.list {elts : List Expr} {pos : Pos} {P : PV → Prop} (h : EVs C c f elts ρ fun xs => ∃ l, xs = l.map PV.sc ∧ l.length ≤ sizeLine ∧ P (.list l)) : EVN C c f (.List elts pos) ρ P := by
  intro A X L s Q E r w n b l k
  refine wpAny_List (h.run r w n b l fun xs vs h1 t1 p k1 r1 w1 => ?_)
  obtain ⟨l, rfl, hl, p⟩ := p
  have sr := scsR_of r1
  refine ⟨by rw [sr.length]; exact hl, ?_⟩
  have nX : h1.objs.size ∉ X := (b.kp k1).size
  refine k _ _ _ t1 p (k1.trans (Kp.push _ _)) (.list nX ⟨_, Heap.get?_push_size _ rfl, rfl, 0, rfl⟩ sr) fun a e => ?_
  cases e
  exact ⟨fresh_of k1, C.low _ w1.1⟩
theorem EV.tuple {elts : List Expr} {k0 : Nat} {pos : Pos} {P : PV → Prop} (h : EVs C c f elts ρ fun xs => ∃ l, xs = l.map PV.sc ∧ l.length ≤ sizeLine ∧ P (.tup l)) : EV C c f (.Tuple elts k0 pos) ρ P := by
  intro A X L s Q E r w n b l k
  refine wpAny_Tuple (h.run r w n b l fun xs vs h1 t1 p k1 r1 w1 => ?_)
  obtain ⟨l, rfl, hl, p⟩ := p
  have sr := scsR_of r1
  refine ⟨by rw [sr.length]; exact hl, ?_⟩
  exact k _ _ _ t1 p (k1.trans (Kp.push _ _)) (.tup (b.kp k1).size ⟨_, Heap.get?_push_size _ rfl, rfl, 0, rfl⟩ sr)

theorem seqIndex_nat {k n : Nat} (h : k < n) : seqIndex? (k : Int) n = some k := by
  unfold seqIndex?
  have e : ¬ ((k : Int) < 0) := by omega
  simp only [e, if_false]
  simp [h]

/-- an item of a list or a tuple at a place that is not below nought -/
theorem EV.item {value slice : Expr} {pos : Pos} {P : PV → Prop}
    (h : EV C c f value ρ fun o => ∃ l, (o = .list l ∨ o = .tup l) ∧ l.length ≤ sizeLine ∧ EV C c f slice ρ fun i => ∃ (k : Nat) (x : Sc), i = .sc (.int k) ∧ l[k]? = some x ∧ P (.sc x))
    (hs : ∀ a k u, subscripted slice false (.ref a) (.int k u) = operate [.ref a, .int k u] (getItem (.ref a) (.int k u))) : EV C c f (.Subscript value slice pos) ρ P := by
  intro A X L s Q E r w n b l k
  refine Subscript_ (h.run r w n b l fun o v h1 t1 p k1 r1 w1 b1 l1 => ?_)
  obtain ⟨l, ho, hsz, p⟩ := p
  refine p.run r w1 n b1 l1 fun i u h2 t2 p2 k2 r2 w2 b2 l2 => ?_
  obtain ⟨j, x, rfl, hx, p2⟩ := p2
  cases r2 with | sc r2 => cases r2 with | int _ tk =>
  have hj : j < l.length := by
    by_cases q : j < l.length
    · exact q
    · rw [List.getElem?_eq_none (by omega)] at hx; cases hx
  have fits : (j : Int) < 2 ^ 63 := by have : sizeLine < 2 ^ 63 := by decide
                                       omega
  have r1 := r1.kp k2
  rcases ho with rfl | rfl
  · cases r1 with | @list a vs _ hx' ho r1 =>
    obtain ⟨y, hy, sr⟩ := r1.get hx
    have hl : h2.IsList a vs.toArray := ho
    refine tail_any hl.typeIs slot_list_getitem.lookup (wpAny_getItem_list (items := vs.toArray) (x := y) hl (by omega) fits (by simpa using hy) ?_) (hs _ _ _)
    exact k _ y h2 t2 p2 (k1.trans k2) (.sc sr)
  · cases r1 with | @tup a vs _ hx' ho r1 =>
    obtain ⟨y, hy, sr⟩ := r1.get hx
    have hl : IsTup h2 a vs.toArray := ho
    refine tail_any hl.typeIs slot_tuple_getitem.lookup (getItem_tuple (j := j) (x := y) hl (by omega) fits ?_ (by simpa using hy) ?_) (hs _ _ _)
    · rw [List.size_toArray, r1.length]; exact seqIndex_nat hj
    · exact k _ y h2 t2 p2 (k1.trans k2) (.sc sr)
end
end Mine
end
section
open PySem PySem.W PyProof.Rows
set_option Elab.async false
namespace Mine
section
variable {C : Cx} {c : Nat} {f : Fn} {ρ : Lo} {O : List (Tx × Addr)}

theorem Rep.fresh {X : List Addr} {h : Heap} {v : Value} {x : PV} {a : Addr} (r : Rep X h v x) (e : h.get? a = Option.none) : Rep (a :: X) h v x := by
  cases r with
  | sc r => exact .sc r
  | list hx ho r => refine .list (fun m => ?_) ho r
                    rcases List.mem_cons.mp m with q | q
                    · subst q; obtain ⟨o, q, _⟩ := ho; rw [e] at q; cases q
                    · exact hx q
  | tup hx ho r => refine .tup (fun m => ?_) ho r
                   rcases List.mem_cons.mp m with q | q
                   · subst q; obtain ⟨o, q, _⟩ := ho; rw [e] at q; cases q
                   · exact hx q
  | obj b => exact .obj b

theorem SI.ns_inj {X : List Addr} {h : Heap} {L : Addr} {m m' : Tx → Option Value} (a : h.Ns L m) (b : h.Ns L m') : m = m' := by
  obtain ⟨o, es, ep, e1, e2, _, e4⟩ := a
  obtain ⟨o', es', ep', f1, f2, _, f4⟩ := b
  rw [e1] at f1; cases f1
  rw [e2] at f2; cases f2
  funext z; rw [← e4, ← f4]

/-- the ownership of a list ends: it is no more changed -/
theorem SI.free {X : List Addr} {h : Heap} {L : Addr} {y : Tx} {a : Addr} (i : SI C X ((y, a) :: O) h L ρ) : SI C X O h L ρ := by
  obtain ⟨⟨m, hn, hv, ho⟩, n1, n2, n3, bd⟩ := i
  simp only [List.map_cons, List.nodup_cons] at n1 n2
  refine ⟨⟨m, hn, fun z x hz e => ?_, fun p hp => ho p (List.mem_cons_of_mem _ hp)⟩, n1.2, n2.2, fun p hp => n3 p (List.mem_cons_of_mem _ hp), fun z hz => bd z (List.mem_cons_of_mem _ hz)⟩
  by_cases hzy : z = y
  · subst hzy
    obtain ⟨q1, vs, n, l, q2, q3, q4⟩ := ho _ List.mem_cons_self
    simp only at q1 q2 q4
    rw [e] at q4; cases q4
    have nX := (n3 (z, a) List.mem_cons_self).2
    exact ⟨_, q1, .list (fun m => (List.mem_append.mp m).elim n2.1 nX) ⟨_, q2, rfl, n, rfl⟩ q3⟩
  · obtain ⟨v, hm, q⟩ := hv z x (by simp only [List.map_cons, List.mem_cons, not_or]; exact ⟨hzy, hz⟩) e
    exact ⟨v, hm, q.less fun _ m => List.mem_cons_of_mem _ m⟩

theorem OutR.free {X : List Addr} {h : Heap} {L : Addr} {y : Tx} {a : Addr} {fl : Flow} {o : Out} (r : OutR C X ((y, a) :: O) h L fl o) : OutR C X O h L fl o := by
  cases o with
  | next ρ' => exact ⟨r.1, r.2.free⟩
  | brk ρ' => exact ⟨r.1, r.2.free⟩
  | cont ρ' => exact ⟨r.1, r.2.free⟩
  | ret x => exact r

/-- y = [..]: from here on the frame owns the list -/
theorem ES.own {y : Tx} {elts : List Expr} {rest : List Stmt} {p1 p2 pos : Pos} {P : Out → Prop}
    (h : EVs C c f elts ρ fun xs => ∃ l : List Sc, xs = l.map PV.sc ∧ l.length ≤ sizeLine ∧ ∀ a, ES C c f rest (upd ρ y (.list l)) ((y, a) :: O) P)
    (hy : y ∉ O.map (·.1)) (hl : f.sc.names.lookup y = some .local) (hs : ∀ L, swapsWith (.List elts p2) (some (.Name y p1)) pos.line (f.env L) = pure false) :
    ES C c f (.Assign [.Name y p1] (.List elts p2) pos :: rest) ρ O P := by
  intro A X L s Q E r w n i k
  refine wpAny_execs_cons (wpAny_Assign_Name (wpAny_List (h.run r w trivial i.bd i.loc fun xs vs h1 t1 p kk r1 w1 => ?_)) (hs L))
  obtain ⟨l, rfl, hlen, p⟩ := p
  have sr := scsR_of r1
  refine ⟨by rw [sr.length]; exact hlen, ?_⟩
  have i1 := i.kp kk
  have kp := Kp.push (x := Option.none) h1 { cls := .type "list", data := .seq vs.toArray }
  have kpk : ∀ b o, h1.get? b = some o → (h1.push { cls := .type "list", data := .seq vs.toArray }).get? b = some o := fun b o e => Heap.get?_push_of_some _ e
  have i2 := i1.kp kp
  obtain ⟨m, hn, hv⟩ := i2.1
  have hf1 : h1.get? h1.objs.size = Option.none := fresh_size h1
  have hfs : s.heap.get? h1.objs.size = Option.none := fresh_of kk
  have hobj : (h1.push { cls := .type "list", data := .seq vs.toArray }).get? h1.objs.size = some (seqObj "list" vs 0) := Heap.get?_push_size _ rfl
  have haL : h1.objs.size ≠ L := fun e => by
    obtain ⟨es, n', c', d, sl, q⟩ := i1.dictL
    rw [e] at hf1; rw [hf1] at q; cases q
  have haO : h1.objs.size ∉ O.map (·.2) ++ X := i1.2.2.2.2.size
  refine wpAny_storeName_local (env := f.env L) hl hn (fun h3 hn3 sb => ?_) (by show (f.sc.kind == .class || (f.sc.kind == .module && L != mainGlobals)) = false; rw [f.fk]; rfl)
  have hobj3 : h3.get? h1.objs.size = some (seqObj "list" vs 0) := (sb.2 _ haL).trans hobj
  have i3 : SI C X ((y, h1.objs.size) :: O) h3 L (upd ρ y (.list l)) := by
    obtain ⟨⟨m1, hn1, hv1, ho1⟩, n1, n2, n3, bd⟩ := i1
    have em : m = m1 := SI.ns_inj (X := X) hn (hn1.keeps kpk)
    subst em
    have hL := (i.kp kk).dictL
    have hL2 : ∃ es n c d sl, (h1.push { cls := .type "list", data := .seq vs.toArray }).get? L = some ⟨c, d, .dict es n, sl⟩ := let ⟨es, n, c, d, sl, q⟩ := hL; ⟨es, n, c, d, sl, kpk _ _ q⟩
    have keep : ∀ {Z : List Addr} {u : Value} {z : PV}, Rep Z h1 u z → Rep Z h3 u z := fun r => (r.kp kp).keep (Kp.but (x := Option.none) (L := L) sb fun _ => Ns.dictAt hn3) fun a m => by
      obtain rfl : a = L := List.mem_singleton.mp m
      exact .inr (not_seq_dict hL2)
    refine ⟨⟨_, hn3, fun z x hz e => ?_, fun p hp => ?_⟩, ?_, ?_, fun q hq => ?_, fun z hz => ?_⟩
    · simp only [List.map_cons, List.mem_cons, not_or] at hz
      rw [upd_ne _ _ hz.1] at e
      obtain ⟨u, hu, q⟩ := hv1 z x hz.2 e
      exact ⟨u, by simp [hz.1, hu], keep (q.fresh hf1)⟩
    · rcases List.mem_cons.mp hp with rfl | hp
      · exact ⟨by simp, vs, 0, l, hobj3, sr, upd_same _ _ _⟩
      · have hne : p.1 ≠ y := fun q => hy (q ▸ List.mem_map.mpr ⟨p, hp, rfl⟩)
        obtain ⟨q1, us, n', l', q2, q3, q4⟩ := ho1 p hp
        refine ⟨by simp [hne, q1], us, n', l', (sb.2 _ fun e => ?_).trans (kpk _ _ q2), q3, by rw [upd_ne _ _ hne]; exact q4⟩
        obtain ⟨es, n'', c', d, sl, q⟩ := hL
        have e' : p.2 = L := e
        rw [e', q] at q2; cases q2
    · exact List.nodup_cons.mpr ⟨hy, n1⟩
    · exact List.nodup_cons.mpr ⟨fun m => haO (List.mem_append_left _ m), n2⟩
    · rcases List.mem_cons.mp hq with rfl | hq
      · exact ⟨C.low _ w1.1, fun m => haO (List.mem_append_right _ m)⟩
      · exact n3 q hq
    · rcases List.mem_cons.mp hz with rfl | hz
      · rw [hobj3]; rfl
      · by_cases q : z = L
        · subst q; obtain ⟨o, _, _, q, _⟩ := hn3; exact Option.isSome_iff_exists.mpr ⟨o, q⟩
        · rw [sb.2 z q]; exact (bd.kp kp) z hz
  have k3 : Kp C.ex (L :: O.map (·.2)) s.heap h3 := ((kk.trans kp.weak).all.trans (Kp.but (L := L) sb fun _ => Ns.dictAt hn3)).mono fun a m => by rw [List.mem_singleton.mp m]; exact List.mem_cons_self
  have w3 : C.Ws A { s with heap := h3, toks := t1 + 1 } := w.next k3 (i.n0 n) (by omega)
  exact p h1.objs.size A X L _ Q E r w3 n i3 fun o fl h4 t4 p4 k4 o4 => k o fl h4 t4 p4 (k3.then2 k4 fun b m nb ob e => by
    rcases List.mem_cons.mp m with q | q
    · exact nb (q ▸ List.mem_cons_self)
    · rcases List.mem_cons.mp q with q | q
      · subst q; rw [hfs] at e; cases e
      · exact nb (List.mem_cons_of_mem _ q)) o4.free

theorem nodup_fst {p q : Tx × Addr} (n : (O.map (·.1)).Nodup) (hp : p ∈ O) (hq : q ∈ O) (e : p.1 = q.1) : p = q := by
  induction O with
  | nil => cases hp
  | cons x r ih =>
    simp only [List.map_cons, List.nodup_cons] at n
    rcases List.mem_cons.mp hp with h1 | h1 <;> rcases List.mem_cons.mp hq with h2 | h2
    · rw [h1, h2]
    · exact absurd (List.mem_map.mpr ⟨q, h2, by rw [← e, h1]⟩) n.1
    · exact absurd (List.mem_map.mpr ⟨p, h1, by rw [e, h2]⟩) n.1
    · exact ih n.2 h1 h2
theorem nodup_snd {p q : Tx × Addr} (n : (O.map (·.2)).Nodup) (hp : p ∈ O) (hq : q ∈ O) (e : p.2 = q.2) : p = q := by
  induction O with
  | nil => cases hp
  | cons x r ih =>
    simp only [List.map_cons, List.nodup_cons] at n
    rcases List.mem_cons.mp hp with h1 | h1 <;> rcases List.mem_cons.mp hq with h2 | h2
    · rw [h1, h2]
    · exact absurd (List.mem_map.mpr ⟨q, h2, by rw [← e, h1]⟩) n.1
    · exact absurd (List.mem_map.mpr ⟨p, h1, by rw [e, h2]⟩) n.1
    · exact ih n.2 h1 h2
theorem spliced_one {M : Model} {A : Around} {E : Value → Shared → Prop} {s : Shared} {x : Sem Value} {Q : List Value → Shared → Prop} (h : wpAny M A x (fun v s' => Q [v] s') E s) : wpAny M A (spliced [(false, x)]) Q E s := by
  show wpAny M A (do
    let v ← x
    let here ← (pure [v] : Sem (List Value))
    return here ++ (← holding here (spliced []))) Q E s
  refine wpAny_bind (wpAny_mono h (fun v s' h' => ?_) fun _ _ x => x)
  exact wpAny_bind (wpAny_pure (wpAny_bind (wpAny_holding (wpAny_pure (wpAny_pure h')))))

/-- an owned list gets other items -/
theorem SI.setList {X : List Addr} {h h' : Heap} {L : Addr} {y : Tx} {a : Addr} {l' : List Sc} {vs' : List Value} {n' : Nat} (i : SI C X O h L ρ) (ha : (y, a) ∈ O) (hs : Heap.SameBut a h h') (ho' : h'.get? a = some (seqObj "list" vs' n')) (sr : ScsR vs' l') :
    SI C X O h' L (upd ρ y (.list l')) := by
  have hm : a ∈ O.map (·.2) := List.mem_map.mpr ⟨_, ha, rfl⟩
  have hym : y ∈ O.map (·.1) := List.mem_map.mpr ⟨_, ha, rfl⟩
  have hL := i.dictL
  obtain ⟨⟨m, hn, hv, ho⟩, n1, n2, n3, bd⟩ := i
  have haL : L ≠ a := fun e => by
    subst e
    obtain ⟨es, n, c', d, sl, q⟩ := hL
    obtain ⟨_, vs, n, l, q2, _⟩ := ho _ ha
    rw [q] at q2; cases q2
  have nd : ¬ DictAt h a := by
    obtain ⟨_, vs, n, l, q2, _⟩ := ho _ ha
    exact notDict q2 (fun es m e => by cases e)
  refine ⟨⟨m, hn.at' (fun o q => (hs.2 _ haL).trans q), fun z x hz e => ?_, fun p hp => ?_⟩, n1, n2, n3, bd.but hs (by rw [ho']; rfl)⟩
  · have hzy : z ≠ y := fun q => hz (q ▸ hym)
    rw [upd_ne _ _ hzy] at e
    obtain ⟨v, hv', q⟩ := hv z x hz e
    exact ⟨v, hv', q.keep (Kp.but (x := Option.none) hs fun d => absurd d nd) fun b hb => .inl (List.mem_append_left _ ((List.mem_singleton.mp hb) ▸ hm))⟩
  · obtain ⟨q1, vs, n, l, q2, q3, q4⟩ := ho p hp
    by_cases hpa : p.2 = a
    · have hp1 : p.1 = y := by
        rw [(nodup_snd n2 hp ha hpa : p = (y, a))]
      rw [hp1, hpa]
      exact ⟨by rw [← hp1, ← hpa]; exact q1, vs', n', l', ho', sr, upd_same _ _ _⟩
    · have hp1 : p.1 ≠ y := fun e => hpa (by rw [(nodup_fst n1 hp ha e : p = (y, a))])
      exact ⟨q1, vs, n, l, (hs.2 _ hpa).trans q2, q3, by rw [upd_ne _ _ hp1]; exact q4⟩

theorem SI.owned {X : List Addr} {h : Heap} {L : Addr} {y : Tx} {a : Addr} (i : SI C X O h L ρ) (ha : (y, a) ∈ O) : ∃ m vs n l, h.Ns L m ∧ m y = some (.ref a) ∧ h.get? a = some (seqObj "list" vs n) ∧ ScsR vs l ∧ ρ y = some (.list l) :=
  let ⟨⟨m, hn, _, ho⟩, _⟩ := i
  let ⟨q1, vs, n, l, q2, q3, q4⟩ := ho _ ha
  ⟨m, vs, n, l, hn, q1, q2, q3, q4⟩

theorem update_seq {h : Heap} {a : Addr} {vs : List Value} {n : Nat} {g : Array Value → Array Value} (ho : h.get? a = some (seqObj "list" vs n)) :
    ∃ n', (h.update a (Obj.mapSeq g)).get? a = some (seqObj "list" (g vs.toArray).toList n') := by
  refine ⟨if (g vs.toArray).size == vs.toArray.size then n else n + 1, ?_⟩
  rw [Heap.get?_update_self _ ho (by rfl)]
  show some (Obj.mapSeq g { cls := .type "list", data := .seq vs.toArray n }) = _
  simp [Obj.mapSeq, seqObj]

/-- y.append(e) -/
theorem ES1.append {y : Tx} {a : Addr} {e : Expr} {p apos cpos pos : Pos} {P : Out → Prop} {l : List Sc} (ha : (y, a) ∈ O) (hl : ρ y = some (.list l)) (hz : l.length ≤ sizeLine)
    (h : EV C c f e ρ fun v => ∃ x, v = .sc x ∧ P (.next (upd ρ y (.list (l ++ [x])))))
    (hk : f.sc.names.lookup y = some .local) (hd : (y == ("__debug__" : Tx)) = false)
    (hbase : ∀ L, attributeBase (.Name y p) "append" (f.env L) (eval (.Name y p) (f.env L)) = eval (.Name y p) (f.env L)) (hline : (apos.endLine == cpos.line) = true)
    (hst : ∀ L, starEach [e] (f.env L) = [(false, eval e (f.env L))])
    (hi : ∀ L, interactive (f.env L) = false) (hs : ∀ L, swapsWith (.Call (.Attribute (.Name y p) "append" apos) [e] [] cpos) Option.none pos.line (f.env L) = pure false) :
    ES1 C c f (.Expr (.Call (.Attribute (.Name y p) "append" apos) [e] [] cpos) pos) ρ O P := by
  intro A X L s Q E r w n i k
  refine wpAny_Expr (Call_method1 (hbase L) (hst L) hline ?_) (hi L) (hs L)
  obtain ⟨m, vs, n', l', hn, hm, ho, sr, hl'⟩ := i.owned ha
  rw [hl] at hl'; cases hl'
  refine wpAny_Name (wpAny_loadName_local (env := f.env L) f.fk hk hn hm ?_) hd
  refine ⟨"list", "list.append", F.plainAttrs_list, F.slot_list_append, F.type_list_append, Heap.IsList.typeIs ⟨_, ho, rfl, n', rfl⟩, (fun b e => by cases e; exact ⟨_, ho, rfl⟩), Calls.callWith_builtin (by rfl) (Calls.evalArgs_plain ?_)⟩
  refine spliced_one ?_
  refine h.run r w trivial i.bd i.loc fun v u h1 t1 p1 k1 r1 w1 b1 l1 => ?_
  obtain ⟨x, rfl, p1⟩ := p1
  have ho1 := k1.get0 ho (fun es m e => by cases e)
  cases r1 with | sc r1 =>
  refine call_meets F.slot_list_append (Heap.IsList.typeIs ⟨_, ho1, rfl, n', rfl⟩) F.entry_list_append (F.args_list_append_2 _ _)
    (AutoListH.list_append_list_val_0 a vs.toArray n' u (by rw [List.size_toArray, sr.length]; exact hz)) ⟨ho1, ?_⟩
  obtain ⟨n2, hu⟩ := update_seq (g := fun z => z.push u) ho1
  have sb := Heap.SameBut.update h1 a (Obj.mapSeq fun z => z.push u)
  have hu' : (h1.update a (Obj.mapSeq fun z => z.push u)).get? a = some (seqObj "list" (vs ++ [u]) n2) := by rw [hu]; simp
  refine k _ _ _ t1 p1 ?_ ⟨rfl, (i.kp k1).setList ha sb hu' (sr.append (.cons r1 .nil))⟩
  exact k1.all.trans ((Kp.but sb fun d => absurd d (notDict ho1 fun es m e => by cases e)).mono fun b hb => List.mem_cons_of_mem _ ((List.mem_singleton.mp hb) ▸ List.mem_map.mpr ⟨_, ha, rfl⟩))
end
end Mine
end
section
open PySem PySem.W PyProof.Rows
set_option Elab.async false
set_option maxRecDepth 100000
namespace Mine
section
variable {C : Cx} {c : Nat} {f : Fn} {ρ : Lo} {O : List (Tx × Addr)}

/-- a list's item is set, the object told whole -/
theorem setItem_at {prog : Program} {w : World} {A : Around} {E : Value → Shared → Prop} {s : Shared} {a : Addr} {vs : List Value} {n : Nat} {k : Int} {t : Tok} {v : Value} {Q : Unit → Shared → Prop}
    (ho : s.heap.get? a = some (seqObj "list" vs n)) (h0 : 0 ≤ k) (hk : k < vs.length) (hfit : k < 2 ^ 63) (hQ : Q () { s with heap := s.heap.update a (Obj.mapSeq fun z => z.setIfInBounds k.toNat v) }) :
    wpAny (model prog w) A (setItem (.ref a) (.int k t) v) Q E s := by
  have hl : s.heap.IsList a vs.toArray := ⟨_, ho, rfl, n, rfl⟩
  unfold setItem
  try with_reducible refine wpAny_holding ?_
  first | refine wpAny_bind (wpAny_pure ?_) | skip
  refine wpAny_bind (wpAny_sequenceKey hl.typeIs (by decide) ?_)
  refine wpAny_bind (wpAny_callSpecial?_slot (name := Str.ofString "__setitem__") hl.typeIs slot_list_setitem (wpAny_call_entry slot_list_setitem hl.typeIs entry_list_setitem ?_ (args_list_setitem _ _ _)))
  show wpAny _ _ (Builtin.List.listSubscript? (.int k t) >>= _) _ _ s
  refine wpAny_bind (wpAny_listSubscript_int (fitsIndex_of h0 hfit) ?_)
  clear hfit
  obtain ⟨j, rfl⟩ := Int.eq_ofNat_of_zero_le h0
  have hj : j < vs.length := by omega
  have hx : vs.toArray[j]? = some vs[j] := by simp [hj]
  show wpAny _ _ ((seqItemAt a j >>= fun r => pure (r.map (j, ·))) >>= _) _ _ s
  refine wpAny_bind (wpAny_bind (wpAny_seqItemAt ho rfl (wpAny_pure ?_)))
  rw [hx]
  show wpAny _ _ (setSeqItemAt a j v >>= _) _ _ s
  refine wpAny_bind (wpAny_setSeqItemAt ho rfl ?_)
  first
    | exact wpAny_bind (wpAny_pure (wpAny_pure ⟨.none, rfl, wpAny_pure hQ⟩))
    | exact wpAny_pure ⟨.none, rfl, wpAny_pure hQ⟩

theorem ScsR.set {vs : List Value} {l : List Sc} (r : ScsR vs l) : ∀ {j : Nat} {v : Value} {x : Sc}, ScR v x → ScsR (vs.set j v) (l.set j x) := by
  induction r with
  | nil => intro j v x _; exact .nil
  | cons h r ih =>
    intro j v x q
    cases j with
    | zero => exact .cons q r
    | succ j => exact .cons h (ih q)

/-- y[i] = e, upon an owned list -/
theorem ES1.setitem {y : Tx} {a : Addr} {value ie : Expr} {p sp pos : Pos} {P : Out → Prop} {l : List Sc} (ha : (y, a) ∈ O) (hl : ρ y = some (.list l)) (hz : l.length ≤ sizeLine)
    (h : EV C c f value ρ fun v => ∃ x, v = .sc x ∧ EV C c f ie ρ fun iv => ∃ j : Nat, iv = .sc (.int j) ∧ j < l.length ∧ P (.next (upd ρ y (.list (l.set j x)))))
    (hk : f.sc.names.lookup y = some .local) (hd : (y == ("__debug__" : Tx)) = false)
    (hs : ∀ L, swapsWith value (some (.Subscript (.Name y p) ie sp)) pos.line (f.env L) = pure false) :
    ES1 C c f (.Assign [.Subscript (.Name y p) ie sp] value pos) ρ O P := by
  intro A X L s Q E r w n i k
  refine wpAny_Assign_Subscript (h.run r w trivial i.bd i.loc fun v u h1 t1 p1 k1 r1 w1 b1 l1 => ?_) (hs L)
  obtain ⟨x, rfl, p1⟩ := p1
  have i1 := i.kp k1
  obtain ⟨m, vs, n', l', hn, hm, ho, sr, hl'⟩ := i1.owned ha
  rw [hl] at hl'; cases hl'
  refine wpAny_Name (wpAny_loadName_local (env := f.env L) f.fk hk hn hm ?_) hd
  refine p1.run r w1 trivial b1 l1 fun iv u2 h2 t2 p2 k2 r2 w2 b2 l2 => ?_
  obtain ⟨j, rfl, hj, p2⟩ := p2
  cases r2 with | sc r2 => cases r2 with | int _ tk =>
  cases r1 with | sc r1 =>
  have ho2 := k2.get0 ho (fun es m e => by cases e)
  have : sizeLine < 2 ^ 63 := by decide
  refine setItem_at ho2 (by omega) (by rw [sr.length]; omega) (by omega) ?_
  rw [Int.toNat_natCast]
  obtain ⟨n2, hu⟩ := update_seq (g := fun z => z.setIfInBounds j u) ho2
  have sb := Heap.SameBut.update h2 a (Obj.mapSeq fun z => z.setIfInBounds j u)
  have hu' : (h2.update a (Obj.mapSeq fun z => z.setIfInBounds j u)).get? a = some (seqObj "list" (vs.set j u) n2) := by rw [hu]; simp
  refine k _ _ _ t2 p2 ?_ ⟨rfl, (i1.kp k2).setList ha sb hu' (sr.set r1)⟩
  exact (k1.trans k2).all.trans ((Kp.but sb fun d => absurd d (notDict ho2 fun es m e => by cases e)).mono fun b hb => List.mem_cons_of_mem _ ((List.mem_singleton.mp hb) ▸ List.mem_map.mpr ⟨_, ha, rfl⟩))
end
end Mine
end
section
open PySem PySem.W PyProof.Rows
set_option Elab.async false
set_option maxRecDepth 100000
namespace Mine
section
variable {C : Cx} {c : Nat} {f : Fn} {ρ : Lo} {mg mb : Tx → Option Value}

noncomputable def upto (n : Nat) : List Sc := (List.range n).map fun k => Sc.int (k : Nat)
theorem upto_length (n : Nat) : (upto n).length = n := by simp [upto]
theorem upto_get {n i : Nat} (h : i < n) : (upto n)[i]? = some (.int i) := by simp [upto, h]

theorem Itb.range {X : List Addr} {h : Heap} {r : Addr} {N : Int} {t u v : Tok} (hr : IsRange h r 0 N 1 t u v) (hlo : -(2 ^ 62) ≤ N) (hhi : N < 2 ^ 62) : Itb C X h (.ref r) (upto N.toNat) := by
  intro A s Q E hh k bd kk
  have hr' : IsRange s.heap r 0 N 1 t u v := k.get0 hr (fun es m e => by cases e)
  refine wpAny_pyIter_range hr' (small_one (by decide) (by decide) hlo hhi) ?_
  have hsz : Builtin.Range.rangeSize 0 N 1 = (N.toNat : Int) := by rw [rangeSize_one]; split <;> omega
  have W := Walks.range (prog := C.prog) (w := C.w) hh s.heap.objs.size 0 1 N.toNat
  have e := upto_length N.toNat
  refine kk s.heap.objs.size [s.heap.objs.size] [s.heap.objs.size] (fun i v => ∃ t, v = .int (0 + i * 1) t) (fun i h => IsRangeIter h s.heap.objs.size (0 + (i : Nat) * 1) ((N.toNat : Int) - (i : Nat)) 1) _ s.toks (by rw [e]; exact W) ?_ (fun i v hi hv => ?_) (Kp.push _ _) (fun b hb => ?_) (fun b hb => ?_) (fun i h'' st b hb => ?_) fun i h'' st b hb => ?_
  · have e1 : (0 + ((0 : Nat) : Int) * 1) = 0 := by simp
    have e2 : ((N.toNat : Int) - ((0 : Nat) : Int)) = Builtin.Range.rangeSize 0 N 1 := by rw [hsz]; simp
    show IsRangeIter _ _ (0 + ((0 : Nat) : Int) * 1) ((N.toNat : Int) - ((0 : Nat) : Int)) 1
    rw [e1, e2]
    exact Heap.get?_push_size _ rfl
  · obtain ⟨tk, rfl⟩ := hv
    rw [e] at hi
    exact ⟨_, upto_get hi, by rw [Int.zero_add, Int.mul_one]; exact .int _ _⟩
  · obtain rfl : b = _ := by simpa using hb
    exact fresh_size _
  · obtain rfl : b = _ := by simpa using hb
    exact bd.size
  · obtain rfl : b = _ := by simpa using hb
    exact ⟨_, st, fun es n q => by cases q⟩
  · obtain rfl : b = _ := by simpa using hb
    exact ⟨_, _, st, rfl⟩

theorem EVI.range {e : Expr} {rp rpos : Pos} {P : List Sc → Prop} (G : Gd C mg mb) (hmg : mg "range" = Option.none) (hmb : mb "range" = some (.type "range"))
    (h : EV C c f e ρ fun x => ∃ N : Int, x = .sc (.int N) ∧ -(2 ^ 62) ≤ N ∧ N < 2 ^ 62 ∧ P (upto N.toNat)) (hk : f.sc.names.lookup ("range" : Tx) = some .globalImplicit)
    (hst : ∀ L, backTo rpos (starEach [e] (f.env L)) = [(false, do let v ← eval e (f.env L); standAt rpos; pure v)] ∨ backTo rpos (starEach [e] (f.env L)) = [(false, eval e (f.env L))]) :
    EVI C c f (.Call (.Name "range" rp) [e] [] rpos) ρ P := by
  intro A X L s Q E r w n b l k
  refine wpAny_Call_NameR (Calls.Name_function_global f.fk hk (Calls.loadGlobal_builtin (env := f.env L) (G.g _ w.1) hmg (G.b _ w.1) hmb ?_))
  have body : ∀ (Q' : Value → Shared → Prop), (∀ (N : Int) tN h1 t1, -(2 ^ 62) ≤ N → N < 2 ^ 62 → P (upto N.toNat) → Kp C.ex [] s.heap h1 → Q' (.int N tN) { s with heap := h1, toks := t1 }) → wpAny (model C.prog C.w) A (eval e (f.env L)) Q' E s := fun Q' kk =>
    h A X L s Q' E r w n b l fun x v h1 t1 p k1 r1 => by
      obtain ⟨N, rfl, lo, hi, p⟩ := p
      cases r1 with | sc r1 => cases r1 with | int _ tN => exact kk N tN h1 t1 lo hi p k1
  have fin : ∀ (N : Int) tN h1 t1, -(2 ^ 62) ≤ N → N < 2 ^ 62 → P (upto N.toNat) → Kp C.ex [] s.heap h1 → wpAny (model C.prog C.w) A (call (.type "range") [.int N tN]) Q E { s with heap := h1, toks := t1 } := fun N tN h1 t1 lo hi p k1 => by
    refine call_range_1 ?_
    exact k _ _ _ _ p (k1.trans (Kp.push _ _)) (Itb.range (IsRange.new ..) lo hi)
  rcases hst L with q | q
  · rw [q]
    refine PySem.callWith_type rfl (Calls.evalArgs_plain (spliced_one ?_))
    refine wpAny_bind (body _ fun N tN h1 t1 lo hi p k1 => ?_)
    exact wpAny_bind (wpAny_standAt (wpAny_pure (fin N tN h1 t1 lo hi p k1)))
  · rw [q]
    refine PySem.callWith_type rfl (Calls.evalArgs_plain (spliced_one ?_))
    exact body _ fun N tN h1 t1 lo hi p k1 => fin N tN h1 t1 lo hi p k1

theorem OV.isNotNone {a : PV} {P : PV → Prop} (hp : P (.sc (.bool (match a with | .sc .none => false | _ => true)))) : OV C c (compareOp .IsNot) a (.sc .none) P := by
  intro A X s va vb Q E r w b ra rb k
  cases rb with | sc rb =>
  cases rb
  refine PySem.isNot_none (k _ _ s.heap s.toks hp (Kp.refl _ _) ?_)
  cases ra with
  | sc ra => cases ra <;> exact .sc (.bool _)
  | list => exact .sc (.bool _)
  | tup => exact .sc (.bool _)
  | obj => exact .sc (.bool _)
theorem OV.band {i j : Int} {P : PV → Prop} (hp : P (.sc (.int (Builtin.bitAnd i j)))) : OV C c (binaryOp .BitAnd) (.sc (.int i)) (.sc (.int j)) P :=
  .ints fun _ _ _ _ _ _ _ k => PyProof.Rows.and_int (k _ _ _ hp (.int _ _))
theorem OV.neI {i j : Int} {P : PV → Prop} (hp : P (.sc (.bool (i != j)))) : OV C c (compareOp .NotEq) (.sc (.int i)) (.sc (.int j)) P :=
  .ints fun _ _ _ _ _ _ _ k => PyProof.Rows.ne_int (k _ _ _ hp (.bool _))
theorem OV.neS {i j : Tx} {P : PV → Prop} (hp : P (.sc (.bool (i != j)))) : OV C c (compareOp .NotEq) (.sc (.str i)) (.sc (.str j)) P :=
  .strs fun _ _ _ _ _ _ _ k => PyProof.Rows.ne_str (k _ _ _ hp (.bool _))
theorem OV.gtI {i j : Int} {P : PV → Prop} (hp : P (.sc (.bool (decide (j < i))))) : OV C c (compareOp .Gt) (.sc (.int i)) (.sc (.int j)) P :=
  .ints fun _ _ _ _ _ _ _ k => PyProof.Rows.gt_int (k _ _ _ (by simpa [GT.gt] using hp) (.bool _))
end
end Mine
end
section
open PySem PySem.W PyProof.Rows
set_option Elab.async false
set_option maxRecDepth 100000
namespace Mine

noncomputable def scOf : Value → Sc
  | .bool b => .bool b
  | .int i _ => .int i
  | .str x _ => .str x
  | .bytes b _ => .byt b
  | _ => .none
theorem scOf_eq {v : Value} {x : Sc} (r : ScR v x) : scOf v = x := by cases r <;> rfl

noncomputable def only (x : Tx) (y : Sc) : Lo := fun z => if z = x then some (.sc y) else none

section
variable {C : Cx} {c : Nat} {f : Fn} {ρ : Lo}

theorem paired_of {p : Sc → Bool} {R : Sc → Sc → Prop} : ∀ {vs : List Value} {xs : List Sc}, ScsR vs xs → ∀ {ys : List Value}, Paired (fun v y => ∃ x z, ScR v x ∧ R x z ∧ ScR y z) (vs.filter fun v => p (scOf v)) ys →
    ∃ zs, ScsR ys zs ∧ Paired R (xs.filter p) zs := by
  intro vs xs r
  induction r with
  | nil => intro ys q; cases q; exact ⟨[], .nil, .nil⟩
  | @cons v x vs xs h r ih =>
    intro ys q
    by_cases hp : p x = true
    · rw [List.filter_cons_of_pos (by rw [scOf_eq h]; exact hp)] at q
      cases q with
      | @cons _ y _ ys q1 q2 =>
        obtain ⟨zs, a, b⟩ := ih q2
        obtain ⟨x', z, e1, e2, e3⟩ := q1
        have : x' = x := by rw [← scOf_eq e1, scOf_eq h]
        subst this
        exact ⟨z :: zs, .cons e3 a, by rw [List.filter_cons_of_pos hp]; exact .cons e2 b⟩
    · rw [List.filter_cons_of_neg (by rw [scOf_eq h]; exact hp)] at q
      obtain ⟨zs, a, b⟩ := ih q
      exact ⟨zs, a, by rw [List.filter_cons_of_neg hp]; exact b⟩

theorem scsR_get : ∀ {vs : List Value} {xs : List Sc}, vs.length = xs.length → (∀ (j : Nat) v, vs[j]? = some v → ∃ x, xs[j]? = some x ∧ ScR v x) → ScsR vs xs
  | [], [], _, _ => .nil
  | [], _ :: _, e, _ => by simp at e
  | _ :: _, [], e, _ => by simp at e
  | v :: vs, x :: xs, e, h => by
    refine .cons ?_ (scsR_get (by simpa using e) fun j u hu => by simpa using h (j + 1) u (by simpa using hu))
    obtain ⟨x', a, b⟩ := h 0 v (by simp)
    simp at a; subst a; exact b

/-- what the tests of a comprehension say -/
noncomputable def Tests (C : Cx) (c : Nat) (f : Fn) (ρ : Lo) (ifs : List Expr) (b : Bool) : Prop :=
  match ifs with
  | [] => b = true
  | [t] => TV C c f t ρ fun x => x = b
  | _ => False

theorem EV.comp {elt iter : Expr} {x : Tx} {px : Pos} {ifs : List Expr} {scope : Scope} {pos : Pos} {P : PV → Prop} (fk : scope.kind = .function)
    (h : EVI C c f iter ρ fun xs => xs.length ≤ sizeLine ∧ ∃ (p : Sc → Bool) (R : Sc → Sc → Prop), (∀ y ∈ xs, ∀ L, Tests C.exact c (f.comp scope fk L) (only x y) ifs (p y)) ∧
      (∀ y ∈ xs, p y = true → ∀ L, EV C.exact c (f.comp scope fk L) elt (only x y) fun z => ∃ w, z = .sc w ∧ R y w) ∧ ∀ zs, Paired R (xs.filter p) zs → P (.list zs))
    (hfree : ∀ y ∈ scope.names, y.2 ≠ .free) (hcell : ∀ y ∈ scope.names, y.2 ≠ .cell)
    (hnames : ∀ y ∈ scope.names, y.2 = .local → scope.names.lookup y.1 = some .local) (hx : scope.names.lookup x = some .local)
    (hs : ∀ L x, foldedSetIterable iter (f.env L) x = pure x) :
    EV C c f (.ListComp elt [⟨.Name x px, iter, ifs, 0⟩] scope pos) ρ P := by
  intro A X L s Q E r w n b lo k
  refine wpAny_mono (Q := Q) (E := fun _ _ => False) ?_ (fun _ _ x => x) (fun _ _ x => x.elim)
  -- the tests and the value, as functions upon the model's values, are fixed once the items are known
  refine wpAny_ListComp hfree fk hnames (h.run r w n b lo fun xs v h1 t1 p k1 itb w1 => ?_) (hs L)
  obtain ⟨hsz, p, R, tests, elts, fin⟩ := p
  have b1 := b.kp k1
  refine wpAny_with_toks (n := 1) w1.2 (itb A _ _ _ r.handled (Kp.refl _ _) b1 fun I fp wr Pv St h2 t2 W st0 items k2 hwr hfp hfpo hwro ht2 => ?_)
  have hfps : ∀ b ∈ fp, b < h2.objs.size := fun b hb => by obtain ⟨o, q, _⟩ := hfpo 0 h2 st0 b hb; exact Heap.lt_size q
  have k12 := k1.trans k2
  have wrn : ∀ a ∈ wr, ∀ o, s.heap.get? a = some o → False := fun a ha o q => by
    have := k1.live (fun m => nomatch m) q
    rw [hwr a ha] at this; cases this
  have wrK : ∀ {h3 : Heap}, (∀ b o, b ∉ wr → h2.get? b = some o → h3.get? b = some o) → Kp C.ex wr h2 h3 := fun a => .ofBut a fun b hb => fields_notDict (hwro 0 h2 st0 b hb)
  have W' : Walks C.prog C.w A I fp wr xs.length (fun i v => i < xs.length ∧ Pv i v) St :=
    { sub := W.sub, frame := W.frame, self := W.self, done := W.done
      item := fun i s Q E hi st hQ => W.item i s Q E hi st fun v h' tk pv st' kk => hQ v h' tk ⟨hi, pv⟩ st' kk }
  have pvx : ∀ i v, (i < xs.length ∧ Pv i v) → ∃ x, xs[i]? = some x ∧ ScR v x := fun i v q => items i v q.1 q.2
  -- what holds in every heap of a turn
  have turn : ∀ (D : Addr) (i : Nat) (v : Value) (s₃ : Shared) (m₃ : Tx → Option Value), (i < xs.length ∧ Pv i v) → s₃.heap.Ns D m₃ → m₃ x = some v → (∀ b o, b ∉ wr → h2.get? b = some o → s₃.heap.get? b = some o) → 1 ≤ s₃.toks →
      ∃ y ∈ xs, scOf v = y ∧ ScR v y ∧ C.exact.Ws A s₃ ∧ Bd X s₃.heap ∧ Loc X s₃.heap D (only x y) := by
    intro D i v s₃ m₃ pv hn hm hk htk
    obtain ⟨y, hy, sr⟩ := pvx i v pv
    have hkp : Kp C.ex [] s.heap s₃.heap := k12.then (wrK hk) wrn
    refine ⟨y, List.mem_of_getElem? hy, scOf_eq sr, sr, ⟨C.stab _ _ [] w.1 hkp.weaker (fun _ m => nomatch m), htk, w.3.kp hkp⟩, b.kp hkp, m₃, hn, fun z q e => ?_⟩
    unfold only at e
    split at e
    · rename_i hz; subst hz; cases e; exact ⟨v, hm, .sc sr⟩
    · cases e
  refine comp_block_walk (RR := fun acc cenv r s' => ∃ m, s'.heap.Ns cenv.locals m ∧ ∀ h', Heap.SameBut cenv.locals s'.heap h' →
    match r with | .ok _ => Q acc { s' with heap := h' } | .error x => wpAny (model C.prog C.w) A (PySem.passOn "comprehension.variables-let-go" x cenv) Q (fun _ _ => False) { s' with heap := h' }) W' hsz (fun v => p (scOf v)) (fun v y => ∃ x z, ScR v x ∧ R x z ∧ ScR y z) hcell fk hx st0 hfps ?_ ?_
  · refine ⟨fun D i v s₃ m₃ E' pv hn hm hk htk => ?_, fun D i v s₃ m₃ E' pv hp hn hm hk htk => ?_⟩
    · obtain ⟨y, hy, e, sr, w3, b3, l3⟩ := turn D i v s₃ m₃ pv hn hm hk (Nat.le_trans ht2 htk)
      rw [e]
      have T := tests y hy L
      match ifs, T with
      | [], T => exact wpAny_tests_nil ⟨T.symm, s₃.heap, s₃.toks, rfl, fun _ _ e => e⟩
      | [t], T =>
        refine wpAny_tests_one ?_
        exact T A X D s₃ _ _ r w3 trivial b3 l3 fun q h' t' e kk => ⟨e, h', t', rfl, fun b o e => kk.keeps b o (fun m => nomatch m) e⟩
    · obtain ⟨y, hy, e, sr, w3, b3, l3⟩ := turn D i v s₃ m₃ pv hn hm hk (Nat.le_trans ht2 htk)
      simp only [e] at hp
      refine elts y hy hp L A X D s₃ _ _ r w3 trivial b3 l3 fun z u h' t' q kk rep => ?_
      obtain ⟨z', rfl, q⟩ := q
      cases rep with | sc rep => exact ⟨⟨y, z', sr, q, rep⟩, h', t', rfl, fun b o e => kk.keeps b o (fun m => nomatch m) e⟩
  · intro D C' h' tk m' ys vs hD hC hDC hn hl hpl hlen hP hF hk
    refine ⟨m', hn, fun h'' hs'' => ?_⟩
    have sv : ScsR vs xs := scsR_get hlen fun j v e => pvx j v (hP j v e)
    obtain ⟨zs, a1, a2⟩ := paired_of sv hF
    have hnew : ∀ b o, b ∉ wr → h2.get? b = some o → h''.get? b = some o := fun b o hb e => hs''.extBut b o (by rintro rfl; rw [hC] at e; cases e) (hk b o hb e)
    have kk : Kp C.ex [] s.heap h'' := k12.then (wrK hnew) wrn
    have hl' : h''.IsList D ys := hl.extBut hs''.extBut hDC
    refine k _ _ h'' tk (fin zs a2) kk (.list (vs := ys.toList) (fun m => ?_) (by simpa using hl') a1)
    obtain ⟨o, q⟩ := Option.isSome_iff_exists.mp ((b1.kp k2) D m)
    rw [hD] at q; cases q
end
end Mine
end
section
open PySem PySem.W PyProof.Rows
set_option Elab.async false
set_option maxRecDepth 100000
namespace Mine
section
variable {C : Cx} {c : Nat} {f : Fn} {ρ : Lo} {O : List (Tx × Addr)} {mg mb : Tx → Option Value}

theorem ScsR.drop {vs : List Value} {xs : List Sc} (h : ScsR vs xs) : ∀ k, ScsR (vs.drop k) (xs.drop k) := by
  induction h with
  | nil => intro k; simp; exact .nil
  | cons h r ih => intro k; cases k with
    | zero => exact .cons h r
    | succ k => exact ih k
theorem ScsR.take {vs : List Value} {xs : List Sc} (h : ScsR vs xs) : ∀ k, ScsR (vs.take k) (xs.take k) := by
  induction h with
  | nil => intro k; simp; exact .nil
  | cons h r ih => intro k; cases k with
    | zero => exact .nil
    | succ k => exact .cons h (ih k)

noncomputable def toI : Option Nat → Option Int
  | .some k => .some k
  | .none => .none
theorem EVslice {value : Expr} {lower upper : Option Expr} {p pos : Pos} {P : PV → Prop} (lo hi : Option Nat) (nl nu : Nat) (pl pu : Pos)
    (hlo : lower = lo.map fun k => Expr.Constant (.int (k : Nat)) nl pl) (hhi : upper = hi.map fun k => Expr.Constant (.int (k : Nat)) nu pu) (hone : (lo = .none ∧ hi.isSome = true) ∨ (hi = .none ∧ lo.isSome = true))
    (h : EV C c f value ρ fun o => ∃ l, o = .list l ∧ l.length ≤ sizeLine ∧ P (.list (match lo, hi with | some k, _ => l.drop k | _, some k => l.take k | _, _ => l)))
    (ht : ∀ o r, letTemporaryGo value o r = pure ()) : EV C c f (.Subscript value (.Slice lower upper .none p) pos) ρ P := by
  subst hlo hhi
  intro A X L s Q E r w n b lo' k
  refine wpAny_Subscript_list_slice (h.run r w n b lo' fun o v h1 t1 p1 k1 r1 w1 b1 l1 => ?_) ht
  obtain ⟨l, rfl, hsz, p1⟩ := p1
  cases r1 with | @list a vs _ hx ho r1 =>
  have e : vs.toArray.size = l.length := by rw [List.size_toArray]; exact r1.length
  have fin : ∀ (t2 : Nat) (vl vu : Value) (lo hi : Option Nat) (l' : List Sc), IsPart vl (toI lo) → IsPart vu (toI hi) →
      ScsR (slicePick vs.toArray (toI lo) (toI hi) .none).toList l' → P (.list l') →
      ∃ l2 items lo hi, Value.ref a = .ref l2 ∧ h1.IsList l2 items ∧ items.size ≤ sizeLine ∧ IsPart vl lo ∧ IsPart vu hi ∧
        Q (.ref (h1.objs.size + 1)) { s with heap := (h1.push { cls := .type "slice", data := .fields #[vl, vu, .none] }).push { cls := .type "list", data := .seq (slicePick items lo hi .none) }, toks := t2 } := by
    intro t2 vl vu lo hi l' il iu sr pp
    refine ⟨a, vs.toArray, _, _, rfl, ho, by rw [e]; exact hsz, il, iu, ?_⟩
    have kk := (Kp.push (x := C.ex) h1 { cls := .type "slice", data := .fields #[vl, vu, .none] }).trans (Kp.push _ { cls := .type "list", data := .seq (slicePick vs.toArray (toI lo) (toI hi) .none) })
    refine k (.list l') _ _ t2 pp (k1.trans kk) (.list (vs := (slicePick vs.toArray (toI lo) (toI hi) .none).toList) ?_ ?_ sr)
    · have := (b1.kp (Kp.push (x := Option.none) h1 { cls := .type "slice", data := .fields #[vl, vu, .none] })).size
      rw [Heap.size_push] at this; exact this
    · refine ⟨{ cls := .type "list", data := .seq (slicePick vs.toArray (toI lo) (toI hi) .none) }, ?_, rfl, 0, by simp⟩
      have := Heap.get?_push_size (h1.push { cls := .type "slice", data := .fields #[vl, vu, .none] }) (o := { cls := .type "list", data := .seq (slicePick vs.toArray (toI lo) (toI hi) .none) }) rfl
      rw [Heap.size_push] at this; exact this
  rcases hone with ⟨rfl, hs⟩ | ⟨rfl, hs⟩
  · obtain ⟨m, rfl⟩ := Option.isSome_iff_exists.mp hs
    refine wpAny_pure ?_
    refine wpAny_Constant_int (k := nu) (pos := pu) ?_
    refine fin _ _ _ none (some m) (l.take m) .none (.int _ _) ?_ p1
    show ScsR (slicePick vs.toArray none (some (m : Int)) none).toList _
    rw [slicePick_upto']; simpa using r1.take m
  · obtain ⟨m, rfl⟩ := Option.isSome_iff_exists.mp hs
    refine wpAny_Constant_int (k := nl) (pos := pl) ?_
    refine wpAny_pure ?_
    refine fin _ _ _ (some m) none (l.drop m) (.int _ _) .none ?_ p1
    show ScsR (slicePick vs.toArray (some (m : Int)) none none).toList _
    rw [slicePick_from']; simpa using r1.drop m

noncomputable def iL (is : List Int) : List Sc := is.map Sc.int
theorem scsR_ints : ∀ {vs : List Value} {is : List Int}, ScsR vs (iL is) → IntsAre vs is
  | [], [], _ => .nil
  | [], _ :: _, h => by cases h
  | _ :: _, [], h => by cases h
  | _ :: _, i :: is, h => by
    cases h with | cons a r => cases a with | int _ t => exact .cons i t (scsR_ints r)
theorem ints_at : ∀ {vs : List Value} {is : List Int}, ScsR vs (iL is) → ∀ (j : Nat) (h : j < vs.length), ∃ (h' : j < is.length) (t : Tok), vs[j] = .int is[j] t
  | [], [], _ => fun j h => by simp at h
  | [], _ :: _, h => by cases h
  | _ :: _, [], h => by cases h
  | _ :: _, i :: is, h => fun j hj => by
    cases h with | cons a r =>
      cases j with
      | zero => cases a with | int _ t => exact ⟨by simp, t, rfl⟩
      | succ j => obtain ⟨h', t, e⟩ := ints_at r j (by simpa using hj); exact ⟨by simpa using h', t, by simpa using e⟩

theorem OV.inTI {i : Int} {is : List Int} {P : PV → Prop} (hp : P (.sc (.bool (is.any (· == i))))) : OV C c (compareOp .In) (.sc (.int i)) (.tup (iL is)) P := by
  intro A X s va vb Q E r w b ra rb k
  cases ra with | sc ra => cases ra with | int _ t => cases rb with | @tup a vs _ hx ho rb =>
  exact in_tuple_ints ho (by simpa using scsR_ints rb) (k _ _ s.heap s.toks hp (Kp.refl _ _) (.sc (.bool _)))

/-- a <= b <= c -/
theorem TV.chain {l r r' : Expr} {op op' : CmpOp} {pos : Pos} {P : Bool → Prop}
    (h : EV C c f l ρ fun a => EV C c f r ρ fun b => OV C c (compareOp op) a b fun x => ∃ t, x = .sc (.bool t) ∧ if t = true then EV C c f r' ρ fun b' => OV C c (compareOp op') b b' fun x => ∃ t, x = .sc (.bool t) ∧ P t else P false)
    (hm : lastMarks [op, op'] [r, r'] = false := by with_unfolding_all rfl) : TV C c f (.Compare l [op, op'] [r, r'] pos) ρ P := by
  intro A X L s Q E rm w n b lo k
  refine isTrue_chain (rs := []) (ops := []) (h.run rm w n b lo fun a va h1 t1 ha k1 r1 w1 b1 l1 => ?_) hm
  refine test_link (ha.run rm w1 n b1 l1 fun b' vb h2 t2 hb k2 r2 w2 b2 l2 => ?_)
  refine hb.run rm w2 b2 (r1.kp k2) r2 fun x v h3 t3 p3 k3 r3 w3 => ?_
  obtain ⟨t, rfl, p3⟩ := p3
  cases r3 with | sc q =>
  cases q
  refine wpAny_truthy_bool ?_
  have k13 := (k1.trans k2).trans k3
  cases t with
  | false => exact k false h3 t3 p3 k13
  | true =>
    refine test_last (EV.run p3 rm w3 n (b2.kp k3) (l2.kp k3) fun c' vc h4 t4 hc k4 r4 w4 b4 l4 => ?_)
    refine hc.run rm w4 b4 ((r2.kp k3).kp k4) r4 fun x v h5 t5 p5 k5 r5 w5 => ?_
    obtain ⟨t, rfl, p5⟩ := p5
    cases r5 with | sc q =>
    cases q
    exact wpAny_truthy_bool (k t h5 t5 p5 ((k13.trans k4).trans k5))

/-- a try whose body does not raise -/
theorem ES1.try {body : List Stmt} {h₀ : ExceptHandler} {hs : List ExceptHandler} {pos : Pos} {P : Out → Prop} (h : ES C c f body ρ O P) : ES1 C c f (.Try body (h₀ :: hs) [] [] pos) ρ O P := by
  intro A X L s Q E r w n i k
  refine wpAny_mono (Q := Q) (E := fun _ _ => False) ?_ (fun _ _ x => x) (fun _ _ x => x.elim)
  refine wpAny_Try_except (wpAny_mono (E := fun _ _ => False) (h A X L s (fun fl s' => match fl with | .next => wpAny (model C.prog C.w) A (execs [] (f.env L)) Q (fun _ _ => False) s' | fl => Q fl s') _ r w n i fun o fl h' t' p kk oR => ?_) (fun _ _ q => q) fun _ _ e => e.elim)
  cases o with
  | next ρ' => obtain ⟨rfl, i'⟩ := oR; exact wpAny_execs_nil (k _ _ h' t' p kk ⟨rfl, i'⟩)
  | brk ρ' => obtain ⟨rfl, i'⟩ := oR; exact k _ _ h' t' p kk ⟨rfl, i'⟩
  | cont ρ' => obtain ⟨rfl, i'⟩ := oR; exact k _ _ h' t' p kk ⟨rfl, i'⟩
  | ret x => obtain ⟨v, rfl, q⟩ := oR; exact k _ _ h' t' p kk ⟨v, rfl, q⟩

/-- a global name -/
theorem EV.global {g : Tx} {p : Pos} {v : Value} {x : PV} {P : PV → Prop} (G : Gd C mg mb) (hmg : mg g = some v) (hr : ∀ X h, C.W h → Bd X h → Rep X h v x) (hp : P x) (hk : f.sc.names.lookup g = some .globalImplicit)
    (hd : (g == ("__debug__" : Tx)) = false := by decide) : EV C c f (.Name g p) ρ P := by
  intro A X L s Q E r w n b l k
  exact Calls.Name_function_global f.fk hk (Calls.loadGlobal_global (env := f.env L) (G.g _ w.1) hmg (k x v s.heap s.toks hp (Kp.refl _ _) (hr X _ w.1 b))) hd

/-- a call of one of the text's own defs, by name -/
noncomputable def Cl (C : Cx) (c : Nat) (mg : Tx → Option Value) (nm : Tx) (as : List PV) (P : PV → Prop) : Prop :=
  ∃ a, mg nm = some (.ref a) ∧ (∀ h, C.W h → ∃ o fd, h.get? a = some o ∧ o.data = .func fd) ∧ Fct C c a as P
noncomputable def Cl0 (C : Cx) (c : Nat) (mg : Tx → Option Value) (nm : Tx) (as : List PV) (P : PV → Prop) : Prop :=
  ∃ a, mg nm = some (.ref a) ∧ (∀ h, C.W h → ∃ o fd, h.get? a = some o ∧ o.data = .func fd) ∧ Fct0 C c a as P
theorem Cl0.cl {nm : Tx} {as : List PV} {P : PV → Prop} (h : Cl0 C c mg nm as P) : Cl C c mg nm as P :=
  let ⟨a, q, f, z⟩ := h; ⟨a, q, f, z.fct⟩
theorem Cl.mono {nm : Tx} {as : List PV} {P P' : PV → Prop} (h : Cl C c mg nm as P) (i : ∀ x, P x → P' x) : Cl C c mg nm as P' :=
  let ⟨a, q, f, z⟩ := h; ⟨a, q, f, z.mono i⟩
theorem Cl.less {d : Nat} {nm : Tx} {as : List PV} {P : PV → Prop} (h : Cl C c mg nm as P) (hd : c ≤ d) : Cl C d mg nm as P :=
  let ⟨a, q, f, z⟩ := h; ⟨a, q, f, z.less hd⟩
noncomputable def Df (C : Cx) (mg : Tx → Option Value) (g : Tx) : Prop := ∃ a, mg g = some (.ref a) ∧ ∀ h, C.W h → ∃ o fd, h.get? a = some o ∧ o.data = .func fd
theorem EV.callN {g : Tx} {p pos : Pos} {args : List Expr} {P : PV → Prop} (G : Gd C mg mb) (D : Df C mg g)
    (h : EVs C c f args ρ fun xs => Cl C c mg g xs P) (hne : args ≠ []) (hargs : ∀ L, (backTo pos (starEach args (f.env L))).head?.map (·.1) = some false) (hk : f.sc.names.lookup g = some .globalImplicit) (hd : (g == ("__debug__" : Tx)) = false := by decide) : EV C c f (.Call (.Name g p) args [] pos) ρ P := by
  obtain ⟨a, hmg, hfn⟩ := D
  refine EV.call (mb := mb) (P := P) G hmg hfn hne hargs (fun pos A X L s Q E r w n b l k => h pos A X L s Q E r w n b l fun xs vs h' t' p => k xs vs h' t' ?_) hk hd
  obtain ⟨a', e, _, z⟩ := p
  rw [hmg] at e; cases e; exact z
end
end Mine
end
section
open PySem PySem.W PyProof.Rows
set_option Elab.async false
set_option maxRecDepth 100000
set_option linter.all false
namespace Mine
theorem plain_pat : PlainAttrs "re.Pattern" :=
  ⟨⟨"object.__getattribute__", by rw [typeLookup_type, builtinLookup_eq_fast]; kernel_rfl, by decide +kernel⟩, by rw [typeLookup_type, builtinLookup_eq_fast]; kernel_rfl⟩
theorem slot_sub : Slot "re.Pattern" "sub" "re.Pattern.sub" :=
  .of (owner := "re.Pattern") (n := "sub") (by rw [typeLookup_type, builtinLookup_eq_fast]; kernel_rfl) (by decide +kernel) (by decide +kernel) (by decide +kernel)
    (by first | exact .inl (by decide +kernel) | exact .inr (by decide +kernel)) (by rw [isSubtype_type]; kernel_rfl)
theorem type_sub : typeOf (.builtin "re.Pattern.sub") = pure (.type "method_descriptor") := by show builtinType _ = _; rw [builtinType_eq_fast]; kernel_rfl
theorem entry_sub : entryFor table "re.Pattern.sub" = some Builtin.«re.Pattern.sub» := entryFor_of_tree (by kernel_rfl)
theorem entry_loop : entryFor table "re.Pattern.sub.loop" = some Builtin.«re.Pattern.sub.loop» := entryFor_of_tree (by kernel_rfl)
theorem plain_loop : plainId "re.Pattern.sub.loop" = true := by decide +kernel
theorem args_sub (a b c : Value) : argsOk "re.Pattern.sub" ⟨[a, b, c], []⟩ := by unfold argsOk; kernel_rfl
end Mine
end
section
open PySem PySem.W PyProof.Rows PySem.Builtin.Re
set_option Elab.async false
set_option maxRecDepth 100000
set_option linter.all false
namespace Mine
section
variable {prog : Program} {w : World} {A : Around} {E : Value → Shared → Prop} {s : Shared}

theorem rawItems {a : Addr} {l : List Int} {Q : Array Int → Shared → Prop} (ho : ∃ o n, s.heap.get? a = some o ∧ o.data = .seq (l.map fun i => Value.int i 0).toArray n) (h : Q l.toArray s) : wpAny (model prog w) A (reRawItems (.ref a)) Q E s := by
  obtain ⟨o, n, h1, h2⟩ := ho
  unfold reRawItems
  refine wpAny_bind (wpAny_seqItems h1 h2 (wpAny_pure ?_))
  have e : ((some (l.map fun i => Value.int i 0).toArray).getD #[]).map reRawOf = l.toArray := by
    show ((l.map fun i => Value.int i 0).toArray).map reRawOf = l.toArray
    rw [List.map_toArray, List.map_map]
    congr 1
    have : ∀ l : List Int, l.map (reRawOf ∘ fun i => Value.int i 0) = l := fun l => by
      induction l with
      | nil => rfl
      | cons i l ih => rw [List.map_cons, ih]; rfl
    exact this l
  rw [e]; exact h

theorem wholeS {pa ca : Addr} {o : Obj} {fs : Array Value} {l : List Int} {x : PySem.Str} {t : Tok} {Q : ReTarget → Shared → Prop} (hp : s.heap.get? pa = some o) (hf : o.data = .fields fs) (h6 : reRawNat (fs.getD 6 .none) = 0) (h2 : reRawNat (fs.getD 2 .none) = 0) (h5 : fs.getD 5 .none = .ref ca)
    (hc : ∃ o n, s.heap.get? ca = some o ∧ o.data = .seq (l.map fun i => Value.int i 0).toArray n)
    (h : Q { pattern := .ref pa, string := .str x t, code := l.toArray.map (·.toNat), text := x.cps, kind := 0, groups := 0, pos := 0, lim := x.cps.size } s) : wpAny (model prog w) A (reWholeTarget (.ref pa) (.str x t)) Q E s := by
  unfold reWholeTarget
  refine wpAny_bind (wpAny_fieldsOf hp hf ?_)
  refine wpAny_bind (m := reTextOf (.str x t)) (wpAny_pure ?_)
  dsimp only
  rw [h6, h2, h5, if_neg (by decide), if_neg (by decide)]
  refine wpAny_bind (m := reNoCollectionInside (.str x t) 0) (wpAny_pure ?_)
  exact wpAny_bind (rawItems hc (wpAny_pure h))
end
end Mine
end
section
open PySem PySem.W PyProof.Rows PySem.Builtin PySem.Builtin.Re
set_option Elab.async false
set_option maxRecDepth 100000
set_option linter.all false
namespace Mine

/-- the text with z in place of each place that srch tells -/
noncomputable def sb (srch : Nat → Option (Nat × Nat)) (text z : List Nat) : Nat → Nat → List Nat
  | 0, _ => []
  | k + 1, s => match srch s with
    | none => text.drop s
    | some (p, e) => (text.drop s).take (p - s) ++ z ++ sb srch text z k e

inductive PsR (PR : Value → List Nat → Prop) : List Value → List (List Nat) → Prop
  | nil : PsR PR [] []
  | cons {v : Value} {x : List Nat} {vs : List Value} {xs : List (List Nat)} (h : PR v x) (r : PsR PR vs xs) : PsR PR (v :: vs) (x :: xs)
theorem PsR.app {PR : Value → List Nat → Prop} {vs ws : List Value} {xs ys : List (List Nat)} (h : PsR PR vs xs) (g : PsR PR ws ys) : PsR PR (vs ++ ws) (xs ++ ys) := by
  induction h with
  | nil => exact g
  | cons h _ ih => exact .cons h ih

/-- what the loop of a substitution leans on -/
structure SubOk (prog : Program) (w : World) (pv sv rv : Value) (t : ReTarget) (text z : List Nat) (srch : Nat → Option (Nat × Nat)) (PR : Value → List Nat → Prop) (keep : List Addr) (h0 : Heap) : Prop where
  whole : ∀ (A : Around) (E : Value → Shared → Prop) (s : Shared) (Q : ReTarget → Shared → Prop), (∀ b ∈ keep, s.heap.get? b = h0.get? b) → Q t s → wpAny (model prog w) A (reWholeTarget pv sv) Q E s
  lit : ∀ (A : Around) (E : Value → Shared → Prop) (s : Shared) (Q : Unit → Shared → Prop), Q () s → wpAny (model prog w) A (reLiteralCannotBeTurned rv) Q E s
  nn : (rv != Value.none) = true
  rep : PR rv z
  z2 : z.length ≤ 2
  lim : t.lim = text.length
  small : text.length ≤ 1000000
  find : ∀ (A : Around) (E : Value → Shared → Prop) (s : Shared) (Q : Option Sre.M → Shared → Prop) (i : Nat), i ≤ text.length → (match srch i with | none => Q none s | some (p, e) => i ≤ p ∧ p < e ∧ e ≤ text.length ∧ ∀ m : Sre.M, m.start = p → m.handed = e → Q (some m) s) → wpAny (model prog w) A (reNextFound t i false) Q E s
  slice : ∀ (A : Around) (E : Value → Shared → Prop) (s : Shared) (Q : Value → Shared → Prop) (b e : Nat), b ≤ e → e ≤ text.length → (∀ v k, PR v ((text.drop b).take (e - b)) → Q v { s with toks := k }) → wpAny (model prog w) A (reSlice t.text t.kind b e) Q E s
  join : ∀ (A : Around) (E : Value → Shared → Prop) (s : Shared) (Q : Value → Shared → Prop) (j : Value) (l : Addr) (vs : List Value) (n : Nat) (zs : List (List Nat)), PR j [] → s.heap.get? l = some (seqObj "list" vs n) → PsR PR vs zs → zs.flatten.length ≤ 4000000 → vs.length ≤ 4000000 → vs ≠ [] →
    (∀ v k, PR v zs.flatten → Q v { s with toks := k }) → wpAny (model prog w) A (call (.builtin (if (t.kind == 0) = true then "str.join" else "bytes.join")) [j, .ref l]) Q E s

section
variable {prog : Program} {w : World} {A : Around} {R : Result → Shared → Prop}
theorem push_piece {s : Shared} {E : Value → Shared → Prop} {la : Addr} {vs : List Value} {n : Nat} {v : Value} {Q : Unit → Shared → Prop} (ho : s.heap.get? la = some (seqObj "list" vs n)) (hz : vs.length ≤ 4000000)
    (h : ∀ h' n', h'.get? la = some (seqObj "list" (vs ++ [v]) n') → Heap.SameBut la s.heap h' → Q () { s with heap := h' }) : wpAny (model prog w) A (updateSeq la fun x => x.push v) Q E s := by
  refine wpAny_updateSeq ho rfl ?_ (by rw [List.size_toArray]; exact Nat.le_trans hz (by decide)) (by rw [Array.size_push, List.size_toArray]; exact Nat.le_trans (Nat.succ_le_succ hz) (by decide))
  obtain ⟨n', hu⟩ := update_seq (g := fun z => z.push v) ho
  exact h _ n' (by rw [hu]; simp) (Heap.SameBut.update ..)

theorem turn_lt {l i k p e : Nat} (hk : l - i < k + 1) (hip : i ≤ p) (hpe : p < e) (hel : e ≤ l) : l - e < k := by omega
theorem loop_ok {pv sv rv : Value} {t : ReTarget} {text z : List Nat} {srch : Nat → Option (Nat × Nat)} {PR : Value → List Nat → Prop} {keep : List Addr} {h0 : Heap} (K : SubOk prog w pv sv rv t text z srch PR keep h0) {la : Addr} (hla : la ∉ keep)
    (hmono : ∀ i, match srch i with | none => True | some (p, e) => p < e ∧ i ≤ p ∧ e ≤ text.length) :
    ∀ (k : Nat) (s : Shared) (i n : Nat) (vs : List Value) (zs : List (List Nat)) (ln : Nat), i ≤ text.length → text.length - i < k → (∀ b ∈ keep, s.heap.get? b = h0.get? b) → s.heap.get? la = some (seqObj "list" vs ln) → PsR PR vs zs → zs.flatten.length ≤ 2 * i → vs.length ≤ 2 * i →
      (∀ v h' tk, PR v (zs.flatten ++ sb srch text z k i) → Kp Option.none [la] s.heap h' → R (.ok (.ret v)) { s with heap := h', toks := tk }) →
      codeAny (model prog w) A (.builtin "re.Pattern.sub.loop" ⟨[pv, sv, rv, rawInt 0, rawInt 0, rawInt (n : Nat), rawInt (i : Nat), rawInt (i : Nat), .bool false, .ref la, .bool false], []⟩) R s := by
  intro k
  induction k with
  | zero => intro s i n vs zs ln hi hk; exact absurd hk (Nat.not_lt_zero _)
  | succ k ih =>
    intro s i n vs zs ln hi hk hkeep hl hps hfl hvl hR
    refine codeAny_builtin entry_loop ?_
    unfold Builtin.«re.Pattern.sub.loop»
    refine wpAny_bind (K.whole _ _ _ _ hkeep ?_)
    dsimp only
    rw [if_pos (by rfl)]
    refine wpAny_bind (K.lit _ _ _ _ ?_)
    rw [if_neg (by simp)]
    have him := hmono i
    have keepS : ∀ {h' : Heap}, Heap.SameBut la s.heap h' → ∀ b ∈ keep, h'.get? b = h0.get? b := fun sb b hb => (sb.2 b (fun e => hla (e ▸ hb))).trans (hkeep b hb)
    refine wpAny_bind (K.find _ _ _ _ (Int.toNat (i : Int)) (by rw [Int.toNat_natCast]; exact hi) ?_)
    rw [Int.toNat_natCast]
    cases hs : srch i with
    | none =>
      dsimp only
      have out : sb srch text z (k + 1) i = text.drop i := by unfold sb; rw [hs]
      rw [out] at hR
      have fin : ∀ (s' : Shared) (vs' : List Value) (zs' : List (List Nat)) (n' : Nat), s'.heap.get? la = some (seqObj "list" vs' n') → PsR PR vs' zs' → zs'.flatten = zs.flatten ++ text.drop i → zs'.flatten.length ≤ 4000000 → vs'.length ≤ 4000000 →
          (∀ v k, PR v zs'.flatten → R (.ok (.ret v)) { s' with toks := k }) →
          wpAny (model prog w) (A.under (.builtin "re.Pattern.sub.loop" ⟨[pv, sv, rv, rawInt 0, rawInt 0, rawInt (n : Nat), rawInt (i : Nat), rawInt (i : Nat), .bool false, .ref la, .bool false], []⟩)) (do
            let joiner ← reSlice t.text t.kind 0 0
            let items ← seqItems? (.ref la)
            let jp : Value → Sem PySem.Fin := fun text => if false = true then do
                    let x ← holding [text] do
                          let y ← mkInt (n : Int)
                          newTuple [text, y]
                    ret x
                  else ret text
            if (items.getD #[]).isEmpty = true then do
                let text ← pure joiner
                jp text
              else do
                let text ← call (.builtin (if (t.kind == 0) = true then "str.join" else "bytes.join")) [joiner, .ref la]
                jp text) (fun fin s' => match fin with | .done f => R (.ok f) s' | .again c' => c'.quiet = true ∧ codeAny (model prog w) A c' R s') (fun e s' => R (.error e) s') s' := by
        intro s' vs' zs' n' hl' hps' he hf' hv' hR'
        refine wpAny_bind (K.slice _ _ _ _ 0 0 (Nat.le_refl _) (Nat.zero_le _) fun j tk hj => ?_)
        refine wpAny_bind (wpAny_seqItems (s := { s' with toks := tk }) hl' rfl ?_)
        dsimp only
        have hj0 : PR j [] := by simpa using hj
        cases hv : vs' with
        | nil =>
          subst hv
          cases hps'
          rw [if_pos (by rfl)]
          refine wpAny_bind (wpAny_pure ?_)
          rw [if_neg (by decide)]
          exact wpAny_pure (hR' _ _ (by simpa using hj0))
        | cons v0 vr =>
          rw [← hv, if_neg (by rw [hv]; simp)]
          refine wpAny_bind (K.join _ _ { s' with toks := tk } _ j la vs' n' zs' hj0 hl' hps' hf' hv' (by rw [hv]; simp) fun v tk' hv'' => ?_)
          rw [if_neg (by decide)]
          exact wpAny_pure (hR' _ _ hv'')
      by_cases hlt : i < t.lim
      · rw [if_pos hlt, K.lim]
        rw [K.lim] at hlt
        refine wpAny_bind (K.slice _ _ _ _ i text.length hi (Nat.le_refl _) fun v tk hv => ?_)
        have hv2 : PR v (text.drop i) := by rw [List.take_of_length_le (by rw [List.length_drop]; exact Nat.le_refl _)] at hv; exact hv
        refine wpAny_bind (push_piece (s := { s with toks := tk }) hl (by have := K.small; omega) fun h' n' hl' sb' => ?_)
        refine fin { s with heap := h', toks := tk } _ (zs ++ [text.drop i]) n' hl' (hps.app (.cons hv2 .nil)) (by simp) (by have := K.small; simp only [List.flatten_append, List.length_append, List.flatten_cons, List.flatten_nil, List.append_nil, List.length_drop]; omega) (by have := K.small; simp only [List.length_append, List.length_singleton]; omega) fun v tk' hv' => ?_
        exact hR v h' tk' (by simpa using hv') (Kp.but sb' fun d => absurd d (notDict hl fun es m e => by cases e))
      · rw [if_neg hlt]
        rw [K.lim] at hlt
        have hd : text.drop i = [] := List.drop_eq_nil_of_le (Nat.le_of_not_lt hlt)
        refine fin s _ zs ln hl hps (by rw [hd]; simp) (by have := K.small; omega) (by have := K.small; omega) fun v tk' hv' => ?_
        exact hR v s.heap tk' (by rw [hd, List.append_nil]; exact hv') (Kp.refl _ _)
    | some pe =>
      obtain ⟨p, e⟩ := pe
      rw [hs] at him
      obtain ⟨hpe, hip, hel⟩ := him
      refine ⟨hip, hpe, hel, fun m hm1 hm2 => ?_⟩
      dsimp only
      have out : sb srch text z (k + 1) i = (text.drop i).take (p - i) ++ z ++ sb srch text z k e := by rw [sb, hs]
      rw [out] at hR
      have sm := K.small
      have nxt : ∀ (s' : Shared) (vs' : List Value) (zs' : List (List Nat)) (n' : Nat), (∀ b ∈ keep, s'.heap.get? b = h0.get? b) → s'.heap.get? la = some (seqObj "list" vs' n') → PsR PR vs' zs' → zs'.flatten.length ≤ 2 * i + (p - i) → vs'.length ≤ 2 * i + 1 →
          (∀ v h' tk, PR v (zs'.flatten ++ z ++ sb srch text z k e) → Kp Option.none [la] s'.heap h' → R (.ok (.ret v)) { s' with heap := h', toks := tk }) →
          wpAny (model prog w) (A.under (.builtin "re.Pattern.sub.loop" ⟨[pv, sv, rv, rawInt 0, rawInt 0, rawInt (n : Nat), rawInt (i : Nat), rawInt (i : Nat), .bool false, .ref la, .bool false], []⟩)) (do
            let item ← pure rv
            let jp := fun (__r : Unit) => again (Code.builtin "re.Pattern.sub.loop" ⟨[pv, sv, rv, rawInt 0, rawInt 0, rawInt ((n : Int) + 1), rawInt m.handed, rawInt m.handed, .bool (m.handed == m.start), .ref la, .bool false], []⟩)
            if (item != Value.none) = true then do
              let r ← updateSeq la fun x => x.push item
              jp r
            else jp ()) (fun fin s' => match fin with | .done f => R (.ok f) s' | .again c' => c'.quiet = true ∧ codeAny (model prog w) A c' R s') (fun e s' => R (.error e) s') s' := by
        intro s' vs' zs' n' hk' hl' hps' hf' hv' hR'
        refine wpAny_bind (wpAny_pure ?_)
        rw [if_pos K.nn]
        refine wpAny_bind (push_piece hl' (by omega) fun h' n'' hl'' sb' => ?_)
        refine wpAny_pure ⟨plainId_quiet plain_loop _, ?_⟩
        rw [hm1, hm2]
        have e1 : (e == p) = false := by rw [beq_eq_false_iff_ne]; exact Nat.ne_of_gt hpe
        have e2 : ((n : Int) + 1) = ((n + 1 : Nat) : Int) := rfl
        rw [e1, e2]
        have z2 := K.z2
        refine ih { s' with heap := h' } e (n + 1) (vs' ++ [rv]) (zs' ++ [z]) n'' hel (turn_lt hk hip hpe hel) (fun b hb => (sb'.2 b (fun e => hla (e ▸ hb))).trans (hk' b hb)) hl'' (hps'.app (.cons K.rep .nil))
          (by simp only [List.flatten_append, List.length_append, List.flatten_cons, List.flatten_nil, List.append_nil]; omega) (by simp only [List.length_append, List.length_singleton]; omega) fun v h'' tk hv kk => ?_
        exact hR' v h'' tk (by simpa using hv) ((Kp.but sb' fun d => absurd d (notDict hl' fun es m e => by cases e)).trans kk)
      by_cases hlt : i < m.start
      · rw [if_pos hlt]
        rw [hm1] at hlt
        rw [hm1]
        refine wpAny_bind (K.slice _ _ _ _ i p hip (Nat.le_trans (Nat.le_of_lt hpe) hel) fun v tk hv => ?_)
        refine wpAny_bind (push_piece (s := { s with toks := tk }) hl (by omega) fun h' n' hl' sb' => ?_)
        have hlen : ((text.drop i).take (p - i)).length ≤ p - i := by rw [List.length_take]; exact Nat.min_le_left _ _
        have := nxt { s with heap := h', toks := tk } (vs ++ [v]) (zs ++ [(text.drop i).take (p - i)]) n' (keepS sb') hl' (hps.app (.cons hv .nil)) (by simp only [List.flatten_append, List.length_append, List.flatten_cons, List.flatten_nil, List.append_nil]; omega) (by simp only [List.length_append, List.length_singleton]; omega) fun v h'' tk' hv' kk => hR v h'' tk' (by simpa using hv') ((Kp.but sb' fun d => absurd d (notDict hl fun es m e => by cases e)).trans kk)
        rw [if_pos (by rfl)]
        rw [hm1] at this
        exact this
      · rw [if_neg hlt]
        rw [hm1] at hlt
        have hpi : p = i := Nat.le_antisymm (Nat.le_of_not_lt hlt) hip
        have := nxt s vs zs ln hkeep hl hps (by omega) (by omega) fun v h'' tk' hv' kk => hR v h'' tk' (by simpa [hpi] using hv') kk
        rw [if_pos (by rfl)]
        exact this
end
end Mine
end
section
open PySem PySem.W PyProof.Rows
set_option Elab.async false
set_option maxRecDepth 100000
namespace Mine
section
variable {C : Cx} {c : Nat} {f : Fn} {ρ : Lo} {O : List (Tx × Addr)} {mg mb : Tx → Option Value}

/-- a < b < c, its value -/
theorem EV.chain {l r r' : Expr} {op op' : CmpOp} {pos : Pos} {P : PV → Prop}
    (h : EV C c f l ρ fun a => EV C c f r ρ fun b => OV C c (compareOp op) a b fun x => ∃ t, x = .sc (.bool t) ∧ if t = true then EV C c f r' ρ fun b' => OV C c (compareOp op') b b' P else P (.sc (.bool false)))
    (hm : lastMarks [op, op'] [r, r'] = false) : EV C c f (.Compare l [op, op'] [r, r'] pos) ρ P := by
  intro A X L s Q E rm w n b lo k
  refine Compare_chain (rs := []) (ops := []) (h.run rm w n b lo fun a va h1 t1 ha k1 r1 w1 b1 l1 => ?_) hm
  refine chain_link (ha.run rm w1 n b1 l1 fun b' vb h2 t2 hb k2 r2 w2 b2 l2 => ?_)
  refine hb.run rm w2 b2 (r1.kp k2) r2 fun x v h3 t3 p3 k3 r3 w3 => ?_
  obtain ⟨t, rfl, p3⟩ := p3
  cases r3 with | sc q =>
  cases q
  refine wpAny_truthy_bool ?_
  have k13 := (k1.trans k2).trans k3
  cases t with
  | false => exact k _ _ h3 t3 p3 k13 (.sc (.bool _))
  | true =>
    refine chain_last (EV.run p3 rm w3 n (b2.kp k3) (l2.kp k3) fun c' vc h4 t4 hc k4 r4 w4 b4 l4 => ?_)
    exact hc.run rm w4 b4 ((r2.kp k3).kp k4) r4 fun x v h5 t5 p5 k5 r5 w5 => k _ _ h5 t5 p5 ((k13.trans k4).trans k5) r5

theorem boolOp_two {pos : Pos} {op : BoolOp} {x y : Sem Value} {A : Around} {s : Shared} {M : Model} {Q E : Value → Shared → Prop}
    (h : wpAny M A x (fun v s1 => wpAny M A (truthy v) (fun t s2 => match op, t with | .And, false => Q v s2 | .Or, true => Q v s2 | _, _ => wpAny M A y Q E s2) E s1) E s) :
    wpAny M A (boolOp pos op [x, y]) Q E s := by
  show wpAny M A (do
    let v ← x
    standAt pos
    let t ← holding [v] (truthy v)
    match op, t with
    | .And, false | .Or, true => pure v
    | _, _ => y) Q E s
  refine wpAny_bind (wpAny_mono h (fun v s1 h1 => wpAny_bind (wpAny_standAt (wpAny_bind (wpAny_holding (wpAny_mono h1 (fun t s2 h2 => ?_) fun _ _ x => x))))) fun _ _ x => x)
  cases op <;> cases t <;> first | exact wpAny_pure h2 | exact h2
theorem EV.and2 {x y : Expr} {pos : Pos} {P : PV → Prop} (h : EV C c f x ρ fun v => ∃ t, v = .sc (.bool t) ∧ if t = true then EV C c f y ρ P else P (.sc (.bool false))) : EV C c f (.BoolOp .And [x, y] pos) ρ P := by
  intro A X L s Q E rm w n b lo k
  rw [arm_eval_BoolOp]
  refine boolOp_two (h.run rm w n b lo fun v va h1 t1 ha k1 r1 w1 b1 l1 => ?_)
  obtain ⟨t, rfl, p⟩ := ha
  cases r1 with | sc q =>
  cases q
  refine wpAny_truthy_bool ?_
  cases t with
  | false => exact k _ _ h1 t1 p k1 (.sc (.bool _))
  | true => exact EV.run p rm w1 n b1 l1 fun v u h2 t2 p2 k2 r2 _ _ _ => k v u h2 t2 p2 (k1.trans k2) r2
theorem EV.or2 {x y : Expr} {pos : Pos} {P : PV → Prop} (h : EV C c f x ρ fun v => ∃ t, v = .sc (.bool t) ∧ if t = true then P (.sc (.bool true)) else EV C c f y ρ P) : EV C c f (.BoolOp .Or [x, y] pos) ρ P := by
  intro A X L s Q E rm w n b lo k
  rw [arm_eval_BoolOp]
  refine boolOp_two (h.run rm w n b lo fun v va h1 t1 ha k1 r1 w1 b1 l1 => ?_)
  obtain ⟨t, rfl, p⟩ := ha
  cases r1 with | sc q =>
  cases q
  refine wpAny_truthy_bool ?_
  cases t with
  | true => exact k _ _ h1 t1 p k1 (.sc (.bool _))
  | false => exact EV.run p rm w1 n b1 l1 fun v u h2 t2 p2 k2 r2 _ _ _ => k v u h2 t2 p2 (k1.trans k2) r2
theorem EV.not {x : Expr} {pos : Pos} {P : PV → Prop} (h : EV C c f x ρ fun v => ∃ t, v = .sc (.bool t) ∧ P (.sc (.bool (!t)))) : EV C c f (.UnaryOp .Not x pos) ρ P := by
  intro A X L s Q E rm w n b lo k
  refine wpAny_UnaryOp (h.run rm w n b lo fun v va h1 t1 ha k1 r1 w1 b1 l1 => ?_)
  obtain ⟨t, rfl, p⟩ := ha
  cases r1 with | sc q =>
  cases q
  exact not_of (wpAny_truthy_bool (k _ _ h1 t1 p k1 (.sc (.bool _))))

noncomputable def sL (xs : List Tx) : List Sc := xs.map Sc.str
theorem scsR_strs : ∀ {vs : List Value} {xs : List Tx}, ScsR vs (sL xs) → StrsAre vs xs
  | [], [], _ => .nil
  | [], _ :: _, h => by cases h
  | _ :: _, [], h => by cases h
  | _ :: _, i :: is, h => by
    cases h with | cons a r => cases a with | str _ t => exact .cons i t (scsR_strs r)
theorem OV.inLS {i : Tx} {xs : List Tx} {P : PV → Prop} (hp : P (.sc (.bool (xs.any (· == i))))) : OV C c (compareOp .In) (.sc (.str i)) (.list (sL xs)) P := by
  intro A X s va vb Q E r w b ra rb k
  cases ra with | sc ra => cases ra with | str _ t => cases rb with | @list a vs _ hx ho rb =>
  exact in_list_strs ho (scsR_strs rb) (k _ _ s.heap s.toks hp (Kp.refl _ _) (.sc (.bool _)))
theorem OV.inTS {i : Tx} {xs : List Tx} {P : PV → Prop} (hp : P (.sc (.bool (xs.any (· == i))))) : OV C c (compareOp .In) (.sc (.str i)) (.tup (sL xs)) P := by
  intro A X s va vb Q E r w b ra rb k
  cases ra with | sc ra => cases ra with | str _ t => cases rb with | @tup a vs _ hx ho rb =>
  exact in_tuple_strs ho (by simpa using scsR_strs rb) (k _ _ s.heap s.toks hp (Kp.refl _ _) (.sc (.bool _)))
theorem OV.eqL {is js : List Int} {P : PV → Prop} (hp : P (.sc (.bool (decide (is = js))))) : OV C c (compareOp .Eq) (.list (iL is)) (.list (iL js)) P := by
  intro A X s va vb Q E r w b ra rb k
  cases ra with | @list a vs _ hx ho ra => cases rb with | @list a' us _ hx' ho' rb =>
  have l1 : vs.length = is.length := ra.length.trans (by simp [iL])
  have l2 : us.length = js.length := rb.length.trans (by simp [iL])
  by_cases hl : vs.length = us.length
  · have he : ∀ (j : Nat) (h1 : j < vs.toArray.size) (h2 : j < us.toArray.size), PySem.SeqAt.EqAt A.in1 s (vs.toArray[j]) (us.toArray[j]) (is.getD j 0 == js.getD j 0) := fun j h1 h2 => by
      simp only [List.size_toArray] at h1 h2
      obtain ⟨g1, t1, e1⟩ := ints_at ra j h1
      obtain ⟨g2, t2, e2⟩ := ints_at rb j h2
      simp only [List.getElem_toArray, e1, e2]
      have := PySem.SeqAt.EqAt.int_int (A := A.in1) (s := s) is[j] t1 js[j] t2
      simpa [List.getD_eq_getElem?_getD, g1, g2] using this
    refine PySem.SeqAt.eq_listAt (e := fun j => is.getD j 0 == js.getD j 0) ho ho' (by simpa using hl) r.units he (k _ _ s.heap s.toks hp (Kp.refl _ _) ?_)
    have e : ((List.range vs.toArray.size).all fun j => is.getD j 0 == js.getD j 0) = decide (is = js) := by
      rw [Bool.eq_iff_iff]
      simp only [List.size_toArray, decide_eq_true_eq, List.all_eq_true, List.mem_range, beq_iff_eq]
      refine ⟨fun h => List.ext_getElem (by omega) fun j h1 h2 => ?_, fun h j _ => by rw [h]⟩
      have := h j (by omega)
      simpa [List.getD_eq_getElem?_getD, h1, h2] using this
    rw [e]; exact .sc (.bool _)
  · refine PySem.SeqAt.eq_list_lengthsAt ho ho' (by simpa using hl) r.units (k _ _ s.heap s.toks hp (Kp.refl _ _) ?_)
    have e : decide (is = js) = false := by
      refine decide_eq_false fun h => hl ?_
      rw [l1, l2, h]
    rw [e]; exact .sc (.bool _)
end
end Mine
end
section
open PySem PySem.W PyProof.Rows PySem.Builtin PySem.Builtin.Str
set_option Elab.async false
set_option maxRecDepth 100000
namespace Mine
section
variable {C : Cx} {c : Nat} {f : Fn} {ρ : Lo} {O : List (Tx × Addr)} {mg mb : Tx → Option Value}
theorem OV.neE {l : List Sc} {P : PV → Prop} (hp : P (.sc (.bool (!l.isEmpty)))) : OV C c (compareOp .NotEq) (.list l) (.list []) P := by
  intro A X s va vb Q E r w b ra rb k
  cases ra with | @list a vs _ hx ho ra => cases rb with | @list a' us _ hx' ho' rb =>
  cases rb
  cases ra with
  | nil =>
    have go := PySem.SeqAt.RcNeAt.lists (A := A) (s := s) (e := fun _ => true) ho ho' rfl r.units (fun j h1 h2 => by simp at h1) C.prog C.w E Q
    exact go (k _ _ s.heap s.toks hp (Kp.refl _ _) (.sc (.bool _)))
  | cons h t =>
    have go := PySem.SeqAt.RcNeAt.lists_lengths (A := A) (s := s) ho ho' (by simp) r.units C.prog C.w E Q
    exact go (k _ _ s.heap s.toks hp (Kp.refl _ _) (.sc (.bool _)))
theorem EVsliceS {value : Expr} {k : Nat} {nl : Nat} {pl p pos : Pos} {P : PV → Prop}
    (h : EV C c f value ρ fun o => ∃ x, o = .sc (.str x) ∧ x.length ≤ sizeLine ∧ P (.sc (.str (Txt.slice x (some (k : Int)) none)))) :
    EV C c f (.Subscript value (.Slice (some (.Constant (.int (k : Nat)) nl pl)) none .none p) pos) ρ P := by
  intro A X L s Q E r w n b lo' kk
  refine Subscript_ (h.run r w n b lo' fun o v h1 t1 p1 k1 r1 w1 b1 l1 => ?_)
  obtain ⟨x, rfl, hsz, p1⟩ := p1
  cases r1 with | sc r1 =>
  cases r1 with | str _ t =>
  refine wpAny_Slice ?_
  refine wpAny_Constant_int (k := nl) (pos := pl) ?_
  refine wpAny_pure ?_
  refine wpAny_pure ?_
  exact tail_of_ItemOn (SBH.sliceItem_sn (P := fun h' => Kp C.ex [] h1 h') (fun h' ob z => z.trans (Kp.push _ _)) (Kp.refl _ _) (fun h' t' z kz => kk _ _ h' z p1 (k1.trans kz) (.sc (.str _ _))) hsz) (by with_unfolding_all rfl) (fun r => by cases value <;> rfl)
end
end Mine
end
section
open PySem PySem.W PyProof.Rows
set_option Elab.async false
set_option maxRecDepth 100000
namespace Mine
/-- as C, and these cells hold these values -/
noncomputable def Cx.cells (C : Cx) (cs : List (Addr × Value)) : Cx where
  prog := C.prog
  w := C.w
  n0 := C.n0
  W := fun h => C.W h ∧ ∀ p ∈ cs, h.IsCell p.1 (some p.2)
  nw := fun a => C.nw a ∧ a ∉ cs.map (·.1)
  nwle := fun a h => C.nwle a h.1
  stab := fun h h' Y W k hY => ⟨C.stab h h' Y W.1 k fun a m => (hY a m).1, fun p m => by
    obtain ⟨o, ho, hd⟩ := W.2 p m
    exact ⟨o, k.get (fun y => (hY _ y).2 (List.mem_map.mpr ⟨p, m, rfl⟩)) ho (fun es n e => by rw [hd] at e; cases e), hd⟩⟩
  low := fun h W => ⟨C.low h W.1, fun m => by
    obtain ⟨p, hp, e⟩ := List.mem_map.mp m
    have := (W.2 p hp).lt
    rw [e] at this; exact Nat.lt_irrefl _ this⟩
  ex := C.ex
  hex := C.hex
noncomputable def Fn.ofC (nm : Tx) (sc : Scope) (a : Addr) (cd : Value) (fk : sc.kind = .function) (L0 : Addr) : Fn := ⟨sc, cd, fk, nm ++ ".<locals>.", some a, some, fun _ => cellsFrom (L0 + 1) sc.names []⟩
/-- the frame of a comprehension that stands in f's frame at L and takes the cells cl -/
noncomputable def Fn.compC (f : Fn) (sc : Scope) (fk : sc.kind = .function) (cl : List (Tx × Addr)) (L : Addr) : Fn := ⟨relabel sc (f.env L), f.cd, fk, f.q, none, fun _ => f.fr L, fun _ => cl⟩
section
variable {C : Cx} {c : Nat} {f : Fn} {ρ : Lo} {O : List (Tx × Addr)} {mg mb : Tx → Option Value}
theorem EV.nameC {cs : List (Addr × Value)} {y : Tx} {pos : Pos} {a : Addr} {v : Value} {x : Sc} {P : PV → Prop} (hl : f.sc.names.lookup y = some .cell) (hc : ∀ L, (f.cs L).lookup y = some a) (hm : (a, v) ∈ cs) (hr : ScR v x) (hp : P (.sc x))
    (hd : (y == ("__debug__" : Tx)) = false) : EV (C.cells cs) c f (.Name y pos) ρ P := by
  intro A X L s Q E r w n b l k
  exact wpAny_Name (wpAny_loadName_cell (env := f.env L) f.fk hl (hc L) (w.1.2 _ hm) (k (.sc x) v s.heap s.toks hp (Kp.refl _ _) (.sc hr))) hd

/-- a call of a def with cells, from a state that has given a token -/
theorem call_cellsT {prog : Program} {w : World} {A : Around} {R : Result → Shared → Prop} {s : Shared} {name : Tx} {params : Arguments} {body : List Stmt} {scope : Scope}
    {pm cd doc : Value} {a : Addr} {o : Obj} {args : List Value} {binds : List (Tx × Value)} (ht : 1 ≤ s.toks)
    (hroom : A.depth < recursionLimit) (ho : s.heap.get? a = some o) (hdata : o.data = .func (Calls.docDef name params body scope pm cd doc)) (hlim : s.heap.NoLimit) (hcd : s.heap.CodeRec cd name)
    (hbind : bindArgs (Calls.docDef name params body scope pm cd doc) ⟨args, []⟩ = pure binds)
    (hkind : ∀ x ∈ binds, scope.names.lookup x.1 = some .local ∨ (scope.names.lookup x.1 = some .cell ∧ ((cellsFrom (s.heap.objs.size + 1) scope.names []).lookup x.1).isSome = true))
    (h : ∀ s₁, InCallC s s.heap.objs.size (bindL (envOfC name scope s.heap.objs.size a cd).kindOf binds fun _ => none) (cellsFrom (s.heap.objs.size + 1) scope.names []) (bindC (envOfC name scope s.heap.objs.size a cd).kindOf binds fun _ => none) s₁ → 1 ≤ s₁.toks →
      wpAny (model prog w) (A.deeper (envOfC name scope s.heap.objs.size a cd)) (execs body (envOfC name scope s.heap.objs.size a cd))
        (fun f s' => R (.ok (.ret (match f with | .ret v => v | _ => .none))) s') (fun _ _ => False) s₁)
    (hco : scope.isCoroutine = false) (hgen : scope.isGenerator = false) (hk : scope.kind = .function) :
    codeAny (model prog w) A (.call (.ref a) ⟨args, []⟩) R s := by
  refine codeAny_call_function (fd := Calls.docDef name params body scope pm cd doc) (body := body) hroom ho hdata hco hgen rfl hcd ?_
  rw [hbind]
  refine wpAny_pure (wpAny_with_toks (n := 1) ht (wpAny_newFunctionEnv_cells hk hkind fun env he s' x => ?_))
  subst he
  exact fun ht' => ⟨hlim.keeps x.toInCall.keep, codeAny_func (wpAny_mono (h s' x ht') (fun _ _ x => x) fun _ _ x => x.elim)⟩

theorem Fct.ofC {nm : Tx} {sc : Scope} {a : Addr} {cd : Value} {fk : sc.kind = .function} {params : Arguments} {body : List Stmt} {pm doc : Value} {ps : List Tx} {as : List PV} {P : PV → Prop} (G : Gd C mg mb)
    (hfn : ∀ h, C.W h → ∃ o, h.get? a = some o ∧ o.data = .func (Calls.docDef nm params body sc pm cd doc)) (hcd : ∀ h, C.W h → h.CodeRec cd nm)
    (hbind : ∀ vs : List Value, vs.length = as.length → bindArgs (Calls.docDef nm params body sc pm cd doc) ⟨vs, []⟩ = pure (ps.zip vs))
    (hkind : ∀ L : Addr, ∀ x ∈ ps, sc.names.lookup x = some .local ∨ (sc.names.lookup x = some .cell ∧ ((cellsFrom (L + 1) sc.names []).lookup x).isSome = true))
    (ρ : Lo) (hρ : ∀ X h vs L, Reps X h vs as → ∀ y x, ρ y = some x → ∃ v, bindL (envOfC nm sc L a cd).kindOf (ps.zip vs) (fun _ => none) y = some v ∧ Rep X h v x)
    (cs : Addr → List Value → List (Addr × Value)) (hcs : ∀ L vs, vs.length = as.length → ∀ p ∈ cs L vs, ∃ n, (cellsFrom (L + 1) sc.names []).lookup n = some p.1 ∧ bindC (envOfC nm sc L a cd).kindOf (ps.zip vs) (fun _ => none) n = some p.2)
    (h : ∀ L X h vs, Reps X h vs as → ES (C.cells (cs L vs)) c (Fn.ofC nm sc a cd fk L) body ρ [] fun o => match o with | .ret x => P x | .next _ => P (.sc .none) | _ => False)
    (hco : sc.isCoroutine = false) (hgen : sc.isGenerator = false) : Fct C (c + 1) a as P := by
  intro A X s vs Q E r w b rs k
  obtain ⟨o, ho, hdat⟩ := hfn _ w.1
  have hlen : vs.length = as.length := rs.length
  refine wpAny_call (call_cellsT w.2 r.lt ho hdat (G.nolimit _ w.1) (hcd _ w.1) (hbind vs hlen) ?_ (fun s₁ Z ht => ?_) hco hgen fk)
  · intro x hx
    exact hkind _ x.1 (List.of_mem_zip hx).1
  · obtain ⟨h₁, tk, rfl, _⟩ := Z.done
    have k1 : Kp C.ex [] s.heap h₁ := Kp.of Z.toInCall.keep
    have rs' : Reps X h₁ vs as := rs.kp k1
    have i : SI (C.cells (cs s.heap.objs.size vs)) X [] h₁ s.heap.objs.size ρ :=
      ⟨⟨_, Z.toInCall.ns, fun y x _ e => let ⟨v, a1, a2⟩ := hρ X h₁ vs s.heap.objs.size rs' y x e; ⟨v, a1, by simpa using a2⟩, fun p hp => nomatch hp⟩, .nil, .nil, (fun p hp => nomatch hp), b.kp k1⟩
    have hcell : ∀ p ∈ cs s.heap.objs.size vs, h₁.IsCell p.1 (some p.2) ∧ s.heap.objs.size < p.1 := fun p hp => by
      obtain ⟨n, q1, q2⟩ := hcs s.heap.objs.size vs hlen p hp
      have := Z.cell n p.1 q1
      rw [q2] at this
      exact ⟨this, Z.above n p.1 (mem_of_lookup q1)⟩
    have nwL : (C.cells (cs s.heap.objs.size vs)).nw s.heap.objs.size := ⟨C.low _ w.1, fun m => by
      obtain ⟨p, hp, e⟩ := List.mem_map.mp m
      have := (hcell p hp).2
      rw [e] at this; exact Nat.lt_irrefl _ this⟩
    have ws : (C.cells (cs s.heap.objs.size vs)).Ws (A.deeper ((Fn.ofC nm sc a cd fk s.heap.objs.size).env s.heap.objs.size)) { s with heap := h₁, toks := tk } :=
      ⟨⟨C.stab _ _ [] w.1 k1.weaker (fun _ m => nomatch m), fun p hp => (hcell p hp).1⟩, ht, (w.3.kp k1).deeper (by show sc.kind ≠ .module; rw [fk]; decide) rfl (C.nwle _ (C.low _ w.1)) (Ns.dictAt Z.toInCall.ns)⟩
    refine h s.heap.objs.size X h₁ vs rs' _ X s.heap.objs.size _ _ _ r.deeper ws nwL i fun o fl h' t' p kk oR => ?_
    have kk' : Kp C.ex [] s.heap h' := k1.then kk fun x m o' e => by
      obtain rfl : x = s.heap.objs.size := by simpa using m
      exact absurd (Heap.lt_size e) (Nat.lt_irrefl _)
    cases o with
    | ret x => obtain ⟨v, rfl, q⟩ := oR; exact k x v h' t' p kk' q
    | next _ => obtain ⟨rfl, _⟩ := oR; exact k _ _ h' t' p kk' (.sc .none)
    | brk _ => exact p.elim
    | cont _ => exact p.elim
end
end Mine
end
section
open PySem PySem.W PyProof.Rows
set_option Elab.async false
set_option maxRecDepth 100000
namespace Mine

section
variable {C : Cx} {c : Nat} {f : Fn} {ρ : Lo}
theorem EV.compC {cl : List (Tx × Addr)} {elt iter : Expr} {x : Tx} {px : Pos} {ifs : List Expr} {scope : Scope} {pos : Pos} {P : PV → Prop} (fk : scope.kind = .function) (hclos : ∀ L, closureFor scope (f.env L) = pure cl)
    (h : EVI C c f iter ρ fun xs => xs.length ≤ sizeLine ∧ ∃ (p : Sc → Bool) (R : Sc → Sc → Prop), (∀ y ∈ xs, ∀ L, Tests C.exact c (f.compC scope fk cl L) (only x y) ifs (p y)) ∧
      (∀ y ∈ xs, p y = true → ∀ L, EV C.exact c (f.compC scope fk cl L) elt (only x y) fun z => ∃ w, z = .sc w ∧ R y w) ∧ ∀ zs, Paired R (xs.filter p) zs → P (.list zs))
    (hcell : ∀ y ∈ scope.names, y.2 ≠ .cell)
    (hnames : ∀ y ∈ scope.names, y.2 = .local → scope.names.lookup y.1 = some .local) (hx : scope.names.lookup x = some .local)
    (hs : ∀ L x, foldedSetIterable iter (f.env L) x = pure x) :
    EV C c f (.ListComp elt [⟨.Name x px, iter, ifs, 0⟩] scope pos) ρ P := by
  intro A X L s Q E r w n b lo k
  refine wpAny_mono (Q := Q) (E := fun _ _ => False) ?_ (fun _ _ x => x) (fun _ _ x => x.elim)
  -- the tests and the value, as functions upon the model's values, are fixed once the items are known
  rw [eval_ListComp]
  refine wpAny_comprehension_free (use := Option.none) rfl (hs L) (hclos L) fk hnames (h.run r w n b lo fun xs v h1 t1 p k1 itb w1 => ?_)
  obtain ⟨hsz, p, R, tests, elts, fin⟩ := p
  have b1 := b.kp k1
  refine wpAny_with_toks (n := 1) w1.2 (itb A _ _ _ r.handled (Kp.refl _ _) b1 fun I fp wr Pv St h2 t2 W st0 items k2 hwr hfp hfpo hwro ht2 => ?_)
  have hfps : ∀ b ∈ fp, b < h2.objs.size := fun b hb => by obtain ⟨o, q, _⟩ := hfpo 0 h2 st0 b hb; exact Heap.lt_size q
  have k12 := k1.trans k2
  have wrn : ∀ a ∈ wr, ∀ o, s.heap.get? a = some o → False := fun a ha o q => by
    have := k1.live (fun m => nomatch m) q
    rw [hwr a ha] at this; cases this
  have wrK : ∀ {h3 : Heap}, (∀ b o, b ∉ wr → h2.get? b = some o → h3.get? b = some o) → Kp C.ex wr h2 h3 := fun a => .ofBut a fun b hb => fields_notDict (hwro 0 h2 st0 b hb)
  have W' : Walks C.prog C.w A I fp wr xs.length (fun i v => i < xs.length ∧ Pv i v) St :=
    { sub := W.sub, frame := W.frame, self := W.self, done := W.done
      item := fun i s Q E hi st hQ => W.item i s Q E hi st fun v h' tk pv st' kk => hQ v h' tk ⟨hi, pv⟩ st' kk }
  have pvx : ∀ i v, (i < xs.length ∧ Pv i v) → ∃ x, xs[i]? = some x ∧ ScR v x := fun i v q => items i v q.1 q.2
  -- what holds in every heap of a turn
  have turn : ∀ (D : Addr) (i : Nat) (v : Value) (s₃ : Shared) (m₃ : Tx → Option Value), (i < xs.length ∧ Pv i v) → s₃.heap.Ns D m₃ → m₃ x = some v → (∀ b o, b ∉ wr → h2.get? b = some o → s₃.heap.get? b = some o) → 1 ≤ s₃.toks →
      ∃ y ∈ xs, scOf v = y ∧ ScR v y ∧ C.exact.Ws A s₃ ∧ Bd X s₃.heap ∧ Loc X s₃.heap D (only x y) := by
    intro D i v s₃ m₃ pv hn hm hk htk
    obtain ⟨y, hy, sr⟩ := pvx i v pv
    have hkp : Kp C.ex [] s.heap s₃.heap := k12.then (wrK hk) wrn
    refine ⟨y, List.mem_of_getElem? hy, scOf_eq sr, sr, ⟨C.stab _ _ [] w.1 hkp.weaker (fun _ m => nomatch m), htk, w.3.kp hkp⟩, b.kp hkp, m₃, hn, fun z q e => ?_⟩
    unfold only at e
    split at e
    · rename_i hz; subst hz; cases e; exact ⟨v, hm, .sc sr⟩
    · cases e
  refine comp_block_walkC (RR := fun acc D => compPost (model C.prog C.w) A (fun _ _ => False) Option.none Q acc D) W' hsz (fun v => p (scOf v)) (fun v y => ∃ x z, ScR v x ∧ R x z ∧ ScR y z) hcell fk hx st0 hfps ?_ ?_
  · refine ⟨fun D i v s₃ m₃ E' _ pv hn hm hk htk => ?_, fun D i v s₃ m₃ E' _ pv hp hn hm hk htk => ?_⟩
    · obtain ⟨y, hy, e, sr, w3, b3, l3⟩ := turn D i v s₃ m₃ pv hn hm hk (Nat.le_trans ht2 htk)
      rw [e]
      have T := tests y hy L
      match ifs, T with
      | [], T => exact wpAny_tests_nil ⟨T.symm, s₃.heap, s₃.toks, rfl, fun _ _ e => e⟩
      | [t], T =>
        refine wpAny_tests_one ?_
        exact T A X D s₃ _ _ r w3 trivial b3 l3 fun q h' t' e kk => ⟨e, h', t', rfl, fun b o e => kk.keeps b o (fun m => nomatch m) e⟩
    · obtain ⟨y, hy, e, sr, w3, b3, l3⟩ := turn D i v s₃ m₃ pv hn hm hk (Nat.le_trans ht2 htk)
      simp only [e] at hp
      refine elts y hy hp L A X D s₃ _ _ r w3 trivial b3 l3 fun z u h' t' q kk rep => ?_
      obtain ⟨z', rfl, q⟩ := q
      cases rep with | sc rep => exact ⟨⟨y, z', sr, q, rep⟩, h', t', rfl, fun b o e => kk.keeps b o (fun m => nomatch m) e⟩
  · intro D C' h' tk m' ys vs hD hC hDC hn hl hpl hlen hP hF hk
    refine ⟨m', hn, fun h'' hs'' => ?_⟩
    have sv : ScsR vs xs := scsR_get hlen fun j v e => pvx j v (hP j v e)
    obtain ⟨zs, a1, a2⟩ := paired_of sv hF
    have hnew : ∀ b o, b ∉ wr → h2.get? b = some o → h''.get? b = some o := fun b o hb e => hs''.extBut b o (by rintro rfl; rw [hC] at e; cases e) (hk b o hb e)
    have kk : Kp C.ex [] s.heap h'' := k12.then (wrK hnew) wrn
    have hl' : h''.IsList D ys := hl.extBut hs''.extBut hDC
    refine k _ _ h'' tk (fin zs a2) kk (.list (vs := ys.toList) (fun m => ?_) (by simpa using hl') a1)
    obtain ⟨o, q⟩ := Option.isSome_iff_exists.mp ((b1.kp k2) D m)
    rw [hD] at q; cases q
end
end Mine
end
section
open PySem PySem.W PyProof.Rows
namespace Mine

/-- a code and the codes that it goes on as -/
noncomputable def evLoop (f : Ctx → Sem Fin → Pos → SharedT → Option (Except Value Fin × Pos × SharedT)) (den : Code → Sem Fin) (cm : Thread → Bool) : Nat → Ctx → Pos → SharedT → Option (Except Value Flow × SharedT)
  | 0, _, _, _ => none
  | m + 1, Γ, p, s => match f Γ (den Γ.code) p s with
    | none => none
    | some (r, q, s') => match r with
      | .error e => some (.error e, s')
      | .ok fin => match fin with
        | .done r => some (.ok r, s')
        | .again c => match cm ⟨.pure (.again c), c, default, []⟩ with
          | true => evLoop f den cm m (Γ.goto c) q s'
          | false => none

/-- runs a piece of the model's program in one go -/
noncomputable def ev (ok : Addr → Bool) (den : Code → Sem Fin) (cm : Thread → Bool) (pr : Program) (P : Params) : Nat → Ctx → {α : Type} → Sem α → Pos → SharedT → Option (Except Value α × Pos × SharedT)
  | 0, _, _, _, _, _ => none
  | n + 1, Γ, _, t, p, ⟨T, m, life, gens, drawn, toks, os⟩ => match t with
    | .pure a => some (.ok a, p, ⟨T, m, life, gens, drawn, toks, os⟩)
    | .raise e => some (.error e, p, ⟨T, m, life, gens, drawn, toks, os⟩)
    | .rule _ k => ev ok den cm pr P n Γ (k ()) p ⟨T, m, life, gens, drawn, toks, os⟩
    | .at q k => ev ok den cm pr P n Γ (k ()) q ⟨T, m, life, gens, drawn, toks, os⟩
    | .load a _ k => match Nat.blt a m with
      | true => match T.get a with
        | some o => match alive o with
          | some o' => ev ok den cm pr P n Γ (k o') p ⟨T, m, life, gens, drawn, toks, os⟩
          | none => none
        | none => none
      | false => none
    | .update a _ f k => match Nat.blt a m && ok a with
      | true => match T.get a with
        | some o => match alive o with
          | some _ => ev ok den cm pr P n Γ (k ()) p ⟨T.set a f, m, life, gens, drawn, toks, os⟩
          | none => none
        | none => none
      | false => none
    | .alloc o k => match ((T.ins m o).get m).isSome with
      | true => ev ok den cm pr P n Γ (k m) p ⟨T.ins m o, m + 1, life, gens, drawn, toks, os⟩
      | false => none
    | .loadIfAlive a k => match Nat.blt a m with
      | true => match T.get a with
        | some o => ev ok den cm pr P n Γ (k (alive o)) p ⟨T, m, life, gens, drawn, toks, os⟩
        | none => none
      | false => ev ok den cm pr P n Γ (k none) p ⟨T, m, life, gens, drawn, toks, os⟩
    | .point _ k => ev ok den cm pr P n Γ (k ()) p ⟨T, m, life, gens, drawn, toks, os⟩
    | .fresh k => ev ok den cm pr P n Γ (k toks) p ⟨T, m, life, gens, drawn, toks + 1, os⟩
    | .ask k => ev ok den cm pr P n Γ (k ⟨pr, P⟩) p ⟨T, m, life, gens, drawn, toks, os⟩
    | .call c h _ _ k => match evLoop (fun Γ t p s => ev ok den cm pr P n Γ t p s) den cm n (Γ.enter c h p) p ⟨T, m, life, gens, drawn, toks, os⟩ with
      | some (r, s') => ev ok den cm pr P n Γ (k r) p s'
      | none => none
    | .handled own k => ev ok den cm pr P n Γ (k (if own then Γ.own else Γ.handled)) p ⟨T, m, life, gens, drawn, toks, os⟩
    | .stack k => ev ok den cm pr P n Γ (k ((Γ.code, p) :: Γ.below)) p ⟨T, m, life, gens, drawn, toks, os⟩
    | .thread k => ev ok den cm pr P n Γ (k 0) p ⟨T, m, life, gens, drawn, toks, os⟩
    | _ => none

noncomputable def Calms (cm : Thread → Bool) : Prop := ∀ c : Code, cm ⟨.pure (.again c), c, default, []⟩ = true → c.quiet = true
theorem calms : Calms Thread.calm := fun c h => by
  rw [Thread.calm_eq] at h
  simp only [Bool.and_eq_true] at h
  exact h.1

theorem evLoop_wp {M : Model} {cm : Thread → Bool} (hc : Calms cm) {f : Ctx → Sem Fin → Pos → SharedT → Option (Except Value Fin × Pos × SharedT)}
    (hf : ∀ Γ t p s r q s', f Γ t p s = some (r, q, s') → Sem.wp M Γ t (fun a q' x => r = .ok a ∧ q' = q ∧ x = s'.abs) (fun e q' x => r = .error e ∧ q' = q ∧ x = s'.abs) p s.abs) :
    ∀ (m : Nat) (Γ : Ctx) (p : Pos) (s : SharedT) (r : Except Value Flow) (s' : SharedT), evLoop f M.den cm m Γ p s = some (r, s') → wpCode M Γ (fun r' x => r' = r ∧ x = s'.abs) p s.abs
  | 0, _, _, _, _, _, h => nomatch (show (none : Option _) = some _ from h)
  | m + 1, Γ, p, s, r, s', h => by
    unfold evLoop at h
    rw [wpCode_iff_wp]
    cases e : f Γ (M.den Γ.code) p s with
    | none => rw [e] at h; cases h
    | some x =>
      obtain ⟨r₁, q, s₁⟩ := x
      rw [e] at h
      have w := hf _ _ _ _ _ _ _ e
      refine Sem.wp_mono M Γ _ ?_ ?_ p s.abs w
      · rintro fin q' x ⟨rfl, rfl, rfl⟩
        cases fin with
        | done r => cases h; exact ⟨rfl, rfl⟩
        | again c =>
          dsimp only at h
          cases k : cm ⟨.pure (.again c), c, default, []⟩ with
          | false => rw [k] at h; cases h
          | true =>
            rw [k] at h
            exact ⟨hc c k, evLoop_wp hc hf m _ _ _ _ _ h⟩
      · rintro x q' y ⟨rfl, rfl, rfl⟩
        cases h
        exact ⟨rfl, rfl⟩

theorem ev_wp {ok : Addr → Bool} {M : Model} {cm : Thread → Bool} (hc : Calms cm) :
    ∀ (n : Nat) (Γ : Ctx) {α : Type} (t : Sem α) (p : Pos) (s : SharedT) (r : Except Value α) (q : Pos) (s' : SharedT), ev ok M.den cm M.prog M.w.params n Γ t p s = some (r, q, s') →
      Sem.wp M Γ t (fun a q' x => r = .ok a ∧ q' = q ∧ x = s'.abs) (fun e q' x => r = .error e ∧ q' = q ∧ x = s'.abs) p s.abs
  | 0, _, _, _, _, _, _, _, _, h => nomatch (show (none : Option _) = some _ from h)
  | n + 1, Γ, _, t, p, ⟨T, m, life, gens, drawn, toks, os⟩, r, q, s', h => by
    cases t with
    | pure a => (conv at h => lhs; whnf); cases h; exact ⟨rfl, rfl, rfl⟩
    | raise e => (conv at h => lhs; whnf); cases h; exact ⟨rfl, rfl, rfl⟩
    | rule t k => (conv at h => lhs; whnf); rw [Sem.wp_rule]; exact ev_wp hc n _ _ _ _ _ _ _ h
    | «at» t k => (conv at h => lhs; whnf); rw [Sem.wp_at]; exact ev_wp hc n _ _ _ _ _ _ _ h
    | point t k => (conv at h => lhs; whnf); rw [Sem.wp_point]; exact ev_wp hc n _ _ _ _ _ _ _ h
    | ask k => (conv at h => lhs; whnf); rw [Sem.wp_ask]; exact ev_wp hc n _ _ _ _ _ _ _ h
    | thread k => (conv at h => lhs; whnf); rw [Sem.wp]; exact ev_wp hc n _ _ _ _ _ _ _ h
    | stack k => (conv at h => lhs; whnf); rw [Sem.wp]; exact ev_wp hc n _ _ _ _ _ _ _ h
    | handled own k => (conv at h => lhs; whnf); rw [Sem.wp_handled]; exact ev_wp hc n _ _ _ _ _ _ _ h
    | fresh k => (conv at h => lhs; whnf); rw [Sem.wp_fresh]; exact ev_wp hc n _ _ _ _ _ _ _ h
    | load a x k =>
      (conv at h => lhs; whnf)
      cases e : Nat.blt a m with
      | false => rw [e] at h; cases h
      | true =>
        have lt : a < m := Nat.le_of_ble_eq_true e
        cases g : T.get a with
        | none => rw [e, g] at h; cases h
        | some o =>
          cases al : alive o with
          | none => rw [e, g] at h; simp only [al] at h; cases h
          | some o' =>
            rw [e, g] at h; simp only [al] at h
            rw [Sem.wp_load]
            exact ⟨o', (abs_get lt g).trans al, ev_wp hc n _ _ _ _ _ _ _ h⟩
    | update a x f k =>
      (conv at h => lhs; whnf)
      cases e : Nat.blt a m && ok a with
      | false => rw [e] at h; cases h
      | true =>
        have lt : a < m := Nat.le_of_ble_eq_true (Bool.and_eq_true_iff.mp e).1
        cases g : T.get a with
        | none => rw [e, g] at h; cases h
        | some o =>
          cases al : alive o with
          | none => rw [e, g] at h; simp only [al] at h; cases h
          | some o' =>
            rw [e, g] at h; simp only [al] at h
            rw [Sem.wp_update]
            have w := ev_wp hc n _ _ _ _ _ _ _ h
            refine ⟨by show ((absHeap T m life).get? a).isSome = true; rw [abs_get lt g, al]; rfl, ?_⟩
            have z : (absHeap (T.set a f) m life) = (absHeap T m life).update a f := absHeap_set g
            show Sem.wp M Γ (k ()) _ _ p ⟨(absHeap T m life).update a f, gens, drawn, toks, os⟩
            rw [← z]; exact w
    | alloc o k =>
      (conv at h => lhs; whnf)
      cases e : ((T.ins m o).get m).isSome with
      | false => rw [e] at h; cases h
      | true =>
        rw [e] at h
        rw [Sem.wp_alloc]
        have w := ev_wp hc n _ _ _ _ _ _ _ h
        have z : absHeap (T.ins m o) (m + 1) life = (absHeap T m life).push o := absHeap_ins e
        show Sem.wp M Γ (k (absHeap T m life).objs.size) _ _ p ⟨(absHeap T m life).push o, gens, drawn, toks, os⟩
        rw [← z, absHeap_size]; exact w
    | loadIfAlive a k =>
      (conv at h => lhs; whnf)
      rw [Sem.wp_loadIfAlive]
      cases e : Nat.blt a m with
      | false =>
        rw [e] at h
        have lt : ¬ a < m := fun q => by rw [show Nat.blt a m = true from Nat.ble_eq_true_of_le q] at e; cases e
        show Sem.wp M Γ (k ((absHeap T m life).get? a)) _ _ p _
        rw [abs_get_none lt]
        exact ev_wp hc n _ _ _ _ _ _ _ h
      | true =>
        have lt : a < m := Nat.le_of_ble_eq_true e
        cases g : T.get a with
        | none => rw [e, g] at h; cases h
        | some o =>
          rw [e, g] at h
          show Sem.wp M Γ (k ((absHeap T m life).get? a)) _ _ p _
          rw [abs_get lt g]
          exact ev_wp hc n _ _ _ _ _ _ _ h
    | call c hd g l k =>
      (conv at h => lhs; whnf)
      rw [Sem.wp_call]
      cases e : evLoop (fun Γ t p s => ev ok M.den cm M.prog M.w.params n Γ t p s) M.den cm n (Γ.enter c hd p) p ⟨T, m, life, gens, drawn, toks, os⟩ with
      | none => rw [e] at h; cases h
      | some x =>
        obtain ⟨r₁, s₁⟩ := x
        rw [e] at h
        have w := evLoop_wp (M := M) hc (fun Γ t p s r q s' z => ev_wp hc n Γ t p s r q s' z) n _ _ _ _ _ e
        refine wpCode_mono ?_ w
        rintro r' x ⟨rfl, rfl⟩
        exact ev_wp hc n _ _ _ _ _ _ _ h
    | _ => (conv at h => lhs; whnf); cases h

/-- what a piece leaves as it was -/
structure Sm (ok : Addr → Bool) (s s' : SharedT) : Prop where
  life : s'.life = s.life
  gens : s'.gens = s.gens
  drawn : s'.drawn = s.drawn
  os : s'.os = s.os
  n : s.n ≤ s'.n
  toks : s.toks ≤ s'.toks
  tree : ∀ b : Nat, ok b = false → b < s.n → s'.tree.get b = s.tree.get b
theorem Sm.refl (ok : Addr → Bool) (s : SharedT) : Sm ok s s := ⟨rfl, rfl, rfl, rfl, Nat.le_refl _, Nat.le_refl _, fun _ _ _ => rfl⟩
theorem Sm.trans {ok : Addr → Bool} {a b c : SharedT} (x : Sm ok a b) (y : Sm ok b c) : Sm ok a c :=
  ⟨y.life.trans x.life, y.gens.trans x.gens, y.drawn.trans x.drawn, y.os.trans x.os, Nat.le_trans x.n y.n, Nat.le_trans x.toks y.toks, fun b hb hl => (y.tree b hb (Nat.lt_of_lt_of_le hl x.n)).trans (x.tree b hb hl)⟩

theorem evLoop_same {ok : Addr → Bool} {den : Code → Sem Fin} {cm : Thread → Bool} {f : Ctx → Sem Fin → Pos → SharedT → Option (Except Value Fin × Pos × SharedT)}
    (hf : ∀ Γ t p s r q s', f Γ t p s = some (r, q, s') → Sm ok s s') :
    ∀ (m : Nat) (Γ : Ctx) (p : Pos) (s : SharedT) (r : Except Value Flow) (s' : SharedT), evLoop f den cm m Γ p s = some (r, s') → Sm ok s s'
  | 0, _, _, _, _, _, h => nomatch (show (none : Option _) = some _ from h)
  | m + 1, Γ, p, s, r, s', h => by
    unfold evLoop at h
    cases e : f Γ (den Γ.code) p s with
    | none => rw [e] at h; cases h
    | some x =>
      obtain ⟨r₁, q, s₁⟩ := x
      rw [e] at h
      have w := hf _ _ _ _ _ _ _ e
      cases r₁ with
      | error e => cases h; exact w
      | ok fin =>
        cases fin with
        | done r => cases h; exact w
        | again c =>
          dsimp only at h
          cases k : cm ⟨.pure (.again c), c, default, []⟩ with
          | false => rw [k] at h; cases h
          | true => rw [k] at h; exact w.trans (evLoop_same hf m _ _ _ _ _ h)

theorem ev_same {ok : Addr → Bool} {den : Code → Sem Fin} {cm : Thread → Bool} {pr : Program} {P : Params} :
    ∀ (n : Nat) (Γ : Ctx) {α : Type} (t : Sem α) (p : Pos) (s : SharedT) (r : Except Value α) (q : Pos) (s' : SharedT), ev ok den cm pr P n Γ t p s = some (r, q, s') → Sm ok s s'
  | 0, _, _, _, _, _, _, _, _, h => nomatch (show (none : Option _) = some _ from h)
  | n + 1, Γ, _, t, p, ⟨T, m, life, gens, drawn, toks, os⟩, r, q, s', h => by
    cases t with
    | pure a => (conv at h => lhs; whnf); cases h; exact .refl _ _
    | raise e => (conv at h => lhs; whnf); cases h; exact .refl _ _
    | rule t k => (conv at h => lhs; whnf); exact ev_same n _ _ _ _ _ _ _ h
    | «at» t k => (conv at h => lhs; whnf); exact ev_same n _ _ _ _ _ _ _ h
    | point t k => (conv at h => lhs; whnf); exact ev_same n _ _ _ _ _ _ _ h
    | ask k => (conv at h => lhs; whnf); exact ev_same n _ _ _ _ _ _ _ h
    | thread k => (conv at h => lhs; whnf); exact ev_same n _ _ _ _ _ _ _ h
    | stack k => (conv at h => lhs; whnf); exact ev_same n _ _ _ _ _ _ _ h
    | handled own k => (conv at h => lhs; whnf); exact ev_same n _ _ _ _ _ _ _ h
    | fresh k =>
      (conv at h => lhs; whnf)
      have y := ev_same n _ _ _ _ _ _ _ h
      exact ⟨y.life, y.gens, y.drawn, y.os, y.n, Nat.le_trans (Nat.le_succ _) y.toks, y.tree⟩
    | load a x k =>
      (conv at h => lhs; whnf)
      cases e : Nat.blt a m with
      | false => rw [e] at h; cases h
      | true =>
        cases g : T.get a with
        | none => rw [e, g] at h; cases h
        | some o =>
          cases al : alive o with
          | none => rw [e, g] at h; simp only [al] at h; cases h
          | some o' =>
            rw [e, g] at h; simp only [al] at h
            exact ev_same n _ _ _ _ _ _ _ h
    | update a x f k =>
      (conv at h => lhs; whnf)
      cases e : Nat.blt a m && ok a with
      | false => rw [e] at h; cases h
      | true =>
        cases g : T.get a with
        | none => rw [e, g] at h; cases h
        | some o =>
          cases al : alive o with
          | none => rw [e, g] at h; simp only [al] at h; cases h
          | some o' =>
            rw [e, g] at h; simp only [al] at h
            have y := ev_same n _ _ _ _ _ _ _ h
            refine ⟨y.life, y.gens, y.drawn, y.os, y.n, y.toks, fun b hb hl => (y.tree b hb hl).trans ?_⟩
            show (T.set a f).get b = T.get b
            rw [BT.get_set, if_neg]
            rintro rfl
            rw [(Bool.and_eq_true_iff.mp e).2] at hb
            cases hb
    | alloc o k =>
      (conv at h => lhs; whnf)
      cases e : ((T.ins m o).get m).isSome with
      | false => rw [e] at h; cases h
      | true =>
        rw [e] at h
        have y := ev_same n _ _ _ _ _ _ _ h
        refine ⟨y.life, y.gens, y.drawn, y.os, Nat.le_trans (Nat.le_succ _) y.n, y.toks, fun b hb hl => (y.tree b hb (Nat.lt_succ_of_lt hl)).trans ?_⟩
        show (T.ins m o).get b = T.get b
        rw [BT.get_ins o T m e, if_neg (Nat.ne_of_lt hl)]
    | loadIfAlive a k =>
      (conv at h => lhs; whnf)
      cases e : Nat.blt a m with
      | false => rw [e] at h; exact ev_same n _ _ _ _ _ _ _ h
      | true =>
        cases g : T.get a with
        | none => rw [e, g] at h; cases h
        | some o => rw [e, g] at h; exact ev_same n _ _ _ _ _ _ _ h
    | call c hd g l k =>
      (conv at h => lhs; whnf)
      cases e : evLoop (fun Γ t p s => ev ok den cm pr P n Γ t p s) den cm n (Γ.enter c hd p) p ⟨T, m, life, gens, drawn, toks, os⟩ with
      | none => rw [e] at h; cases h
      | some x =>
        obtain ⟨r₁, s₁⟩ := x
        rw [e] at h
        exact (evLoop_same (fun Γ t p s r q s' z => ev_same n Γ t p s r q s' z) n _ _ _ _ _ e).trans (ev_same n _ _ _ _ _ _ _ h)
    | _ => (conv at h => lhs; whnf); cases h
end Mine
end
section
open PySem PySem.W PyProof.Rows
namespace Mine

/-- an own dict whose keys are ints from lo on -/
noncomputable def DD (lo : Int) (h : Heap) (d : Addr) (n : Nat) : Prop :=
  ∃ o es ep, h.get? d = some o ∧ o.ExactDict ∧ o.data = .dict es ep ∧ es.size ≤ n ∧ ∀ e ∈ es, ∃ k t, e.key = .int k t ∧ e.hash = hashInt k ∧ lo ≤ k

/-- only the object d has changed -/
structure Ch (d : Addr) (h h' : Heap) : Prop where
  size : h'.objs.size = h.objs.size
  life : h'.life = h.life
  old : ∀ b : Nat, b ≠ d → h'.objs[b]? = h.objs[b]?

theorem Ch.refl (d : Addr) (h : Heap) : Ch d h h := ⟨rfl, rfl, fun _ _ => rfl⟩
theorem Ch.trans {d : Addr} {a b c : Heap} (x : Ch d a b) (y : Ch d b c) : Ch d a c := ⟨y.size.trans x.size, y.life.trans x.life, fun b hb => (y.old b hb).trans (x.old b hb)⟩
theorem Ch.update (d : Addr) (h : Heap) (f : Obj → Obj) : Ch d h (h.update d f) := ⟨by show (h.objs.modify d f).size = _; simp, rfl, fun b hb => by
  show (h.objs.modify d f)[b]? = _
  rw [Array.getElem?_modify, if_neg (Ne.symm hb)]⟩
theorem get_congr {h h' : Heap} {a : Addr} (e : h'.objs[(a : Nat)]? = h.objs[(a : Nat)]?) : h'.get? a = h.get? a := by
  unfold Heap.get?; rw [e]
theorem Ch.get {d : Addr} {h h' : Heap} (x : Ch d h h') {b : Addr} (hb : b ≠ d) : h'.get? b = h.get? b := get_congr (x.old b hb)
theorem DD.mono {lo : Int} {h : Heap} {d : Addr} {n m : Nat} (x : DD lo h d n) (hm : n ≤ m) : DD lo h d m :=
  let ⟨o, es, ep, a, b, c, e, f⟩ := x; ⟨o, es, ep, a, b, c, Nat.le_trans e hm, f⟩
theorem DD.of_get {lo : Int} {h h' : Heap} {d : Addr} {n : Nat} (x : DD lo h d n) (e : h'.get? d = h.get? d) : DD lo h' d n :=
  let ⟨o, es, ep, a, b⟩ := x; ⟨o, es, ep, e.trans a, b⟩

section
variable {prog : Program} {w : World} {A : Around} {E : Value → Shared → Prop} {s : Shared}

theorem intKeys_of {lo : Int} {es : Array DictEntry} (h : ∀ e ∈ es, ∃ k t, e.key = .int k t ∧ e.hash = hashInt k ∧ lo ≤ k) : IntKeys es := fun e he => by
  obtain ⟨k, t, a, b, _⟩ := h e he
  exact ⟨k, t, a, b⟩

/-- what follows on a find -/
theorem put_hit {lo : Int} {d : Addr} {n : Nat} (D : DD lo s.heap d n) {i : Nat} {v : Value} {part : Option Value} {Q : Unit → Shared → Prop}
    (hQ : ∀ h', Ch d s.heap h' → DD lo h' d n → Q () { s with heap := h' }) :
    wpAny (model prog w) A (updateDict d (·.modify i fun e => { e with val := v }) part) Q E s := by
  obtain ⟨o, es, ep, ho, hc, hd, hn, hk⟩ := D
  refine wpAny_updateDict ho hd (hQ _ (Ch.update ..) ⟨_, _, ep, Heap.get?_update_self _ ho (Obj.isFreed_of_dict (Obj.data_mapDict hd _)), hc.mapDict _, Obj.data_mapDict hd _, by simpa using hn, ?_⟩) (by simp)
  intro e he
  obtain ⟨j, hj, rfl⟩ := Array.mem_iff_getElem.mp he
  have hj' : j < es.size := by simpa using hj
  rw [Array.getElem_modify]
  split <;> exact hk es[j] (Array.getElem_mem hj')

theorem put_new {lo : Int} {d : Addr} {n : Nat} (D : DD lo s.heap d n) (hn' : n ≤ sizeLine) {k : Int} {t : Tok} (hlo : lo ≤ k) {v : Value} {part : Option Value} {Q : Unit → Shared → Prop}
    (hQ : ∀ h', Ch d s.heap h' → DD lo h' d (n + 1) → Q () { s with heap := h' }) :
    wpAny (model prog w) A (updateDictKeys d (·.push ⟨hashInt k, .int k t, v⟩) part) Q E s := by
  obtain ⟨o, es, ep, ho, hc, hd, hn, hk⟩ := D
  refine wpAny_updateDictKeys ho hd (hQ _ (Ch.update ..) ⟨_, _, ep + 1, Heap.get?_update_self _ ho (Obj.isFreed_of_dict (Obj.data_mapDictKeys hd _)), hc.mapDictKeys _, Obj.data_mapDictKeys hd _, by simpa using hn, ?_⟩)
    (Nat.le_trans hn hn') (by simp)
  intro e he
  rcases Array.mem_push.mp he with he | rfl
  · exact hk e he
  · exact ⟨k, t, rfl, rfl, hlo⟩

theorem set_int {lo : Int} {d : Addr} {n : Nat} (D : DD lo s.heap d n) (hn' : n ≤ sizeLine) {k : Int} {t : Tok} (hlo : lo ≤ k) {v : Value} {Q : Unit → Shared → Prop}
    (hQ : ∀ h' t', Ch d s.heap h' → DD lo h' d (n + 1) → s.toks ≤ t' → Q () { s with heap := h', toks := t' }) :
    wpAny (model prog w) A (dictSet d (.int k t) v) Q E s := by
  unfold dictSet
  refine wpAny_holding (wpAny_bind (wpAny_pyHash_int ?_))
  unfold dictSetHashed
  obtain ⟨o, es, ep, ho, hc, hd, hn, hk⟩ := D
  refine wpAny_holding (wpAny_bind (wpAny_dictFind_int (s := { s with toks := s.toks + 1 }) ho hd (intKeys_of hk) ?_))
  cases es.findIdx? fun e => Value.isInt k e.key with
  | some i => exact wpAny_bind (wpAny_rule (wpAny_bind (put_hit (s := { s with toks := s.toks + 1 }) ⟨o, es, ep, ho, hc, hd, hn, hk⟩ fun h' c x => wpAny_point (hQ h' _ c (x.mono (Nat.le_succ _)) (Nat.le_succ _)))))
  | none => exact wpAny_bind (wpAny_rule (put_new (s := { s with toks := s.toks + 1 }) ⟨o, es, ep, ho, hc, hd, hn, hk⟩ hn' hlo fun h' c x => hQ h' _ c x (Nat.le_succ _)))

theorem put_int {lo : Int} {d : Addr} {n : Nat} (D : DD lo s.heap d n) (hn' : n ≤ sizeLine) {k : Int} {t : Tok} (hlo : lo ≤ k) {v : Value} {Q : Unit → Shared → Prop}
    (hQ : ∀ h', Ch d s.heap h' → DD lo h' d (n + 1) → Q () { s with heap := h' }) :
    wpAny (model prog w) A (dictPut d (hashInt k) (.int k t) v) Q E s := by
  unfold dictPut
  obtain ⟨o, es, ep, ho, hc, hd, hn, hk⟩ := D
  refine wpAny_bind (wpAny_dictFind_int ho hd (intKeys_of hk) ?_)
  cases es.findIdx? fun e => Value.isInt k e.key with
  | some i => exact put_hit ⟨o, es, ep, ho, hc, hd, hn, hk⟩ fun h' c x => hQ h' c (x.mono (Nat.le_succ _))
  | none => exact put_new ⟨o, es, ep, ho, hc, hd, hn, hk⟩ hn' hlo hQ

/-- a written int and a written text -/
noncomputable def PairOk (prog : Program) (w : World) (lo : Int) (p : Sem Value × Sem Value) : Prop :=
  (∃ k, lo ≤ k ∧ ∀ (A : Around) (Q : Value → Shared → Prop) (E : Value → Shared → Prop) (s : Shared), (∀ t t', s.toks ≤ t' → Q (.int k t) { s with toks := t' }) → wpAny (model prog w) A p.1 Q E s) ∧
  ∀ (A : Around) (Q : Value → Shared → Prop) (E : Value → Shared → Prop) (s : Shared), (∀ v t', s.toks ≤ t' → Q v { s with toks := t' }) → wpAny (model prog w) A p.2 Q E s

theorem evalPairs_int {lo : Int} : ∀ (pairs : List (Sem Value × Sem Value)) (s : Shared) (Q : List (Value × Value) → Shared → Prop), (∀ p ∈ pairs, PairOk prog w lo p) →
    (∀ vs t', vs.length = pairs.length → (∀ x ∈ vs, ∃ k t, x.1 = .int k t ∧ lo ≤ k) → s.toks ≤ t' → Q vs { s with toks := t' }) → wpAny (model prog w) A (evalPairs pairs) Q E s
  | [], s, Q, _, h => evalPairs_nil (h [] s.toks rfl (fun _ hx => by cases hx) (Nat.le_refl _))
  | (k, v) :: rest, s, Q, hp, h => by
    obtain ⟨⟨i, hi, hk⟩, hv⟩ := hp (k, v) (by simp)
    refine evalPairs_cons (hk _ _ _ _ fun t t₁ l1 => hv _ _ _ _ fun x t₂ l2 => evalPairs_int rest _ _ (fun p hx => hp p (by simp [hx])) fun vs t₃ hl hx l3 => h _ t₃ (by simp [hl]) ?_ (Nat.le_trans l1 (Nat.le_trans l2 l3)))
    intro y hy
    rcases List.mem_cons.mp hy with rfl | hy
    · exact ⟨i, t, rfl, hi⟩
    · exact hx y hy

theorem subDict_int {lo : Int} {pairs : List (Sem Value × Sem Value)} {Q : Addr → Shared → Prop} (hp : ∀ p ∈ pairs, PairOk prog w lo p) (hl : pairs.length ≤ 17)
    (h : ∀ h' t', h'.objs.size = s.heap.objs.size + 1 → h'.life = s.heap.life → (∀ b : Nat, b < s.heap.objs.size → h'.objs[b]? = s.heap.objs[b]?) → DD lo h' s.heap.objs.size pairs.length → s.toks ≤ t' →
      Q s.heap.objs.size { s with heap := h', toks := t' }) : wpAny (model prog w) A (subDict pairs) Q E s := by
  have hs : sizeLine = 16777216 := sizeLine_eq
  unfold subDict
  refine wpAny_bind (wpAny_alloc (wpAny_bind (wpAny_holding ?_)))
  have D0 : DD lo (s.heap.push { cls := .type "dict", data := .dict #[] }) s.heap.objs.size 0 := ⟨_, #[], 0, Heap.get?_push_size _ rfl, ⟨rfl, rfl, rfl⟩, rfl, Nat.le_refl _, fun _ he => by simp at he⟩
  have fin : ∀ h' t', Ch s.heap.objs.size (s.heap.push { cls := .type "dict", data := .dict #[] }) h' → DD lo h' s.heap.objs.size pairs.length → s.toks ≤ t' →
      Q s.heap.objs.size { s with heap := h', toks := t' } := fun h' t' c D l => h h' t' (c.size.trans (by simp [Heap.push])) c.life (fun b hb => (c.old b (Nat.ne_of_lt hb)).trans (by
        show (s.heap.objs.push _)[b]? = _
        rw [Array.getElem?_push, if_neg (Nat.ne_of_lt hb)])) D l
  by_cases hlen : pairs.length ≤ 15
  · rw [if_pos hlen]
    refine wpAny_bind (evalPairs_int pairs _ _ hp fun vs t' hvl hvs l => wpAny_holding (wpAny_bind ?_))
    refine wpAny_forIn_list _ (fun (rest : List (Value × Value)) (_ : PUnit) s' => (∀ x ∈ rest, ∃ k t, x.1 = .int k t ∧ lo ≤ k) ∧ ∃ h' t', s' = { s with heap := h', toks := t' } ∧ s.toks ≤ t' ∧
      Ch s.heap.objs.size (s.heap.push { cls := .type "dict", data := .dict #[] }) h' ∧ ∃ n, n + rest.length ≤ pairs.length ∧ DD lo h' s.heap.objs.size n) _ ?_ ?_ _ _ ⟨hvs, _, t', rfl, l, Ch.refl _ _, 0, by omega, D0⟩
    · rintro ⟨kv, vv⟩ rest _ s' ⟨hx, h', t₁, rfl, l1, c, n, hn, D⟩
      obtain ⟨k, t, e, hlo⟩ := hx (kv, vv) (by simp)
      obtain rfl : kv = .int k t := e
      simp only [List.length_cons] at hn
      exact wpAny_bind (set_int (s := { s with heap := h', toks := t₁ }) D (by omega) hlo fun h₂ t₂ c₂ D₂ l2 => wpAny_pure ⟨fun x hx' => hx x (by simp [hx']), h₂, t₂, rfl, Nat.le_trans l1 l2, c.trans c₂, n + 1, by omega, D₂⟩)
    · rintro _ s' ⟨_, h', t₁, rfl, l1, c, n, hn, D⟩
      exact wpAny_pure (wpAny_pure (fin h' t₁ c (D.mono (by simpa using hn)) l1))
  · rw [if_neg hlen]
    refine wpAny_bind (wpAny_rule (wpAny_bind ?_))
    refine wpAny_forIn_list _ (fun (rest : List (Sem Value × Sem Value)) (_ : PUnit) s' => (∀ x ∈ rest, PairOk prog w lo x) ∧ ∃ h' t', s' = { s with heap := h', toks := t' } ∧ s.toks ≤ t' ∧
      Ch s.heap.objs.size (s.heap.push { cls := .type "dict", data := .dict #[] }) h' ∧ ∃ n, n + rest.length ≤ pairs.length ∧ DD lo h' s.heap.objs.size n) _ ?_ ?_ _ _ ⟨hp, _, s.toks, rfl, Nat.le_refl _, Ch.refl _ _, 0, by omega, D0⟩
    · rintro ⟨kt, vt⟩ rest _ s' ⟨hx, h', t₁, rfl, l1, c, n, hn, D⟩
      obtain ⟨⟨k, hlo, hk⟩, hv⟩ := hx (kt, vt) (by simp)
      simp only [List.length_cons] at hn
      refine wpAny_bind (hk _ _ _ _ fun t t₂ l2 => wpAny_bind (wpAny_holding (hv _ _ _ _ fun v t₃ l3 => wpAny_bind (wpAny_holding
        (set_int (s := { s with heap := h', toks := t₃ }) D (by omega) hlo fun h₂ t₄ c₂ D₂ l4 => wpAny_pure ⟨fun x hx' => hx x (by simp [hx']), h₂, t₄, rfl, ?_, c.trans c₂, n + 1, by omega, D₂⟩)))))
      exact Nat.le_trans l1 (Nat.le_trans l2 (Nat.le_trans l3 l4))
    · rintro _ s' ⟨_, h', t₁, rfl, l1, c, n, hn, D⟩
      exact wpAny_pure (wpAny_pure (fin h' t₁ c (D.mono (by simpa using hn)) l1))

end
end Mine
end
section
open PySem PySem.W PyProof.Rows
namespace Mine
section
variable {prog : Program} {w : World} {A : Around} {E : Value → Shared → Prop} {s : Shared}
theorem merge_int {lo : Int} {d a : Addr} {n m : Nat} (D : DD lo s.heap d n) (B : DD lo s.heap a m) (hne : d ≠ a) (hs : (a == sysModules) = false) (hz : n + m ≤ sizeLine) {Q : Unit → Shared → Prop}
    (hQ : ∀ h', Ch d s.heap h' → DD lo h' d (n + m) → Q () { s with heap := h' }) : wpAny (model prog w) A (mergeMapping d (.ref a) false) Q E s := by
  obtain ⟨o, es, ep, ho, hc, hd, hn, hk⟩ := B
  have D' := D
  obtain ⟨o₁, es₁, ep₁, ho₁, hc₁, hd₁, hn₁, hk₁⟩ := D
  have ty : s.TypeIs (.ref a) "dict" := ⟨o, ho, hc.1⟩
  have main : ∀ (f : Nat → PUnit → Sem (ForInStep PUnit)) (hf : ∀ (i : Nat) (hi : i < es.size) (u : PUnit) (Q' : ForInStep PUnit → Shared → Prop) (s' : Shared), s'.heap.get? a = some o →
      wpAny (model prog w) A (dictPut d es[i].hash es[i].key es[i].val) (fun _ s₂ => s₂.heap.get? a = some o ∧ Q' (.yield ⟨⟩) s₂) E s' → wpAny (model prog w) A (f i u) Q' E s'),
      wpAny (model prog w) A (do forIn (List.range es.size) PUnit.unit f; pure ()) Q E s := by
    intro f hf
    refine wpAny_bind (wpAny_forIn_list _ (fun (rest : List Nat) (_ : PUnit) s' => ∃ h', s' = { s with heap := h' } ∧ Ch d s.heap h' ∧ ∃ j, j ≤ es.size ∧ rest = List.range' j (es.size - j) ∧ DD lo h' d (n + j)) _ ?_ ?_ _ _
      ⟨s.heap, rfl, Ch.refl _ _, 0, Nat.zero_le _, by rw [List.range_eq_range', Nat.sub_zero], D'⟩)
    · rintro i rest u s' ⟨h', rfl, c, j, hj, hr, D⟩
      have hlt : j < es.size := by
        rcases Nat.lt_or_ge j es.size with x | x
        · exact x
        · rw [Nat.sub_eq_zero_of_le x] at hr; cases hr
      obtain ⟨k0, hk0⟩ : ∃ k0, es.size - j = k0 + 1 := ⟨es.size - j - 1, by omega⟩
      rw [hk0, List.range'_succ] at hr
      obtain ⟨rfl, rfl⟩ := List.cons.inj hr
      have ho' : h'.get? a = some o := (c.get (Ne.symm hne)).trans ho
      obtain ⟨k, t, e1, e2, e3⟩ := hk es[i] (Array.getElem_mem hlt)
      refine hf i hlt u _ _ ho' ?_
      rw [e1, e2]
      exact put_int (s := { s with heap := h' }) D (by omega) e3 fun h₂ c₂ D₂ => ⟨(c₂.get (Ne.symm hne)).trans ho', h₂, rfl, c.trans c₂, i + 1, hlt, by congr 1; omega, D₂⟩
    · rintro _ s' ⟨h', rfl, c, j, hj, hr, D⟩
      exact wpAny_pure (hQ h' c (D.mono (by omega)))
  unfold mergeMapping
  refine wpAny_bind (wpAny_isInstance ty isSubtype_dict_dict ?_)
  dsimp only
  rw [if_pos rfl]
  refine wpAny_bind (wpAny_specialOf ty PySem.F.slot_dict_iter.lookup ?_)
  refine wpAny_bind (wpAny_pure ?_)
  have e1 : (some (Value.builtin "dict.__iter__") == some (Value.builtin "dict.__iter__")) = true := by decide
  rw [e1]
  dsimp only
  rw [hs, if_neg Bool.false_ne_true]
  refine wpAny_bind (wpAny_dictEntries ho₁ hd₁ ?_)
  by_cases em : es₁.isEmpty = true
  · rw [if_pos em]
    refine wpAny_bind (wpAny_dictEntries ho hd (wpAny_bind ?_))
    refine PySem.MeetsSeq2.wpAny_forIn_array _ (fun (rest : List DictEntry) (_ : PUnit) s' => s' = s ∧ ∀ e ∈ rest, e ∈ es) _ ?_ ?_ _ _ ⟨rfl, fun e he => by simpa using he⟩
    · rintro e rest u s' ⟨rfl, he⟩
      obtain ⟨k, t, e1, e2, e3⟩ := hk e (he e (by simp))
      rw [e1]
      exact wpAny_pure ⟨rfl, fun x hx => he x (by simp [hx])⟩
    · rintro u s' ⟨rfl, _⟩
      refine wpAny_bind (wpAny_dictEntries ho hd (wpAny_bind (wpAny_dictEpoch ho hd (main _ ?_))))
      intro i hi u Q' s' h1 h2
      refine wpAny_bind (wpAny_dictEntries h1 hd ?_)
      rw [Array.getElem?_eq_getElem hi]
      dsimp only
      rw [if_neg Bool.false_ne_true]
      refine wpAny_bind (wpAny_holding (wpAny_mono h2 (fun _ s₂ h₂ => wpAny_bind (wpAny_dictEpoch h₂.1 hd ?_)) fun _ _ z => z))
      rw [if_neg (by simp)]
      exact wpAny_pure h₂.2
  · rw [if_neg em]
    refine wpAny_bind (wpAny_dictEntries ho hd (wpAny_bind (wpAny_dictEpoch ho hd (main _ ?_))))
    intro i hi u Q' s' h1 h2
    refine wpAny_bind (wpAny_dictEntries h1 hd ?_)
    rw [Array.getElem?_eq_getElem hi]
    dsimp only
    rw [if_neg Bool.false_ne_true]
    refine wpAny_bind (wpAny_holding (wpAny_mono h2 (fun _ s₂ h₂ => wpAny_bind (wpAny_dictEpoch h₂.1 hd ?_)) fun _ _ z => z))
    rw [if_neg (by simp)]
    exact wpAny_pure h₂.2
end
end Mine
end
section
open PySem PySem.W PyProof.Rows
namespace Mine
section
variable {prog : Program} {w : World} {A : Around} {E : Value → Shared → Prop} {s : Shared}

/-- how the display stands: m entries read, the last ones of them not yet laid -/
structure DSt (prog : Program) (w : World) (lo : Int) (s : Shared) (m : Nat) (x : Option Addr × List (Sem Value × Sem Value)) (s' : Shared) : Prop where
  ex : ∃ h' t', s' = { s with heap := h', toks := t' } ∧ s.toks ≤ t' ∧ h'.life = s.heap.life ∧ (∀ b : Nat, b < s.heap.objs.size → h'.objs[b]? = s.heap.objs[b]?) ∧
    ∃ q, m = 17 * q + x.2.length ∧ h'.objs.size = s.heap.objs.size + q ∧ (x.1 = none ∧ q = 0 ∨ x.1 = some s.heap.objs.size ∧ 0 < q ∧ DD lo h' s.heap.objs.size (17 * q))
  run : ∀ p ∈ x.2, PairOk prog w lo p

theorem flush_int {lo : Int} {m : Nat} {main : Option Addr} {run : List (Sem Value × Sem Value)} {s' : Shared} {Q : Option Addr → Shared → Prop} (D : DSt prog w lo s m (main, run) s') (hl : run.length ≤ 17) (hm : m ≤ 10000)
    (hsys : sysModules < s.heap.objs.size)
    (h : ∀ h' t' q, h'.life = s.heap.life → (∀ b : Nat, b < s.heap.objs.size → h'.objs[b]? = s.heap.objs[b]?) → m = 17 * q + run.length → h'.objs.size = s.heap.objs.size + q + 1 → DD lo h' s.heap.objs.size m → s.toks ≤ t' →
      Q (some s.heap.objs.size) { s with heap := h', toks := t' }) : (main = none → wpAny (model prog w) A (subDict run) (fun d => Q (some d)) E s') ∧
    ∀ d, main = some d → wpAny (model prog w) A (subDict run) (fun sub s₂ => wpAny (model prog w) A (mergeMapping d (.ref sub) false) (fun _ => Q (some d)) (fun _ _ => False) s₂) E s' := by
  have hsz : sizeLine = 16777216 := sizeLine_eq
  obtain ⟨⟨h', t', rfl, l1, lf, old, q, hq, sz, cs⟩, hr⟩ := D
  dsimp only at hq cs hr
  rcases cs with ⟨rfl, rfl⟩ | ⟨rfl, hq0, DM⟩
  · refine ⟨fun _ => subDict_int hr hl fun h₂ t₂ s2 lf2 old2 D2 l2 => ?_, fun d hd => (by cases hd)⟩
    dsimp only at s2 lf2 old2 D2 l2 ⊢
    rw [sz, Nat.add_zero] at s2 old2 D2 ⊢
    exact h h₂ t₂ 0 (lf2.trans lf) (fun b hb => (old2 b hb).trans (old b hb)) hq (by omega) (by rw [hq]; simpa using D2) (Nat.le_trans l1 l2)
  · refine ⟨fun hd => (by cases hd), fun d hd => ?_⟩
    obtain rfl : s.heap.objs.size = d := Option.some.inj hd
    refine subDict_int hr hl fun h₂ t₂ s2 lf2 old2 D2 l2 => ?_
    dsimp only at s2 lf2 old2 D2 l2 ⊢
    refine merge_int (s := { s with heap := h₂, toks := t₂ }) (DM.of_get (get_congr (old2 _ (by omega)))) D2 (by show s.heap.objs.size ≠ h'.objs.size; omega) (beq_eq_false_iff_ne.mpr (Nat.ne_of_gt (Nat.lt_of_lt_of_le hsys (by rw [sz]; exact Nat.le_add_right _ _)))) (by omega) fun h₃ c D3 => ?_
    exact h h₃ t₂ q (c.life.trans (lf2.trans lf)) (fun b hb => (c.old b (by show (b : Nat) ≠ s.heap.objs.size; omega)).trans ((old2 b (by omega)).trans (old b hb))) hq (by rw [c.size, s2]; omega) (by rw [hq]; exact D3) (Nat.le_trans l1 l2)

theorem display_int {lo : Int} {pairs : List (Sem Value × Sem Value)} {Q : Value → Shared → Prop} (hp : ∀ p ∈ pairs, PairOk prog w lo p) (h0 : pairs ≠ []) (hl : pairs.length ≤ 10000) (hsys : sysModules < s.heap.objs.size)
    (h : ∀ h' t', h'.objs.size = s.heap.objs.size + (pairs.length + 16) / 17 → h'.life = s.heap.life → (∀ b : Nat, b < s.heap.objs.size → h'.objs[b]? = s.heap.objs[b]?) → DD lo h' s.heap.objs.size pairs.length → s.toks ≤ t' →
      Q (.ref s.heap.objs.size) { s with heap := h', toks := t' }) : wpAny (model prog w) A (dictDisplay (pairs.map fun p => (some p.1, p.2))) Q E s := by
  have hsz : sizeLine = 16777216 := sizeLine_eq
  unfold dictDisplay
  dsimp only
  refine wpAny_bind (wpAny_forIn_list _ (fun (rest : List (Option (Sem Value) × Sem Value)) x s' => ∃ done more, pairs = done ++ more ∧ rest = more.map (fun p => (some p.1, p.2)) ∧ DSt prog w lo s done.length x s' ∧ x.2.length < 17) _ ?_ ?_ _ _
    ⟨[], pairs, rfl, rfl, ⟨⟨s.heap, s.toks, rfl, Nat.le_refl _, rfl, fun _ _ => rfl, 0, rfl, rfl, .inl ⟨rfl, rfl⟩⟩, fun _ hx => by cases hx⟩, by decide⟩)
  · rintro ⟨kx, vx⟩ rest ⟨main, run⟩ s' ⟨done, more, e, hr, D, hlt⟩
    cases more with
    | nil => cases hr
    | cons p more =>
      obtain ⟨e1, rfl⟩ := List.cons.inj hr
      obtain ⟨rfl, rfl⟩ := Prod.mk.inj e1
      dsimp only
      have D' : DSt prog w lo s (done ++ [p]).length (main, run ++ [(p.1, p.2)]) s' := by
        obtain ⟨⟨h', t', rfl, l1, lf, old, q, hq, sz, cs⟩, hr⟩ := D
        refine ⟨⟨h', t', rfl, l1, lf, old, q, by simp at hq ⊢; omega, sz, cs⟩, fun x hx => ?_⟩
        rcases List.mem_append.mp hx with hx | hx
        · exact hr x hx
        · rw [List.mem_singleton.mp hx]; exact hp p (by rw [e]; simp)
      have hlen : (done ++ [p]).length ≤ 10000 := by
        have := congrArg List.length e
        simp at this ⊢; omega
      by_cases h17 : ((run ++ [(p.1, p.2)]).length == 17) = true
      · rw [if_pos h17]
        have h17' : (run ++ [(p.1, p.2)]).length = 17 := eq_of_beq h17
        refine wpAny_bind ?_
        rw [if_neg (by simp)]
        have fl := fun (Q : Option Addr → Shared → Prop) h => flush_int (A := A) (E := E) (Q := Q) D' (by omega) hlen hsys h
        have key : ∀ (h' : Heap) (t' q : Nat), h'.life = s.heap.life → (∀ b : Nat, b < s.heap.objs.size → h'.objs[b]? = s.heap.objs[b]?) → (done ++ [p]).length = 17 * q + (run ++ [(p.1, p.2)]).length → h'.objs.size = s.heap.objs.size + q + 1 →
            DD lo h' s.heap.objs.size (done ++ [p]).length → s.toks ≤ t' → ∃ d₂ m₂, pairs = d₂ ++ m₂ ∧ more.map (fun p => (some p.1, p.2)) = m₂.map (fun p => (some p.1, p.2)) ∧
              DSt prog w lo s d₂.length (some s.heap.objs.size, ([] : List (Sem Value × Sem Value))) { s with heap := h', toks := t' } ∧ ([] : List (Sem Value × Sem Value)).length < 17 := by
          intro h' t' q lf old hq sz DM l1
          refine ⟨done ++ [p], more, by rw [e]; simp, rfl, ⟨⟨h', t', rfl, l1, lf, old, q + 1, ?_, by omega, .inr ⟨rfl, by omega, ?_⟩⟩, fun _ hx => by cases hx⟩, by simp⟩
          · rw [hq, h17']; simp; omega
          · rw [hq, h17'] at DM; exact DM
        cases main with
        | none => exact wpAny_bind ((fl (fun x s₂ => wpAny (model prog w) A (pure x) _ E s₂) (fun h' t' q a b c d e f => wpAny_pure (wpAny_pure (key h' t' q a b c d e f)))).1 rfl)
        | some d => exact wpAny_bind (wpAny_holding (wpAny_mono ((fl (fun x s₂ => wpAny (model prog w) A (pure x) _ E s₂) (fun h' t' q a b c d e f => wpAny_pure (wpAny_pure (key h' t' q a b c d e f)))).2 d rfl)
            (fun _ _ y => wpAny_bind (wpAny_onRaise (wpAny_holding (wpAny_mono y (fun _ _ z => z) fun _ _ f => f.elim)))) fun _ _ y => y))
      · rw [if_neg h17]
        have h17' : (run ++ [(p.1, p.2)]).length ≠ 17 := fun z => h17 (by rw [z]; rfl)
        exact wpAny_pure ⟨done ++ [p], more, by rw [e]; simp, rfl, D', by simp at h17' hlt ⊢; omega⟩
  · rintro ⟨main, run⟩ s' ⟨done, more, e, hr, D, hlt⟩
    have : more = [] := by
      cases more with
      | nil => rfl
      | cons _ _ => cases hr
    subst this
    rw [List.append_nil] at e
    subst e
    dsimp only
    refine wpAny_bind ?_
    by_cases hem : run.isEmpty = true
    · rw [if_pos hem]
      have hr0 : run = [] := List.isEmpty_iff.mp hem
      obtain ⟨⟨h', t', rfl, l1, lf, old, q, hq, sz, cs⟩, _⟩ := D
      subst hr0
      have hne : 0 < pairs.length := List.length_pos_iff.mpr h0
      dsimp only at hq cs
      simp only [List.length_nil, Nat.add_zero] at hq
      rcases cs with ⟨_, rfl⟩ | ⟨rfl, hq0, DM⟩
      · omega
      · exact wpAny_pure (wpAny_pure (h h' t' (by rw [sz, hq]; omega) lf old (by rw [hq]; exact DM) l1))
    · rw [if_neg hem]
      have hr0 : 0 < run.length := List.length_pos_iff.mpr fun z => hem (by rw [z]; rfl)
      have fl := fun (Q : Option Addr → Shared → Prop) h => flush_int (A := A) (E := E) (Q := Q) D (by dsimp only at hlt; omega) hl hsys h
      dsimp only at hlt
      have key : ∀ (h' : Heap) (t' q : Nat), h'.life = s.heap.life → (∀ b : Nat, b < s.heap.objs.size → h'.objs[b]? = s.heap.objs[b]?) → pairs.length = 17 * q + run.length → h'.objs.size = s.heap.objs.size + q + 1 →
            DD lo h' s.heap.objs.size pairs.length → s.toks ≤ t' → Q (.ref s.heap.objs.size) { s with heap := h', toks := t' } := fun h' t' q lf old hq sz DM l1 => h h' t' (by rw [sz]; omega) lf old DM l1
      cases main with
      | none => exact wpAny_bind ((fl (fun x s₂ => wpAny (model prog w) A (pure x) _ E s₂) (fun h' t' q a b c d e f => wpAny_pure (wpAny_pure (key h' t' q a b c d e f)))).1 rfl)
      | some d => exact wpAny_bind (wpAny_holding (wpAny_mono ((fl (fun x s₂ => wpAny (model prog w) A (pure x) _ E s₂) (fun h' t' q a b c d e f => wpAny_pure (wpAny_pure (key h' t' q a b c d e f)))).2 d rfl)
            (fun _ _ y => wpAny_bind (wpAny_onRaise (wpAny_holding (wpAny_mono y (fun _ _ z => z) fun _ _ f => f.elim)))) fun _ _ y => y))
end
end Mine
end
section
open PySem PySem.W PyProof.Rows
open Sem (wp)
namespace Mine

theorem wp_execs_app {M : Model} {Γ : Ctx} {env : Env} {Q : Flow → Pos → Shared → Prop} {E : Value → Pos → Shared → Prop} : ∀ (l rest : List Stmt) (p : Pos) (s : Shared),
    wp M Γ (execs l env) (fun f q x => match f with | .next => wp M Γ (execs rest env) Q E q x | f => Q f q x) E p s → wp M Γ (execs (l ++ rest) env) Q E p s
  | [], _, _, _, h => h
  | st :: l, rest, p, s, h => by
    rw [List.cons_append, arm_execs_cons, Sem.wp_bind']
    rw [arm_execs_cons, Sem.wp_bind'] at h
    refine Sem.wp_mono M Γ _ (fun f q x hx => ?_) (fun _ _ _ z => z) p s h
    cases f with
    | next => exact wp_execs_app l rest q x hx
    | _ => exact hx

noncomputable def keyOk (lo : Int) : Option PySem.Expr → Bool
  | some (.Constant (.int i) _ _) => decide (lo ≤ i)
  | _ => false
noncomputable def valOk : PySem.Expr → Bool
  | .Constant (.str _) _ _ => true
  | _ => false
noncomputable def goodKV (lo : Int) : List (Option PySem.Expr) → List PySem.Expr → Bool
  | [], [] => true
  | k :: ks, v :: vs => keyOk lo k && valOk v && goodKV lo ks vs
  | _, _ => false

theorem pairs_of {prog : Program} {w : World} {lo : Int} {env : Env} {pos : Pos} : ∀ (keys : List (Option PySem.Expr)) (values : List PySem.Expr), goodKV lo keys values = true →
    ∃ pairs : List (Sem Value × Sem Value), (evalEachOpt keys env).zip ((evalEach values env).map fun v => do let x ← v; standAt pos; pure x) = pairs.map (fun p => (some p.1, p.2)) ∧ pairs.length = keys.length ∧ ∀ p ∈ pairs, PairOk prog w lo p
  | [], [], _ => ⟨[], rfl, rfl, fun _ h => by cases h⟩
  | [], _ :: _, h => by cases h
  | _ :: _, [], h => by cases h
  | k :: ks, v :: vs, h => by
    simp only [goodKV, Bool.and_eq_true] at h
    obtain ⟨⟨hk, hv⟩, hr⟩ := h
    obtain ⟨pairs, e, hl, hp⟩ := pairs_of (prog := prog) (w := w) (env := env) (pos := pos) ks vs hr
    unfold keyOk at hk
    unfold valOk at hv
    split at hk
    · rename_i i a b
      split at hv
      · rename_i x c d
        refine ⟨(eval (.Constant (.int i) a b) env, (do let y ← eval (.Constant (.str x) c d) env; standAt pos; pure y)) :: pairs, ?_, by simp [hl], ?_⟩
        · rw [List.map_cons, ← e]; rfl
        · intro p hpm
          rcases List.mem_cons.mp hpm with rfl | hpm
          · exact ⟨⟨i, of_decide_eq_true hk, fun A Q E s hQ => wpAny_Constant_int (env := env) (k := a) (pos := b) (hQ _ _ (Nat.le_succ _))⟩, fun A Q E s hQ => wpAny_bind (wpAny_Constant_str (env := env) (k := c) (pos := d) (wpAny_bind (wpAny_standAt (wpAny_pure (hQ _ _ (Nat.le_succ _))))))⟩
          · exact hp p hpm
      · cases hv
    · cases hk

theorem ctx_in (Γ : Ctx) : Γ.In ⟨Γ.handled, frameCount Γ.below + Γ.code.weight, none, none, Γ.units⟩ := ⟨rfl, Nat.le_refl _, fun _ h => (by cases h), fun _ h => (by cases h), Nat.le_refl _⟩

noncomputable def isDone : Step → Bool
  | .halt (.done _) _ => true
  | _ => false
theorem step_done {den : Code → Sem Fin} {pr : Program} {w : World} {f : Flow} {s s' : Shared} {t : Thread} (hs : step den pr w s t = .halt (.done f) s') : through t = true := by
  obtain ⟨heap, gens, drawn, toks, os⟩ := s
  obtain ⟨cur, code, pos, stack⟩ := t
  cases cur
  all_goals try exact Bool.noConfusion (show false = true from congrArg isDone hs)
  case pure fin =>
    cases fin with
    | again c => exact Bool.noConfusion (show false = true from congrArg isDone hs)
    | done g =>
      cases stack with
      | nil => rfl
      | cons fr rest => cases fr <;> exact Bool.noConfusion (show false = true from congrArg isDone hs)
  case raise e =>
    cases stack with
    | nil =>
      have h2 : (if leftWithCleanup gens then Step.halt (.unsupported "lifetime:generator-with-cleanup-left-suspended") _ else Step.halt (.uncaught e) _) = Step.halt (.done f) s' := hs
      cases q : leftWithCleanup gens <;> rw [q] at h2 <;> cases h2
    | cons fr rest => cases fr <;> exact Bool.noConfusion (show false = true from congrArg isDone hs)
  case finish e =>
    have h2 : (if leftWithCleanup gens then Step.halt (.unsupported "lifetime:generator-with-cleanup-left-suspended") _ else Step.halt (.ended e) _) = Step.halt (.done f) s' := hs
    cases q : leftWithCleanup gens <;> rw [q] at h2 <;> cases h2
  case load a x k =>
    have h2 : (match heap.get? a with | some o => Step.go ⟨heap, gens, drawn, toks, os⟩ ⟨k o, code, pos, stack⟩ | none => .halt (.stuck _) _) = Step.halt (.done f) s' := hs
    cases q : heap.get? a <;> rw [q] at h2 <;> cases h2
  case update a x g k =>
    have h2 : (if (heap.get? a).isSome then Step.go _ _ else .halt (.stuck _) _) = Step.halt (.done f) s' := hs
    cases q : (heap.get? a).isSome <;> rw [q] at h2 <;> cases h2
  case choose src n k =>
    have h2 : (if n = 0 then Step.halt (.stuck _) _ else .go _ _) = Step.halt (.done f) s' := hs
    by_cases q : n = 0
    · rw [if_pos q] at h2; cases h2
    · rw [if_neg q] at h2; cases h2
  case genState g k =>
    have h2 : (match gens[g]? with | none => Step.halt (.stuck _) _ | some st => .go _ _) = Step.halt (.done f) s' := hs
    cases q : gens[g]? <;> rw [q] at h2 <;> cases h2
  case yield v g0 l kk =>
    have h2 : (match splitAtGen stack with | some (frames, (g, k, c, p), rest) => Step.go ⟨heap, gens.setIfInBounds g (.suspended kk l code pos frames (g0 || frames.any Frame.guarded)), drawn, toks, os⟩ ⟨k (.yielded v), c, p, rest⟩ | none => .halt (.stuck _) _) = Step.halt (.done f) s' := hs
    cases q : splitAtGen stack with
    | none => rw [q] at h2; cases h2
    | some z => obtain ⟨a, ⟨b1, b2, b3, b4⟩, d⟩ := z; rw [q] at h2; cases h2
  case resume g r l k =>
    cases q : gens[g]? with
    | none =>
      unfold step at hs
      dsimp only at hs
      rw [q] at hs
      cases hs
    | some st =>
      unfold step at hs
      dsimp only at hs
      rw [q] at hs
      cases st with
      | fresh c => cases r with
        | send v => cases v <;> cases hs
        | throw e => cases hs
      | _ => cases hs
theorem last_running {den : Code → Sem Fin} {pr : Program} {w : World} {f : Flow} {s' : Shared} : ∀ (n : Nat) (s : Shared) (t : Thread), runN den pr w n s t = .halted (.done f) s' → ∃ m t', runN den pr w m s t = .running s' t' ∧ through t' = true
  | 0, _, _, h => by cases h
  | n + 1, s, t, h => by
    rw [runN] at h
    cases hs : step den pr w s t with
    | go s₁ t₁ =>
      rw [hs] at h
      obtain ⟨m, t', a, b⟩ := last_running n s₁ t₁ h
      exact ⟨m + 1, t', by rw [runN, hs]; exact a, b⟩
    | halt o s₁ =>
      rw [hs] at h
      cases h
      obtain rfl := step_halt_same den pr w s s' t _ hs
      exact ⟨0, t, rfl, step_done hs⟩

/-- a thread that stands through, out of the rules -/
theorem ends_through {pr : Program} {w : World} {t : Sem Fin} {s : Shared} {R : Shared → Prop} (hz : s.asleep) (hR : ∀ s', R s' → s'.gens = #[])
    (h : wp (model pr w) (Ctx.of (.builtin "claim.caller" {}) []) t (fun fin _ s' => fin = .done (.ret .none) ∧ R s') (fun _ _ _ => False) default s) :
    ∃ s', R s' ∧ s'.heap.life = s.heap.life ∧ ∃ n t', schedN (denote table) pr w n (.single s ⟨t, .builtin "claim.caller" {}, default, []⟩) = .running (.single s' t') ∧ through t' = true := by
  have h' : wp (model pr w) ⟨.builtin "claim.caller" {}, none, none, [], none⟩ t (Sem.finPost (model pr w) ⟨.builtin "claim.caller" {}, none, none, [], none⟩ fun r s' => (r = .ok (.ret .none) ∧ R s') ∧ leftWithCleanup s'.gens = false)
      (fun e _ s' => ((Except.error e : Result) = .ok (.ret .none) ∧ R s') ∧ leftWithCleanup s'.gens = false) default s := by
    refine Sem.wp_mono _ _ t (fun fin q x hx => ?_) (fun _ _ _ z => z.elim) default s h
    obtain ⟨rfl, r⟩ := hx
    exact ⟨⟨rfl, r⟩, by rw [hR _ r]; simp [leftWithCleanup]⟩
  obtain ⟨n, r, s₁, hn, rfl, r1⟩ := (wp_iff_halts (M := model pr w) t _ default s).mp h'
  obtain ⟨s₂, hr, hf, hcalm⟩ := runNI_real _ _ _ hn (outcomeOf_ends _)
  have e : s₂ = s₁ := by
    obtain ⟨a, b, c, d, f⟩ := s₂
    obtain ⟨a', b', c', d', f'⟩ := s₁
    have g : b' = #[] := hR _ r1
    subst g
    simp only [Shared.forget, Shared.mk.injEq] at hf
    obtain ⟨rfl, hb, rfl, rfl, rfl⟩ := hf
    have : b = #[] := by
      have z := congrArg Array.size hb
      simp at z
      exact z
    subst this
    rfl
  subst e
  obtain ⟨m, t', hm, ht⟩ := last_running n s _ hr
  have hne : ∀ k s₂, runN (denote table) pr w k s ⟨t, .builtin "claim.caller" {}, default, []⟩ ≠ .halted (.unsupported "lifetime:generator-with-cleanup-left-suspended") s₂ := by
    intro k x hk
    have a := runN_mono _ _ _ n k _ _ _ _ hr
    have b := runN_mono _ _ _ k n _ _ _ _ hk
    have a' := (by rw [Nat.add_comm]; exact a : runN (denote table) pr w (k + n) s ⟨t, .builtin "claim.caller" {}, default, []⟩ = .halted (outcomeOf (.ok (.ret .none))) s₂)
    rw [b] at a'
    cases a'
  refine ⟨s₂, r1, runN_life _ _ _ hr, m, t', ?_, ht⟩
  exact (schedN_eq_runN (denote table) pr w s _ hz ⟨hcalm, hne⟩ m).trans (congrArg Run.lift hm)

noncomputable def Γc : Ctx := Ctx.of (.builtin "claim.caller" {}) []
noncomputable def pre (pr : Program) : Sem (Value × Addr) := do
  let code ← moduleCode pr.main
  let frame ← newBodyFrame code mainNs mainNs
  pure (code, frame)
noncomputable def bodyEnv (pr : Program) (code : Value) (frame : Addr) : Env := { scope := pr.main.scope, locals := mainNs, globals := mainNs, cells := [], code, frame := some frame }
/-- what stands behind the display in its own statement, and the statements behind that -/
noncomputable def behind (targets : List PySem.Expr) (value : PySem.Expr) (rest : List Stmt) (env : Env) (v : Value) : Sem Flow := do
  match ← (do assignStores env v (← swappedStores targets value env) ((assignEach targets env).map (·.2))) with
  | .next => execs rest env
  | f => pure f

theorem top_ran {pr : Program} {w : World} {ok : Addr → Bool} {cm : Thread → Bool} (hc : Calms cm) {k0 k1 k2 : Nat} {t0 t1 t2 t3 : SharedT} {code : Value} {frame : Addr} {p1 p2 p3 : Pos} {R : Shared → Prop} {l1 l2 : List Stmt}
    {targets : List PySem.Expr} {keys : List (Option PySem.Expr)} {values : List PySem.Expr} {dpos apos : Pos} {lo : Int} (hz : t0.abs.asleep) (hR : ∀ s', R s' → s'.gens = #[])
    (hpre : ev ok (denote table) cm pr w.params k0 Γc (pre pr) default t0 = some (.ok (code, frame), p1, t1))
    (hb : behindTheImports pr = l1 ++ .Assign targets (.Dict keys values dpos) apos :: l2)
    (h1 : ev ok (denote table) cm pr w.params k1 (Γc.enter (.body (behindTheImports pr) (bodyEnv pr code frame)) none p1) (do blockStart (behindTheImports pr) (bodyEnv pr code frame); execs l1 (bodyEnv pr code frame)) p1 t1 = some (.ok .next, p2, t2))
    (h2 : ev ok (denote table) cm pr w.params k2 (Γc.enter (.body (behindTheImports pr) (bodyEnv pr code frame)) none p1) (do standAt apos; swapsWithSole targets (.Dict keys values dpos) apos.line (bodyEnv pr code frame)) p2 t2 = some (.ok false, p3, t3))
    (hkv : goodKV lo keys values = true) (hne : keys ≠ []) (hlen : keys.length ≤ 10000) (hsys : sysModules < t3.n)
    (fin : ∀ (h' : Heap) (tk : Nat) (p : Pos), h'.objs.size = t3.n + (keys.length + 16) / 17 → h'.life = t3.life → (∀ b : Nat, b < t3.n → h'.objs[b]? = t3.abs.heap.objs[b]?) → DD lo h' t3.n keys.length → t3.toks ≤ tk →
      wp (model pr w) (Γc.enter (.body (behindTheImports pr) (bodyEnv pr code frame)) none p1) (behind targets (.Dict keys values dpos) l2 (bodyEnv pr code frame) (.ref t3.n)) (fun f _ x => f = .next ∧ R x) (fun _ _ _ => False) p
        { t3.abs with heap := h', toks := tk }) :
    ∃ s', R s' ∧ s'.heap.life = t0.abs.heap.life ∧ ∃ n t', schedN (denote table) pr w n (.single t0.abs (topStub pr)) = .running (.single s' t') ∧ through t' = true := by
  have e3 : t3.abs.heap.objs.size = t3.n := absHeap_size ..
  refine ends_through hz hR ?_
  have w0 := ev_wp (M := model pr w) hc _ _ _ _ _ _ _ _ hpre
  have w1 := ev_wp (M := model pr w) hc _ _ _ _ _ _ _ _ h1
  have w2 := ev_wp (M := model pr w) hc _ _ _ _ _ _ _ _ h2
  unfold pre at w0
  rw [Sem.wp_bind'] at w0 ⊢
  refine Sem.wp_mono _ _ _ (fun cd q x hx => ?_) (fun _ _ _ z => by cases z.1) _ _ w0
  rw [Sem.wp_bind'] at hx ⊢
  refine Sem.wp_mono _ _ _ (fun fr q x hx => ?_) (fun _ _ _ z => by cases z.1) _ _ hx
  rw [Sem.wp_pure'] at hx
  obtain ⟨he, hq, hx'⟩ := hx
  subst hx'
  cases he
  rw [hq]
  rw [Sem.wp_bind']
  show wp _ _ (PySem.run (.body (behindTheImports pr) (bodyEnv pr code frame))) _ _ _ _
  unfold PySem.run
  rw [Sem.wp_call, wpCode_iff_wp]
  show wp (model pr w) (Γc.enter (.body (behindTheImports pr) (bodyEnv pr code frame)) none p1) (do blockStart (behindTheImports pr) (bodyEnv pr code frame); let f ← (execs (behindTheImports pr) (bodyEnv pr code frame)).onRaise (leaving (bodyEnv pr code frame)); (Sem.pure (Fin.done f) : Sem Fin)) _ _ _ _
  generalize hΓ : Γc.enter (.body (behindTheImports pr) (bodyEnv pr code frame)) none p1 = Γ at w1 w2 fin ⊢
  rw [Sem.wp_bind'] at w1 ⊢
  refine Sem.wp_mono _ _ _ (fun u q x hx => ?_) (fun _ _ _ z => by cases z.1) _ _ w1
  rw [Sem.wp_bind', Sem.wp_onRaise, hb]
  refine wp_execs_app l1 _ q x ?_
  refine Sem.wp_mono _ _ _ (fun f q x hx => ?_) (fun _ _ _ z => by cases z.1) _ _ hx
  obtain ⟨he, rfl, rfl⟩ := hx
  cases he
  dsimp only
  rw [arm_execs_cons, Sem.wp_bind', arm_exec_Assign]
  rw [Sem.wp_bind'] at w2 ⊢
  refine Sem.wp_mono _ _ _ (fun u q x hx => ?_) (fun _ _ _ z => by cases z.1) _ _ w2
  rw [Sem.wp_bind']
  refine Sem.wp_mono _ _ _ (fun b q x hx => ?_) (fun _ _ _ z => by cases z.1) _ _ hx
  obtain ⟨he, rfl, rfl⟩ := hx
  cases he
  rw [if_neg Bool.false_ne_true, Sem.wp_bind', arm_eval_Dict]
  obtain ⟨pairs, ez, el, hp⟩ := pairs_of (prog := pr) (w := w) (env := bodyEnv pr code frame) (pos := dpos) keys values hkv
  rw [ez]
  have hne' : pairs ≠ [] := fun z => hne (List.length_eq_zero_iff.mp (by rw [← el, z]; rfl))
  have D := fun (Q : Value → Shared → Prop) h => display_int (A := ⟨Γ.handled, frameCount Γ.below + Γ.code.weight, none, none, Γ.units⟩) (E := fun _ _ => False) (s := t3.abs) (Q := Q) hp hne' (by omega) (by rw [e3]; exact hsys) h
  rw [e3] at D
  rw [Sem.wp_bind']
  show wp (model pr w) Γ (dictDisplay _) _ _ dpos _
  refine Sem.wp_mono _ _ _ ?_ ?_ _ _ (D (fun v x => ∃ (h' : Heap) (tk : Nat), v = .ref t3.n ∧ x = { t3.abs with heap := h', toks := tk } ∧ h'.objs.size = t3.n + (keys.length + 16) / 17 ∧ h'.life = t3.life ∧
    (∀ b : Nat, b < t3.n → h'.objs[b]? = t3.abs.heap.objs[b]?) ∧ DD lo h' t3.n keys.length ∧ t3.toks ≤ tk) (fun h' tk a b c d e => ⟨h', tk, rfl, rfl, by rw [a, el], b, c, by rw [← el]; exact d, e⟩) Γ dpos (ctx_in Γ))
  · rintro v q x ⟨h', tk, rfl, rfl, a, b, c, d, e⟩
    have z := fin h' tk q a b c d e
    unfold behind at z
    rw [Sem.wp_bind'] at z
    refine Sem.wp_mono _ _ _ (fun f q x hx => ?_) (fun _ _ _ z => z.elim) _ _ z
    cases f with
    | next =>
      refine Sem.wp_mono _ _ _ (fun f q x hx => ?_) (fun _ _ _ z => z.elim) _ _ hx
      obtain ⟨rfl, r⟩ := hx
      exact ⟨rfl, r⟩
    | _ => exact absurd hx.1 (by simp)
  · intro _ _ _ z
    exact z.elim
end Mine
end
section
open PySem PySem.W PyProof.Rows
namespace Mine
abbrev pw : Program := PySem.Challenge.pw_ta0068_02

noncomputable def toT (s : Shared) : Option SharedT :=
  (s.heap.objs.toList.foldl (fun (x : Option (BT × Nat)) o => match x with
    | some (T, n) => match ((T.ins n o).get n).isSome with
      | true => some (T.ins n o, n + 1)
      | false => none
    | none => none) (some (BT.nil, 0))).map fun (T, n) => ⟨T, n, s.heap.life, s.gens, s.drawn, s.toks, s.os⟩

noncomputable def qden : Code → Sem Fin := PySem.W.Fast.tw11892475500146522536 PySem.W.Fast.tw14364793385576792824
noncomputable def qcalm : Thread → Bool := PySem.W.Fast.tw2348191978395082540
noncomputable def execsQ := PySem.W.Fast.tw12563942051412417395
noncomputable def startQ : Program → Shared × Thread := PySem.W.Fast.tw1435165496053646825
noncomputable def opened (w : World) : Option Shared :=
  (PySem.W.Fast.tw10274390034422433532 PySem.W.Fast.tw14364793385576792824 (opening pw) w 2000 (startQ (opening pw)).1 (startQ (opening pw)).2).bind (PySem.W.Fast.tw14289696077712309145 pw)
set_option maxRecDepth 100000
noncomputable def okA (a : Addr) : Bool := a == mainNs || a == cStatics || Nat.ble 28 a
noncomputable def top : List Stmt := behindTheImports pw
noncomputable def asT : Stmt → List PySem.Expr × List (Option PySem.Expr) × List PySem.Expr × Pos × Pos
  | .Assign ts (.Dict ks vs dp) ap => (ts, ks, vs, dp, ap)
  | _ => ([], [], [], default, default)
noncomputable def b3 := asT ((top.drop 20).headD (.Pass default))
noncomputable def dictE : PySem.Expr := .Dict b3.2.1 b3.2.2.1 b3.2.2.2.1

structure StA where
  s0 : Shared
  t0 : SharedT
  code : Value
  frame : Addr
  p1 : Pos
  t1 : SharedT
  p2 : Pos
  t2 : SharedT
  p3 : Pos
  t3 : SharedT

noncomputable def Γq (code : Value) (frame : Addr) (p1 : Pos) : Ctx := Γc.enter (.body top (bodyEnv pw code frame)) none p1
noncomputable def stA (w : World) : Option StA :=
  (opened w).bind fun s0 => (toT s0).bind fun t0 =>
  match ev okA qden qcalm pw w.params 400 Γc (pre pw) default t0 with
  | some (.ok (code, frame), p1, t1) =>
    match ev okA qden qcalm pw w.params 3000 (Γq code frame p1) (do blockStart top (bodyEnv pw code frame); execsQ (top.take 20) (bodyEnv pw code frame)) p1 t1 with
    | some (.ok .next, p2, t2) =>
      match ev okA qden qcalm pw w.params 100 (Γq code frame p1) (do standAt b3.2.2.2.2; swapsWithSole b3.1 dictE b3.2.2.2.2.line (bodyEnv pw code frame)) p2 t2 with
      | some (.ok false, p3, t3) => some ⟨s0, t0, code, frame, p1, t1, p2, t2, p3, t3⟩
      | _ => none
    | _ => none
  | _ => none
noncomputable def insAll : BT → Nat → List Obj → Option BT
  | T, _, [] => some T
  | T, n, o :: l => match ((T.ins n o).get n).isSome with
    | true => insAll (T.ins n o) (n + 1) l
    | false => none
noncomputable def behindQ (targets : List PySem.Expr) (value : PySem.Expr) (rest : List Stmt) (env : Env) (v : Value) : Sem Flow := do
  match ← (do assignStores env v (← swappedStores targets value env) ((assignEach targets env).map (·.2))) with
  | .next => execsQ rest env
  | f => pure f
noncomputable def stB (w : World) (g : Nat → Obj) (tk : Nat) (p : Pos) (x : StA) : Option SharedT :=
  (insAll x.t3.tree x.t3.n ((List.range 39).map g)).bind fun T =>
  match ev okA qden qcalm pw w.params 3000 (Γq x.code x.frame x.p1) (behindQ b3.1 dictE (top.drop 21) (bodyEnv pw x.code x.frame) (.ref x.t3.n)) p ⟨T, x.t3.n + 39, x.t3.life, x.t3.gens, x.t3.drawn, tk, x.t3.os⟩ with
  | some (.ok .next, _, s) => some s
  | _ => none

end Mine
end
section
open PySem PySem.W PyProof.Rows
namespace Mine
set_option maxRecDepth 100000
noncomputable def keepIx : List Nat := [0, 2, 3, 4, 5, 6, 7, 9, 14, 15, 16, 17, 20, 22, 23, 25, 26, 27, 28, 29, 30, 31, 32, 33, 34]
noncomputable def vq : Program := view pw keepIx
noncomputable def lsq : List PySem.Str := ["_twin_re_1", "_twin_re_2", "_twin_re_3", "b1_set", "b3_exceptions"]
abbrev modsq := importedModules pw.main.body
noncomputable def rW (w : World) (b : Bool) : World := w.withFollow "special-get-raises" b
noncomputable def both (w : World) (g : Nat → Obj) (tk : Nat) (p : Pos) : Option (StA × SharedT) := (stA w).bind fun x => (stB w g tk p x).map fun s => (x, s)
end Mine
end
section
open PySem PySem.W PyProof.Rows PySem.Calls
set_option Elab.async false
set_option maxRecDepth 100000
namespace Mine

noncomputable def dref (i : Nat) : DefRec := match pw.main.body[i]? with
  | some (.FunctionDef name params body _ _ _ scope _ _ pos) => { name, params, body, scope, pos }
  | _ => { name := "", params := default, body := [], scope := default, pos := default }

noncomputable def freeN : List Tx := ["range", "min", "max", "len", "chr", "ord", "iter", "next", "bytes", "set", "list", "StopIteration", "TypeError", "AttributeError"]
/-- what the walk asks of the top's heap -/
structure Wk (q : Program) (C : Cx) (mg mb : Tx → Option Value) : Prop extends Gd C mg mb where
  fn : ∀ nm d, defOf q nm = some (d, []) → ∃ a pm cd doc, mg nm = some (.ref a) ∧ ∀ h, C.W h → (∃ o, h.get? a = some o ∧ o.data = .func (Calls.docDef d.name d.params d.body d.scope pm cd doc)) ∧ h.CodeRec cd d.name
  bi : ∀ x : Tx, x ≠ "__name__" → mb x = bootBuiltins x
  fr : ∀ x ∈ freeN, mg x = Option.none
  crlf : ∃ t, mg "CRLF" = some (.str "\r\n" t)

section
variable {C : Cx} {c : Nat} {q : Program} {mg mb : Tx → Option Value}
theorem Wk.exact (K : Wk q C mg mb) : Wk q C.exact mg mb := ⟨⟨K.g, K.b, K.nolimit⟩, K.fn, K.bi, K.fr, K.crlf⟩
theorem Wk.no (K : Wk q C mg mb) {x : Tx} (h : freeN.contains x = true := by kernel_rfl) : mg x = Option.none := K.fr x (by simpa using h)
theorem Wk.bt (K : Wk q C mg mb) {x : Tx} {v : Value} (h : bootBuiltins x = some v := by kernel_rfl) (hn : x ≠ "__name__" := by decide) : mb x = some v := (K.bi x hn).trans h
theorem Wk.df (K : Wk q C mg mb) {nm : Tx} {d : DefRec} (e : defOf q nm = some (d, [])) : Df C mg nm := by
  obtain ⟨a, pm, cd, doc, h1, h2⟩ := K.fn nm d e
  exact ⟨a, h1, fun h w => let ⟨⟨o, ho, hd⟩, _⟩ := h2 h w; ⟨o, _, ho, hd⟩⟩

theorem Cl0.of (K : Wk q C mg mb) {nm : Tx} {d : DefRec} {ps : List Tx} {as : List PV} {P : PV → Prop} (e : defOf q nm = some (d, []))
    (fk : d.scope.kind = .function)
    (hbind : ∀ pm cd doc, ∀ vs : List Value, vs.length = as.length → bindArgs (Calls.docDef d.name d.params d.body d.scope pm cd doc) ⟨vs, []⟩ = pure (ps.zip vs)) (hlen : ps.length = as.length)
    (hloc : (ps.all fun y => decide (d.scope.names.lookup y = some .local)) = true)
    (hco : (!d.scope.isCoroutine && !d.scope.isGenerator && d.scope.names.all fun x => decide (x.2 ≠ .cell)) = true)
    (h : ∀ a cd, ES C c (Fn.of d.name d.scope a cd fk) d.body (fun y => (ps.zip as).reverse.lookup y) [] fun o => match o with | .ret x => P x | .next _ => P (.sc .none) | _ => False) (hne : 1 ≤ ps.length) : Cl0 C (c + 1) mg nm as P := by
  obtain ⟨a, pm, cd, doc, h1, h2⟩ := K.fn nm d e
  simp only [Bool.and_eq_true, Bool.not_eq_true', List.all_eq_true, decide_eq_true_eq] at hco
  exact ⟨a, h1, fun h w => let ⟨⟨o, ho, hd⟩, _⟩ := h2 h w; ⟨o, _, ho, hd⟩,
    Fct0.of (mb := mb) K.toGd (fun h w => (h2 h w).1) (fun h w => (h2 h w).2) (hbind pm cd doc) hlen hloc (h a cd) hco.1.1 hco.1.2 hco.2 hne⟩
end
end Mine
end
section
open PySem PySem.W PyProof.Rows PySem.Calls
set_option Elab.async false
set_option maxRecDepth 100000
set_option linter.all false
namespace Mine
@[irreducible] noncomputable def E (C : Cx) (c : Nat) (f : Fn) (e : Expr) (ρ : Lo) (P : PV → Prop) : Prop := EV C c f e ρ P
@[irreducible] noncomputable def Es (C : Cx) (c : Nat) (f : Fn) (es : List Expr) (ρ : Lo) (P : List PV → Prop) : Prop := EVs C c f es ρ P
@[irreducible] noncomputable def EI (C : Cx) (c : Nat) (f : Fn) (e : Expr) (ρ : Lo) (P : List Sc → Prop) : Prop := EVI C c f e ρ P
@[irreducible] noncomputable def T (C : Cx) (c : Nat) (f : Fn) (e : Expr) (ρ : Lo) (P : Bool → Prop) : Prop := TV C c f e ρ P
@[irreducible] noncomputable def Ts (C : Cx) (c : Nat) (f : Fn) (op : BoolOp) (es : List Expr) (ρ : Lo) (P : Bool → Prop) : Prop := TVs C c f op es ρ P
@[irreducible] noncomputable def S (C : Cx) (c : Nat) (f : Fn) (sts : List Stmt) (ρ : Lo) (O : List (Tx × Addr)) (P : Out → Prop) : Prop := ES C c f sts ρ O P
@[irreducible] noncomputable def O_ (C : Cx) (c : Nat) (t : Value → Value → Sem Value) (a b : PV) (P : PV → Prop) : Prop := OV C c t a b P
@[irreducible] noncomputable def B_ (C : Cx) (c : Nat) (id : String) (as : List PV) (P : PV → Prop) : Prop := BV C c id as P
@[irreducible] noncomputable def Cd (C : Cx) (c : Nat) (mg : Tx → Option Value) (nm : Tx) (as : List PV) (P : PV → Prop) : Prop := Cl C c mg nm as P
theorem E_eq (C : Cx) (c : Nat) (f : Fn) (e : Expr) (ρ : Lo) (P : PV → Prop) : E C c f e ρ P = EV C c f e ρ P := by unfold E; rfl
theorem Es_eq (C : Cx) (c : Nat) (f : Fn) (e : List Expr) (ρ : Lo) (P : List PV → Prop) : Es C c f e ρ P = EVs C c f e ρ P := by unfold Es; rfl
theorem EI_eq (C : Cx) (c : Nat) (f : Fn) (e : Expr) (ρ : Lo) (P : List Sc → Prop) : EI C c f e ρ P = EVI C c f e ρ P := by unfold EI; rfl
theorem T_eq (C : Cx) (c : Nat) (f : Fn) (e : Expr) (ρ : Lo) (P : Bool → Prop) : T C c f e ρ P = TV C c f e ρ P := by unfold T; rfl
theorem Ts_eq (C : Cx) (c : Nat) (f : Fn) (op : BoolOp) (es : List Expr) (ρ : Lo) (P : Bool → Prop) : Ts C c f op es ρ P = TVs C c f op es ρ P := by unfold Ts; rfl
theorem S_eq (C : Cx) (c : Nat) (f : Fn) (sts : List Stmt) (ρ : Lo) (O : List (Tx × Addr)) (P : Out → Prop) : S C c f sts ρ O P = ES C c f sts ρ O P := by unfold S; rfl
theorem O_eq (C : Cx) (c : Nat) (t : Value → Value → Sem Value) (a b : PV) (P : PV → Prop) : O_ C c t a b P = OV C c t a b P := by unfold O_; rfl
theorem B_eq (C : Cx) (c : Nat) (id : String) (as : List PV) (P : PV → Prop) : B_ C c id as P = BV C c id as P := by unfold B_; rfl
theorem Cd_eq (C : Cx) (c : Nat) (mg : Tx → Option Value) (nm : Tx) (as : List PV) (P : PV → Prop) : Cd C c mg nm as P = Cl C c mg nm as P := by unfold Cd; rfl
noncomputable def TestsE (C : Cx) (c : Nat) (f : Fn) (ρ : Lo) (ifs : List Expr) (b : Bool) : Prop :=
  match ifs with
  | [] => b = true
  | [t] => T C c f t ρ fun x => x = b
  | _ => False
theorem TestsE_eq (C : Cx) (c : Nat) (f : Fn) (ρ : Lo) (ifs : List Expr) (b : Bool) : TestsE C c f ρ ifs b = Tests C c f ρ ifs b := by
  match ifs with
  | [] => rfl
  | [t] => exact T_eq ..
  | _ :: _ :: _ => rfl
section
variable {C : Cx} {c : Nat} {f : Fn} {ρ : Lo} {O : List (Tx × Addr)} {mg mb : Tx → Option Value}

theorem e_int {P : PV → Prop} {i : Int} {k : Nat} {pos : Pos} (hp : P (.sc (.int i))) : E C c f (.Constant (.int i) k pos) ρ P := by
  with_unfolding_all exact EV.int hp
theorem e_str {P : PV → Prop} {x : Tx} {k : Nat} {pos : Pos} (hp : P (.sc (.str x))) : E C c f (.Constant (.str x) k pos) ρ P := by
  with_unfolding_all exact EV.str hp
theorem e_bool {P : PV → Prop} {x : Bool} {k : Nat} {pos : Pos} (hp : P (.sc (.bool x))) : E C c f (.Constant (.bool x) k pos) ρ P := by
  with_unfolding_all exact EV.bool hp
theorem e_none {P : PV → Prop} {k : Nat} {pos : Pos} (hp : P (.sc .none)) : E C c f (.Constant .none k pos) ρ P := by
  with_unfolding_all exact EV.none hp
theorem e_bin {P : PV → Prop} {l r : Expr} {op : Operator} {pos : Pos} (h : E C c f l ρ fun a => E C c f r ρ fun b => O_ C c (binaryOp op) a b P) : E C c f (.BinOp l op r pos) ρ P := by
  with_unfolding_all exact EV.bin h
theorem e_ite {t b o : Expr} {pos : Pos} {P : PV → Prop} (h : T C c f t ρ fun x => if x = true then E C c f b ρ P else E C c f o ρ P) : E C c f (.IfExp t b o pos) ρ P := by
  with_unfolding_all exact EV.ite h
theorem e_tup {elts : List Expr} {k0 : Nat} {pos : Pos} {P : PV → Prop} (h : Es C c f elts ρ fun xs => ∃ l, xs = l.map PV.sc ∧ l.length ≤ sizeLine ∧ P (.tup l)) : E C c f (.Tuple elts k0 pos) ρ P := by
  with_unfolding_all exact EV.tuple h
theorem e_mono {e : Expr} {P' : PV → Prop} (h : E C c f e ρ P) (i : ∀ x, P x → P' x) : E C c f e ρ P' := by
  with_unfolding_all exact EV.mono h i
theorem t_mono {e : Expr} {P P' : Bool → Prop} (h : T C c f e ρ P) (i : ∀ b, P b → P' b) : T C c f e ρ P' := by
  with_unfolding_all exact TV.mono h i
theorem a_nil {P : List PV → Prop} (h : P []) : Es C c f [] ρ P := by
  with_unfolding_all exact EVs.nil h
theorem t_not {e : Expr} {pos : Pos} {P : Bool → Prop} (h : T C c f e ρ fun b => P (!b)) : T C c f (.UnaryOp .Not e pos) ρ P := by
  with_unfolding_all exact TV.not h
theorem t_bool {op : BoolOp} {es : List Expr} {pos : Pos} {P : Bool → Prop} (h : Ts C c f op es ρ P) : T C c f (.BoolOp op es pos) ρ P := by
  with_unfolding_all exact TV.boolOp h
theorem ts_and0 {P : Bool → Prop} (h : P true) : Ts C c f .And [] ρ P := by
  with_unfolding_all exact TVs.andNil h
theorem ts_or0 {P : Bool → Prop} (h : P false) : Ts C c f .Or [] ρ P := by
  with_unfolding_all exact TVs.orNil h
theorem ts_and {e : Expr} {es : List Expr} {P : Bool → Prop} (h : T C c f e ρ fun b => if b = true then Ts C c f .And es ρ P else P false) : Ts C c f .And (e :: es) ρ P := by
  with_unfolding_all exact TVs.andCons h
theorem ts_or {e : Expr} {es : List Expr} {P : Bool → Prop} (h : T C c f e ρ fun b => if b = true then P true else Ts C c f .Or es ρ P) : Ts C c f .Or (e :: es) ρ P := by
  with_unfolding_all exact TVs.orCons h
theorem i_of {e : Expr} {P : List Sc → Prop} (h : E C c f e ρ fun x => match x with | .list l => P l | .sc (.str x) => P (signs x) | _ => False) : EI C c f e ρ P := by
  with_unfolding_all exact EVI.of h
theorem s_nil {O : List (Tx × Addr)} {P : Out → Prop} (h : P (.next ρ)) : S C c f [] ρ O P := by
  with_unfolding_all exact ES.nil h
theorem o_add {P : PV → Prop} {i j : Int} (hp : P (.sc (.int (i + j)))) : O_ C c (binaryOp .Add) (.sc (.int i)) (.sc (.int j)) P := by
  with_unfolding_all exact OV.add hp
theorem o_sub {P : PV → Prop} {i j : Int} (hp : P (.sc (.int (i - j)))) : O_ C c (binaryOp .Sub) (.sc (.int i)) (.sc (.int j)) P := by
  with_unfolding_all exact OV.sub hp
theorem o_mul {P : PV → Prop} {i j : Int} (hm : IntMulOk i j) (hp : P (.sc (.int (i * j)))) : O_ C c (binaryOp .Mult) (.sc (.int i)) (.sc (.int j)) P := by
  with_unfolding_all exact OV.mul hm hp
theorem o_mod {P : PV → Prop} {i j : Int} (hj : 0 < j) (hp : P (.sc (.int (i % j)))) : O_ C c (binaryOp .Mod) (.sc (.int i)) (.sc (.int j)) P := by
  with_unfolding_all exact OV.mod hj hp
theorem o_fdiv {P : PV → Prop} {i j : Int} (hj : 0 < j) (hj2 : j < 1073741824) (hp : P (.sc (.int (i / j)))) : O_ C c (binaryOp .FloorDiv) (.sc (.int i)) (.sc (.int j)) P := by
  with_unfolding_all exact OV.fdiv hj hj2 hp
theorem o_eqI {P : PV → Prop} {i j : Int} (hp : P (.sc (.bool (i == j)))) : O_ C c (compareOp .Eq) (.sc (.int i)) (.sc (.int j)) P := by
  with_unfolding_all exact OV.eqI hp
theorem o_ltI {P : PV → Prop} {i j : Int} (hp : P (.sc (.bool (decide (i < j))))) : O_ C c (compareOp .Lt) (.sc (.int i)) (.sc (.int j)) P := by
  with_unfolding_all exact OV.ltI hp
theorem o_eqS {P : PV → Prop} {i j : Tx} (hp : P (.sc (.bool (i == j)))) : O_ C c (compareOp .Eq) (.sc (.str i)) (.sc (.str j)) P := by
  with_unfolding_all exact OV.eqS hp
theorem o_addS {P : PV → Prop} {i j : Tx} (hz : i.length + j.length ≤ sizeLine) (hp : P (.sc (.str (i ++ j)))) : O_ C c (binaryOp .Add) (.sc (.str i)) (.sc (.str j)) P := by
  with_unfolding_all exact OV.addS hz hp
theorem o_isNotNone {a : PV} {P : PV → Prop} (hp : P (.sc (.bool (match a with | .sc .none => false | _ => true)))) : O_ C c (compareOp .IsNot) a (.sc .none) P := by
  with_unfolding_all exact OV.isNotNone hp
theorem o_neI {i j : Int} {P : PV → Prop} (hp : P (.sc (.bool (i != j)))) : O_ C c (compareOp .NotEq) (.sc (.int i)) (.sc (.int j)) P := by
  with_unfolding_all exact OV.neI hp
theorem o_neS {i j : Tx} {P : PV → Prop} (hp : P (.sc (.bool (i != j)))) : O_ C c (compareOp .NotEq) (.sc (.str i)) (.sc (.str j)) P := by
  with_unfolding_all exact OV.neS hp
theorem o_gtI {i j : Int} {P : PV → Prop} (hp : P (.sc (.bool (decide (j < i))))) : O_ C c (compareOp .Gt) (.sc (.int i)) (.sc (.int j)) P := by
  with_unfolding_all exact OV.gtI hp
theorem o_inS {y x : Tx} {P : PV → Prop} (hp : P (.sc (.bool (Txt.contains x y)))) : O_ C c (compareOp .In) (.sc (.str y)) (.sc (.str x)) P := by
  with_unfolding_all exact OV.inS hp
theorem o_inTI {i : Int} {is : List Int} {P : PV → Prop} (hp : P (.sc (.bool (is.any (· == i))))) : O_ C c (compareOp .In) (.sc (.int i)) (.tup (iL is)) P := by
  with_unfolding_all exact OV.inTI hp
theorem b_ord {n : Nat} {P : PV → Prop} (hp : P (.sc (.int n))) : B_ C c "ord" [.sc (.str ⟨#[n]⟩)] P := by
  with_unfolding_all exact BV.ord hp
theorem b_chr {i : Int} {P : PV → Prop} (h0 : 0 ≤ i) (h1 : i ≤ 0x10FFFF) (hp : P (.sc (.str ⟨#[i.toNat]⟩))) : B_ C c "chr" [.sc (.int i)] P := by
  with_unfolding_all exact BV.chr h0 h1 hp
theorem b_len {l : List Sc} {P : PV → Prop} (hx : l.length ≤ sizeLine) (hp : P (.sc (.int l.length))) : B_ C c "len" [.list l] P := by
  with_unfolding_all exact BV.len hx hp
theorem b_min2 {i j : Int} {P : PV → Prop} (hp : P (.sc (.int (min i j)))) : B_ C c "min" [.sc (.int i), .sc (.int j)] P := by
  with_unfolding_all exact BV.min2 hp
theorem b_max2 {i j : Int} {P : PV → Prop} (hp : P (.sc (.int (max i j)))) : B_ C c "max" [.sc (.int i), .sc (.int j)] P := by
  with_unfolding_all exact BV.max2 hp
theorem b_lower {x : Tx} {P : PV → Prop} (hx : (Txt.lower x).length ≤ sizeLine) (hp : P (.sc (.str (Txt.lower x)))) : B_ C c "str.lower" [.sc (.str x)] P := by
  with_unfolding_all exact BV.lower hx hp
theorem b_join {x : Tx} {l : List Sc} {ys : List Tx} {P : PV → Prop} (hl : strsOf l = some ys) (hok : (ys.map (·.length)).sum + ys.length * x.length ≤ 16777216) (hp : P (.sc (.str (Txt.join x ys)))) :
    B_ C c "str.join" [.sc (.str x), .list l] P := by
  with_unfolding_all exact BV.join hl hok hp
theorem e_list {elts : List Expr} {pos : Pos} {P : PV → Prop} (h : Es C c f elts ρ fun xs => ∃ l, xs = l.map PV.sc ∧ l.length ≤ sizeLine ∧ P (.list l)) : E C c f (.List elts pos) ρ P := by
  with_unfolding_all exact EVN.ev (EVN.list h)
theorem e_meth {o : Expr} {name : Tx} {apos pos : Pos} {args : List Expr} {T id : String} {P : PV → Prop} (pa : PlainAttrs T) (slot : Slot T name id) (hty : typeOf (.builtin id) = pure (.type "method_descriptor"))
    (h : E C c f o ρ fun ov => OfType C T ov ∧ Es C c f args ρ fun xs => B_ C c id (ov :: xs) P)
    (hbase : ∀ L, attributeBase o name (f.env L) (eval o (f.env L)) = eval o (f.env L) := by intro _; kernel_rfl)
    (hfew : ∀ L, ((backTo pos (starEach args (f.env L))).all (fun x => !x.1) && (backToKw pos (keywordEach [] (f.env L))).all (fun x => x.1.isSome)
      && decide (args.length + ([] : List Keyword).length + (if ([] : List Keyword).isEmpty then 0 else 1) < 30)) = true := by intro _; kernel_rfl)
    (hline : (apos.endLine == pos.line) = true := by rfl) : E C c f (.Call (.Attribute o name apos) args [] pos) ρ P := by
  with_unfolding_all exact EV.meth pa slot hty h hbase hfew hline
theorem e_slice {value : Expr} {lower upper : Option Expr} {p pos : Pos} {P : PV → Prop} (lo hi : Option Nat) (nl nu : Nat) (pl pu : Pos)
    (hlo : lower = lo.map fun k => Expr.Constant (.int (k : Nat)) nl pl := by rfl) (hhi : upper = hi.map fun k => Expr.Constant (.int (k : Nat)) nu pu := by rfl) (hone : (lo = .none ∧ hi.isSome = true) ∨ (hi = .none ∧ lo.isSome = true) := by simp)
    (h : E C c f value ρ fun o => ∃ l, o = .list l ∧ l.length ≤ sizeLine ∧ P (.list (match lo, hi with | some k, _ => l.drop k | _, some k => l.take k | _, _ => l)))
    (ht : ∀ o r, letTemporaryGo value o r = pure () := by intro _ _; kernel_rfl) : E C c f (.Subscript value (.Slice lower upper .none p) pos) ρ P := by
  with_unfolding_all exact EVslice lo hi nl nu pl pu hlo hhi hone h ht
theorem e_glob {g : Tx} {p : Pos} {v : Value} {x : PV} {P : PV → Prop} (G : Gd C mg mb) (hmg : mg g = some v) (hr : ∀ X h, C.W h → Bd X h → Rep X h v x) (hp : P x) (hk : f.sc.names.lookup g = some .globalImplicit := by kernel_rfl)
    (hd : (g == ("__debug__" : Tx)) = false := by kernel_rfl) : E C c f (.Name g p) ρ P := by
  with_unfolding_all exact EV.global G hmg hr hp hk hd
theorem t_chain {l r r' : Expr} {op op' : CmpOp} {pos : Pos} {P : Bool → Prop}
    (h : E C c f l ρ fun a => E C c f r ρ fun b => O_ C c (compareOp op) a b fun x => ∃ t, x = .sc (.bool t) ∧ if t = true then E C c f r' ρ fun b' => O_ C c (compareOp op') b b' fun x => ∃ t, x = .sc (.bool t) ∧ P t else P false)
    (hm : lastMarks [op, op'] [r, r'] = false := by rfl) : T C c f (.Compare l [op, op'] [r, r'] pos) ρ P := by
  with_unfolding_all exact TV.chain h hm
theorem e_join {o : Expr} {e : Expr} {apos pos : Pos} {x : Tx} {P : PV → Prop}
    (h : E C c f o ρ fun ov => ov = .sc (.str x) ∧ Es C c f [e] ρ fun xs => B_ C c "str.join" (ov :: xs) P)
    (hbase : ∀ L, attributeBase o "join" (f.env L) (eval o (f.env L)) = eval o (f.env L) := by intro _; kernel_rfl)
    (hfew : ∀ L, ((backTo pos (starEach [e] (f.env L))).all (fun x => !x.1) && (backToKw pos (keywordEach [] (f.env L))).all (fun x => x.1.isSome)
      && decide ([e].length + ([] : List Keyword).length + (if ([] : List Keyword).isEmpty then 0 else 1) < 30)) = true := by intro _; kernel_rfl)
    (hline : (apos.endLine == pos.line) = true := by rfl) : E C c f (.Call (.Attribute o "join" apos) [e] [] pos) ρ P := by
  with_unfolding_all exact EV.join h hbase hfew hline
theorem e_lower {o : Expr} {apos pos : Pos} {x : Tx} {P : PV → Prop}
    (h : E C c f o ρ fun ov => ov = .sc (.str x) ∧ Es C c f [] ρ fun xs => B_ C c "str.lower" (ov :: xs) P)
    (hbase : ∀ L, attributeBase o "lower" (f.env L) (eval o (f.env L)) = eval o (f.env L) := by intro _; kernel_rfl)
    (hfew : ∀ L, ((backTo pos (starEach [] (f.env L))).all (fun x => !x.1) && (backToKw pos (keywordEach [] (f.env L))).all (fun x => x.1.isSome)
      && decide (([] : List Expr).length + ([] : List Keyword).length + (if ([] : List Keyword).isEmpty then 0 else 1) < 30)) = true := by intro _; kernel_rfl)
    (hline : (apos.endLine == pos.line) = true := by rfl) : E C c f (.Call (.Attribute o "lower" apos) [] [] pos) ρ P := by
  with_unfolding_all exact EV.lower h hbase hfew hline
theorem e_repl {o : Expr} {apos pos : Pos} {y z : Tx} {k1 k2 : Nat} {p1 p2 : Pos} {P : PV → Prop}
    (h : E C c f o ρ fun ov => ∃ x, ov = .sc (.str x) ∧ x.length + (x.length + 1) * z.length ≤ 16777216 ∧ P (.sc (.str (Txt.replace x y z))))
    (hyz : (y == z) = false := by kernel_rfl)
    (hbase : ∀ L, attributeBase o "replace" (f.env L) (eval o (f.env L)) = eval o (f.env L) := by intro _; kernel_rfl)
    (hline : (apos.endLine == pos.line) = true := by rfl) : E C c f (.Call (.Attribute o "replace" apos) [.Constant (.str y) k1 p1, .Constant (.str z) k2 p2] [] pos) ρ P := by
  with_unfolding_all exact EV.replace h hyz hbase hline
theorem s_try {body : List Stmt} {h₀ : ExceptHandler} {hs : List ExceptHandler} {pos : Pos} {P : Out → Prop} {rest : List Stmt} (h : S C c f body ρ O fun o => match o with | .next ρ' => S C c f rest ρ' O P | o => P o) : S C c f (.Try body (h₀ :: hs) [] [] pos :: rest) ρ O P := by
  with_unfolding_all exact ES.cons (ES1.try h)
theorem nme {x : Tx} {pos : Pos} {v : PV} {P : PV → Prop} (hv : ρ x = some v) (hp : P v) (hl : f.sc.names.lookup x = some .local := by kernel_rfl) (hd : (x == ("__debug__" : Tx)) = false := by kernel_rfl) :
    E C c f (.Name x pos) ρ P := by
  with_unfolding_all exact EV.name hv hp hl hd
theorem cmpR {l r : Expr} {op : CmpOp} {pos : Pos} {P : PV → Prop} (h : E C c f l ρ fun a => E C c f r ρ fun b => O_ C c (compareOp op) a b P)
    (hm : behindInMarks op r = false := by rfl) : E C c f (.Compare l [op] [r] pos) ρ P := by
  with_unfolding_all exact EV.cmp h hm
theorem tcmp {l r : Expr} {op : CmpOp} {pos : Pos} {P : Bool → Prop} (h : E C c f l ρ fun a => E C c f r ρ fun b => O_ C c (compareOp op) a b fun x => ∃ t, x = .sc (.bool t) ∧ P t)
    (hm : behindInMarks op r = false := by rfl) : T C c f (.Compare l [op] [r] pos) ρ P := by
  with_unfolding_all exact TV.cmp h hm
theorem args1 {e : Expr} {P : List PV → Prop} (h : E C c f e ρ fun x => P [x])
    (he : ∀ L, starEach [e] (f.env L) = (false, eval e (f.env L)) :: starEach [] (f.env L) := by intro _; kernel_rfl) : Es C c f [e] ρ P := by
  with_unfolding_all exact EVs.cons (h.mono fun _ p => EVs.nil p) he
theorem args1' {e : Expr} {P : List PV → Prop} (h : EV C c f e ρ fun x => P [x])
    (he : ∀ L, starEach [e] (f.env L) = (false, eval e (f.env L)) :: starEach [] (f.env L) := by intro _; kernel_rfl) : EVs C c f [e] ρ P := EVs.cons (h.mono fun _ p => EVs.nil p) he

theorem args2 {e e' : Expr} {P : List PV → Prop} (h : E C c f e ρ fun x => E C c f e' ρ fun y => P [x, y])
    (he : ∀ L, starEach [e, e'] (f.env L) = (false, eval e (f.env L)) :: starEach [e'] (f.env L) := by intro _; kernel_rfl)
    (he' : ∀ L, starEach [e'] (f.env L) = (false, eval e' (f.env L)) :: starEach [] (f.env L) := by intro _; kernel_rfl) : Es C c f [e, e'] ρ P := by
  with_unfolding_all exact EVs.cons (h.mono fun _ p => args1' p he') he
theorem argsC {e : Expr} {es : List Expr} {P : List PV → Prop} (h : E C c f e ρ fun x => Es C c f es ρ fun xs => P (x :: xs))
    (he : ∀ L, starEach (e :: es) (f.env L) = (false, eval e (f.env L)) :: starEach es (f.env L) := by intro _; kernel_rfl) : Es C c f (e :: es) ρ P := by
  with_unfolding_all exact EVs.cons h he
theorem callB {g : Tx} {p pos : Pos} {args : List Expr} {id : String} {P : PV → Prop} (G : Gd C mg mb) (hmg : mg g = Option.none) (hmb : mb g = some (.builtin id))
    (h : Es C c f args ρ fun xs => B_ C c id xs P) (hargs : ∀ L, (backTo pos (starEach args (f.env L))).any (·.1) = false := by intro _; kernel_rfl) (hk : f.sc.names.lookup g = some .globalImplicit := by kernel_rfl) (hd : (g == ("__debug__" : Tx)) = false := by kernel_rfl) :
    E C c f (.Call (.Name g p) args [] pos) ρ P := by
  with_unfolding_all exact EV.builtin G hmg hmb h hargs hk hd
theorem callD {g : Tx} {p pos : Pos} {e : Expr} {es : List Expr} {P : PV → Prop} (G : Gd C mg mb) (D : Df C mg g)
    (h : Es C c f (e :: es) ρ fun xs => Cd C c mg g xs P) (hargs : ∀ L, (backTo pos (starEach (e :: es) (f.env L))).head?.map (·.1) = some false := by intro _; kernel_rfl) (hk : f.sc.names.lookup g = some .globalImplicit := by kernel_rfl) (hd : (g == ("__debug__" : Tx)) = false := by kernel_rfl) : E C c f (.Call (.Name g p) (e :: es) [] pos) ρ P := by
  with_unfolding_all exact EV.callN G D h (by simp) hargs hk hd
theorem asg {y : Tx} {value : Expr} {pos pos' : Pos} {rest : List Stmt} {P : Out → Prop} (h : E C c f value ρ fun x => (x.isSc = true ∨ O = []) ∧ S C c f rest (upd ρ y x) O P) (hy : y ∉ O.map (·.1) := by dsimp only [List.map]; decide)
    (hl : f.sc.names.lookup y = some .local := by kernel_rfl) (hs : ∀ L, swapsWith value (some (.Name y pos')) pos.line (f.env L) = pure false := by intro _; kernel_rfl) : S C c f (.Assign [.Name y pos'] value pos :: rest) ρ O P := by
  with_unfolding_all exact ES.cons (ES1.assign (P := fun o => match o with | .next ρ' => ES C c f rest ρ' O P | o => P o) h hy hl hs)
theorem iff {e : Expr} {b o : List Stmt} {pos : Pos} {rest : List Stmt} {P : Out → Prop} (h : T C c f e ρ fun t => if t = true then S C c f b ρ O (fun o => match o with | .next ρ' => S C c f rest ρ' O P | o => P o) else S C c f o ρ O (fun o => match o with | .next ρ' => S C c f rest ρ' O P | o => P o)) : S C c f (.If e b o pos :: rest) ρ O P := by
  with_unfolding_all exact ES.cons (ES1.ite h)
theorem retS {e : Expr} {pos : Pos} {rest : List Stmt} {P : Out → Prop} (h : E C c f e ρ fun x => P (.ret x)) : S C c f (.Return (some e) pos :: rest) ρ O P := by
  with_unfolding_all exact ES.cons (ES1.ret (P := fun o => match o with | .next ρ' => ES C c f rest ρ' O P | o => P o) h)
theorem own {y : Tx} {elts : List Expr} {rest : List Stmt} {p1 p2 pos : Pos} {P : Out → Prop}
    (h : Es C c f elts ρ fun xs => ∃ l : List Sc, xs = l.map PV.sc ∧ l.length ≤ sizeLine ∧ ∀ a, S C c f rest (upd ρ y (.list l)) ((y, a) :: O) P)
    (hy : y ∉ O.map (·.1) := by dsimp only [List.map]; decide) (hl : f.sc.names.lookup y = some .local := by kernel_rfl) (hs : ∀ L, swapsWith (.List elts p2) (some (.Name y p1)) pos.line (f.env L) = pure false := by intro _; kernel_rfl) :
    S C c f (.Assign [.Name y p1] (.List elts p2) pos :: rest) ρ O P := by
  with_unfolding_all exact ES.own h hy hl hs
theorem forS {P : Out → Prop} {t : Tx} {px pos : Pos} {iter : Expr} {body : List Stmt} {rest : List Stmt}
    (h : EI C c f iter (hide ρ O) fun xs => ∃ J : Nat → Lo → Prop, J 0 ρ ∧ (∀ i x ρ', xs[i]? = some x → J i ρ' → S C c f body (upd ρ' t (.sc x)) O (forK (fun o => match o with | .next ρ' => S C c f rest ρ' O P | o => P o) (J (i + 1)))) ∧ ∀ ρ', J xs.length ρ' → S C c f rest ρ' O P)
    (ht : t ∉ O.map (·.1) := by dsimp only [List.map]; decide) (hl : f.sc.names.lookup t = some .local := by kernel_rfl) (hs : ∀ L x, foldedSetIterable iter (f.env L) x = pure x := by intro _ _; kernel_rfl) : S C c f (.For (.Name t px) iter body [] pos :: rest) ρ O P := by
  with_unfolding_all exact ES.cons (ES1.for (P := fun o => match o with | .next ρ' => ES C c f rest ρ' O P | o => P o) h ht hl hs)
theorem whl {P : Out → Prop} {test : Expr} {body : List Stmt} {pos : Pos} {rest : List Stmt} (J : Nat → Lo → Prop) (n : Nat) (h0 : J n ρ)
    (turn : ∀ k ρ', J k ρ' → T C c f test ρ' fun b => if b = true then S C c f body ρ' O (fun o => match o with
      | .next ρ'' => ∃ j, j < k ∧ J j ρ'' | .cont ρ'' => ∃ j, j < k ∧ J j ρ'' | .brk ρ'' => S C c f rest ρ'' O P | .ret x => P (.ret x)) else S C c f rest ρ' O P) :
    S C c f (.While test body [] pos :: rest) ρ O P := by
  simp only [E_eq, Es_eq, EI_eq, T_eq, Ts_eq, S_eq, O_eq, B_eq, Cd_eq, TestsE_eq] at *
  refine ES.cons (ES1.while (P := fun o => match o with | .next ρ' => ES C c f rest ρ' O P | o => P o) J n h0 fun k ρ' hJ => (turn k ρ' hJ).mono fun b hb => ?_)
  cases b with
  | true => exact hb
  | false => exact ES.nil hb
theorem app {y : Tx} {a : Addr} {e : Expr} {p apos cpos pos : Pos} {P : Out → Prop} {l : List Sc} {rest : List Stmt} (hl : ρ y = some (.list l)) (ha : (y, a) ∈ O) (hz : l.length ≤ sizeLine)
    (h : E C c f e ρ fun v => ∃ x, v = .sc x ∧ S C c f rest (upd ρ y (.list (l ++ [x]))) O P)
    (hk : f.sc.names.lookup y = some .local := by kernel_rfl) (hd : (y == ("__debug__" : Tx)) = false := by kernel_rfl)
    (hbase : ∀ L, attributeBase (.Name y p) "append" (f.env L) (eval (.Name y p) (f.env L)) = eval (.Name y p) (f.env L) := by intro _; kernel_rfl) (hline : (apos.endLine == cpos.line) = true := by rfl)
    (hst : ∀ L, starEach [e] (f.env L) = [(false, eval e (f.env L))] := by intro _; kernel_rfl)
    (hi : ∀ L, interactive (f.env L) = false := by intro _; kernel_rfl) (hs : ∀ L, swapsWith (.Call (.Attribute (.Name y p) "append" apos) [e] [] cpos) Option.none pos.line (f.env L) = pure false := by intro _; kernel_rfl) :
    S C c f (.Expr (.Call (.Attribute (.Name y p) "append" apos) [e] [] cpos) pos :: rest) ρ O P := by
  with_unfolding_all exact ES.cons (ES1.append (P := fun o => match o with | .next ρ' => ES C c f rest ρ' O P | o => P o) ha hl hz h hk hd hbase hline hst hi hs)
theorem seti {y : Tx} {a : Addr} {value ie : Expr} {p sp pos : Pos} {P : Out → Prop} {l : List Sc} {rest : List Stmt} (hl : ρ y = some (.list l)) (ha : (y, a) ∈ O) (hz : l.length ≤ sizeLine)
    (h : E C c f value ρ fun v => ∃ x, v = .sc x ∧ E C c f ie ρ fun iv => ∃ j : Nat, iv = .sc (.int j) ∧ j < l.length ∧ S C c f rest (upd ρ y (.list (l.set j x))) O P)
    (hk : f.sc.names.lookup y = some .local := by kernel_rfl) (hd : (y == ("__debug__" : Tx)) = false := by kernel_rfl)
    (hs : ∀ L, swapsWith value (some (.Subscript (.Name y p) ie sp)) pos.line (f.env L) = pure false := by intro _; kernel_rfl) :
    S C c f (.Assign [.Subscript (.Name y p) ie sp] value pos :: rest) ρ O P := by
  with_unfolding_all exact ES.cons (ES1.setitem (P := fun o => match o with | .next ρ' => ES C c f rest ρ' O P | o => P o) ha hl hz h hk hd hs)
theorem itm {value slice : Expr} {pos : Pos} {P : PV → Prop}
    (h : E C c f value ρ fun o => ∃ l, (o = .list l ∨ o = .tup l) ∧ l.length ≤ sizeLine ∧ E C c f slice ρ fun i => ∃ (k : Nat) (x : Sc), i = .sc (.int k) ∧ l[k]? = some x ∧ P (.sc x))
    (hs : ∀ a k u, subscripted slice false (.ref a) (.int k u) = operate [.ref a, .int k u] (getItem (.ref a) (.int k u)) := by intro _ _ _; kernel_rfl) : E C c f (.Subscript value slice pos) ρ P := by
  with_unfolding_all exact EV.item h hs
theorem rng {e : Expr} {rp rpos : Pos} {P : List Sc → Prop} (G : Gd C mg mb) (hmg : mg "range" = Option.none) (hmb : mb "range" = some (.type "range"))
    (h : E C c f e ρ fun x => ∃ N : Int, x = .sc (.int N) ∧ -(2 ^ 62) ≤ N ∧ N < 2 ^ 62 ∧ P (upto N.toNat)) (hk : f.sc.names.lookup ("range" : Tx) = some .globalImplicit := by kernel_rfl)
    (hst : ∀ L, backTo rpos (starEach [e] (f.env L)) = [(false, do let v ← eval e (f.env L); standAt rpos; pure v)] ∨ backTo rpos (starEach [e] (f.env L)) = [(false, eval e (f.env L))] := by intro _; exact .inr (by kernel_rfl)) :
    EI C c f (.Call (.Name "range" rp) [e] [] rpos) ρ P := by
  with_unfolding_all exact EVI.range G hmg hmb h hk hst
theorem cmpn {elt iter : Expr} {x : Tx} {px : Pos} {ifs : List Expr} {scope : Scope} {pos : Pos} {P : PV → Prop} (fk : scope.kind = .function)
    (h : EI C c f iter ρ fun xs => xs.length ≤ sizeLine ∧ ∃ (p : Sc → Bool) (R : Sc → Sc → Prop), (∀ y ∈ xs, ∀ L, TestsE C.exact c (f.comp scope fk L) (only x y) ifs (p y)) ∧
      (∀ y ∈ xs, p y = true → ∀ L, E C.exact c (f.comp scope fk L) elt (only x y) fun z => ∃ w, z = .sc w ∧ R y w) ∧ ∀ zs, Paired R (xs.filter p) zs → P (.list zs))
    (hn : (scope.names.all fun y => decide (y.2 ≠ .free) && decide (y.2 ≠ .cell) && (decide (y.2 ≠ .local) || decide (scope.names.lookup y.1 = some .local))) = true := by kernel_rfl) (hx : scope.names.lookup x = some .local := by kernel_rfl)
    (hs : ∀ L x, foldedSetIterable iter (f.env L) x = pure x := by intro _ _; kernel_rfl) :
    E C c f (.ListComp elt [⟨.Name x px, iter, ifs, 0⟩] scope pos) ρ P := by
  simp only [E_eq, Es_eq, EI_eq, T_eq, Ts_eq, S_eq, O_eq, B_eq, Cd_eq, TestsE_eq] at *
  simp only [List.all_eq_true, Bool.and_eq_true, decide_eq_true_eq, Bool.or_eq_true] at hn
  exact EV.comp fk h (fun y hy => (hn y hy).1.1) (fun y hy => (hn y hy).1.2) (fun y hy e => (hn y hy).2.resolve_left fun q => q e) hx hs
theorem es_mono {sts : List Stmt} {P P' : Out → Prop} (h : ES C c f sts ρ O P) (i : ∀ o, P o → P' o) : ES C c f sts ρ O P' :=
  fun A X L s Q E r w n si k => h A X L s Q E r w n si fun o fl h' t' p => k o fl h' t' (i o p)
theorem s_mono {sts : List Stmt} {P P' : Out → Prop} (h : S C c f sts ρ O P) (i : ∀ o, P o → P' o) : S C c f sts ρ O P' := by
  with_unfolding_all exact es_mono h i
/-- an if whose two ways meet again -/
theorem meet {e : Expr} {b o rest : List Stmt} {pos : Pos} {P : Out → Prop} (J : Lo → Prop)
    (h : T C c f e ρ fun t => if t = true then S C c f b ρ O (fun o => match o with | .next ρ' => J ρ' | _ => False) else S C c f o ρ O (fun o => match o with | .next ρ' => J ρ' | _ => False))
    (h3 : ∀ ρ', J ρ' → S C c f rest ρ' O P) : S C c f (.If e b o pos :: rest) ρ O P := by
  refine iff (t_mono h fun t ht => ?_)
  cases t with
  | true => exact s_mono ht fun o p => by cases o <;> first | exact h3 _ p | exact p.elim
  | false => exact s_mono ht fun o p => by cases o <;> first | exact h3 _ p | exact p.elim
theorem cd_of0 {q : Program} (K : Wk q C mg mb) {nm : Tx} {d : DefRec} {ps : List Tx} {as : List PV} {P : PV → Prop} (e : defOf q nm = some (d, []))
    (fk : d.scope.kind = .function)
    (hbind : ∀ pm cd doc, ∀ vs : List Value, vs.length = as.length → bindArgs (Calls.docDef d.name d.params d.body d.scope pm cd doc) ⟨vs, []⟩ = pure (ps.zip vs)) (hlen : ps.length = as.length)
    (hloc : (ps.all fun y => decide (d.scope.names.lookup y = some .local)) = true)
    (hco : (!d.scope.isCoroutine && !d.scope.isGenerator && d.scope.names.all fun x => decide (x.2 ≠ .cell)) = true)
    (h : ∀ a cd, S C c (Fn.of d.name d.scope a cd fk) d.body (fun y => (ps.zip as).reverse.lookup y) [] fun o => match o with | .ret x => P x | .next _ => P (.sc .none) | _ => False) (hne : 1 ≤ ps.length := by decide) : Cl0 C (c + 1) mg nm as P := by
  with_unfolding_all exact Cl0.of K e fk hbind hlen hloc hco h hne
theorem cd_of {q : Program} (K : Wk q C mg mb) {nm : Tx} {d : DefRec} {ps : List Tx} {as : List PV} {P : PV → Prop} (e : defOf q nm = some (d, []))
    (fk : d.scope.kind = .function)
    (hbind : ∀ pm cd doc, ∀ vs : List Value, vs.length = as.length → bindArgs (Calls.docDef d.name d.params d.body d.scope pm cd doc) ⟨vs, []⟩ = pure (ps.zip vs)) (hlen : ps.length = as.length)
    (hloc : (ps.all fun y => decide (d.scope.names.lookup y = some .local)) = true)
    (hco : (!d.scope.isCoroutine && !d.scope.isGenerator && d.scope.names.all fun x => decide (x.2 ≠ .cell)) = true)
    (h : ∀ a cd, S C c (Fn.of d.name d.scope a cd fk) d.body (fun y => (ps.zip as).reverse.lookup y) [] fun o => match o with | .ret x => P x | .next _ => P (.sc .none) | _ => False) (hne : 1 ≤ ps.length := by decide) : Cd C (c + 1) mg nm as P := by
  with_unfolding_all exact (Cl0.of K e fk hbind hlen hloc hco h hne).cl
theorem cd_mono {nm : Tx} {as : List PV} {P P' : PV → Prop} (h : Cd C c mg nm as P) (i : ∀ x, P x → P' x) : Cd C c mg nm as P' := by
  with_unfolding_all exact h.mono i
theorem cd_less {d : Nat} {nm : Tx} {as : List PV} {P : PV → Prop} (h : Cd C c mg nm as P) (hd : c ≤ d) : Cd C d mg nm as P := by
  with_unfolding_all exact h.less hd
end
end Mine
end
section
namespace Mine
/-- a number's digits to the base 64: the higher ones, the lowest one -/
abbrev Tk := List Nat × Nat
noncomputable def hv (h : List Nat) : Nat := h.foldl (fun a d => a * 64 + d) 0
noncomputable def nm (t : Tk) : Nat := hv t.1 * 64 + t.2
noncomputable def sg (l : Nat) : Nat := if l = 45 then 173 else l
noncomputable def wr1 (t : Tk) : List Nat := t.1.map (64 + ·) ++ [sg t.2]
noncomputable def wr (r : List Tk) : List Nat := r.flatMap wr1
theorem snocI {α : Type} {P : List α → Prop} (h0 : P []) (h1 : ∀ a d, P a → P (a ++ [d])) (l : List α) : P l := by
  have : ∀ l : List α, P l.reverse := by
    intro l
    induction l with
    | nil => exact h0
    | cons d a ih => rw [List.reverse_cons]; exact h1 _ _ ih
  have := this l.reverse
  rwa [List.reverse_reverse] at this
theorem hv_app (a b : List Nat) : hv (a ++ b) = hv a * 64 ^ b.length + hv b := by
  have key : ∀ (b : List Nat) (n : Nat), b.foldl (fun a d => a * 64 + d) n = n * 64 ^ b.length + hv b := by
    intro b
    induction b with
    | nil => intro n; simp [hv]
    | cons d b ih =>
      intro n
      simp only [List.foldl_cons, List.length_cons]
      rw [ih]
      show _ = _ + List.foldl (fun a d => a * 64 + d) (0 * 64 + d) b
      rw [ih]
      simp only [Nat.zero_mul, Nat.zero_add, Nat.pow_succ, Nat.add_mul, Nat.mul_assoc, Nat.mul_comm 64, Nat.add_assoc]
  unfold hv
  rw [List.foldl_append, key]; rfl
theorem hv_snoc (a : List Nat) (d : Nat) : hv (a ++ [d]) = hv a * 64 + d := by rw [hv_app]; simp [hv]
end Mine
end
section
open PySem PySem.W PyProof.Rows PySem.Calls
set_option Elab.async false
set_option maxRecDepth 100000
namespace Mine
section
variable {C : Cx} {c : Nat} {mg mb : Tx → Option Value}

theorem hide_of {ρ : Lo} {O : List (Tx × Addr)} {y : Tx} (h : y ∉ O.map (·.1)) : hide ρ O y = ρ y := if_neg h
theorem hid {ρ : Lo} {O : List (Tx × Addr)} {y : Tx} {v : PV} (e : ρ y = some v) (h : y ∉ O.map (·.1) := by dsimp only [List.map]; decide) : hide ρ O y = some v := (hide_of h).trans e
theorem one_of {α : Type} : ∀ {l : List α}, l.length = 1 → ∃ a, l = [a]
  | [a], _ => ⟨a, rfl⟩
theorem two_of {α : Type} : ∀ {l : List α}, l.length = 2 → ∃ a b, l = [a, b]
  | [a, b], _ => ⟨a, b, rfl⟩
theorem bind1 {nm : Tx} {params : Arguments} {body : List Stmt} {scope : Scope} {p : Tx} (h : ∀ pm cd doc v, bindArgs (Calls.docDef nm params body scope pm cd doc) ⟨[v], []⟩ = pure [(p, v)]) {x : PV} :
    ∀ pm cd doc, ∀ vs : List Value, vs.length = [x].length → bindArgs (Calls.docDef nm params body scope pm cd doc) ⟨vs, []⟩ = pure ([p].zip vs) := fun pm cd doc vs e => by
  obtain ⟨v, rfl⟩ := one_of e
  exact h pm cd doc v
theorem bind2 {nm : Tx} {params : Arguments} {body : List Stmt} {scope : Scope} {p p' : Tx} (h : ∀ pm cd doc v v', bindArgs (Calls.docDef nm params body scope pm cd doc) ⟨[v, v'], []⟩ = pure [(p, v), (p', v')]) {x y : PV} :
    ∀ pm cd doc, ∀ vs : List Value, vs.length = [x, y].length → bindArgs (Calls.docDef nm params body scope pm cd doc) ⟨vs, []⟩ = pure ([p, p'].zip vs) := fun pm cd doc vs e => by
  obtain ⟨v, v', rfl⟩ := two_of e
  exact h pm cd doc v v'

theorem C_c11 (K : Wk vq C mg mb) (n : Nat) : Cd C (c + 1) mg "in_table_c11" [.sc (.str ⟨#[n]⟩)] (· = .sc (.bool (n == 32))) := by
  refine cd_of K (d := dref 23) (ps := ["code"]) (by kernel_rfl) (by kernel_rfl) (bind1 fun _ _ _ _ => by kernel_rfl) rfl (by kernel_rfl) (by kernel_rfl) fun a cd => ?_
  refine retS (cmpR (nme rfl (e_str (o_eqS ?_))))
  show PV.sc (.bool ((⟨#[n]⟩ : Tx) == " ")) = _
  congr 2
  rw [Bool.eq_iff_iff, beq_iff_eq, beq_iff_eq]
  constructor
  · intro h; have : #[n] = #[32] := congrArg PySem.Str.cps h
    simpa using this
  · rintro rfl; rfl

theorem small_sz {n : Nat} (h : n ≤ 1000000) : n ≤ sizeLine := Nat.le_trans h (by decide)

end
end Mine
end
section
open PySem PySem.W PyProof.Rows PySem.Calls
set_option Elab.async false
set_option maxRecDepth 100000
set_option linter.all false
namespace Mine
section
variable {C : Cx} {c : Nat} {mg mb : Tx → Option Value}

theorem upto_lt {n i : Nat} {x : Sc} (h : (upto n)[i]? = some x) : i < n ∧ x = .int (i : Nat) := by
  by_cases q : i < n
  · rw [upto_get q] at h; cases h; exact ⟨q, rfl⟩
  · rw [List.getElem?_eq_none (by rw [upto_length]; omega)] at h; cases h

end
end Mine
end
section
open PySem PySem.W PyProof.Rows PySem.Calls
set_option Elab.async false
set_option maxRecDepth 100000
set_option linter.all false
namespace Mine

noncomputable def tx (l : List Nat) : Tx := ⟨l.toArray⟩
theorem tx_app (a b : List Nat) : tx a ++ tx b = tx (a ++ b) := by
  show (⟨a.toArray ++ b.toArray⟩ : Tx) = _
  unfold tx; congr 1; simp
theorem tx_len (a : List Nat) : (tx a).length = a.length := by show a.toArray.size = _; simp
theorem tx_inj {a b : List Nat} : tx a = tx b ↔ a = b := by
  constructor
  · intro h; have := congrArg (fun x : Tx => x.cps.toList) h; simpa [tx] using this
  · rintro rfl; rfl
theorem wr_len_le (r : List Tk) : r.length ≤ (wr r).length := by
  induction r with
  | nil => simp
  | cons t r ih => simp only [wr, List.flatMap_cons, List.length_append, List.length_cons] at ih ⊢; have : 1 ≤ (wr1 t).length := by simp [wr1]
                   omega
theorem wr_app (a b : List Tk) : wr (a ++ b) = wr a ++ wr b := by simp [wr]
theorem wr_take_len (r : List Tk) (i : Nat) (hi : i < r.length) : (wr (r.take i)).length + (wr1 r[i]).length ≤ (wr r).length := by
  have e : r = r.take i ++ r[i] :: r.drop (i + 1) := by rw [List.getElem_cons_drop, List.take_append_drop]
  have := congrArg (fun z => (wr z).length) e
  simp only [wr_app, List.length_append] at this
  have e2 : wr (r[i] :: r.drop (i + 1)) = wr1 r[i] ++ wr (r.drop (i + 1)) := List.flatMap_cons ..
  rw [e2, List.length_append] at this
  omega
theorem take_snoc {r : List Tk} {i : Nat} (hi : i < r.length) : r.take (i + 1) = r.take i ++ [r[i]] := by rw [List.take_add_one]; simp [hi]
theorem wr_take (r : List Tk) (i : Nat) (hi : i < r.length) : wr (r.take (i + 1)) = wr (r.take i) ++ wr1 r[i] := by rw [take_snoc hi, wr_app]; simp [wr]

section
variable {C : Cx} {c : Nat} {mg mb : Tx → Option Value}

end
end Mine
end
section
open PySem PySem.W PyProof.Rows PySem.Builtin PySem.Builtin.Re
set_option Elab.async false
set_option maxRecDepth 100000
set_option linter.all false
namespace Mine
noncomputable def es : Bool → List Nat → List Nat
  | _, [] => []
  | p, c :: r => if c = 13 then 13 :: 10 :: es true r else if c = 10 then (if p = true then es false r else 13 :: 10 :: es false r) else c :: es false r
noncomputable def ds : Bool → List Nat → List Nat
  | _, [] => []
  | p, c :: r => if c = 46 ∧ p = true then 46 :: 46 :: ds false r else c :: ds (c == 10) r

theorem es_free : ∀ (a b : List Nat), (∀ c ∈ a, c ≠ 10 ∧ c ≠ 13) → es false (a ++ b) = a ++ es false b
  | [], b, _ => rfl
  | c :: a, b, h => by
    have := h c (by simp)
    show es false (c :: (a ++ b)) = _
    rw [es, if_neg this.2, if_neg this.1, es_free a b fun x hx => h x (List.mem_cons_of_mem _ hx)]; rfl
theorem es_true {r : List Nat} (h : r.head? ≠ some 10) : es true r = es false r := by
  cases r with
  | nil => rfl
  | cons c r =>
    have : c ≠ 10 := fun e => h (by simp [e])
    rw [es, es, if_neg this, if_neg this]

/-- the first place from i on where f holds -/
noncomputable def firstP (f : Nat → Bool) (n i : Nat) : Option Nat := (List.range' i (n - i)).find? f
theorem firstP_some {f : Nat → Bool} {n i p : Nat} (h1 : i ≤ p) (h2 : p < n) (hf : f p = true) (hq : ∀ q, i ≤ q → q < p → f q = false) : firstP f n i = some p := by
  unfold firstP
  have e : n - i = (p - i) + (1 + (n - p - 1)) := by omega
  rw [e, ← List.range'_append_1, List.find?_append, ← List.range'_append_1]
  have : (List.range' i (p - i)).find? f = none := List.find?_eq_none.mpr fun x hx => by
    have := List.mem_range'_1.mp hx
    rw [hq x this.1 (by omega)]; decide
  have e2 : i + (p - i) = p := by omega
  rw [this, e2]
  simp [hf]
theorem firstP_none {f : Nat → Bool} {n i : Nat} (hq : ∀ q, i ≤ q → q < n → f q = false) : firstP f n i = none :=
  List.find?_eq_none.mpr fun x hx => by
    have := List.mem_range'_1.mp hx
    rw [hq x this.1 (by omega)]; decide
theorem firstP_spec {f : Nat → Bool} {n i p : Nat} (h : firstP f n i = some p) : i ≤ p ∧ p < n ∧ f p = true ∧ ∀ q, i ≤ q → q < p → f q = false := by
  have hm := List.mem_range'_1.mp (List.mem_of_find?_eq_some h)
  have hf := List.find?_some h
  refine ⟨hm.1, by omega, hf, fun q a b => ?_⟩
  cases hq : f q with
  | false => rfl
  | true =>
    exfalso
    -- the first place with f
    have : ∀ (l : Nat) (i : Nat), i ≤ q → q < i + l → ∃ r, (List.range' i l).find? f = some r ∧ r ≤ q := by
      intro l
      induction l with
      | zero => intro i a b; omega
      | succ l ih =>
        intro i a b
        rw [List.range'_succ]
        by_cases c : f i = true
        · exact ⟨i, by rw [List.find?_cons_of_pos c], a⟩
        · rw [List.find?_cons_of_neg c]
          have : i ≠ q := by rintro rfl; exact c hq
          exact ih (i + 1) (by omega) (by omega)
    obtain ⟨r, e, hr⟩ := this (n - i) i a (by omega)
    unfold firstP at h
    rw [h] at e; cases e; omega
theorem firstP_no {f : Nat → Bool} {n i : Nat} (h : firstP f n i = none) : ∀ q, i ≤ q → q < n → f q = false := fun q a b => by
  have := List.find?_eq_none.mp h q (List.mem_range'_1.mpr ⟨a, by omega⟩)
  simpa using this

noncomputable def fE (text : List Nat) (p : Nat) : Bool := text.getD p 0 == 10 || text.getD p 0 == 13
noncomputable def srE (text : List Nat) (i : Nat) : Option (Nat × Nat) := (firstP (fE text) text.length i).map fun p => (p, endE text.toArray p)
noncomputable def fD (text : List Nat) (p : Nat) : Bool := atLine text.toArray p && text.getD p 0 == 46
noncomputable def srD (text : List Nat) (i : Nat) : Option (Nat × Nat) := (firstP (fD text) text.length i).map fun p => (p, p + 1)

theorem getD_arr (text : List Nat) (p : Nat) : text.toArray.getD p 0 = text.getD p 0 := by
  simp [Array.getD_eq_getD_getElem?, List.getD_eq_getElem?_getD]
theorem drop_split (text : List Nat) {i p : Nat} (h1 : i ≤ p) (h2 : p < text.length) : text.drop i = (text.drop i).take (p - i) ++ text.getD p 0 :: text.drop (p + 1) := by
  have e : (text.drop i).drop (p - i) = text.drop p := by rw [List.drop_drop]; congr 1; omega
  have e2 : text.drop p = text.getD p 0 :: text.drop (p + 1) := by
    rw [List.getD_eq_getElem?_getD, List.getElem?_eq_getElem h2]
    exact (List.getElem_cons_drop h2).symm
  conv => lhs; rw [← List.take_append_drop (p - i) (text.drop i)]
  rw [e, e2]
theorem take_free {text : List Nat} {i p : Nat} (h1 : i ≤ p) (h2 : p ≤ text.length) {f : Nat → Prop} (h : ∀ q, i ≤ q → q < p → f (text.getD q 0)) : ∀ c ∈ (text.drop i).take (p - i), f c := by
  intro c hc
  obtain ⟨j, hj, e⟩ := List.mem_iff_getElem.mp hc
  have hj' : j < p - i := by rw [List.length_take] at hj; omega
  rw [List.getElem_take, List.getElem_drop] at e
  have := h (i + j) (by omega) (by omega)
  rw [List.getD_eq_getElem?_getD, List.getElem?_eq_getElem (by omega)] at this
  rw [← e]; exact this

theorem sb_es (text : List Nat) : ∀ (k i : Nat), i ≤ text.length → text.length - i < k → sb (srE text) text [13, 10] k i = es false (text.drop i) := by
  intro k
  induction k with
  | zero => intro i h1 h2; omega
  | succ k ih =>
    intro i h1 h2
    rw [sb]
    cases hs : firstP (fE text) text.length i with
    | none =>
      have e : srE text i = none := by rw [srE, hs]; rfl
      rw [e]
      have no := firstP_no hs
      have key := take_free (f := fun c => c ≠ 10 ∧ c ≠ 13) h1 (Nat.le_refl _) fun q a b => by
        have := no q a b
        simp only [fE, Bool.or_eq_false_iff, beq_eq_false_iff_ne] at this; exact this
      rw [List.take_of_length_le (by rw [List.length_drop]; omega)] at key
      have := es_free (text.drop i) [] key
      simpa [es] using this.symm
    | some p =>
      have e : srE text i = some (p, endE text.toArray p) := by rw [srE, hs]; rfl
      rw [e]
      obtain ⟨a, b, c, d⟩ := firstP_spec hs
      dsimp only
      have key := take_free (f := fun c => c ≠ 10 ∧ c ≠ 13) a (Nat.le_of_lt b) fun q x y => by
        have := d q x y
        simp only [fE, Bool.or_eq_false_iff, beq_eq_false_iff_ne] at this; exact this
      have sp := drop_split text a b
      have hen : endE text.toArray p ≤ text.length ∧ p + 1 ≤ endE text.toArray p := by
        unfold endE
        split
        · rename_i q
          have := q.2.1
          rw [List.size_toArray] at this
          omega
        · omega
      rw [ih _ hen.1 (by omega), List.append_assoc]
      conv => rhs; rw [sp]
      rw [es_free _ _ key]
      congr 1
      simp only [fE, Bool.or_eq_true, beq_iff_eq] at c
      by_cases c13 : text.getD p 0 = 13
      · rw [c13, es, if_pos rfl]
        by_cases c10 : p + 1 < text.length ∧ text.getD (p + 1) 0 = 10
        · have : endE text.toArray p = p + 2 := by
            unfold endE
            rw [getD_arr, getD_arr, List.size_toArray, if_pos ⟨c13, c10⟩]
          rw [this]
          have e2 : text.drop (p + 1) = 10 :: text.drop (p + 2) := by
            have := drop_split text (Nat.le_refl (p + 1)) c10.1
            rw [c10.2] at this; simpa using this
          rw [e2, es, if_neg (by decide), if_pos rfl, if_pos rfl]; rfl
        · have : endE text.toArray p = p + 1 := by
            unfold endE
            rw [getD_arr, getD_arr, List.size_toArray, if_neg (fun z => c10 z.2)]
          rw [this, es_true ?_]; rfl
          intro hh
          rw [List.head?_drop] at hh
          obtain ⟨hx, hy⟩ := List.getElem?_eq_some_iff.mp hh
          exact c10 ⟨hx, by rw [List.getD_eq_getElem?_getD, hh]; rfl⟩
      · have c10 : text.getD p 0 = 10 := c.resolve_right c13
        have : endE text.toArray p = p + 1 := by
          unfold endE
          rw [getD_arr, if_neg (fun z => c13 z.1)]
        rw [this, c10, es, if_neg (by decide), if_pos rfl, if_neg (by decide)]; rfl

theorem ds_free (text : List Nat) : ∀ (k i p : Nat), i + k = p → p ≤ text.length → (∀ q, i ≤ q → q < p → fD text q = false) → ds (atLine text.toArray i) (text.drop i) = (text.drop i).take (p - i) ++ ds (atLine text.toArray p) (text.drop p) := by
  intro k
  induction k with
  | zero => intro i p h hp _; have : i = p := by omega
            subst this; simp
  | succ k ih =>
    intro i p h hp no
    have hi : i < text.length := by omega
    have e := drop_split text (Nat.le_refl i) hi
    rw [Nat.sub_self, List.take_zero, List.nil_append] at e
    have n0 := no i (Nat.le_refl _) (by omega)
    have al : atLine text.toArray (i + 1) = (text.getD i 0 == 10) := by
      unfold atLine
      rw [getD_arr, Nat.add_sub_cancel]
      have : (i + 1 == 0) = false := rfl
      rw [this, Bool.false_or]
    rw [e, ds, if_neg ?_, ← al, ih (i + 1) p (by omega) hp (fun q a b => no q (by omega) b)]
    · have : p - i = (p - (i + 1)) + 1 := by omega
      rw [this, List.take_succ_cons]; rfl
    · rintro ⟨a, b⟩
      unfold fD at n0
      rw [a, b] at n0
      cases n0
theorem sb_ds (text : List Nat) : ∀ (k i : Nat), i ≤ text.length → text.length - i < k → sb (srD text) text [46, 46] k i = ds (atLine text.toArray i) (text.drop i) := by
  intro k
  induction k with
  | zero => intro i h1 h2; omega
  | succ k ih =>
    intro i h1 h2
    rw [sb]
    cases hs : firstP (fD text) text.length i with
    | none =>
      have e : srD text i = none := by rw [srD, hs]; rfl
      rw [e]
      have no := firstP_no hs
      rw [ds_free text (text.length - i) i text.length (by omega) (Nat.le_refl _) no, List.drop_length]
      rw [List.take_of_length_le (by rw [List.length_drop]; omega)]
      simp [ds]
    | some p =>
      have e : srD text i = some (p, p + 1) := by rw [srD, hs]; rfl
      rw [e]
      obtain ⟨a, b, c, d⟩ := firstP_spec hs
      dsimp only
      rw [ds_free text (p - i) i p (by omega) (Nat.le_of_lt b) d, ih (p + 1) (by omega) (by omega), List.append_assoc]
      congr 1
      have e2 := drop_split text (Nat.le_refl p) b
      rw [Nat.sub_self, List.take_zero, List.nil_append] at e2
      simp only [fD, Bool.and_eq_true, beq_iff_eq] at c
      rw [e2, ds, if_pos ⟨c.2, c.1⟩]
      have al : atLine text.toArray (p + 1) = false := by
        unfold atLine
        rw [getD_arr, Nat.add_sub_cancel, c.2]
        rfl
      rw [al]; rfl
end Mine
end
section
open PySem PySem.W PyProof.Rows PySem.Builtin PySem.Builtin.Re
set_option Elab.async false
set_option maxRecDepth 100000
set_option linter.all false
namespace Mine
theorem named2 (a b : Value) : reNamed "re.Pattern.sub" "sub" ["repl", "string", "count"] 2 [a, b] [] = pure [some a, some b, none] := by kernel_rfl
theorem call_str : typeLookup (.type "str") "__call__" = pure none := by rw [typeLookup_type, builtinLookup_eq_fast]; kernel_rfl
noncomputable def PRs (v : Value) (l : List Nat) : Prop := ∃ t, v = .str (tx l) t
theorem psR_strs : ∀ {vs : List Value} {zs : List (List Nat)}, PsR PRs vs zs → StrsAre vs (zs.map tx)
  | _, _, .nil => .nil
  | _, _, .cons h r => by obtain ⟨t, rfl⟩ := h; exact .cons _ t (psR_strs r)
theorem join_tx : ∀ (zs : List (List Nat)), Str.join (tx []) (zs.map tx) = tx zs.flatten
  | [] => rfl
  | [a] => by simp [Str.join]
  | a :: b :: r => by
    have ih := join_tx (b :: r)
    show tx a ++ tx [] ++ Str.join (tx []) ((b :: r).map tx) = _
    rw [ih, tx_app, tx_app]; simp
noncomputable def Finds (code : Array Nat) (text : List Nat) (srch : Nat → Option (Nat × Nat)) : Prop := ∀ i, i ≤ text.length → ∃ n m', n ≤ 2 ^ 66 ∧ Go n (Sre.forSearch code text.toArray 0 i text.toArray.size false) m' ∧
  (match srch i with | some (p, e) => (i ≤ p ∧ p < e ∧ e ≤ text.length) ∧ m'.outcome = some .matched ∧ m'.start = p ∧ m'.handed = e | none => m'.outcome = some .failed)
theorem finds_E (text : List Nat) (hs : text.length ≤ 1000000) : Finds eolC text (srE text) := by
  intro i hi
  obtain ⟨n, m', hn, g, r⟩ := eol_search text.toArray i (by rw [List.size_toArray]; exact hi)
  refine ⟨n, m', by omega, g, ?_⟩
  have hf : ∀ q, (fE text q = true ↔ hitE text.toArray q) := fun q => by unfold fE hitE; rw [getD_arr, Bool.or_eq_true, beq_iff_eq, beq_iff_eq]
  have hf' : ∀ q, ¬ hitE text.toArray q → fE text q = false := fun q h => by
    cases c : fE text q with
    | false => rfl
    | true => exact absurd ((hf q).mp c) h
  rcases r with ⟨p, a, b, c, d, e⟩ | ⟨a, b⟩
  · rw [List.size_toArray] at b
    have : srE text i = some (p, endE text.toArray p) := by rw [srE, firstP_some a b ((hf p).mpr c) fun q x y => hf' q (d q x y)]; rfl
    rw [this]
    refine ⟨⟨a, ?_, ?_⟩, e⟩
    · unfold endE; split <;> omega
    · unfold endE
      split
      · rename_i q; have := q.2.1; rw [List.size_toArray] at this; omega
      · omega
  · have : srE text i = none := by rw [srE, firstP_none fun q x y => hf' q (a q x (by rw [List.size_toArray]; exact y))]; rfl
    rw [this]; exact b
theorem finds_D (text : List Nat) (hs : text.length ≤ 1000000) : Finds dotC text (srD text) := by
  intro i hi
  obtain ⟨n, m', hn, g, r⟩ := dot_search text.toArray i (by rw [List.size_toArray]; exact hi)
  rw [List.size_toArray] at hn
  refine ⟨n, m', by omega, g, ?_⟩
  have hf : ∀ q, (fD text q = true ↔ hitD text.toArray q) := fun q => by unfold fD hitD; rw [getD_arr, Bool.and_eq_true, beq_iff_eq]
  have hf' : ∀ q, ¬ hitD text.toArray q → fD text q = false := fun q h => by
    cases c : fD text q with
    | false => rfl
    | true => exact absurd ((hf q).mp c) h
  rcases r with ⟨p, a, b, c, d, e⟩ | ⟨a, b⟩
  · rw [List.size_toArray] at b
    have : srD text i = some (p, p + 1) := by rw [srD, firstP_some a b ((hf p).mpr c) fun q x y => hf' q (d q x y)]; rfl
    rw [this]
    exact ⟨⟨a, by omega, by omega⟩, e⟩
  · have : srD text i = none := by rw [srD, firstP_none fun q x y => hf' q (a q x (by rw [List.size_toArray]; exact y))]; rfl
    rw [this]; exact b
theorem finds_mono {code : Array Nat} {text : List Nat} {srch : Nat → Option (Nat × Nat)} (F : Finds code text srch) (hlate : ∀ i, text.length < i → srch i = none) : ∀ i, match srch i with | none => True | some (p, e) => p < e ∧ i ≤ p ∧ e ≤ text.length := by
  intro i
  by_cases h : i ≤ text.length
  · obtain ⟨n, m', _, _, r⟩ := F i h
    cases q : srch i with
    | none => trivial
    | some pe => rw [q] at r; obtain ⟨p, e⟩ := pe; exact ⟨r.1.2.1, r.1.1, r.1.2.2⟩
  · rw [hlate i (by omega)]; trivial
theorem late {f : Nat → Bool} {n i : Nat} (h : n < i) : firstP f n i = none := firstP_none fun q a b => by omega

section
variable {prog : Program} {w : World}
theorem subOk_str {pa ca : Addr} {o : Obj} {fs : Array Value} {l : List Int} {h0 : Heap} (hp : h0.get? pa = some o) (hf : o.data = .fields fs) (h6 : reRawNat (fs.getD 6 .none) = 0) (h2 : reRawNat (fs.getD 2 .none) = 0) (h5 : fs.getD 5 .none = .ref ca)
    (hc : ∃ o n, h0.get? ca = some o ∧ o.data = .seq (l.map fun i => Value.int i 0).toArray n) (text z : List Nat) (t t2 : Tok) (z2 : z.length ≤ 2) (small : text.length ≤ 1000000) {srch : Nat → Option (Nat × Nat)} (F : Finds (l.toArray.map (·.toNat)) text srch) :
    SubOk prog w (.ref pa) (.str (tx text) t) (.str (tx z) t2) { pattern := .ref pa, string := .str (tx text) t, code := l.toArray.map (·.toNat), text := text.toArray, kind := 0, groups := 0, pos := 0, lim := text.toArray.size } text z srch PRs [pa, ca] h0 where
  whole := fun A E s Q hk hq => by
    obtain ⟨oc, n, c1, c2⟩ := hc
    exact wholeS ((hk pa (by simp)).trans hp) hf h6 h2 h5 ⟨oc, n, (hk ca (by simp)).trans c1, c2⟩ hq
  lit := fun A E s Q hq => by
    unfold reLiteralCannotBeTurned
    refine wpAny_bind (m := asStr? (.str (tx z) t2)) (wpAny_pure ?_)
    rw [if_neg (by simp)]
    exact wpAny_pure hq
  nn := rfl
  rep := ⟨t2, rfl⟩
  z2 := z2
  lim := List.size_toArray ..
  small := small
  find := fun A E s Q i hi hq => by
    obtain ⟨n, m', hn, g, r⟩ := F i hi
    unfold reNextFound
    cases hs : srch i with
    | none =>
      rw [hs] at r hq
      exact toEnd g hn false r hq
    | some pe =>
      obtain ⟨p, e⟩ := pe
      rw [hs] at r hq
      exact toEnd g hn true r.2.1 (hq.2.2.2 m' r.2.2.1 r.2.2.2)
  slice := fun A E s Q b e h1 h2 hq => by
    have e1 : (⟨text.toArray.extract b e⟩ : PySem.Str) = tx ((text.drop b).take (e - b)) := by
      unfold tx; congr 1; simp
    unfold reSlice
    rw [if_pos (by rfl)]
    dsimp only
    rw [e1]
    refine wpAny_mkStr (hq _ _ ⟨_, rfl⟩) ?_
    rw [tx_len, List.length_take, List.length_drop]
    exact small_sz (by omega)
  join := fun A E s Q j la vs n zs hj hl hps hz hv hne hq => by
    obtain ⟨tj, rfl⟩ := hj
    rw [if_pos (by rfl)]
    refine join_list (items := vs.toArray) ⟨_, hl, rfl, n, rfl⟩ (by simpa using psR_strs hps) ?_ fun t' k => ?_
    · have : ((zs.map tx).map (·.length)).sum = zs.flatten.length := by
        rw [List.map_map, List.length_flatten]
        congr 1
      rw [this, tx_len, List.length_nil, Nat.mul_zero]; omega
    · refine hq _ _ ⟨t', ?_⟩
      show Value.str (Builtin.Str.glued (tx []) (zs.map tx)) t' = _
      rw [StrLaws.glued_eq_join, join_tx]

theorem call_sub {A : Around} {E : Value → Shared → Prop} {s : Shared} {pa ca : Addr} {o : Obj} {fs : Array Value} {l : List Int} (hcl : o.cls = .type "re.Pattern") (hp : s.heap.get? pa = some o) (hf : o.data = .fields fs) (h6 : reRawNat (fs.getD 6 .none) = 0) (h2 : reRawNat (fs.getD 2 .none) = 0) (h5 : fs.getD 5 .none = .ref ca)
    (hc : ∃ o n, s.heap.get? ca = some o ∧ o.data = .seq (l.map fun i => Value.int i 0).toArray n) (text z : List Nat) (t t2 : Tok) (z2 : z.length ≤ 2) (hz : z.contains 92 = false) (small : text.length ≤ 1000000) {srch : Nat → Option (Nat × Nat)} (F : Finds (l.toArray.map (·.toNat)) text srch) (hlate : ∀ i, text.length < i → srch i = none)
    {Q : Value → Shared → Prop} (hQ : ∀ t' h' tk, Kp Option.none [] s.heap h' → Q (.str (tx (sb srch text z (text.length + 1) 0)) t') { s with heap := h', toks := tk }) :
    wpAny (model prog w) A (call (.builtin "re.Pattern.sub") [.ref pa, .str (tx z) t2, .str (tx text) t]) Q E s := by
  have hT : s.TypeIs (.ref pa) "re.Pattern" := ⟨o, hp, hcl⟩
  refine wpAny_call (codeAny_call_builtin slot_sub.plain entry_sub (slot_sub.check _ _ _ _ _ _ _ _ hT (args_sub _ _ _) ?_))
  show wpAny _ _ (reSubstitute "re.Pattern.sub" "sub" false ⟨[.ref pa, .str (tx z) t2, .str (tx text) t], []⟩) _ _ _
  unfold reSubstitute
  dsimp only
  refine wpAny_bind (wpAny_of_eq (named2 _ _) ?_)
  have K := subOk_str (prog := prog) (w := w) hp hf h6 h2 h5 hc text z t t2 z2 small F
  refine wpAny_bind (wpAny_pure ?_)
  refine wpAny_bind (wpAny_specialOf (typeIs_str _ _ _) call_str ?_)
  rw [if_neg (by simp)]
  refine wpAny_bind (wpAny_pure ?_)
  refine wpAny_bind (wpAny_pure ?_)
  have lit : (!(tx z).cps.contains 92) = true := by
    show (!(z.toArray).contains 92) = true
    simpa using hz
  rw [if_neg (by simp), if_pos lit]
  refine wpAny_bind (wpAny_pure ?_)
  refine wpAny_bind (wpAny_holding (K.whole _ _ _ _ (fun _ _ => rfl) ?_))
  rw [if_neg (by simp)]
  refine wpAny_bind (wpAny_newObj_type ?_)
  have hla : s.heap.objs.size ∉ [pa, ca] := by
    intro m
    simp only [List.mem_cons, List.not_mem_nil, or_false] at m
    obtain ⟨oc, n, c1, _⟩ := hc
    rcases m with m | m
    · rw [← m] at hp; exact absurd (Heap.lt_size hp) (Nat.lt_irrefl _)
    · rw [← m] at c1; exact absurd (Heap.lt_size c1) (Nat.lt_irrefl _)
  have hk : ∀ b ∈ [pa, ca], (s.heap.push { cls := .type "list", data := .seq ([] : List Value).toArray }).get? b = s.heap.get? b := by
    intro b m
    simp only [List.mem_cons, List.not_mem_nil, or_false] at m
    obtain ⟨oc, n, c1, _⟩ := hc
    rcases m with rfl | rfl
    · rw [hp]; exact Heap.get?_push_of_some _ hp
    · rw [c1]; exact Heap.get?_push_of_some _ c1
  refine wpAny_pure ⟨plainId_quiet plain_loop _, ?_⟩
  refine loop_ok K hla (finds_mono F hlate) (text.length + 1) _ 0 0 [] [] 0 (Nat.zero_le _) (by omega) hk (Heap.get?_push_size _ rfl) .nil (by simp) (by simp) fun v h' tk hv kk => ?_
  obtain ⟨t', rfl⟩ := hv
  refine hQ t' h' tk ((Kp.push s.heap { cls := .type "list", data := .seq ([] : List Value).toArray }).then kk fun b m o' e => ?_)
  have : b = s.heap.objs.size := by simpa using m
  rw [this] at e
  exact absurd (Heap.lt_size e) (Nat.lt_irrefl _)
end
end Mine
end
section
open PySem PySem.W PyProof.Rows PySem.Builtin PySem.Builtin.Re
set_option Elab.async false
set_option maxRecDepth 100000
set_option linter.all false
namespace Mine
theorem bb1 : ("bytes.__buffer__".endsWith ("." ++ "__buffer__")) = true := by decide +kernel
theorem bb3 : typeLookup (.type "bytes") "__buffer__" = pure (some (.builtin "bytes.__buffer__")) := by rw [typeLookup_type, builtinLookup_eq_fast]; kernel_rfl
theorem bb4 : typeLookup (.type "bytes") "__release_buffer__" = pure none := by rw [typeLookup_type, builtinLookup_eq_fast]; kernel_rfl
theorem bb5 : isSubtype (.type "bytes") (.type "bytes") = pure true := by rw [isSubtype_type]; kernel_rfl
theorem bb6 : ("bytes.__buffer__".dropRight ("__buffer__".length + 1)) = "bytes" := by decide +kernel
theorem bb7 : typeLookup (.type "bytes") "__call__" = pure none := by rw [typeLookup_type, builtinLookup_eq_fast]; kernel_rfl
section
variable {prog : Program} {w : World} {A : Around} {E : Value → Shared → Prop} {s : Shared}
theorem slotOwn {x : Array UInt8} {t : Tok} {Q : Bool → Shared → Prop} (h : Q true s) : wpAny (model prog w) A (Bytes.slotIsOwn (.bytes x t) "__buffer__") Q E s := by
  unfold Bytes.slotIsOwn
  refine wpAny_bind (wpAny_specialOf (typeIs_bytes _ _ _) bb3 ?_)
  dsimp only
  rw [bb1, if_neg (by decide), bb6]
  exact wpAny_isInstance (typeIs_bytes _ _ _) bb5 h
theorem ownRel {x : Array UInt8} {t : Tok} {Q : Bool → Shared → Prop} (h : Q false s) : wpAny (model prog w) A (Bytes.ownRelease (.bytes x t)) Q E s := by
  unfold Bytes.ownRelease Bytes.slotIsOwn
  refine wpAny_bind (wpAny_bind (wpAny_specialOf (typeIs_bytes _ _ _) bb4 ?_))
  exact wpAny_pure (wpAny_pure h)
theorem payloadB {x : Array UInt8} {t : Tok} {Q : Array UInt8 → Shared → Prop} (h : Q x s) : wpAny (model prog w) A (Bytes.payload (.bytes x t)) Q E s := by
  unfold Bytes.payload
  exact wpAny_bind (wpAny_pure (wpAny_pure h))
theorem bufB {id : String} {x : Array UInt8} {t : Tok} {full : Bool} {Q : Option (Array UInt8) → Shared → Prop} (h : Q (some x) s) : wpAny (model prog w) A (Bytes.buffer? id (.bytes x t) full) Q E s := by
  unfold Bytes.buffer?
  refine wpAny_bind (wpAny_specialOf (typeIs_bytes _ _ _) bb3 ?_)
  dsimp only
  refine wpAny_bind (slotOwn ?_)
  rw [if_neg (by decide)]
  refine wpAny_bind (wpAny_specialOf (typeIs_bytes _ _ _) bb3 ?_)
  refine wpAny_bind (ownRel ?_)
  rw [if_neg (by decide)]
  exact wpAny_bind (payloadB (wpAny_pure h))
theorem bufQ {id : String} {x : Array UInt8} {t : Tok} {Q : Option (Array UInt8) → Shared → Prop} (h : Q (some x) s) : wpAny (model prog w) A (Bytes.bufferQuiet? id (.bytes x t)) Q E s := by
  unfold Bytes.bufferQuiet?
  exact wpAny_bind (wpAny_attempt (bufB (wpAny_pure h)))
theorem wholeB' {pa ca : Addr} {o : Obj} {fs : Array Value} {l : List Int} {x : Array UInt8} {t : Tok} {Q : ReTarget → Shared → Prop} (hp : s.heap.get? pa = some o) (hf : o.data = .fields fs) (h6 : reRawNat (fs.getD 6 .none) = 1) (h2 : reRawNat (fs.getD 2 .none) = 0) (h5 : fs.getD 5 .none = .ref ca)
    (hc : ∃ o n, s.heap.get? ca = some o ∧ o.data = .seq (l.map fun i => Value.int i 0).toArray n)
    (h : Q { pattern := .ref pa, string := .bytes x t, code := l.toArray.map (·.toNat), text := x.map (·.toNat), kind := 1, groups := 0, pos := 0, lim := (x.map (·.toNat)).size } s) : wpAny (model prog w) A (reWholeTarget (.ref pa) (.bytes x t)) Q E s := by
  unfold reWholeTarget
  refine wpAny_bind (wpAny_fieldsOf hp hf ?_)
  have tx : ∀ (Q : Array Nat × Nat → Shared → Prop), Q (x.map (·.toNat), 1) s → wpAny (model prog w) A (reTextOf (.bytes x t)) Q E s := fun Q hq => by
    unfold reTextOf
    refine wpAny_bind (m := asStr? (.bytes x t)) (wpAny_pure ?_)
    dsimp only
    refine wpAny_bind (bufQ ?_)
    exact wpAny_pure hq
  refine wpAny_bind (tx _ ?_)
  dsimp only
  rw [h6, h2, h5, if_neg (by decide), if_neg (by decide)]
  have nc : ∀ (Q : Unit → Shared → Prop), Q () s → wpAny (model prog w) A (reNoCollectionInside (.bytes x t) 1) Q E s := fun Q hq => by
    unfold reNoCollectionInside
    rw [if_pos (by rfl)]
    refine wpAny_bind (wpAny_isInstance (typeIs_bytes _ _ _) bb5 ?_)
    rw [if_neg (by decide)]
    exact wpAny_pure hq
  refine wpAny_bind (nc _ ?_)
  exact wpAny_bind (rawItems hc (wpAny_pure h))
end
end Mine
end
section
open PySem PySem.W PyProof.Rows PySem.Builtin PySem.Builtin.Re
set_option Elab.async false
set_option maxRecDepth 100000
set_option linter.all false
namespace Mine
theorem slot_bjoin : Slot "bytes" "join" "bytes.join" :=
  .of (owner := "bytes") (n := "join") (by rw [typeLookup_type, builtinLookup_eq_fast]; kernel_rfl) (by decide +kernel) (by decide +kernel) (by decide +kernel)
    (by first | exact .inl (by decide +kernel) | exact .inr (by decide +kernel)) (by rw [isSubtype_type]; kernel_rfl)
theorem entry_bjoin : entryFor table "bytes.join" = some Builtin.«bytes.join» := entryFor_of_tree (by kernel_rfl)
theorem args_bjoin (a b : Value) : argsOk "bytes.join" ⟨[a, b], []⟩ := by unfold argsOk; kernel_rfl
section
variable {prog : Program} {w : World} {A : Around} {E : Value → Shared → Prop} {s : Shared}
theorem takeQ {id : String} {x : Array UInt8} {t : Tok} {Q : Option (Array UInt8 × Option Value) → Shared → Prop} (h : Q (some (x, none)) s) : wpAny (model prog w) A (Bytes.takeBufferQuiet? id (.bytes x t) 0) Q E s := by
  unfold Bytes.takeBufferQuiet? Bytes.takeBuffer?
  refine wpAny_bind (wpAny_attempt ?_)
  refine wpAny_bind (wpAny_specialOf (typeIs_bytes _ _ _) bb3 ?_)
  refine wpAny_bind (slotOwn ?_)
  rw [if_neg (by decide)]
  refine wpAny_bind (wpAny_specialOf (typeIs_bytes _ _ _) bb3 ?_)
  refine wpAny_bind (bufB ?_)
  exact wpAny_pure (wpAny_pure h)
noncomputable def byl (l : List Nat) : Array UInt8 := (l.map (·.toUInt8)).toArray
noncomputable def PRb (v : Value) (l : List Nat) : Prop := ∃ t, v = .bytes (byl l) t
theorem byl_app (a b : List Nat) : byl a ++ byl b = byl (a ++ b) := by simp [byl]
theorem byl_len (a : List Nat) : (byl a).size = a.length := by simp [byl]
theorem byl_back {l : List Nat} (h : ∀ n ∈ l, n < 256) : (byl l).map (·.toNat) = l.toArray := by
  unfold byl
  rw [List.map_toArray, List.map_map]
  congr 1
  rw [List.map_congr_left (g := _root_.id)]
  · exact List.map_id _
  · intro n hn
    have := h n hn
    show (n.toUInt8).toNat = n
    simp [Nat.toUInt8, UInt8.toNat_ofNat']; omega
theorem joined_byl : ∀ (zs : List (List Nat)), Bytes.joined #[] (zs.map byl) = byl zs.flatten := by
  intro zs
  unfold Bytes.joined
  have key : ∀ (zs : List (List Nat)) (k : Nat) (out : List Nat), ((zs.map byl).zipIdx k).foldl (fun out (p, i) => (if i > 0 then out ++ #[] else out) ++ p) (byl out) = byl (out ++ zs.flatten) := by
    intro zs
    induction zs with
    | nil => intro k out; simp
    | cons z zs ih =>
      intro k out
      rw [List.map_cons, List.zipIdx_cons, List.foldl_cons]
      have : (if k > 0 then byl out ++ #[] else byl out) ++ byl z = byl (out ++ z) := by
        split
        · rw [Array.append_empty, byl_app]
        · rw [byl_app]
      show List.foldl _ ((if k > 0 then byl out ++ #[] else byl out) ++ byl z) _ = _
      rw [this, ih]; simp
  have := key zs 0 []
  simpa [byl] using this
theorem loopB {vs : List Value} {zs : List (List Nat)} (hps : PsR PRb vs zs) {f : Nat → Array (Array UInt8) × List (Value × Option Value) → Sem (ForInStep (Array (Array UInt8) × List (Value × Option Value)))}
    (hf : ∀ (i : Nat) (st : Array (Array UInt8) × List (Value × Option Value)) (b : Array UInt8) (t : Tok) (Q : ForInStep (Array (Array UInt8) × List (Value × Option Value)) → Shared → Prop), vs[i]? = some (.bytes b t) → (st.2.any fun x => x.1.onHeap) = false → (∀ x ∈ st.2, x.2 = none) →
      Q (.yield (st.1.push b, st.2 ++ [(.bytes b t, none)])) s → wpAny (model prog w) A (f i st) Q E s)
    {Q : Array (Array UInt8) × List (Value × Option Value) → Shared → Prop} (hQ : ∀ taken, (∀ x ∈ taken, x.2 = none) → Q ((zs.map byl).toArray, taken) s) : wpAny (model prog w) A (forIn (List.range' 0 vs.length) (#[], []) f) Q E s := by
  have key : ∀ (k i : Nat) (st : Array (Array UInt8) × List (Value × Option Value)), i + k = vs.length → st.1 = ((zs.take i).map byl).toArray → (st.2.any fun x => x.1.onHeap) = false → (∀ x ∈ st.2, x.2 = none) → wpAny (model prog w) A (forIn (List.range' i k) st f) Q E s := by
    have hlen : ∀ {vs : List Value} {zs : List (List Nat)}, PsR PRb vs zs → vs.length = zs.length := fun h => by
      induction h with
      | nil => rfl
      | cons _ _ ih => simp [ih]
    have hget : ∀ {vs : List Value} {zs : List (List Nat)}, PsR PRb vs zs → ∀ i, i < vs.length → ∃ z t, zs[i]? = some z ∧ vs[i]? = some (.bytes (byl z) t) := fun h => by
      induction h with
      | nil => intro i hi; simp at hi
      | cons a _ ih =>
        intro i hi
        cases i with
        | zero => obtain ⟨t, rfl⟩ := a; exact ⟨_, t, rfl, rfl⟩
        | succ i => simpa using ih i (by simpa using hi)
    intro k
    induction k with
    | zero =>
      intro i st h1 h2 h3 h4
      have : zs.take i = zs := List.take_of_length_le (by rw [← hlen hps]; omega)
      rw [this] at h2
      have e : st = ((zs.map byl).toArray, st.2) := by rw [← h2]
      rw [List.range'_zero]
      rw [e]
      exact wpAny_pure (hQ _ h4)
    | succ k ih =>
      intro i st h1 h2 h3 h4
      obtain ⟨z, t, e1, e2⟩ := hget hps i (by omega)
      rw [List.range'_succ, List.forIn_cons]
      refine wpAny_bind (hf i st _ _ _ e2 h3 h4 ?_)
      refine ih (i + 1) _ (by omega) ?_ ?_ ?_
      · show st.1.push (byl z) = _
        rw [h2, List.take_add_one, e1]; simp
      · show ((st.2 ++ [(Value.bytes (byl z) t, none)]).any fun x => x.1.onHeap) = false
        rw [List.any_append, h3]; rfl
      · intro x hx
        rcases List.mem_append.mp hx with q | q
        · exact h4 x q
        · rw [List.mem_singleton.mp q]
  exact key vs.length 0 (#[], []) (by omega) rfl rfl (by simp)
theorem letGoB : ∀ (taken : List (Value × Option Value)) {keep : List Value} {Q : Unit → Shared → Prop}, (∀ x ∈ taken, x.2 = none) → Q () s → wpAny (model prog w) A (Bytes.joinLetGo taken keep) Q E s
  | [], _, _, _, h => wpAny_pure h
  | (x, u) :: r, keep, Q, hx, h => by
    obtain rfl : u = none := hx (x, u) (by simp)
    unfold Bytes.joinLetGo
    dsimp only
    exact wpAny_bind (wpAny_letGo (letGoB r (fun y m => hx y (List.mem_cons_of_mem _ m)) h))
theorem bjoin {l : Addr} {tj : Tok} {vs : List Value} {n : Nat} {zs : List (List Nat)} {Q : Value → Shared → Prop} (hl : s.heap.get? l = some (seqObj "list" vs n)) (hps : PsR PRb vs zs) (hz : zs.flatten.length ≤ 4000000) (hne : vs ≠ [])
    (hQ : ∀ t k, Q (.bytes (byl zs.flatten) t) { s with toks := k }) : wpAny (model prog w) A (call (.builtin "bytes.join") [.bytes #[] tj, .ref l]) Q E s := by
  refine wpAny_call_entry slot_bjoin (typeIs_bytes _ _ _) entry_bjoin ?_ (args_bjoin _ _)
  unfold Builtin.«bytes.join» Bytes.joinM
  refine wpAny_bind (m := selfAndOne _ _) (wpAny_pure ?_)
  dsimp only
  rw [if_pos (by decide)]
  have ji : ∀ (Q : Value → Shared → Prop), Q (.ref l) s → wpAny (model prog w) A.in1 (Bytes.joinItems (.ref l)) Q E s := fun Q hq => by
    unfold Bytes.joinItems
    refine wpAny_bind (wpAny_typeOf (T := "list") ⟨_, hl, rfl⟩ ?_)
    rw [if_pos (by decide)]
    exact wpAny_pure hq
  refine wpAny_bind (ji _ ?_)
  refine wpAny_bind (wpAny_seqItems hl rfl ?_)
  dsimp only
  rw [if_pos (by decide)]
  match vs, zs, hps, hne, hl, ji with
  | [v], _, .cons hv .nil, _, hl, ji =>
    obtain ⟨t, rfl⟩ := hv
    refine wpAny_bind (wpAny_typeOf (typeIs_bytes _ _ _) ?_)
    rw [if_pos (by decide)]
    refine wpAny_bind (wpAny_rule ?_)
    refine wpAny_pure ⟨_, rfl, ?_⟩
    have := hQ t s.toks
    rw [List.flatten_cons, List.flatten_nil, List.append_nil] at this
    exact this
  | v0 :: v1 :: vr, zs, hps, _, hl, ji =>
    refine wpAny_bind (m := forIn (m := Sem) _ _ _) ?_
    rw [Std.Legacy.Range.forIn_eq_forIn_range']
    simp only [Std.Legacy.Range.size, Nat.sub_zero, Nat.add_sub_cancel, Nat.div_one]
    rw [List.size_toArray]
    refine (loopB hps (fun i st b t Q' hi h1 h2 hq => ?_) fun taken ht => ?_)
    · refine wpAny_bind (wpAny_seqItems hl rfl ?_)
      dsimp only
      rw [h1, if_neg (by decide)]
      have hget : (v0 :: v1 :: vr).toArray.getD i Value.none = .bytes b t := by
        simp only [Array.getD_eq_getD_getElem?, List.getElem?_toArray, hi]; rfl
      rw [hget]
      refine wpAny_bind (wpAny_holding (takeQ ?_))
      dsimp only
      refine wpAny_bind (wpAny_seqItems hl rfl ?_)
      dsimp only
      rw [if_neg (by simp)]
      exact wpAny_pure hq
    · dsimp only
      refine wpAny_bind (payloadB ?_)
      have hp : ((zs.map byl).toArray.foldl (fun x1 x2 => x1 + x2.size) ((#[] : Array UInt8).size * ((zs.map byl).toArray.size - 1))) = zs.flatten.length := by
        have key : ∀ (zs : List (List Nat)) (k : Nat), (zs.map byl).foldl (fun x1 x2 => x1 + x2.size) k = k + zs.flatten.length := by
          intro zs
          induction zs with
          | nil => intro k; simp
          | cons z zs ih => intro k; rw [List.map_cons, List.foldl_cons, ih, byl_len]; simp; omega
        have := key zs 0
        simpa using this
      rw [hp, if_neg (by unfold Bytes.tooLong; simp only [decide_eq_true_eq, gt_iff_lt, Nat.not_lt]; exact Nat.le_trans hz (show (4000000 : Nat) ≤ sizeLine by decide))]
      have nw : ∀ (Q : Value → Shared → Prop), Q (.bytes (byl zs.flatten) s.toks) { s with toks := s.toks + 1 } → wpAny (model prog w) A.in1 (Bytes.Kind.bytes.new (Bytes.joined #[] (zs.map byl).toArray.toList)) Q E s := fun Q hq => by
        rw [List.toList_toArray, joined_byl]
        show wpAny _ _ (mkBytes (byl zs.flatten)) _ _ _
        unfold mkBytes
        rw [if_neg (by rw [byl_len]; exact Nat.not_lt.mpr (Nat.le_trans hz (by decide)))]
        exact fun _ _ _ => hq
      refine wpAny_bind (nw _ ?_)
      refine wpAny_bind (wpAny_holding (wpAny_point ?_))
      refine wpAny_bind (letGoB taken ht ?_)
      exact wpAny_pure ⟨_, rfl, hQ _ _⟩
end
end Mine
end
section
namespace Mine
/-- the name that an escape lays behind the sign & -/
noncomputable def nmc (k low : Nat) : List Nat :=
  if low = 38 then [97, 109, 112, 59] else
  if low = 60 ∧ k ≠ 8 then [108, 116, 59] else
  if low = 62 ∧ k ≠ 10 then [103, 116, 59] else
  if low = 34 ∧ (k = 7 ∨ k = 8 ∨ k = 10) then [113, 117, 111, 116, 59] else
  if low = 13 ∧ k = 7 then [35, 49, 51, 59] else
  if low = 10 ∧ k = 7 then [35, 49, 48, 59] else
  if low = 9 ∧ k = 7 then [35, 48, 57, 59] else
  if low = 13 ∧ k > 8 then [35, 120, 68, 59] else
  if low = 10 ∧ k = 10 then [35, 120, 65, 59] else
  if low = 9 ∧ k = 10 then [35, 120, 57, 59] else []
theorem nmc_in (k low : Nat) : nmc k low ∈ [[97, 109, 112, 59], [108, 116, 59], [103, 116, 59], [113, 117, 111, 116, 59], [35, 49, 51, 59], [35, 49, 48, 59], [35, 48, 57, 59], [35, 120, 68, 59], [35, 120, 65, 59], [35, 120, 57, 59], []] := by
  unfold nmc
  repeat' split
  all_goals decide
theorem wr_cons (t : Tk) (r : List Tk) : wr (t :: r) = wr1 t ++ wr r := List.flatMap_cons ..
theorem wr1_len (t : Tk) : (wr1 t).length = t.1.length + 1 := by simp [wr1]
theorem nmc_len (k low : Nat) : (nmc k low).length ≤ 5 := by
  have h : ∀ s ∈ [[97, 109, 112, 59], [108, 116, 59], [103, 116, 59], [113, 117, 111, 116, 59], [35, 49, 51, 59], [35, 49, 48, 59], [35, 48, 57, 59], [35, 120, 68, 59], [35, 120, 65, 59], [35, 120, 57, 59], []], s.length ≤ 5 := by decide
  exact h _ (nmc_in k low)
end Mine
end
section
open PySem PySem.W PyProof.Rows PySem.Calls
set_option Elab.async false
set_option maxRecDepth 100000
set_option linter.all false
namespace Mine

theorem bits_le {n k : Nat} (h : n < 2 ^ k) : Builtin.Int.intBits (n : Int) ≤ k := by
  unfold Builtin.Int.intBits
  split
  · omega
  · rename_i q
    have : n ≠ 0 := by rintro rfl; simp at q
    have := (Nat.log2_lt this).mpr h
    simp only [Int.natAbs_natCast]; omega
theorem p64 (n : Nat) : 64 ^ n = 2 ^ (6 * n) := by rw [Nat.pow_mul]

section
variable {C : Cx} {c : Nat} {mg mb : Tx → Option Value}

end
end Mine
end
section
open PySem PySem.W PyProof.Rows PySem.Calls
set_option Elab.async false
set_option maxRecDepth 100000
set_option linter.all false
namespace Mine
section
variable {C : Cx} {c : Nat} {mg mb : Tx → Option Value}

end
end Mine
end
section
open PySem PySem.W PyProof.Rows PySem.Calls
set_option Elab.async false
set_option maxRecDepth 100000
set_option linter.all false
namespace Mine
section
variable {C : Cx} {c : Nat} {mg mb : Tx → Option Value}

end
end Mine
end
section
open PySem PySem.W PyProof.Rows PySem.Calls
set_option Elab.async false
set_option maxRecDepth 100000
set_option linter.all false
namespace Mine
theorem ifN {b : Bool} {X Y : Prop} (p : Prop) (e : b = true ↔ p) (h1 : p → X) (h2 : ¬ p → Y) : if b = true then X else Y := by
  by_cases q : b = true
  · rw [if_pos q]; exact h1 (e.mp q)
  · rw [if_neg q]; exact h2 fun z => q (e.mpr z)
section
variable {C : Cx} {c : Nat} {f : Fn} {ρ : Lo} {mg mb : Tx → Option Value}
theorem t_and2 {e1 e2 : Expr} {pos : Pos} {b1 b2 : Bool} {P : Bool → Prop} (h1 : T C c f e1 ρ (· = b1)) (h2 : b1 = true → T C c f e2 ρ (· = b2)) (hp : P (b1 && b2)) : T C c f (.BoolOp .And [e1, e2] pos) ρ P := by
  refine t_bool <| ts_and <| t_mono h1 fun b e => ?_
  subst e
  cases b with
  | true => rw [if_pos rfl]; exact ts_and <| t_mono (h2 rfl) fun b' e => by
              subst e
              cases b' with
              | true => rw [if_pos rfl]; exact ts_and0 hp
              | false => rw [if_neg (by decide)]; exact hp
  | false => rw [if_neg (by decide)]; exact hp
theorem t_or2 {e1 e2 : Expr} {pos : Pos} {b1 b2 : Bool} {P : Bool → Prop} (h1 : T C c f e1 ρ (· = b1)) (h2 : b1 = false → T C c f e2 ρ (· = b2)) (hp : P (b1 || b2)) : T C c f (.BoolOp .Or [e1, e2] pos) ρ P := by
  refine t_bool <| ts_or <| t_mono h1 fun b e => ?_
  subst e
  cases b with
  | true => rw [if_pos rfl]; exact hp
  | false => rw [if_neg (by decide)]; exact ts_or <| t_mono (h2 rfl) fun b' e => by
              subst e
              cases b' with
              | true => rw [if_pos rfl]; exact hp
              | false => rw [if_neg (by decide)]; exact ts_or0 hp

end
end Mine
end
section
open PySem PySem.W PyProof.Rows PySem.Calls
set_option Elab.async false
set_option maxRecDepth 100000
set_option linter.all false
namespace Mine
theorem signs_get {s : List Nat} {j : Nat} {x : Sc} (h : (signs (tx s))[j]? = some x) : ∃ hj : j < s.length, x = .str ⟨#[s[j]]⟩ := by
  have e : signs (tx s) = s.map fun n => Sc.str ⟨#[n]⟩ := by simp [signs, tx]
  rw [e, List.getElem?_map] at h
  cases q : s[j]? with
  | none => rw [q] at h; cases h
  | some n =>
    rw [q] at h; cases h
    obtain ⟨hj, e⟩ := List.getElem?_eq_some_iff.mp q
    exact ⟨hj, by rw [e]⟩
theorem signs_len (s : List Nat) : (signs (tx s)).length = s.length := by simp [signs, tx]
theorem sz16 {n : Nat} (h : n ≤ 16000000) : n ≤ sizeLine := Nat.le_trans h (by decide)
section
variable {C : Cx} {c : Nat} {f : Fn} {ρ : Lo} {mg mb : Tx → Option Value}

end
end Mine
end
section
open PySem PySem.W PyProof.Rows PySem.Calls
set_option Elab.async false
set_option maxRecDepth 100000
set_option linter.all false
namespace Mine
open PySem.Builtin.Str in
theorem contains_one (s : List Nat) (ch : Nat) : Txt.contains (tx s) (tx [ch]) = decide (ch ∈ s) := by
  rw [Bool.eq_iff_iff]
  unfold Txt.contains
  rw [StrLaws.found_iff, decide_eq_true_eq, List.mem_iff_getElem?]
  have e : (tx s).cps.toList = s := by simp [tx]
  constructor
  · rintro ⟨i, h⟩
    exact ⟨i, by have := (StrLaws.subAt_one (tx s) ch i).mp h; rwa [e] at this⟩
  · rintro ⟨i, h⟩
    exact ⟨i, (StrLaws.subAt_one (tx s) ch i).mpr (by rw [e]; exact h)⟩
noncomputable def rp (ch : Nat) (z s : List Nat) : List Nat := s.flatMap fun k => if k = ch then z else [k]
theorem rp_free {ch : Nat} {z : List Nat} : ∀ {s : List Nat}, ch ∉ s → rp ch z s = s
  | [], _ => rfl
  | k :: s, h => by
    have h1 : k ≠ ch := fun e => h (by simp [e])
    have h2 : ch ∉ s := fun e => h (List.mem_cons_of_mem _ e)
    have := rp_free (z := z) h2
    unfold rp at this ⊢
    rw [List.flatMap_cons, if_neg h1, this]; rfl
theorem rp_app (ch : Nat) (z a b : List Nat) : rp ch z (a ++ b) = rp ch z a ++ rp ch z b := by simp [rp]
theorem rp_join (ch : Nat) (z : List Nat) : ∀ parts : List Tx, (∀ p ∈ parts, ch ∉ p.cps.toList) → rp ch z (Str.join (tx [ch]) parts).cps.toList = (Str.join (tx z) parts).cps.toList
  | [], _ => rfl
  | [p], h => rp_free (h p (List.mem_singleton.mpr rfl))
  | p :: q :: r, h => by
    have ih := rp_join ch z (q :: r) fun a ha => h a (List.mem_cons_of_mem _ ha)
    show rp ch z (p ++ tx [ch] ++ Str.join (tx [ch]) (q :: r)).cps.toList = (p ++ tx z ++ Str.join (tx z) (q :: r)).cps.toList
    simp only [Str.cps_append, Array.toList_append]
    rw [rp_app, rp_app, ih, rp_free (h p (List.mem_cons_self ..))]
    have e1 : rp ch z (tx [ch]).cps.toList = (tx z).cps.toList := by simp [rp, tx]
    rw [e1]
theorem replace_rp (s : List Nat) (ch : Nat) (z : List Nat) : Txt.replace (tx s) (tx [ch]) (tx z) = tx (rp ch z s) := by
  have h : (Txt.replace (tx s) (tx [ch]) (tx z)).cps.toList = rp ch z s := by
    show (Txt.replace (tx s) ⟨#[ch]⟩ (tx z)).cps.toList = _
    rw [StrLaws.replace_one, ← rp_join ch z _ (StrLaws.split_free (tx s) ch)]
    show rp ch z (Str.join ⟨#[ch]⟩ (Txt.split (tx s) ⟨#[ch]⟩)).cps.toList = _
    rw [StrLaws.join_split]
    simp [tx]
  rw [StrLaws.mk_of_toList h]; rfl
noncomputable def rps (L : List (Nat × List Nat)) (s : List Nat) : List Nat := L.foldl (fun s p => rp p.1 p.2 s) s
theorem rps_snoc (L : List (Nat × List Nat)) (p : Nat × List Nat) (s : List Nat) : rps (L ++ [p]) s = rp p.1 p.2 (rps L s) := by simp [rps]
theorem rps_app (L : List (Nat × List Nat)) : ∀ a b : List Nat, rps L (a ++ b) = rps L a ++ rps L b := by
  induction L with
  | nil => intro a b; rfl
  | cons p L ih => intro a b; show rps L (rp p.1 p.2 (a ++ b)) = rps L (rp p.1 p.2 a) ++ rps L (rp p.1 p.2 b); rw [rp_app, ih]
theorem rps_nil (L : List (Nat × List Nat)) : rps L [] = [] := by
  induction L with
  | nil => rfl
  | cons p L ih => exact ih
theorem rps_free (L : List (Nat × List Nat)) (c : Nat) (h : c ∉ L.map (·.1)) : rps L [c] = [c] := by
  induction L with
  | nil => rfl
  | cons p L ih =>
    simp only [List.map_cons, List.mem_cons, not_or] at h
    show rps L (rp p.1 p.2 [c]) = [c]
    rw [rp_free (by simp; exact fun e => h.1 e.symm), ih h.2]
noncomputable def esc1 (k c : Nat) : List Nat := if nmc k c = [] then [c] else 38 :: nmc k c
noncomputable def esc (k : Nat) (s : List Nat) : List Nat := s.flatMap (esc1 k)
theorem esc_eq {k : Nat} {L : List (Nat × List Nat)} (h : (L.all fun p => decide (rps L [p.1] = esc1 k p.1)) = true) (h' : ∀ c, c ∉ L.map (·.1) → nmc k c = []) (s : List Nat) : rps L s = esc k s := by
  induction s with
  | nil => exact rps_nil L
  | cons c s ih =>
    show rps L ([c] ++ s) = esc1 k c ++ esc k s
    rw [rps_app, ih]
    congr 1
    by_cases q : c ∈ L.map (·.1)
    · obtain ⟨p, hp, rfl⟩ := List.mem_map.mp q
      exact of_decide_eq_true (List.all_eq_true.mp h p hp)
    · rw [rps_free L c q, esc1, if_pos (h' c q)]
theorem rps_len {L : List (Nat × List Nat)} (h : (L.all fun p => decide ((rps L [p.1]).length ≤ 6)) = true) (s : List Nat) : (rps L s).length ≤ 6 * s.length := by
  induction s with
  | nil => rw [rps_nil]; simp
  | cons c s ih =>
    show (rps L ([c] ++ s)).length ≤ _
    rw [rps_app, List.length_append, List.length_cons]
    have : (rps L [c]).length ≤ 6 := by
      by_cases q : c ∈ L.map (·.1)
      · obtain ⟨p, hp, rfl⟩ := List.mem_map.mp q
        exact of_decide_eq_true (List.all_eq_true.mp h p hp)
      · rw [rps_free L c q]; simp
    omega
section
variable {C : Cx} {c : Nat} {f : Fn} {ρ : Lo} {mg mb : Tx → Option Value}
theorem esc_step {s : List Nat} {L : List (Nat × List Nat)} {ch : Nat} {z : List Nat} {y z' : Tx} {k1 k2 k3 : Nat} {p1 p2 p3 p4 p5 p6 p7 p8 p9 p10 pos : Pos} {rest : List Stmt} {P : Out → Prop} (hρ : ρ "text" = some (.sc (.str (tx (rps L s))))) (hs : s.length ≤ 200000)
    (hL : (L.all fun p => decide ((rps L [p.1]).length ≤ 6)) = true) (hy : y = tx [ch]) (hz : z' = tx z) (hzl : z.length ≤ 6)
    (hk : f.sc.names.lookup ("text" : Tx) = some .local) (hyz : (y == z') = false)
    (hbase : ∀ L, attributeBase (.Name "text" p6) "replace" (f.env L) (eval (.Name "text" p6) (f.env L)) = eval (.Name "text" p6) (f.env L)) (hline : (p7.endLine == p10.line) = true)
    (hsw : ∀ L, swapsWith (.Call (.Attribute (.Name "text" p6) "replace" p7) [.Constant (.str y) k2 p8, .Constant (.str z') k3 p9] [] p10) (some (.Name "text" p4)) p5.line (f.env L) = pure false)
    (next : ∀ ρ', ρ' "text" = some (.sc (.str (tx (rps (L ++ [(ch, z)]) s)))) → S C c f rest ρ' [] P) :
    S C c f (.If (.Compare (.Constant (.str y) k1 p1) [.In] [.Name "text" p2] p3) [.Assign [.Name "text" p4] (.Call (.Attribute (.Name "text" p6) "replace" p7) [.Constant (.str y) k2 p8, .Constant (.str z') k3 p9] [] p10) p5] [] pos :: rest) ρ [] P := by
  subst hy hz
  have hl := rps_len hL s
  refine meet (fun ρ' => ρ' "text" = some (.sc (.str (tx (rps (L ++ [(ch, z)]) s))))) (tcmp (e_str <| nme hρ (o_inS ⟨_, rfl, ?_⟩) hk) (by rfl)) next
  rw [contains_one]
  refine ifN (ch ∈ rps L s) decide_eq_true_iff (fun q => ?_) fun q => s_nil ?_
  · refine asg (e_repl (nme hρ ⟨_, rfl, ?_, .inl rfl, s_nil ?_⟩ hk) hyz hbase hline) (by simp) hk hsw
    · rw [tx_len, tx_len]
      have : (rps L s).length * z.length ≤ (rps L s).length * 6 := Nat.mul_le_mul_left _ hzl
      have e : ((rps L s).length + 1) * z.length = (rps L s).length * z.length + z.length := by rw [Nat.add_mul, Nat.one_mul]
      omega
    · show some _ = _
      rw [replace_rp, rps_snoc]
  · rw [rps_snoc, rp_free q]; exact hρ
end
end Mine
end
section
open PySem PySem.W PyProof.Rows PySem.Calls
set_option Elab.async false
set_option maxRecDepth 100000
set_option linter.all false
namespace Mine
section
variable {C : Cx} {c : Nat} {f : Fn} {ρ : Lo} {mg mb : Tx → Option Value}
theorem nmc_big {k c : Nat} (h : 64 ≤ c) : nmc k c = [] := by
  unfold nmc
  rw [if_neg (by omega), if_neg (by omega), if_neg (by omega), if_neg (by omega), if_neg (by omega), if_neg (by omega), if_neg (by omega), if_neg (by omega), if_neg (by omega), if_neg (by omega)]
theorem nmc_out {k : Nat} {ks : List Nat} (h : ((List.range 64).all fun c => ks.contains c || (nmc k c).isEmpty) = true) : ∀ c, c ∉ ks → nmc k c = [] := by
  intro c hc
  by_cases q : c < 64
  · have := List.all_eq_true.mp h c (List.mem_range.mpr q)
    have e : ks.contains c = false := by simpa using hc
    rw [e, Bool.false_or] at this
    exact List.isEmpty_iff.mp this
  · exact nmc_big (by omega)
theorem C_cdata (K : Wk vq C mg mb) (s : List Nat) (hs : s.length ≤ 200000) : Cd C (c + 1) mg "_escape_cdata" [.sc (.str (tx s))] (· = .sc (.str (tx (esc 6 s)))) := by
  refine cd_of K (d := dref 3) (ps := ["text"]) (by kernel_rfl) (by kernel_rfl) (bind1 fun _ _ _ _ => by kernel_rfl) rfl (by kernel_rfl) (by kernel_rfl) fun a cd => ?_
  refine s_try ?_
  refine esc_step (ch := 38) (z := [38, 97, 109, 112, 59]) (L := []) rfl hs (by decide +kernel) (by kernel_rfl) (by kernel_rfl) (by decide) (by kernel_rfl) (by kernel_rfl) (by intro _; kernel_rfl) (by rfl) (by intro _; kernel_rfl) ?_
  intro ρ1 e1
  refine esc_step (ch := 60) (z := [38, 108, 116, 59]) (L := [(38, [38, 97, 109, 112, 59])]) e1 hs (by decide +kernel) (by kernel_rfl) (by kernel_rfl) (by decide) (by kernel_rfl) (by kernel_rfl) (by intro _; kernel_rfl) (by rfl) (by intro _; kernel_rfl) ?_
  intro ρ2 e2
  refine esc_step (ch := 62) (z := [38, 103, 116, 59]) (L := [(38, [38, 97, 109, 112, 59]), (60, [38, 108, 116, 59])]) e2 hs (by decide +kernel) (by kernel_rfl) (by kernel_rfl) (by decide) (by kernel_rfl) (by kernel_rfl) (by intro _; kernel_rfl) (by rfl) (by intro _; kernel_rfl) ?_
  intro ρ3 e3
  refine retS <| nme e3 ?_
  have key := esc_eq (k := 6) (L := [(38, [38, 97, 109, 112, 59]), (60, [38, 108, 116, 59]), (62, [38, 103, 116, 59])]) (by decide +kernel) (nmc_out (by decide +kernel)) s
  show PV.sc (.str (tx (rps [(38, [38, 97, 109, 112, 59]), (60, [38, 108, 116, 59]), (62, [38, 103, 116, 59])] s))) = _
  rw [key]

theorem C_attrib (K : Wk vq C mg mb) (s : List Nat) (hs : s.length ≤ 200000) : Cd C (c + 1) mg "_escape_attrib" [.sc (.str (tx s))] (· = .sc (.str (tx (esc 7 s)))) := by
  refine cd_of K (d := dref 4) (ps := ["text"]) (by kernel_rfl) (by kernel_rfl) (bind1 fun _ _ _ _ => by kernel_rfl) rfl (by kernel_rfl) (by kernel_rfl) fun a cd => ?_
  refine s_try ?_
  refine esc_step (ch := 38) (z := [38, 97, 109, 112, 59]) (L := []) rfl hs (by decide +kernel) (by kernel_rfl) (by kernel_rfl) (by decide) (by kernel_rfl) (by kernel_rfl) (by intro _; kernel_rfl) (by rfl) (by intro _; kernel_rfl) ?_
  intro ρ1 e1
  refine esc_step (ch := 60) (z := [38, 108, 116, 59]) (L := [(38, [38, 97, 109, 112, 59])]) e1 hs (by decide +kernel) (by kernel_rfl) (by kernel_rfl) (by decide) (by kernel_rfl) (by kernel_rfl) (by intro _; kernel_rfl) (by rfl) (by intro _; kernel_rfl) ?_
  intro ρ2 e2
  refine esc_step (ch := 62) (z := [38, 103, 116, 59]) (L := [(38, [38, 97, 109, 112, 59]), (60, [38, 108, 116, 59])]) e2 hs (by decide +kernel) (by kernel_rfl) (by kernel_rfl) (by decide) (by kernel_rfl) (by kernel_rfl) (by intro _; kernel_rfl) (by rfl) (by intro _; kernel_rfl) ?_
  intro ρ3 e3
  refine esc_step (ch := 34) (z := [38, 113, 117, 111, 116, 59]) (L := [(38, [38, 97, 109, 112, 59]), (60, [38, 108, 116, 59]), (62, [38, 103, 116, 59])]) e3 hs (by decide +kernel) (by kernel_rfl) (by kernel_rfl) (by decide) (by kernel_rfl) (by kernel_rfl) (by intro _; kernel_rfl) (by rfl) (by intro _; kernel_rfl) ?_
  intro ρ4 e4
  refine esc_step (ch := 13) (z := [38, 35, 49, 51, 59]) (L := [(38, [38, 97, 109, 112, 59]), (60, [38, 108, 116, 59]), (62, [38, 103, 116, 59]), (34, [38, 113, 117, 111, 116, 59])]) e4 hs (by decide +kernel) (by kernel_rfl) (by kernel_rfl) (by decide) (by kernel_rfl) (by kernel_rfl) (by intro _; kernel_rfl) (by rfl) (by intro _; kernel_rfl) ?_
  intro ρ5 e5
  refine esc_step (ch := 10) (z := [38, 35, 49, 48, 59]) (L := [(38, [38, 97, 109, 112, 59]), (60, [38, 108, 116, 59]), (62, [38, 103, 116, 59]), (34, [38, 113, 117, 111, 116, 59]), (13, [38, 35, 49, 51, 59])]) e5 hs (by decide +kernel) (by kernel_rfl) (by kernel_rfl) (by decide) (by kernel_rfl) (by kernel_rfl) (by intro _; kernel_rfl) (by rfl) (by intro _; kernel_rfl) ?_
  intro ρ6 e6
  refine esc_step (ch := 9) (z := [38, 35, 48, 57, 59]) (L := [(38, [38, 97, 109, 112, 59]), (60, [38, 108, 116, 59]), (62, [38, 103, 116, 59]), (34, [38, 113, 117, 111, 116, 59]), (13, [38, 35, 49, 51, 59]), (10, [38, 35, 49, 48, 59])]) e6 hs (by decide +kernel) (by kernel_rfl) (by kernel_rfl) (by decide) (by kernel_rfl) (by kernel_rfl) (by intro _; kernel_rfl) (by rfl) (by intro _; kernel_rfl) ?_
  intro ρ7 e7
  refine retS <| nme e7 ?_
  have key := esc_eq (k := 7) (L := [(38, [38, 97, 109, 112, 59]), (60, [38, 108, 116, 59]), (62, [38, 103, 116, 59]), (34, [38, 113, 117, 111, 116, 59]), (13, [38, 35, 49, 51, 59]), (10, [38, 35, 49, 48, 59]), (9, [38, 35, 48, 57, 59])]) (by decide +kernel) (nmc_out (by decide +kernel)) s
  show PV.sc (.str (tx (rps [(38, [38, 97, 109, 112, 59]), (60, [38, 108, 116, 59]), (62, [38, 103, 116, 59]), (34, [38, 113, 117, 111, 116, 59]), (13, [38, 35, 49, 51, 59]), (10, [38, 35, 49, 48, 59]), (9, [38, 35, 48, 57, 59])] s))) = _
  rw [key]

theorem C_html (K : Wk vq C mg mb) (s : List Nat) (hs : s.length ≤ 200000) : Cd C (c + 1) mg "_escape_attrib_html" [.sc (.str (tx s))] (· = .sc (.str (tx (esc 8 s)))) := by
  refine cd_of K (d := dref 5) (ps := ["text"]) (by kernel_rfl) (by kernel_rfl) (bind1 fun _ _ _ _ => by kernel_rfl) rfl (by kernel_rfl) (by kernel_rfl) fun a cd => ?_
  refine s_try ?_
  refine esc_step (ch := 38) (z := [38, 97, 109, 112, 59]) (L := []) rfl hs (by decide +kernel) (by kernel_rfl) (by kernel_rfl) (by decide) (by kernel_rfl) (by kernel_rfl) (by intro _; kernel_rfl) (by rfl) (by intro _; kernel_rfl) ?_
  intro ρ1 e1
  refine esc_step (ch := 62) (z := [38, 103, 116, 59]) (L := [(38, [38, 97, 109, 112, 59])]) e1 hs (by decide +kernel) (by kernel_rfl) (by kernel_rfl) (by decide) (by kernel_rfl) (by kernel_rfl) (by intro _; kernel_rfl) (by rfl) (by intro _; kernel_rfl) ?_
  intro ρ2 e2
  refine esc_step (ch := 34) (z := [38, 113, 117, 111, 116, 59]) (L := [(38, [38, 97, 109, 112, 59]), (62, [38, 103, 116, 59])]) e2 hs (by decide +kernel) (by kernel_rfl) (by kernel_rfl) (by decide) (by kernel_rfl) (by kernel_rfl) (by intro _; kernel_rfl) (by rfl) (by intro _; kernel_rfl) ?_
  intro ρ3 e3
  refine retS <| nme e3 ?_
  have key := esc_eq (k := 8) (L := [(38, [38, 97, 109, 112, 59]), (62, [38, 103, 116, 59]), (34, [38, 113, 117, 111, 116, 59])]) (by decide +kernel) (nmc_out (by decide +kernel)) s
  show PV.sc (.str (tx (rps [(38, [38, 97, 109, 112, 59]), (62, [38, 103, 116, 59]), (34, [38, 113, 117, 111, 116, 59])] s))) = _
  rw [key]

theorem C_cdatac (K : Wk vq C mg mb) (s : List Nat) (hs : s.length ≤ 200000) : Cd C (c + 1) mg "_escape_cdata_c14n" [.sc (.str (tx s))] (· = .sc (.str (tx (esc 9 s)))) := by
  refine cd_of K (d := dref 6) (ps := ["text"]) (by kernel_rfl) (by kernel_rfl) (bind1 fun _ _ _ _ => by kernel_rfl) rfl (by kernel_rfl) (by kernel_rfl) fun a cd => ?_
  refine s_try ?_
  refine esc_step (ch := 38) (z := [38, 97, 109, 112, 59]) (L := []) rfl hs (by decide +kernel) (by kernel_rfl) (by kernel_rfl) (by decide) (by kernel_rfl) (by kernel_rfl) (by intro _; kernel_rfl) (by rfl) (by intro _; kernel_rfl) ?_
  intro ρ1 e1
  refine esc_step (ch := 60) (z := [38, 108, 116, 59]) (L := [(38, [38, 97, 109, 112, 59])]) e1 hs (by decide +kernel) (by kernel_rfl) (by kernel_rfl) (by decide) (by kernel_rfl) (by kernel_rfl) (by intro _; kernel_rfl) (by rfl) (by intro _; kernel_rfl) ?_
  intro ρ2 e2
  refine esc_step (ch := 62) (z := [38, 103, 116, 59]) (L := [(38, [38, 97, 109, 112, 59]), (60, [38, 108, 116, 59])]) e2 hs (by decide +kernel) (by kernel_rfl) (by kernel_rfl) (by decide) (by kernel_rfl) (by kernel_rfl) (by intro _; kernel_rfl) (by rfl) (by intro _; kernel_rfl) ?_
  intro ρ3 e3
  refine esc_step (ch := 13) (z := [38, 35, 120, 68, 59]) (L := [(38, [38, 97, 109, 112, 59]), (60, [38, 108, 116, 59]), (62, [38, 103, 116, 59])]) e3 hs (by decide +kernel) (by kernel_rfl) (by kernel_rfl) (by decide) (by kernel_rfl) (by kernel_rfl) (by intro _; kernel_rfl) (by rfl) (by intro _; kernel_rfl) ?_
  intro ρ4 e4
  refine retS <| nme e4 ?_
  have key := esc_eq (k := 9) (L := [(38, [38, 97, 109, 112, 59]), (60, [38, 108, 116, 59]), (62, [38, 103, 116, 59]), (13, [38, 35, 120, 68, 59])]) (by decide +kernel) (nmc_out (by decide +kernel)) s
  show PV.sc (.str (tx (rps [(38, [38, 97, 109, 112, 59]), (60, [38, 108, 116, 59]), (62, [38, 103, 116, 59]), (13, [38, 35, 120, 68, 59])] s))) = _
  rw [key]

theorem C_attribc (K : Wk vq C mg mb) (s : List Nat) (hs : s.length ≤ 200000) : Cd C (c + 1) mg "_escape_attrib_c14n" [.sc (.str (tx s))] (· = .sc (.str (tx (esc 10 s)))) := by
  refine cd_of K (d := dref 7) (ps := ["text"]) (by kernel_rfl) (by kernel_rfl) (bind1 fun _ _ _ _ => by kernel_rfl) rfl (by kernel_rfl) (by kernel_rfl) fun a cd => ?_
  refine s_try ?_
  refine esc_step (ch := 38) (z := [38, 97, 109, 112, 59]) (L := []) rfl hs (by decide +kernel) (by kernel_rfl) (by kernel_rfl) (by decide) (by kernel_rfl) (by kernel_rfl) (by intro _; kernel_rfl) (by rfl) (by intro _; kernel_rfl) ?_
  intro ρ1 e1
  refine esc_step (ch := 60) (z := [38, 108, 116, 59]) (L := [(38, [38, 97, 109, 112, 59])]) e1 hs (by decide +kernel) (by kernel_rfl) (by kernel_rfl) (by decide) (by kernel_rfl) (by kernel_rfl) (by intro _; kernel_rfl) (by rfl) (by intro _; kernel_rfl) ?_
  intro ρ2 e2
  refine esc_step (ch := 34) (z := [38, 113, 117, 111, 116, 59]) (L := [(38, [38, 97, 109, 112, 59]), (60, [38, 108, 116, 59])]) e2 hs (by decide +kernel) (by kernel_rfl) (by kernel_rfl) (by decide) (by kernel_rfl) (by kernel_rfl) (by intro _; kernel_rfl) (by rfl) (by intro _; kernel_rfl) ?_
  intro ρ3 e3
  refine esc_step (ch := 9) (z := [38, 35, 120, 57, 59]) (L := [(38, [38, 97, 109, 112, 59]), (60, [38, 108, 116, 59]), (34, [38, 113, 117, 111, 116, 59])]) e3 hs (by decide +kernel) (by kernel_rfl) (by kernel_rfl) (by decide) (by kernel_rfl) (by kernel_rfl) (by intro _; kernel_rfl) (by rfl) (by intro _; kernel_rfl) ?_
  intro ρ4 e4
  refine esc_step (ch := 10) (z := [38, 35, 120, 65, 59]) (L := [(38, [38, 97, 109, 112, 59]), (60, [38, 108, 116, 59]), (34, [38, 113, 117, 111, 116, 59]), (9, [38, 35, 120, 57, 59])]) e4 hs (by decide +kernel) (by kernel_rfl) (by kernel_rfl) (by decide) (by kernel_rfl) (by kernel_rfl) (by intro _; kernel_rfl) (by rfl) (by intro _; kernel_rfl) ?_
  intro ρ5 e5
  refine esc_step (ch := 13) (z := [38, 35, 120, 68, 59]) (L := [(38, [38, 97, 109, 112, 59]), (60, [38, 108, 116, 59]), (34, [38, 113, 117, 111, 116, 59]), (9, [38, 35, 120, 57, 59]), (10, [38, 35, 120, 65, 59])]) e5 hs (by decide +kernel) (by kernel_rfl) (by kernel_rfl) (by decide) (by kernel_rfl) (by kernel_rfl) (by intro _; kernel_rfl) (by rfl) (by intro _; kernel_rfl) ?_
  intro ρ6 e6
  refine retS <| nme e6 ?_
  have key := esc_eq (k := 10) (L := [(38, [38, 97, 109, 112, 59]), (60, [38, 108, 116, 59]), (34, [38, 113, 117, 111, 116, 59]), (9, [38, 35, 120, 57, 59]), (10, [38, 35, 120, 65, 59]), (13, [38, 35, 120, 68, 59])]) (by decide +kernel) (nmc_out (by decide +kernel)) s
  show PV.sc (.str (tx (rps [(38, [38, 97, 109, 112, 59]), (60, [38, 108, 116, 59]), (34, [38, 113, 117, 111, 116, 59]), (9, [38, 35, 120, 57, 59]), (10, [38, 35, 120, 65, 59]), (13, [38, 35, 120, 68, 59])] s))) = _
  rw [key]

end
end Mine
end
section
open PySem PySem.W PyProof.Rows PySem.Builtin PySem.Builtin.Re
set_option Elab.async false
set_option maxRecDepth 100000
set_option linter.all false
namespace Mine
/-- a pattern's object of the top -/
structure PtAt (h : Heap) (k : Nat) (a : Addr) (l : List Int) : Prop where
  ex : ∃ o fs ca, h.get? a = some o ∧ o.cls = .type "re.Pattern" ∧ o.dict = none ∧ o.data = .fields fs ∧ reRawNat (fs.getD 6 .none) = k ∧ reRawNat (fs.getD 2 .none) = 0 ∧ fs.getD 5 .none = .ref ca ∧
    ∃ oc n, h.get? ca = some oc ∧ oc.data = .seq (l.map fun i => Value.int i 0).toArray n
noncomputable def dotI : List Int := [14, 4, 0, 1, 1, 6, 1, 16, 46, 1]
noncomputable def eolI : List Int := [14, 9, 4, 1, 2, 16, 10, 16, 13, 0, 7, 7, 16, 13, 16, 10, 15, 18, 5, 16, 10, 15, 13, 11, 16, 13, 5, 5, 0, 16, 10, 1, 15, 2, 0, 1]
theorem dot_eq : dotI.toArray.map (·.toNat) = dotC := by decide +kernel
theorem eol_eq : eolI.toArray.map (·.toNat) = eolC := by decide +kernel
theorem srE_late {s : List Nat} : ∀ i, s.length < i → srE s i = none := fun i h => by unfold srE; rw [late h]; rfl
theorem srD_late {s : List Nat} : ∀ i, s.length < i → srD s i = none := fun i h => by unfold srD; rw [late h]; rfl
section
variable {C : Cx} {c : Nat} {f : Fn} {ρ : Lo} {mg mb : Tx → Option Value}
theorem OfType.pat {k : Nat} {a : Addr} {l : List Int} (hp : ∀ h, C.W h → PtAt h k a l) : OfType C "re.Pattern" (.obj a) := by
  intro X s v w r
  cases r
  obtain ⟨o, fs, ca, h1, h2, h3, _⟩ := (hp _ w).ex
  exact ⟨⟨o, h1, h2⟩, fun b e => by cases e; exact ⟨o, h1, h3⟩⟩
theorem b_sub {a : Addr} {l : List Int} {text z : List Nat} {srch : Nat → Option (Nat × Nat)} {P : PV → Prop} (hp : ∀ h, C.W h → PtAt h 0 a l) (z2 : z.length ≤ 2) (hz : z.contains 92 = false) (small : text.length ≤ 1000000)
    (F : Finds (l.toArray.map (·.toNat)) text srch) (hlate : ∀ i, text.length < i → srch i = none) (h : P (.sc (.str (tx (sb srch text z (text.length + 1) 0))))) : B_ C c "re.Pattern.sub" [.obj a, .sc (.str (tx z)), .sc (.str (tx text))] P := by
  rw [B_eq]
  intro A X s vs Q E r w b rs k
  cases rs with | cons r1 rs => cases rs with | cons r2 rs => cases rs with | cons r3 rs => cases rs; cases r1; cases r2 with | sc r2 => cases r3 with | sc r3 =>
  cases r2; cases r3
  obtain ⟨o, fs, ca, h1, h2, h3, h4, h5, h6, h7, h8⟩ := (hp _ w.1).ex
  exact call_sub h2 h1 h4 h5 h6 h7 h8 text z _ _ z2 hz small F hlate fun t' h' tk kk => k _ _ h' tk h kk.weak (.sc (.str _ _))

theorem C_eols (K : Wk vq C mg mb) {a3 : Addr} (m3 : mg "_twin_re_3" = some (.ref a3)) (hp : ∀ h, C.W h → PtAt h 0 a3 eolI) (s : List Nat) (hs : s.length ≤ 1000000) :
    Cd C (c + 1) mg "_fix_eols" [.sc (.str (tx s))] (· = .sc (.str (tx (es false s)))) := by
  refine cd_of K (d := dref 17) (ps := ["data"]) (by kernel_rfl) (by kernel_rfl) (bind1 fun _ _ _ _ => by kernel_rfl) rfl (by kernel_rfl) (by kernel_rfl) fun a cd => ?_
  obtain ⟨tc, hc⟩ := K.crlf
  refine retS <| e_meth plain_pat slot_sub type_sub <| e_glob K.toGd m3 (fun X h w b => .obj a3) ⟨OfType.pat hp, args2 <| e_glob K.toGd hc (fun X h w b => .sc (.str _ _)) <| nme rfl ?_⟩
  refine b_sub (z := [13, 10]) hp (by decide) (by decide) hs (by rw [eol_eq]; exact finds_E s hs) srE_late ?_
  rw [sb_es s _ 0 (Nat.zero_le _) (by omega)]; rfl
theorem C_quotedata (K : Wk vq C mg mb) {a1 a3 : Addr} (m1 : mg "_twin_re_1" = some (.ref a1)) (m3 : mg "_twin_re_3" = some (.ref a3)) (hp1 : ∀ h, C.W h → PtAt h 0 a1 dotI) (hp : ∀ h, C.W h → PtAt h 0 a3 eolI) (s : List Nat) (hs : s.length ≤ 1000000) (hs2 : (es false s).length ≤ 1000000) :
    Cd C (c + 1) mg "quotedata" [.sc (.str (tx s))] (· = .sc (.str (tx (ds true (es false s))))) := by
  refine cd_of K (d := dref 15) (ps := ["data"]) (by kernel_rfl) (by kernel_rfl) (bind1 fun _ _ _ _ => by kernel_rfl) rfl (by kernel_rfl) (by kernel_rfl) fun a cd => ?_
  obtain ⟨tc, hc⟩ := K.crlf
  refine retS <| e_meth plain_pat slot_sub type_sub <| e_glob K.toGd m1 (fun X h w b => .obj a1) ⟨OfType.pat hp1, args2 <| e_str <| e_meth plain_pat slot_sub type_sub <| e_glob K.toGd m3 (fun X h w b => .obj a3) ⟨OfType.pat hp, args2 <| e_glob K.toGd hc (fun X h w b => .sc (.str _ _)) <| nme rfl ?_⟩⟩
  refine b_sub (z := [13, 10]) hp (by decide) (by decide) hs (by rw [eol_eq]; exact finds_E s hs) srE_late ?_
  rw [sb_es s _ 0 (Nat.zero_le _) (by omega)]
  refine b_sub (z := [46, 46]) hp1 (by decide) (by decide) hs2 (by rw [dot_eq]; exact finds_D _ hs2) srD_late ?_
  rw [sb_ds _ _ 0 (Nat.zero_le _) (by omega)]; rfl
end
end Mine
end
section
open PySem PySem.W PyProof.Rows PySem.Builtin PySem.Builtin.Re
set_option Elab.async false
set_option maxRecDepth 100000
set_option linter.all false
namespace Mine
section
variable {prog : Program} {w : World}
theorem subOk_byt {h0 : Heap} {pa ca : Addr} {o : Obj} {fs : Array Value} {l : List Int} (hp : h0.get? pa = some o) (hf : o.data = .fields fs) (h6 : reRawNat (fs.getD 6 .none) = 1) (h2 : reRawNat (fs.getD 2 .none) = 0) (h5 : fs.getD 5 .none = .ref ca)
    (hc : ∃ o n, h0.get? ca = some o ∧ o.data = .seq (l.map fun i => Value.int i 0).toArray n) (text z : List Nat) (hb : ∀ n ∈ text, n < 256) (t t2 : Tok) (z2 : z.length ≤ 2) (small : text.length ≤ 1000000) {srch : Nat → Option (Nat × Nat)} (F : Finds (l.toArray.map (·.toNat)) text srch) :
    SubOk prog w (.ref pa) (.bytes (byl text) t) (.bytes (byl z) t2) { pattern := .ref pa, string := .bytes (byl text) t, code := l.toArray.map (·.toNat), text := text.toArray, kind := 1, groups := 0, pos := 0, lim := text.toArray.size } text z srch PRb [pa, ca] h0 where
  whole := fun A E s Q hk hq => by
    obtain ⟨oc, n, c1, c2⟩ := hc
    have := wholeB' (prog := prog) (w := w) (A := A) (E := E) (s := s) (x := byl text) (t := t) (Q := Q) ((hk pa (by simp)).trans hp) hf h6 h2 h5 ⟨oc, n, (hk ca (by simp)).trans c1, c2⟩
    rw [byl_back hb] at this
    exact this hq
  lit := fun A E s Q hq => by
    unfold reLiteralCannotBeTurned
    refine wpAny_bind (m := asStr? (.bytes (byl z) t2)) (wpAny_pure ?_)
    rw [if_pos (by rfl)]
    refine wpAny_bind (wpAny_isInstance (typeIs_bytes _ _ _) bb5 ?_)
    rw [if_neg (by decide)]
    exact wpAny_pure hq
  nn := rfl
  rep := ⟨t2, rfl⟩
  z2 := z2
  lim := List.size_toArray ..
  small := small
  find := fun A E s Q i hi hq => by
    obtain ⟨n, m', hn, g, r⟩ := F i hi
    unfold reNextFound
    cases hs : srch i with
    | none =>
      rw [hs] at r hq
      exact toEnd g hn false r hq
    | some pe =>
      obtain ⟨p, e⟩ := pe
      rw [hs] at r hq
      exact toEnd g hn true r.2.1 (hq.2.2.2 m' r.2.2.1 r.2.2.2)
  slice := fun A E s Q b e h1 h2 hq => by
    unfold reSlice
    rw [if_neg (show ¬ ((1 : Nat) == 0) = true by decide)]
    dsimp only
    have e1 : (text.toArray.extract b e).map (·.toUInt8) = byl ((text.drop b).take (e - b)) := by
      unfold byl; simp
    rw [e1]
    unfold mkBytes
    rw [if_neg (by rw [byl_len, List.length_take, List.length_drop]; exact Nat.not_lt.mpr (Nat.le_trans (Nat.le_trans (Nat.min_le_right _ _) (Nat.le_trans (Nat.sub_le _ _) small)) (show 1000000 ≤ sizeLine by decide)))]
    exact fun _ _ _ => hq _ _ ⟨_, rfl⟩
  join := fun A E s Q j la vs n zs hj hl hps hz hv hne hq => by
    obtain ⟨tj, rfl⟩ := hj
    rw [if_neg (show ¬ ((1 : Nat) == 0) = true by decide)]
    exact bjoin hl hps hz hne fun t k => hq _ _ ⟨t, rfl⟩
theorem call_subB {A : Around} {E : Value → Shared → Prop} {s : Shared} {pa ca : Addr} {o : Obj} {fs : Array Value} {l : List Int} (hcl : o.cls = .type "re.Pattern") (hp : s.heap.get? pa = some o) (hf : o.data = .fields fs) (h6 : reRawNat (fs.getD 6 .none) = 1) (h2 : reRawNat (fs.getD 2 .none) = 0) (h5 : fs.getD 5 .none = .ref ca)
    (hc : ∃ o n, s.heap.get? ca = some o ∧ o.data = .seq (l.map fun i => Value.int i 0).toArray n) (text z : List Nat) (hb : ∀ n ∈ text, n < 256) (t t2 : Tok) (z2 : z.length ≤ 2) (hz : (byl z).contains 92 = false) (small : text.length ≤ 1000000) {srch : Nat → Option (Nat × Nat)} (F : Finds (l.toArray.map (·.toNat)) text srch) (hlate : ∀ i, text.length < i → srch i = none)
    {Q : Value → Shared → Prop} (hQ : ∀ t' h' tk, Kp Option.none [] s.heap h' → Q (.bytes (byl (sb srch text z (text.length + 1) 0)) t') { s with heap := h', toks := tk }) :
    wpAny (model prog w) A (call (.builtin "re.Pattern.sub") [.ref pa, .bytes (byl z) t2, .bytes (byl text) t]) Q E s := by
  have hT : s.TypeIs (.ref pa) "re.Pattern" := ⟨o, hp, hcl⟩
  refine wpAny_call (codeAny_call_builtin slot_sub.plain entry_sub (slot_sub.check _ _ _ _ _ _ _ _ hT (args_sub _ _ _) ?_))
  show wpAny _ _ (reSubstitute "re.Pattern.sub" "sub" false ⟨[.ref pa, .bytes (byl z) t2, .bytes (byl text) t], []⟩) _ _ _
  unfold reSubstitute
  dsimp only
  refine wpAny_bind (wpAny_of_eq (named2 _ _) ?_)
  have K := subOk_byt (prog := prog) (w := w) hp hf h6 h2 h5 hc text z hb t t2 z2 small F
  refine wpAny_bind (wpAny_pure ?_)
  refine wpAny_bind (wpAny_specialOf (typeIs_bytes _ _ _) bb7 ?_)
  rw [if_neg (by simp)]
  refine wpAny_bind (wpAny_pure ?_)
  refine wpAny_bind (bufQ ?_)
  dsimp only
  have lit : (!(byl z).contains 92) = true := by rw [hz]; rfl
  refine wpAny_bind (wpAny_pure ?_)
  rw [if_neg (by simp), if_pos lit]
  refine wpAny_bind (wpAny_pure ?_)
  refine wpAny_bind (wpAny_holding (K.whole _ _ _ _ (fun _ _ => rfl) ?_))
  rw [if_neg (by simp)]
  refine wpAny_bind (wpAny_newObj_type ?_)
  have hla : s.heap.objs.size ∉ [pa, ca] := by
    intro m
    simp only [List.mem_cons, List.not_mem_nil, or_false] at m
    obtain ⟨oc, n, c1, _⟩ := hc
    rcases m with m | m
    · rw [← m] at hp; exact absurd (Heap.lt_size hp) (Nat.lt_irrefl _)
    · rw [← m] at c1; exact absurd (Heap.lt_size c1) (Nat.lt_irrefl _)
  have hk : ∀ b ∈ [pa, ca], (s.heap.push { cls := .type "list", data := .seq ([] : List Value).toArray }).get? b = s.heap.get? b := by
    intro b m
    simp only [List.mem_cons, List.not_mem_nil, or_false] at m
    obtain ⟨oc, n, c1, _⟩ := hc
    rcases m with rfl | rfl
    · rw [hp]; exact Heap.get?_push_of_some _ hp
    · rw [c1]; exact Heap.get?_push_of_some _ c1
  refine wpAny_pure ⟨plainId_quiet plain_loop _, ?_⟩
  refine loop_ok K hla (finds_mono F hlate) (text.length + 1) _ 0 0 [] [] 0 (Nat.zero_le _) (by omega) hk (Heap.get?_push_size _ rfl) .nil (by simp) (by simp) fun v h' tk hv kk => ?_
  obtain ⟨t', rfl⟩ := hv
  refine hQ t' h' tk ((Kp.push s.heap { cls := .type "list", data := .seq ([] : List Value).toArray }).then kk fun b m o' e => ?_)
  have : b = s.heap.objs.size := by simpa using m
  rw [this] at e
  exact absurd (Heap.lt_size e) (Nat.lt_irrefl _)
end
section
variable {C : Cx} {c : Nat} {f : Fn} {ρ : Lo} {mg mb : Tx → Option Value}
theorem b_subB {a : Addr} {l : List Int} {text z : List Nat} {srch : Nat → Option (Nat × Nat)} {P : PV → Prop} (hp : ∀ h, C.W h → PtAt h 1 a l) (z2 : z.length ≤ 2) (hz : (byl z).contains 92 = false) (hb : ∀ n ∈ text, n < 256) (small : text.length ≤ 1000000)
    (F : Finds (l.toArray.map (·.toNat)) text srch) (hlate : ∀ i, text.length < i → srch i = none) (h : P (.sc (.byt (byl (sb srch text z (text.length + 1) 0))))) : B_ C c "re.Pattern.sub" [.obj a, .sc (.byt (byl z)), .sc (.byt (byl text))] P := by
  rw [B_eq]
  intro A X s vs Q E r w b rs k
  cases rs with | cons r1 rs => cases rs with | cons r2 rs => cases rs with | cons r3 rs => cases rs; cases r1; cases r2 with | sc r2 => cases r3 with | sc r3 =>
  cases r2; cases r3
  obtain ⟨o, fs, ca, h1, h2, h3, h4, h5, h6, h7, h8⟩ := (hp _ w.1).ex
  exact call_subB h2 h1 h4 h5 h6 h7 h8 text z hb _ _ z2 hz small F hlate fun t' h' tk kk => k _ _ h' tk h kk.weak (.sc (.byt _ _))
theorem e_byt {P : PV → Prop} {x : List UInt8} {k : Nat} {pos : Pos} (hp : P (.sc (.byt x.toArray))) : E C c f (.Constant (.bytes x) k pos) ρ P := by
  rw [E_eq]
  intro A X L s Q E r w n b lo kk
  exact fun _ _ _ => (kk _ (.bytes x.toArray s.toks) s.heap (s.toks + 1) hp (Kp.refl _ _) (.sc (.byt x.toArray _)))
theorem byl_dd : byl [46, 46] = #[46, 46] := by decide +kernel
theorem C_qp (K : Wk vq C mg mb) {a2 : Addr} (m2 : mg "_twin_re_2" = some (.ref a2)) (hp : ∀ h, C.W h → PtAt h 1 a2 dotI) (s : List Nat) (hb : ∀ n ∈ s, n < 256) (hs : s.length ≤ 1000000) :
    Cd C (c + 1) mg "_quote_periods" [.sc (.byt (byl s))] (· = .sc (.byt (byl (ds true s)))) := by
  refine cd_of K (d := dref 16) (ps := ["bindata"]) (by kernel_rfl) (by kernel_rfl) (bind1 fun _ _ _ _ => by kernel_rfl) rfl (by kernel_rfl) (by kernel_rfl) fun a cd => ?_
  refine retS <| e_meth plain_pat slot_sub type_sub <| e_glob K.toGd m2 (fun X h w b => .obj a2) ⟨OfType.pat hp, args2 <| ?_⟩
  refine e_byt ?_
  refine nme rfl ?_
  show B_ C _ _ [_, .sc (.byt (#[46, 46])), _] _
  rw [← byl_dd]
  refine b_subB hp (by decide) (by decide +kernel) hb hs (by rw [dot_eq]; exact finds_D _ hs) srD_late ?_
  rw [sb_ds _ _ 0 (Nat.zero_le _) (by omega)]; rfl
end
end Mine
end
section
open PySem PySem.W PyProof.Rows PySem.Builtin
set_option Elab.async false
set_option maxRecDepth 100000
set_option linter.all false
namespace Mine
theorem slot_biter : Slot "bytes" "__iter__" "bytes.__iter__" :=
  .of (owner := "bytes") (n := "__iter__") (by rw [typeLookup_type, builtinLookup_eq_fast]; kernel_rfl) (by decide +kernel) (by decide +kernel) (by decide +kernel)
    (by first | exact .inl (by decide +kernel) | exact .inr (by decide +kernel)) (by rw [isSubtype_type]; kernel_rfl)
theorem entry_biter : entryFor table "bytes.__iter__" = some Builtin.«bytes.__iter__» := entryFor_of_tree (by kernel_rfl)
theorem args_biter (a : Value) : argsOk "bytes.__iter__" ⟨[a], []⟩ := by unfold argsOk; kernel_rfl
theorem slot_bnext : Slot "bytes_iterator" "__next__" "bytes_iterator.__next__" :=
  .of (owner := "bytes_iterator") (n := "__next__") (by rw [typeLookup_type, builtinLookup_eq_fast]; kernel_rfl) (by decide +kernel) (by decide +kernel) (by decide +kernel)
    (by first | exact .inl (by decide +kernel) | exact .inr (by decide +kernel)) (by rw [isSubtype_type]; kernel_rfl)
theorem entry_bnext : entryFor table "bytes_iterator.__next__" = some Builtin.«bytes_iterator.__next__» := entryFor_of_tree (by kernel_rfl)
theorem args_bnext (a : Value) : argsOk "bytes_iterator.__next__" ⟨[a], []⟩ := by unfold argsOk; kernel_rfl
theorem slot_biti : Slot "bytes_iterator" "__iter__" "bytes_iterator.__iter__" :=
  .of (owner := "bytes_iterator") (n := "__iter__") (by rw [typeLookup_type, builtinLookup_eq_fast]; kernel_rfl) (by decide +kernel) (by decide +kernel) (by decide +kernel)
    (by first | exact .inl (by decide +kernel) | exact .inr (by decide +kernel)) (by rw [isSubtype_type]; kernel_rfl)
theorem entry_biti : entryFor table "bytes_iterator.__iter__" = some Builtin.«dict_keyiterator.__iter__» :=
  entryFor_alias (id' := "dict_keyiterator.__iter__") (by kernel_rfl) rfl (by decide +kernel) (by kernel_rfl)
theorem args_biti (a : Value) : argsOk "bytes_iterator.__iter__" ⟨[a], []⟩ := by unfold argsOk; kernel_rfl
noncomputable def IsBIter (h : Heap) (a : Addr) (x : Array UInt8) (t : Tok) (i : Nat) : Prop :=
  ∃ o, h.get? a = some o ∧ o.cls = .type "bytes_iterator" ∧ o.data = .fields #[.bytes x t, .int i 0]
theorem IsBIter.typeIs {s : Shared} {a : Addr} {x : Array UInt8} {t : Tok} {i : Nat} (y : IsBIter s.heap a x t i) : s.TypeIs (.ref a) "bytes_iterator" :=
  let ⟨o, ho, hc, _⟩ := y; ⟨o, ho, hc⟩
section
variable {prog : Program} {w : World} {A : Around} {E : Value → Shared → Prop} {s : Shared}
theorem iter_b {x : Array UInt8} {t : Tok} {Q : Value → Shared → Prop} (hQ : Q (.ref s.heap.objs.size) { s with heap := s.heap.push { cls := .type "bytes_iterator", data := .fields #[.bytes x t, .int 0 0] } }) :
    wpAny (model prog w) A (pyIter (.bytes x t)) Q E s := by
  refine wpAny_pyIter_slot (typeIs_bytes s x t) slot_biter (wpAny_call_entry slot_biter (typeIs_bytes s x t) entry_biter ?_ (args_biter _))
  show wpAny _ _ (do ret (← newFields "bytes_iterator" [.bytes x t, rawInt 0])) _ _ s
  exact wpAny_bind (wpAny_newObj_type (wpAny_pure ⟨_, rfl, "bytes_iterator", _, ⟨_, Heap.get?_push_size _ rfl, rfl⟩, slot_bnext.lookup, hQ⟩))
theorem next_b {it : Addr} {x : Array UInt8} {t : Tok} {i : Nat} {b : UInt8} {Q : Option Value → Shared → Prop} (hit : IsBIter s.heap it x t i) (hx : x[i]? = some b)
    (hQ : ∀ h', IsBIter h' it x t (i + 1) → Heap.SameBut it s.heap h' → Q (some (.int b.toNat s.toks)) { s with heap := h', toks := s.toks + 1 }) :
    wpAny (model prog w) A (pyNext (.ref it)) Q E s := by
  obtain ⟨o, ho, hc, hd⟩ := id hit
  unfold pyNext
  refine wpAny_bind (wpAny_attempt (wpAny_callSpecial?_slot (name := Str.ofString "__next__") hit.typeIs slot_bnext
    (wpAny_call_entry slot_bnext hit.typeIs entry_bnext ?_ (args_bnext _))))
  show wpAny _ _ (field (.ref it) 0 >>= _) _ _ s
  refine wpAny_bind (wpAny_field ho hd (x := .bytes x t) rfl ?_)
  show wpAny _ _ (if (Value.bytes x t == Value.none) = true then _ else _) _ _ s
  rw [if_neg (show ¬ ((Value.bytes x t == Value.none) = true) from Bool.false_ne_true)]
  show wpAny _ _ (field (.ref it) 1 >>= _) _ _ s
  refine wpAny_bind (wpAny_field ho hd (x := .int i 0) rfl ?_)
  dsimp only
  refine wpAny_bind (wpAny_pure (a := x) ?_)
  simp only [Int.toNat_natCast, hx]
  refine wpAny_bind (wpAny_setField ho hd (by simp) ?_)
  have fin : IsBIter (s.heap.update it (Obj.mapFields fun a => a.setIfInBounds 1 (rawInt (i + 1)))) it x t (i + 1) :=
    ⟨_, Heap.get?_update_self _ ho (Obj.isFreed_of_fields (Obj.data_mapFields hd _)), (Obj.cls_mapFields ..).trans hc, by rw [Obj.data_mapFields hd]; simp [rawInt]⟩
  have q := hQ _ fin (Heap.SameBut.update ..)
  refine wpAny_bind (m := mkInt _) (fun _ _ _ => ?_)
  exact wpAny_pure ⟨_, rfl, wpAny_pure q⟩
theorem end_b {it : Addr} {x : Array UInt8} {t : Tok} {i : Nat} {Q : Option Value → Shared → Prop} (hh : A.handled = none)
    (hit : IsBIter s.heap it x t i) (hx : x[i]? = none)
    (hQ : ∀ h', Heap.ExtBut it s.heap h' → Q none { s with heap := h' }) : wpAny (model prog w) A (pyNext (.ref it)) Q E s := by
  obtain ⟨o, ho, hc, hd⟩ := id hit
  unfold pyNext
  refine wpAny_bind (wpAny_attempt (wpAny_callSpecial?_slot (name := Str.ofString "__next__") hit.typeIs slot_bnext
    (wpAny_call_entry slot_bnext hit.typeIs entry_bnext ?_ (args_bnext _))))
  show wpAny _ _ (field (.ref it) 0 >>= _) _ _ s
  refine wpAny_bind (wpAny_field ho hd (x := .bytes x t) rfl ?_)
  show wpAny _ _ (if (Value.bytes x t == Value.none) = true then _ else _) _ _ s
  rw [if_neg (show ¬ ((Value.bytes x t == Value.none) = true) from Bool.false_ne_true)]
  show wpAny _ _ (field (.ref it) 1 >>= _) _ _ s
  refine wpAny_bind (wpAny_field ho hd (x := .int i 0) rfl ?_)
  dsimp only
  refine wpAny_bind (wpAny_pure (a := x) ?_)
  simp only [Int.toNat_natCast, hx]
  refine wpAny_bind (wpAny_rule (wpAny_bind (wpAny_setField ho hd (by simp) ?_)))
  show wpAny _ _ (newExc (.type "StopIteration") [] >>= _) _ _ _
  refine wpAny_bind ?_
  simp only [newExc, newTuple]
  refine wpAny_bind (wpAny_newObj_type ?_ (by size_fits))
  refine wpAny_bind (m := firstArgMember _ _) (wpAny_of_eq (a := Value.none) (by first | rfl | (simp only [firstArgMember]; rfl)) ?_)
  refine wpAny_newObj_type ?_ (by size_fits)
  simp only [raiseNew]
  refine wpAny_bind (wpAny_handled ?_)
  rw [show A.in1.handled = none from hh]
  refine wpAny_bind (wpAny_pure (wpAny_throw ?_))
  refine wpAny_bind (wpAny_isInstance (T := "StopIteration") (b := true) ⟨_, Heap.get?_push_size _ rfl, rfl⟩ isSubtype_stop ?_)
  exact wpAny_pure (hQ _ (((Heap.SameBut.update ..).extBut.push _).push _))
theorem iter_bself {it : Addr} {x : Array UInt8} {t : Tok} {i : Nat} {Q : Value → Shared → Prop} (hit : IsBIter s.heap it x t i) (h : Q (.ref it) s) : wpAny (model prog w) A (pyIter (.ref it)) Q E s := by
  refine wpAny_pyIter_slot hit.typeIs slot_biti (wpAny_call_entry slot_biti hit.typeIs entry_biti ?_ (args_biti _))
  show wpAny _ _ (ret (.ref it)) _ _ s
  exact wpAny_pure ⟨_, rfl, "bytes_iterator", _, hit.typeIs, slot_bnext.lookup, h⟩
end
noncomputable def ByteAt (x : Array UInt8) (i : Nat) (v : Value) : Prop := ∃ c u, x[i]? = some c ∧ v = .int c.toNat u
theorem Walks.byts {prog : Program} {w : World} {A : Around} (hh : A.handled = none) (I : Addr) (x : Array UInt8) (t : Tok) :
    Walks prog w A I [I] [I] x.size (ByteAt x) (fun i h => IsBIter h I x t i) where
  sub := fun _ hb => hb
  frame := fun _ _ _ st hk => let ⟨o, ho, r⟩ := st; ⟨o, hk I (by simp) o ho, r⟩
  item := fun i s Q E hi st hQ => by
    refine next_b st (b := x[i]) (by simp [hi]) fun h' hit' hs' => ?_
    exact hQ _ h' (s.toks + 1) ⟨_, _, by simp [hi], rfl⟩ hit' fun b o hb e => hs'.extBut b o (fun h => hb (by simp [h])) e
  done := fun s Q E st hQ => end_b hh st (by simp) fun h' he' => hQ h' s.toks fun b o hb e => he' b o (fun h => hb (by simp [h])) e
  self := fun _ _ _ _ st hQ => iter_bself st hQ
noncomputable def octets (x : Array UInt8) : List Sc := x.toList.map fun n => Sc.int n.toNat
theorem octets_length (x : Array UInt8) : (octets x).length = x.size := by simp [octets]
theorem Itb.byt {C : Cx} {X : List Addr} {h : Heap} {v : Value} {x : Array UInt8} (r : Rep X h v (.sc (.byt x))) : Itb C X h v (octets x) := by
  intro A s Q E hh k bd kk
  cases r with | sc r =>
  cases r with | byt _ t =>
  refine iter_b ?_
  have W := Walks.byts (prog := C.prog) (w := C.w) hh s.heap.objs.size x t
  rw [← octets_length] at W
  refine kk _ _ _ _ _ _ s.toks W ⟨_, Heap.get?_push_size _ rfl, rfl, rfl⟩ (fun i v hi hv => ?_) (Kp.push _ _) (fun b hb => ?_) (fun b hb => ?_) (fun i h'' st b hb => ?_) fun i h'' st b hb => ?_
  · obtain ⟨c, u, hc, rfl⟩ := hv
    exact ⟨.int c.toNat, by simp [octets, hc], .int _ _⟩
  · obtain rfl : b = _ := by simpa using hb
    cases q : s.heap.get? s.heap.objs.size with
    | none => rfl
    | some o => exact absurd (Heap.lt_size q) (Nat.lt_irrefl _)
  · obtain rfl : b = _ := by simpa using hb
    exact bd.size
  · obtain rfl : b = _ := by simpa using hb
    obtain ⟨o, q1, _, q2⟩ := st; exact ⟨o, q1, fun es n q => by rw [q2] at q; cases q⟩
  · obtain rfl : b = _ := by simpa using hb
    obtain ⟨o, q1, _, q2⟩ := st; exact ⟨o, _, q1, q2⟩
theorem i_ofB {C : Cx} {c : Nat} {f : Fn} {ρ : Lo} {e : PySem.Expr} {P : List Sc → Prop} (h : E C c f e ρ fun x => ∃ b, x = .sc (.byt b) ∧ P (octets b)) : EI C c f e ρ P := by
  rw [EI_eq]
  rw [E_eq] at h
  intro A X L s Q E r w n b l k
  refine h A X L s Q E r w n b l fun x v h' t' p kk rep => ?_
  obtain ⟨b', rfl, p⟩ := p
  exact k _ v h' t' p kk (.byt rep)
end Mine
end
section
open PySem PySem.W PyProof.Rows PySem.Builtin
set_option Elab.async false
set_option maxRecDepth 100000
set_option linter.all false
namespace Mine
theorem mro_bytes : mroOf (.type "bytes") = pure [.type "bytes", .type "object"] := by kernel_rfl
theorem lookup_bytes_new : typeLookup (.type "bytes") "__new__" = pure (some (.builtin "bytes.__new__")) := by rw [typeLookup_type, builtinLookup_eq_fast]; kernel_rfl
theorem slot_bytes_init : Slot "bytes" "__init__" "object.__init__" :=
  .of (owner := "object") (n := "__init__") (by rw [typeLookup_type, builtinLookup_eq_fast]; kernel_rfl) (by decide +kernel) (by decide +kernel) (by decide +kernel)
    (by first | exact .inl (by decide +kernel) | exact .inr (by decide +kernel)) (by rw [isSubtype_type]; kernel_rfl)
theorem called_bytes : TypeCalled "bytes" "bytes.__new__" "object.__init__" :=
  ⟨by decide +kernel, by decide +kernel, ⟨_, _, mro_bytes⟩, madeBy_type mro_bytes lookup_bytes_new (by decide +kernel), by decide +kernel, by rw [isSubtype_type]; kernel_rfl, slot_bytes_init⟩
theorem typeCall_bytes (a : Value) : checkTypeCall "bytes" ⟨[a], []⟩ = pure () := by kernel_rfl
theorem newCall_bytes (a : Value) : checkBuiltinCall "bytes.__new__" ⟨[.type "bytes", a], []⟩ = pure () := by kernel_rfl
theorem entry_bytes_new : entryFor table "bytes.__new__" = some Builtin.«bytes.__new__» := entryFor_of_tree (by kernel_rfl)
theorem entry_bytes_loop : entryFor table "bytes.__new__.loop" = some Builtin.«bytes.__new__.loop» := entryFor_of_tree (by kernel_rfl)
theorem plain_bytes_loop : plainId "bytes.__new__.loop" = true := by decide +kernel
theorem args_object_init (a b : Value) : argsOk "object.__init__" ⟨[a, b], []⟩ := by unfold argsOk; kernel_rfl
theorem list_bytes : typeLookup (.type "list") "__bytes__" = pure none := by rw [typeLookup_type, builtinLookup_eq_fast]; kernel_rfl
theorem list_index : typeLookup (.type "list") "__index__" = pure none := by rw [typeLookup_type, builtinLookup_eq_fast]; kernel_rfl
theorem list_buffer : typeLookup (.type "list") "__buffer__" = pure none := by rw [typeLookup_type, builtinLookup_eq_fast]; kernel_rfl
theorem list_len : typeLookup (.type "list") "__len__" = pure (some (.builtin "list.__len__")) := by rw [typeLookup_type, builtinLookup_eq_fast]; kernel_rfl
noncomputable def Small8 (vs : List Value) (ns : List Nat) : Prop := vs.length = ns.length ∧ ∀ (i : Nat) (v : Value), vs[i]? = some v → ∃ t n, ns[i]? = some n ∧ n < 256 ∧ v = Value.int (n : Int) t
section
variable {prog : Program} {w : World} {A : Around} {R : Result → Shared → Prop}
theorem bytes_loop {it l B : Addr} {vs : List Value} {ns : List Nat} (hh : A.handled = none) (sm : Small8 vs ns) (hsz : ns.length ≤ 1000000) (h1 : l ≠ it) (h2 : B ≠ it) (h3 : B ≠ l) :
    ∀ (k i : Nat) (s : Shared), vs.length - i = k → i ≤ vs.length → s.heap.IsListIter it l i → s.heap.IsList l vs.toArray → s.heap.get? B = some { cls := .type "bytearray", data := .bytearray (byl (ns.take i)) } →
      (∀ h' tk t, (∀ b o, b ≠ it → b ≠ B → s.heap.get? b = some o → h'.get? b = some o) → R (.ok (.ret (.bytes (byl ns) t))) { s with heap := h', toks := tk }) →
      codeAny (model prog w) A (.builtin "bytes.__new__.loop" ⟨[.type "bytes", .ref it, .ref B], []⟩) R s := by
  intro k
  induction k with
  | zero =>
    intro i s hk hi hit hl hB hR
    have hin : i = vs.length := by omega
    refine codeAny_builtin entry_bytes_loop ?_
    rw [Around.under_plainId plain_bytes_loop _]
    show wpAny _ A.in1 (pyNext (.ref it) >>= _) _ _ s
    refine wpAny_bind (wpAny_pyNext_list_end hh hit hl (by rw [hin]; simp) fun h' he => ?_)
    have hB' := he B _ h2 hB
    have tk : ns.take i = ns := List.take_of_length_le (by have := sm.1; omega)
    rw [tk] at hB'
    dsimp only
    refine wpAny_bind (m := Bytes.payload (.ref B)) ?_
    unfold Bytes.payload Bytes.payload?
    refine wpAny_bind (wpAny_bind (wpAny_load hB' ?_))
    refine wpAny_pure (wpAny_pure ?_)
    refine wpAny_bind (m := mkBytes _) ?_
    unfold mkBytes
    rw [if_neg (by rw [byl_len]; exact Nat.not_lt.mpr (Nat.le_trans hsz (show 1000000 ≤ sizeLine by decide)))]
    refine fun _ _ _ => ?_
    refine wpAny_pure (hR h' _ _ fun b o hb hb2 e => he b o hb e)
  | succ k ih =>
    intro i s hk hi hit hl hB hR
    refine codeAny_builtin entry_bytes_loop ?_
    rw [Around.under_plainId plain_bytes_loop _]
    show wpAny _ A.in1 (pyNext (.ref it) >>= _) _ _ s
    have hlt : i < vs.length := by omega
    refine wpAny_bind (wpAny_pyNext_list_item hit hl (x := vs[i]) (by simp [hlt]) fun h' hit' sb => ?_)
    obtain ⟨t, n, e1, e2, e3⟩ := sm.2 i vs[i] (by simp [hlt])
    rw [e3]
    dsimp only
    refine wpAny_bind (wpAny_holding ?_)
    show wpAny _ _ (asIndex (.int (n : Int) t)) _ _ _
    unfold asIndex
    refine wpAny_bind (m := asInt? _) (wpAny_pure ?_)
    refine wpAny_pure ?_
    refine wpAny_bind (wpAny_letGo ?_)
    rw [if_neg (by simp; omega)]
    have hB' : h'.get? B = _ := (sb.2 B h2).trans hB
    refine wpAny_bind (m := Bytes.write (.ref B) _) ?_
    unfold Bytes.write updateBytearray
    dsimp only
    refine wpAny_bind (wpAny_load hB' ?_)
    dsimp only
    refine wpAny_bind (wpAny_update hB' ?_)
    have e4 : (byl (ns.take i)).push ((n : Int).toNat.toUInt8) = byl (ns.take (i + 1)) := by
      rw [List.take_add_one, e1]; simp [byl]
    have hg := Heap.get?_update_self (Obj.mapBytearray fun x => x.push ((n : Int).toNat.toUInt8)) hB' rfl
    have e5 : Obj.mapBytearray (fun x => x.push ((n : Int).toNat.toUInt8)) { cls := .type "bytearray", data := .bytearray (byl (ns.take i)) } = { cls := .type "bytearray", data := .bytearray (byl (ns.take (i + 1))) } := by
      rw [← e4]; rfl
    rw [e5] at hg
    refine wpAny_lookBehind hg ?_ ?_
    · show (if (byl (ns.take (i + 1))).size > sizeLine then some "bytearray:memory" else none) = none
      rw [if_neg (by rw [byl_len, List.length_take]; exact Nat.not_lt.mpr (Nat.le_trans (Nat.min_le_right _ _) (Nat.le_trans hsz (show 1000000 ≤ sizeLine by decide))))]
    refine wpAny_pure ⟨plainId_quiet plain_bytes_loop _, ?_⟩
    have sb2 : Heap.SameBut B h' (h'.update B (Obj.mapBytearray fun x => x.push ((n : Int).toNat.toUInt8))) := Heap.SameBut.update ..
    refine ih (i + 1) { s with heap := h'.update B (Obj.mapBytearray fun x => x.push ((n : Int).toNat.toUInt8)) } (by omega) (by omega) ?_ ?_ hg fun h'' tk t ff => hR h'' tk t fun b o hb hb2 e => ?_
    · obtain ⟨o, q1, q2⟩ := hit'
      exact ⟨o, (sb2.2 it (Ne.symm h2)).trans q1, q2⟩
    · obtain ⟨o, q1, q2⟩ := hl
      exact ⟨o, (sb2.2 l (Ne.symm h3)).trans ((sb.2 l h1).trans q1), q2⟩
    · exact ff b o hb hb2 ((sb2.2 b hb2).trans ((sb.2 b hb).trans e))
theorem bind_opt (v : Value) : Bytes.bindOptional "bytes.__new__" "bytes" ["source", "encoding", "errors"] [v] [] = pure [some v, none, none] := by kernel_rfl
theorem split_len : splitId "list.__len__" = some ("list", "__len__") := by decide +kernel
theorem sub_ll : isSubtype (.type "list") (.type "list") = pure true := by rw [isSubtype_type]; kernel_rfl
theorem bnew_meets (l : Addr) : Meets (Builtin.«bytes.__new__» ⟨[.type "bytes", .ref l], []⟩) (fun A R s => A.handled = none ∧ ∃ vs ns, s.heap.IsList l vs.toArray ∧ Small8 vs ns ∧ ns.length ≤ 1000000 ∧
    ∀ h' tk t, Kp Option.none [] s.heap h' → R (.ok (.ret (.bytes (byl ns) t))) { s with heap := h', toks := tk }) := by
  intro prog w A R s hs
  obtain ⟨hh, vs, ns, hl, sm, hsz, hR⟩ := hs
  have hT : s.TypeIs (.ref l) "list" := let ⟨o, a, b, _⟩ := hl; ⟨o, a, b⟩
  unfold Builtin.«bytes.__new__»
  dsimp only
  have hsub := bb5
  refine wpAny_bind (m := isType _) (wpAny_pure ?_)
  rw [if_neg (by decide)]
  refine wpAny_bind (wpAny_of_eq bb5 ?_)
  rw [if_neg (by decide)]
  refine wpAny_bind (wpAny_of_eq (bind_opt _) ?_)
  dsimp only
  refine wpAny_bind (m := Bytes.checkCodecArg _ _ _ _) (wpAny_pure ?_)
  refine wpAny_bind (m := Bytes.checkCodecArg _ _ _ _) (wpAny_pure ?_)
  rw [if_neg (by simp)]
  refine wpAny_bind (wpAny_specialOf hT list_bytes ?_)
  dsimp only
  obtain ⟨o, ho, hc, nn, hd⟩ := id hl
  refine wpAny_bind (wpAny_bind (m := asStr? _) ?_)
  unfold asStr?
  refine wpAny_bind (wpAny_load ho ?_)
  rw [hd]
  refine wpAny_pure (wpAny_pure ?_)
  rw [if_neg (by simp)]
  refine wpAny_bind (wpAny_specialOf hT list_index ?_)
  rw [if_pos (by rfl)]
  show wpAny _ _ (Bytes.buffer? "bytes.__new__" (.ref l) true >>= _) _ _ _
  have bufL : ∀ (Q : Option (Array UInt8) → Shared → Prop) (E : Value → Shared → Prop), Q none s → wpAny (model prog w) A.in1 (Bytes.buffer? "bytes.__new__" (.ref l) true) Q E s := fun Q E hq => by
    unfold Bytes.buffer?
    refine wpAny_bind (wpAny_specialOf hT list_buffer ?_)
    dsimp only
    refine wpAny_bind (wpAny_specialOf hT list_buffer ?_)
    exact wpAny_pure hq
  refine wpAny_bind (bufL _ _ ?_)
  dsimp only
  refine wpAny_bind (wpAny_tryCatch (wpAny_pyIter_list hl ?_))
  refine wpAny_bind (wpAny_holding ?_)
  have hT2 : Shared.TypeIs { s with heap := s.heap.push { cls := Value.type "list_iterator", data := Data.fields #[Value.ref l, Value.int 0 0] } } (.ref l) "list" := ⟨o, Heap.get?_push_of_some _ ho, hc⟩
  have hint : ∀ (s : Shared) (Q : Unit → Shared → Prop) (E : Value → Shared → Prop), s.TypeIs (.ref l) "list" → Q () s → wpAny (model prog w) A.in1 (Bytes.lengthHint "bytes.__new__" (.ref l)) Q E s := fun s Q E hT hq => by
    unfold Bytes.lengthHint
    refine wpAny_bind (wpAny_specialOf hT list_len ?_)
    dsimp only
    rw [split_len]
    dsimp only
    refine wpAny_bind (wpAny_isInstance hT sub_ll ?_)
    rw [if_neg (by decide)]
    rw [if_pos (by decide +kernel)]
    exact wpAny_pure hq
  refine hint _ _ _ hT2 ?_
  refine wpAny_bind (m := Bytes.newBytearray _) (wpAny_newObj_type ?_ (by size_fits))
  refine wpAny_pure ⟨plainId_quiet plain_bytes_loop _, ?_⟩
  have hlt := Heap.lt_size ho
  refine bytes_loop hh sm hsz (l := l) (it := s.heap.objs.size) (by exact Nat.ne_of_lt hlt) (by simp [Heap.push]) (by simp only [Heap.push, Array.size_push]; exact Nat.ne_of_gt (Nat.lt_succ_of_lt hlt)) vs.length 0 _ rfl (Nat.zero_le _) ?_ ?_ ?_ fun h' tk t ff => ?_
  · exact ⟨_, Heap.get?_push_of_some _ (Heap.get?_push_size _ rfl), rfl, rfl⟩
  · exact ⟨o, Heap.get?_push_of_some _ (Heap.get?_push_of_some _ ho), hc, nn, hd⟩
  · exact Heap.get?_push_size _ rfl
  · refine hR h' tk t (Kp.of fun b o e => ff b o ?_ ?_ (Heap.get?_push_of_some _ (Heap.get?_push_of_some _ e)))
    · have := Heap.lt_size e; exact Nat.ne_of_lt this
    · have := Heap.lt_size e; simp only [Heap.push, Array.size_push]; exact Nat.ne_of_lt (Nat.lt_succ_of_lt this)
theorem call_bytes {E : Value → Shared → Prop} {s : Shared} {l : Addr} {vs : List Value} {ns : List Nat} {Q : Value → Shared → Prop} (hh : A.handled = none) (hl : s.heap.IsList l vs.toArray) (sm : Small8 vs ns) (hsz : ns.length ≤ 1000000)
    (hQ : ∀ h' tk t, Kp Option.none [] s.heap h' → Q (.bytes (byl ns) t) { s with heap := h', toks := tk }) : wpAny (model prog w) A (call (.type "bytes") [.ref l]) Q E s :=
  callType_new called_bytes (by decide) (typeCall_bytes _) (newCall_bytes _) (fun obj => args_object_init obj _) entry_bytes_new (bnew_meets l)
    ⟨hh, vs, ns, hl, sm, hsz, fun h' tk t kk => ⟨typeIs_bytes _ _ _, hQ h' tk t kk⟩⟩
end
section
variable {C : Cx} {c : Nat} {f : Fn} {ρ : Lo} {mg mb : Tx → Option Value}
noncomputable def oL (ns : List Nat) : List Sc := ns.map fun n : Nat => Sc.int (n : Int)
theorem small8_of {vs : List Value} {ns : List Nat} (r : ScsR vs (oL ns)) (hb : ∀ n ∈ ns, n < 256) : Small8 vs ns := by
  refine ⟨by have := r.length; simpa [oL] using this, fun i v e => ?_⟩
  have hi : i < ns.length := by
    have h1 := r.length
    have h2 := (List.getElem?_eq_some_iff.mp e).1
    simp [oL] at h1; omega
  obtain ⟨v', e', q⟩ := r.get (i := i) (x := Sc.int (ns[i] : Int)) (by simp [hi, oL])
  rw [e] at e'; cases e'
  cases q with | int _ t => exact ⟨t, ns[i], by simp [hi], hb _ (List.getElem_mem hi), rfl⟩
/-- bytes([..]) -/
theorem callBytes {p pos : Pos} {e : PySem.Expr} {P : PV → Prop} (G : Gd C mg mb) (hmg : mg (Str.ofString "bytes") = Option.none) (hmb : mb (Str.ofString "bytes") = some (.type "bytes"))
    (h : E C c f e ρ fun x => ∃ ns : List Nat, x = .list (oL ns) ∧ (∀ n ∈ ns, n < 256) ∧ ns.length ≤ 1000000 ∧ P (.sc (.byt (byl ns))))
    (hargs : ∀ L, (backTo pos (starEach [e] (f.env L))).any (·.1) = false := by intro _; kernel_rfl) (he : ∀ L, starEach [e] (f.env L) = (false, eval e (f.env L)) :: starEach [] (f.env L) := by intro _; kernel_rfl) (hk : f.sc.names.lookup (Str.ofString "bytes") = some .globalImplicit := by kernel_rfl) :
    E C c f (.Call (.Name (Str.ofString "bytes") p) [e] [] pos) ρ P := by
  rw [E_eq] at *
  intro A X L s Q E r w n b l k
  refine wpAny_Call_NameR (Calls.Name_function_global f.fk hk (Calls.loadGlobal_builtin (env := f.env L) (G.g _ w.1) hmg (G.b _ w.1) hmb ?_) (by decide))
  refine PyProof.Rows.callWith_type (hargs L) (args_of (EVs.cons (P := fun xs => ∃ ns : List Nat, xs = [.list (oL ns)] ∧ (∀ n ∈ ns, n < 256) ∧ ns.length ≤ 1000000 ∧ P (.sc (.byt (byl ns)))) (EV.mono h fun x q => ?_) he) _ r w n b l (hargs L) fun xs vs h1 t1 p k1 r1 w1 => ?_)
  · obtain ⟨ns, rfl, q⟩ := q
    exact EVs.nil ⟨ns, rfl, q⟩
  obtain ⟨ns, rfl, hb, hsz, hp⟩ := p
  cases r1 with | cons r1 rs =>
  cases rs
  cases r1 with
  | list hx ho rr =>
    exact call_bytes r.1 ho (small8_of rr hb) hsz fun h2 tk t kk => k _ _ h2 tk hp (k1.trans kk.weak) (.sc (.byt _ _))
end
end Mine
end
section
open PySem PySem.W PyProof.Rows PySem.Calls
set_option Elab.async false
set_option maxRecDepth 100000
set_option linter.all false
namespace Mine
noncomputable def lowA (n : Nat) : Nat := if 65 ≤ n ∧ n ≤ 90 then n + 32 else n
theorem low_small : ∀ n, n < 128 ∨ n = 173 → Txt.lower (tx [n]) = tx [lowA n] := by
  have h : ((List.range 128 ++ [173]).all fun n => decide (Txt.lower (tx [n]) = tx [lowA n])) = true := by decide +kernel
  intro n hn
  have := List.all_eq_true.mp h n (by
    rcases hn with hn | hn
    · exact List.mem_append_left _ (List.mem_range.mpr hn)
    · subst hn; exact List.mem_append_right _ (by simp))
  exact of_decide_eq_true this
noncomputable def b1L : List Int := [65024, 65025, 65026, 65027, 65028, 65029, 6150, 65030, 65031, 65032, 65033, 6155, 6156, 6157, 8203, 8204, 8205, 65034, 65035, 65036, 65037, 65038, 65039, 173, 847, 8288, 65279]
section
variable {C : Cx} {c : Nat} {f : Fn} {ρ : Lo} {mg mb : Tx → Option Value}
theorem o_inSet {i : Int} {a : Addr} {S : Int → Bool} {n : Nat} {P : PV → Prop} (hS : ∀ h, C.W h → h.SetOf (intKind C.prog C.w) a S n) (hp : P (.sc (.bool (S i)))) : O_ C c (compareOp .In) (.sc (.int i)) (.obj a) P := by
  rw [O_eq]
  intro A X s va vb Q E r w b ra rb k
  cases ra with | sc ra => cases ra with | int _ t =>
  cases rb
  exact wpAny_inSet_of (knd := intKind C.prog C.w) (k := i) (by simp [intKind, Value.isInt]) rfl (hS _ w.1) (k _ _ s.heap _ hp (Kp.refl _ _) (.sc (.bool _)))
/-- a dict of whole numbers from 181 on -/
noncomputable def DW (h : Heap) (a : Addr) : Prop := (∃ o, h.get? a = some o ∧ o.cls = .type "dict" ∧ o.dict = none) ∧ ∃ f, h.IntMap a f ∧ ∀ i, i < 181 → f i = none
theorem meets_dget {prog : Program} {w : World} {a : Addr} {i : Int} {t : Tok} (hd : (a == sysModules) = false) :
    MeetsIn prog w (Builtin.«dict.get» ⟨[.ref a, .int i t], []⟩) (fun _ R s => ∃ f, s.heap.IntMap a f ∧ f i = none ∧ R (.ok (.ret .none)) { s with toks := s.toks + 1 }) :=
  .of_wp fun A R s ⟨f, hm, hf, h⟩ => by
    show wpAny _ _ (dictGet a (.int i t) >>= _) _ _ s
    refine wpAny_bind (wpAny_dictGet_int hm ?_)
    rw [hf]
    show wpAny _ _ (Builtin.Dict.missed a (.int i t) >>= _) _ _ _
    exact wpAny_bind (wpAny_missed_other hd (wpAny_pure ⟨.none, rfl, h⟩))
theorem b_dget {i : Int} {a : Addr} {P : PV → Prop} (hD : ∀ h, C.W h → DW h a) (hi : i < 181) (hs : (a == sysModules) = false) (hp : P (.sc .none)) : B_ C c "dict.get" [.obj a, .sc (.int i)] P := by
  rw [B_eq]
  intro A X s vs Q E r w b rs k
  cases rs with | cons r1 rs => cases rs with | cons r2 rs => cases rs; cases r1; cases r2 with | sc r2 => cases r2 with | int _ t =>
  obtain ⟨⟨o, h1, h2, _⟩, g, hm, hg⟩ := hD _ w.1
  exact call_meetsIn PySem.F.slot_dict_get ⟨o, h1, h2⟩ PySem.F.entry_dict_get (PySem.F.args_dict_get_2 _ _) (meets_dget hs) ⟨g, hm, hg i hi, k _ _ s.heap _ hp (Kp.refl _ _) (.sc .none)⟩
theorem OfType.dict {a : Addr} (hD : ∀ h, C.W h → DW h a) : OfType C "dict" (.obj a) := by
  intro X s v w r
  cases r
  obtain ⟨⟨o, h1, h2, h3⟩, _⟩ := hD _ w
  exact ⟨⟨o, h1, h2⟩, fun b e => by cases e; exact ⟨o, h1, h3⟩⟩
theorem C_b1 (K : Wk vq C mg mb) {a1 : Addr} (m1 : mg "b1_set" = some (.ref a1)) (hS : ∀ h, C.W h → h.SetOf (intKind C.prog C.w) a1 (fun i => b1L.contains i) 27) (n : Nat) (hn : n < 128 ∨ n = 173) : Cd C (c + 1) mg "in_table_b1" [.sc (.str ⟨#[n]⟩)] (· = .sc (.bool (n == 173))) := by
  refine cd_of K (d := dref 20) (ps := ["code"]) (by kernel_rfl) (by kernel_rfl) (bind1 fun _ _ _ _ => by kernel_rfl) rfl (by kernel_rfl) (by kernel_rfl) fun a cd => ?_
  refine retS <| cmpR <| callB K.toGd K.no K.bt <| args1 <| nme rfl <| b_ord <| e_glob K.toGd m1 (fun X h w b => .obj a1) <| o_inSet hS ?_
  have h : ((List.range 128 ++ [173]).all fun n => b1L.contains (n : Int) == (n == 173)) = true := by decide +kernel
  have := List.all_eq_true.mp h n (by
    rcases hn with hn | hn
    · exact List.mem_append_left _ (List.mem_range.mpr hn)
    · subst hn; exact List.mem_append_right _ (by simp))
  rw [beq_iff_eq.mp this]
theorem C_b3 (K : Wk vq C mg mb) {a3 : Addr} (m3 : mg "b3_exceptions" = some (.ref a3)) (hs : (a3 == sysModules) = false) (hD : ∀ h, C.W h → DW h a3) (n : Nat) (hn : n < 128 ∨ n = 173) : Cd C (c + 1) mg "map_table_b3" [.sc (.str ⟨#[n]⟩)] (· = .sc (.str (tx [lowA n]))) := by
  refine cd_of K (d := dref 22) (ps := ["code"]) (by kernel_rfl) (by kernel_rfl) (bind1 fun _ _ _ _ => by kernel_rfl) rfl (by kernel_rfl) (by kernel_rfl) fun a cd => ?_
  refine asg <| e_meth PySem.F.plainAttrs_dict PySem.F.slot_dict_get PySem.F.type_dict_get <| e_glob K.toGd m3 (fun X h w b => .obj a3) ⟨OfType.dict hD, args1 <| callB K.toGd K.no K.bt <| args1 <| nme rfl <| b_ord <| b_dget hD (by omega) hs ⟨.inl rfl, ?_⟩⟩
  refine iff <| tcmp <| nme rfl <| e_none <| o_isNotNone ⟨_, rfl, ?_⟩
  rw [if_neg (by decide)]
  refine s_nil <| retS <| e_lower <| nme rfl ⟨rfl, a_nil <| b_lower ?_ ?_⟩
  · have := low_small n hn
    rw [show (⟨#[n]⟩ : Tx) = tx [n] from rfl, this, tx_len]
    exact small_sz (by simp)
  · show PV.sc (.str (Txt.lower (tx [n]))) = _
    rw [low_small n hn]
end
end Mine
end
section
open PySem PySem.W PyProof.Rows
set_option Elab.async false
set_option maxRecDepth 100000
set_option linter.all false
namespace Mine
theorem kind_next : builtinKind "next" = none := by kernel_rfl
theorem plain_next : plainId "next" = true := by decide +kernel
theorem entry_next : entryFor table "next" = some Builtin.«next» := entryFor_of_tree (by kernel_rfl)
theorem args_next (a : Value) : argsOk "next" ⟨[a], []⟩ := by unfold argsOk; kernel_rfl
theorem kind_iter : builtinKind "iter" = none := by kernel_rfl
theorem plain_iter : plainId "iter" = true := by decide +kernel
theorem entry_iter : entryFor table "iter" = some Builtin.«iter» := entryFor_of_tree (by kernel_rfl)
theorem args_iter (a : Value) : argsOk "iter" ⟨[a], []⟩ := by unfold argsOk; kernel_rfl
section
variable {prog : Program} {w : World} {A : Around} {E : Value → Shared → Prop} {s : Shared}
theorem call_fun {id : String} {B : Builtin} {args : List Value} {Q : Value → Shared → Prop} (kind : builtinKind id = none) (plain : plainId id = true) (entry : entryFor table id = some B) (ok : argsOk id ⟨args, []⟩)
    (h : wpAny (model prog w) A.in1 (B ⟨args, []⟩) (fun fin s' => ∃ v, fin = .done (.ret v) ∧ Q v s') E s) : wpAny (model prog w) A (call (.builtin id) args) Q E s := by
  refine wpAny_call (codeAny_call_builtin plain entry ?_)
  have hfin := wpAny_mono h (Q' := fun fin s' => match fin with | .done f => (match (Except.ok f : Result) with | .ok (.ret v) => Q v s' | .ok _ => False | .error e => E e s') | .again c' => c'.quiet = true ∧ codeAny (model prog w) A c' (fun r s' => match r with | .ok (.ret v) => Q v s' | .ok _ => False | .error e => E e s') s') (fun fin s' q => by obtain ⟨v, rfl, q⟩ := q; exact q) (fun _ _ q => q)
  simp only [checkBuiltinCall, kind]
  cases hsig : Manifest.signature? id with
  | none => exact wpAny_pure hfin
  | some sig =>
    simp only [argsOk, hsig] at ok
    have h2 : Bind.checkArgs id sig ⟨args, []⟩ = pure () := ok
    show wpAny _ _ (Bind.checkArgs id sig ⟨args, []⟩) _ _ s
    rw [h2]; exact wpAny_pure hfin

theorem iter_list {l : Addr} {items : Array Value} {Q : Value → Shared → Prop} (hl : s.heap.IsList l items)
    (hQ : ∀ h', h'.IsListIter s.heap.objs.size l 0 → Kp Option.none [] s.heap h' → Q (.ref s.heap.objs.size) { s with heap := h' }) : wpAny (model prog w) A (call (.builtin "iter") [.ref l]) Q E s := by
  refine call_fun kind_iter plain_iter entry_iter (args_iter _) ?_
  show wpAny _ _ (pyIter (.ref l) >>= fun v => ret v) _ _ s
  refine wpAny_bind (wpAny_pyIter_list hl ?_)
  exact wpAny_pure ⟨_, rfl, hQ _ ⟨_, Heap.get?_push_size _ rfl, rfl, rfl⟩ (Kp.push _ _)⟩

theorem next_item {it l : Addr} {i : Nat} {items : Array Value} {x : Value} {Q : Value → Shared → Prop} (hit : s.heap.IsListIter it l i) (hl : s.heap.IsList l items) (hx : items[i]? = some x)
    (hQ : ∀ h', h'.IsListIter it l (i + 1) → Kp Option.none [it] s.heap h' → Q x { s with heap := h' }) : wpAny (model prog w) A (call (.builtin "next") [.ref it]) Q E s := by
  refine call_fun kind_next plain_next entry_next (args_next _) ?_
  show wpAny _ _ (specialOf (.ref it) "__next__" >>= _) _ _ s
  refine wpAny_bind (wpAny_specialOf hit.typeIs slot_listiter_next.lookup ?_)
  rw [if_neg (by simp)]
  obtain ⟨o, ho, hc, hd⟩ := id hit
  obtain ⟨ol, hol, _, nl, hdl⟩ := hl
  refine wpAny_bind (wpAny_callSpecial?_slot (name := Str.ofString "__next__") hit.typeIs slot_listiter_next
    (wpAny_call_entry slot_listiter_next hit.typeIs entry_listiter_next ?_ (args_listiter_next _)))
  show wpAny _ _ (field (.ref it) 0 >>= _) _ _ s
  refine wpAny_bind (wpAny_field ho hd (x := .ref l) rfl ?_)
  show wpAny _ _ (if (Value.ref l == Value.none) = true then _ else _) _ _ s
  rw [if_neg (show ¬ ((Value.ref l == Value.none) = true) from Bool.false_ne_true)]
  show wpAny _ _ (field (.ref it) 1 >>= _) _ _ s
  refine wpAny_bind (wpAny_field ho hd (x := .int i 0) rfl ?_)
  show wpAny _ _ (seqItems? (.ref l) >>= _) _ _ s
  refine wpAny_bind (wpAny_seqItems hol hdl ?_)
  simp only [Int.toNat_natCast, hx]
  refine wpAny_bind (wpAny_setField ho hd (by simp) (wpAny_pure ⟨x, rfl, wpAny_pure ⟨_, rfl, hQ _ ?_ ?_⟩⟩))
  · exact ⟨_, Heap.get?_update_self _ ho (Obj.isFreed_of_fields (Obj.data_mapFields hd _)), (Obj.cls_mapFields ..).trans hc, by
      rw [Obj.data_mapFields hd]; simp [rawInt]⟩
  · exact Kp.but (Heap.SameBut.update ..) fun d => absurd d (fields_notDict ⟨_, _, ho, hd⟩)

/-- a new StopIteration -/
structure Stopped (h h' : Heap) (it e : Addr) : Prop where
  old : ∀ b o, b ≠ it → h.get? b = some o → h'.get? b = some o
  new : h.get? e = none
  obj : ∃ oe vs a0, h'.get? e = some oe ∧ oe.cls = .type "StopIteration" ∧ oe.data = .fields vs ∧ vs[1]? = some .none ∧ vs[0]? = some a0

theorem next_end {it l : Addr} {i : Nat} {items : Array Value} {Q : Value → Shared → Prop} (hh : A.handled = none) (hit : s.heap.IsListIter it l i) (hl : s.heap.IsList l items) (hx : items[i]? = none)
    (hE : ∀ h' e, Stopped s.heap h' it e → E (.ref e) { s with heap := h' }) : wpAny (model prog w) A (call (.builtin "next") [.ref it]) Q E s := by
  refine call_fun kind_next plain_next entry_next (args_next _) ?_
  show wpAny _ _ (specialOf (.ref it) "__next__" >>= _) _ _ s
  refine wpAny_bind (wpAny_specialOf hit.typeIs slot_listiter_next.lookup ?_)
  rw [if_neg (by simp)]
  obtain ⟨o, ho, hc, hd⟩ := id hit
  obtain ⟨ol, hol, _, nl, hdl⟩ := hl
  refine wpAny_bind (wpAny_callSpecial?_slot (name := Str.ofString "__next__") hit.typeIs slot_listiter_next
    (wpAny_call_entry slot_listiter_next hit.typeIs entry_listiter_next ?_ (args_listiter_next _)))
  show wpAny _ _ (field (.ref it) 0 >>= _) _ _ s
  refine wpAny_bind (wpAny_field ho hd (x := .ref l) rfl ?_)
  show wpAny _ _ (if (Value.ref l == Value.none) = true then _ else _) _ _ s
  rw [if_neg (show ¬ ((Value.ref l == Value.none) = true) from Bool.false_ne_true)]
  show wpAny _ _ (field (.ref it) 1 >>= _) _ _ s
  refine wpAny_bind (wpAny_field ho hd (x := .int i 0) rfl ?_)
  show wpAny _ _ (seqItems? (.ref l) >>= _) _ _ s
  refine wpAny_bind (wpAny_seqItems hol hdl ?_)
  simp only [Int.toNat_natCast, hx]
  refine wpAny_bind (wpAny_rule (wpAny_bind (wpAny_setField ho hd (by simp) ?_)))
  show wpAny _ _ (newExc (.type "StopIteration") [] >>= _) _ _ _
  refine wpAny_bind ?_
  simp only [newExc, newTuple]
  refine wpAny_bind (wpAny_newObj_type ?_ (by size_fits))
  refine wpAny_bind (m := firstArgMember _ _) (wpAny_of_eq (a := Value.none) (by first | rfl | (simp only [firstArgMember]; rfl)) ?_)
  refine wpAny_newObj_type ?_ (by size_fits)
  simp only [raiseNew]
  refine wpAny_bind (wpAny_handled ?_)
  first | rw [show A.in1.in1.handled = none from hh] | rw [show A.in1.handled = none from hh] | rw [hh]
  refine wpAny_bind (wpAny_pure (wpAny_throw ?_))
  refine hE _ _ ⟨fun b ob hb e => (((Heap.SameBut.update ..).extBut.push _).push _) b ob hb e, ?_, ⟨_, _, _, Heap.get?_push_size _ rfl, rfl, rfl, rfl, rfl⟩⟩
  refine Heap.get?_none_of_le ?_
  rw [Heap.size_push]
  have : (s.heap.update it (Obj.mapFields (·.setIfInBounds 0 .none))).objs.size = s.heap.objs.size := (Heap.SameBut.update (h := s.heap) (a := it) (f := Obj.mapFields (·.setIfInBounds 0 .none))).1
  first | omega | (rw [this]; omega) | simp
end
end Mine
end
section
open PySem PySem.W PyProof.Rows
set_option Elab.async false
set_option maxRecDepth 100000
set_option linter.all false
namespace Mine
noncomputable def Itr (h : Heap) (it l : Addr) (vs : List Value) (i : Nat) : Prop := h.IsListIter it l i ∧ h.IsList l vs.toArray
theorem Itr.kp {x : Option Nat} {Y : List Addr} {h h' : Heap} {it l : Addr} {vs : List Value} {i : Nat} (t : Itr h it l vs i) (k : Kp x Y h h') (n1 : it ∉ Y) (n2 : l ∉ Y) : Itr h' it l vs i := by
  obtain ⟨⟨o, a1, a2, a3⟩, ⟨o2, b1, b2, n, b3⟩⟩ := t
  exact ⟨⟨o, k.get n1 a1 (fun es m e => by rw [a3] at e; cases e), a2, a3⟩, ⟨o2, k.get n2 b1 (fun es m e => by rw [b3] at e; cases e), b2, n, b3⟩⟩
theorem Itr.ne {h : Heap} {it l L : Addr} {vs : List Value} {i : Nat} (t : Itr h it l vs i) (d : DictAt h L) : it ≠ L ∧ l ≠ L := by
  obtain ⟨⟨o, a1, a2, a3⟩, ⟨o2, b1, b2, n, b3⟩⟩ := t
  refine ⟨?_, ?_⟩
  · rintro rfl; exact notDict a1 (fun es m e => by rw [a3] at e; cases e) d
  · rintro rfl; exact notDict b1 (fun es m e => by rw [b3] at e; cases e) d
theorem SI.dictAt {C : Cx} {X : List Addr} {O : List (Tx × Addr)} {h : Heap} {L : Addr} {ρ : Lo} (i : SI C X O h L ρ) : DictAt h L := let ⟨es, n, c, d, sl, q⟩ := i.dictL; ⟨_, es, n, q, rfl⟩

noncomputable def IS (C : Cx) (c : Nat) (t : Addr → Sem Flow) (ρ : Lo) (it l : Addr) (vs : List Value) (i : Nat) (P : Out → Nat → Prop) : Prop :=
  ∀ (A : Around) (X : List Addr) (L : Addr) (s : Shared) (Q : Flow → Shared → Prop) (E : Value → Shared → Prop), Rm c A → C.Ws A s → C.nw L → SI C X [] s.heap L ρ → Itr s.heap it l vs i → C.nw it → it ∉ X →
    (∀ o fl i' h' t', P o i' → Kp C.ex [L, it] s.heap h' → OutR C X [] h' L fl o → Itr h' it l vs i' → Q fl { s with heap := h', toks := t' }) → wpAny (model C.prog C.w) A (t L) Q E s
section
variable {C : Cx} {c : Nat} {f : Fn} {ρ : Lo} {mg mb : Tx → Option Value} {it l : Addr} {vs : List Value} {i : Nat}

theorem IS.run {t : Addr → Sem Flow} {P : Out → Nat → Prop} (h : IS C c t ρ it l vs i P) {A : Around} {X : List Addr} {L : Addr} {s : Shared} {Q : Flow → Shared → Prop} {E : Value → Shared → Prop} (rm : Rm c A) (w : C.Ws A s) (n : C.nw L) (si : SI C X [] s.heap L ρ) (t0 : Itr s.heap it l vs i) (ni : C.nw it) (nx : it ∉ X)
    (k : ∀ o fl i' h' t', P o i' → Kp C.ex [L, it] s.heap h' → OutR C X [] h' L fl o → Itr h' it l vs i' → C.Ws A { s with heap := h', toks := t' } → Q fl { s with heap := h', toks := t' }) : wpAny (model C.prog C.w) A (t L) Q E s :=
  wpAny_with_toks (n := 1) w.2 (h A X L s _ _ rm w n si t0 ni nx fun o fl i' h' t' p kk oR ti ht => k o fl i' h' t' p kk oR ti (w.next kk (fun a m => by
    rcases List.mem_cons.mp m with rfl | m
    · exact n
    · rw [List.mem_singleton.mp m]; exact ni) ht))

theorem IS.of {t : Addr → Sem Flow} {P : Out → Nat → Prop} (h : ESof C c t ρ [] fun o => P o i) : IS C c t ρ it l vs i P := by
  intro A X L s Q E r w n si ti ni nx k
  obtain ⟨n1, n2⟩ := ti.ne si.dictAt
  refine h A X L s _ _ r w n si fun o fl h' t' p kk oR => k o fl i h' t' p (kk.mono fun a m => ?_) oR (ti.kp kk ?_ ?_)
  · simp only [List.map_nil, List.mem_singleton] at m; subst m; exact List.mem_cons_self
  · simp [n1]
  · simp [n2]
theorem IS.nil {P : Out → Nat → Prop} (h : P (.next ρ) i) : IS C c (fun L => execs [] (f.env L)) ρ it l vs i P := .of (ES.nil h)
theorem IS.cons {st : Stmt} {rest : List Stmt} {P : Out → Nat → Prop} (h : IS C c (fun L => exec st (f.env L)) ρ it l vs i fun o i' => match o with | .next ρ' => IS C c (fun L => execs rest (f.env L)) ρ' it l vs i' P | o => P o i') : IS C c (fun L => execs (st :: rest) (f.env L)) ρ it l vs i P := by
  intro A X L s Q E r w n si ti ni nx k
  refine wpAny_execs_cons (IS.run h r w n si ti ni nx fun o fl i' h' t' p kk oR ti' w' => ?_)
  cases o with
  | next ρ' =>
    obtain ⟨rfl, si'⟩ := oR
    exact p A X L _ Q E r w' n si' ti' ni nx fun o' fl' i'' h'' t'' p' kk' oR' => k o' fl' i'' h'' t'' p' (kk.trans kk') oR'
  | ret x => obtain ⟨v, rfl, q⟩ := oR; exact k _ _ i' h' t' p kk ⟨v, rfl, q⟩ ti'
  | brk ρ' => obtain ⟨rfl, q⟩ := oR; exact k _ _ i' h' t' p kk ⟨rfl, q⟩ ti'
  | cont ρ' => obtain ⟨rfl, q⟩ := oR; exact k _ _ i' h' t' p kk ⟨rfl, q⟩ ti'

/-- y = next(x) -/
theorem IS.next {y x : Tx} {p1 p2 p3 pos cpos : Pos} {b : Sc} {P : Out → Nat → Prop} {xs : List Sc} (G : Gd C mg mb) (hmg : mg "next" = Option.none) (hmb : mb "next" = some (.builtin "next"))
    (hx : ρ x = some (.obj it)) (sr : ScsR vs xs) (hb : xs[i]? = some b) (h : P (.next (upd ρ y (.sc b))) (i + 1))
    (hlx : f.sc.names.lookup x = some .local) (hdx : (x == ("__debug__" : Tx)) = false) (hl : f.sc.names.lookup y = some .local) (hk : f.sc.names.lookup ("next" : Tx) = some .globalImplicit)
    (hargs : ∀ L, (backTo cpos (starEach [.Name x p3] (f.env L))).any (·.1) = false) (he : ∀ L, starEach [Expr.Name x p3] (f.env L) = (false, eval (.Name x p3) (f.env L)) :: starEach [] (f.env L))
    (hs : ∀ L, swapsWith (.Call (.Name "next" p2) [.Name x p3] [] cpos) (some (.Name y p1)) pos.line (f.env L) = pure false) :
    IS C c (fun L => exec (.Assign [.Name y p1] (.Call (.Name "next" p2) [.Name x p3] [] cpos) pos) (f.env L)) ρ it l vs i P := by
  intro A X L s Q E r w n si ti ni nx k
  refine wpAny_Assign_Name (wpAny_Call_NameR (Calls.Name_function_global f.fk hk (Calls.loadGlobal_builtin (env := f.env L) (G.g _ w.1) hmg (G.b _ w.1) hmb ?_))) (hs L)
  refine Calls.callWith_builtin (hargs L) (args_of (EVs.cons (P := fun zs => zs = [PV.obj it]) (EV.name hx (EVs.nil rfl) hlx hdx) he) _ r w trivial si.bd si.loc (hargs L) fun zs us h1 t1 p k1 r1 w1 => ?_)
  subst p
  cases r1 with | cons a r1 =>
  cases r1; cases a
  obtain ⟨n1, n2⟩ := ti.ne si.dictAt
  have ti1 := ti.kp k1 (fun m => nomatch m) (fun m => nomatch m)
  obtain ⟨u, hu, su⟩ := sr.get hb
  refine next_item ti1.1 ti1.2 (x := u) (by simpa using hu) fun h2 it2 k2 => ?_
  have si2 : SI C X [] h2 L ρ := (si.kp k1).keepG k2 (by simp [Ne.symm n1]) (fun b m => by
    rw [List.mem_singleton.mp m]
    obtain ⟨o, a1, a2, a3⟩ := ti1.1
    exact not_seq_fields ⟨o, _, a1, a3⟩) (fun z hz => by
      obtain ⟨o, ho⟩ := Option.isSome_iff_exists.mp ((si.kp k1).2.2.2.2 z hz)
      exact k2.live (by rintro m; rw [List.mem_singleton.mp m] at hz; exact nx (by simpa using hz)) ho)
  have t2 : Itr h2 it l vs (i + 1) := ⟨it2, by
    obtain ⟨o, a1, a2, m, a3⟩ := ti1.2
    refine ⟨o, k2.get ?_ a1 (fun es m e => by rw [a3] at e; cases e), a2, m, a3⟩
    intro mm
    rw [List.mem_singleton.mp mm] at a1
    obtain ⟨o', b1, b2, b3⟩ := ti1.1
    rw [a1] at b1; cases b1; rw [a3] at b3; cases b3⟩
  obtain ⟨m, hn, _⟩ := si2.1
  refine wpAny_storeName_local (env := f.env L) hl hn (fun h3 hn3 sb => ?_) (by show (f.sc.kind == .class || (f.sc.kind == .module && L != mainGlobals)) = false; rw [f.fk]; rfl)
  have k3 := Kp.but (x := C.ex) (L := L) sb fun _ => Ns.dictAt hn3
  refine k _ _ (i + 1) h3 _ h (((k1.all.trans (k2.weak.mono fun a m => ?_)).trans (k3.mono fun a m => ?_))) ⟨rfl, si2.store hn hn3 sb (.sc su) (by simp)⟩ (t2.kp k3 (by simp [n1]) (by simp [n2]))
  · rw [List.mem_singleton.mp m]; simp
  · rw [List.mem_singleton.mp m]; simp

theorem IS.while {P : Out → Nat → Prop} {test : Expr} {body : List Stmt} {pos : Pos} (J : Nat → Lo → Nat → Prop) (n : Nat) (h0 : J n ρ i)
    (turn : ∀ k ρ' i', J k ρ' i' → TV C c f test ρ' fun b => if b = true then IS C c (fun L => execs body (f.env L)) ρ' it l vs i' (fun o i'' => match o with
      | .next ρ'' => ∃ j, j < k ∧ J j ρ'' i'' | .cont ρ'' => ∃ j, j < k ∧ J j ρ'' i'' | .brk ρ'' => P (.next ρ'') i'' | .ret x => P (.ret x) i'') else P (.next ρ') i') :
    IS C c (fun L => exec (.While test body [] pos) (f.env L)) ρ it l vs i P := by
  intro A X L s Q E r w n0 si ti ni nx k
  refine wpAny_mono (Q := Q) (E := fun _ _ => False) ?_ (fun _ _ x => x) (fun _ _ x => x.elim)
  refine whl_start 0 ?_
  have main : ∀ (m : Nat) (ρ' : Lo) (i' : Nat) (h' : Heap) (t' : Nat), J m ρ' i' → Kp C.ex [L, it] s.heap h' → SI C X [] h' L ρ' → Itr h' it l vs i' → C.Ws A { s with heap := h', toks := t' } →
      WhlRest C.prog C.w A (fun _ _ => False) (f.env L) test body [] Q 0 { s with heap := h', toks := t' } := by
    intro m
    induction m using Nat.strongRecOn with
    | ind m ih =>
      intro ρ' i' h' t' hJ kk si' ti' w'
      refine whl_turn (k := 0) PassesOwn.never (TV.run (turn m ρ' i' hJ) r w' trivial si'.bd si'.loc fun b h1 t1 p k1 w1 => ?_)
      have ti1 := ti'.kp k1 (fun m => nomatch m) (fun m => nomatch m)
      cases b with
      | true =>
        refine WhlIf.yes rfl (IS.run p r w1 n0 (si'.kp k1) ti1 ni nx fun o fl i2 h2 t2 p2 k2 o2 ti2 w2 => ?_)
        have kk2 := (kk.trans k1.all).trans k2
        cases o with
        | next ρ'' => obtain ⟨rfl, si2⟩ := o2; obtain ⟨j, hj, hJ'⟩ := p2; exact ih j hj ρ'' i2 h2 t2 hJ' kk2 si2 ti2 w2
        | cont ρ'' => obtain ⟨rfl, si2⟩ := o2; obtain ⟨j, hj, hJ'⟩ := p2; exact ih j hj ρ'' i2 h2 t2 hJ' kk2 si2 ti2 w2
        | brk ρ'' => obtain ⟨rfl, si2⟩ := o2; exact k _ _ i2 h2 t2 p2 kk2 ⟨rfl, si2⟩ ti2
        | ret x => obtain ⟨v, rfl, q⟩ := o2; exact k _ _ i2 h2 t2 p2 kk2 ⟨v, rfl, q⟩ ti2
      | false => exact WhlIf.no rfl (wpAny_execs_nil (k _ _ i' h1 t1 p (kk.trans k1.all) ⟨rfl, si'.kp k1⟩ ti1))
  exact main n ρ i s.heap s.toks h0 (Kp.refl _ _) si ti w

/-- y op= e, upon scalars -/
theorem ES1.aug {y : Tx} {op : Operator} {value : Expr} {p1 pos : Pos} {P : Out → Prop} {a : PV} (hy : ρ y = some a)
    (h : EV C c f value ρ fun b => OV C c (inplaceOp op) a b fun x => P (.next (upd ρ y x))) (hl : f.sc.names.lookup y = some .local) (hd : (y == ("__debug__" : Tx)) = false) :
    ES1 C c f (.AugAssign (.Name y p1) op value pos) ρ [] P := by
  intro A X L s Q E r w n i k
  obtain ⟨m, hn, hm⟩ := i.loc
  obtain ⟨u, hu, rep⟩ := hm y a hy
  refine wpAny_AugAssign_Name (wpAny_loadName_local (env := f.env L) f.fk hl hn hu ?_)
  refine h.run r w trivial i.bd i.loc fun b v h1 t1 p k1 r1 w1 b1 l1 => ?_
  refine OV.run p r w1 b1 (rep.kp k1) r1 fun x v2 h2 t2 p2 k2 r2 w2 => ?_
  have i2 := (i.kp k1).kp k2
  obtain ⟨m2, hn2, _⟩ := i2.1
  refine wpAny_storeName_local (env := f.env L) hl hn2 (fun h3 hn3 sb => ?_) (by show (f.sc.kind == .class || (f.sc.kind == .module && L != mainGlobals)) = false; rw [f.fk]; rfl)
  exact k _ _ h3 _ p2 (((k1.trans k2).all.trans (Kp.but (L := L) sb fun _ => Ns.dictAt hn3)).mono fun a m => by rw [List.mem_singleton.mp m]; exact List.mem_cons_self) ⟨rfl, i2.store hn2 hn3 sb r2 (by simp)⟩
theorem OV.ishl {i j : Int} {P : PV → Prop} (hn : 0 ≤ j) (hsz : (Builtin.Int.intBits i : Int) + j ≤ 2 ^ 27) (hp : P (.sc (.int (i * 2 ^ j.toNat)))) : OV C c (inplaceOp .LShift) (.sc (.int i)) (.sc (.int j)) P :=
  .ints fun _ _ _ _ _ _ _ k => PyProof.Rows.ilshift_int hn hsz (k _ _ _ hp (.int _ _))
theorem OV.ior {i j : Int} {P : PV → Prop} (hp : P (.sc (.int (Builtin.bitOr i j)))) : OV C c (inplaceOp .BitOr) (.sc (.int i)) (.sc (.int j)) P :=
  .ints fun _ _ _ _ _ _ _ k => PyProof.Rows.ior_int (k _ _ _ hp (.int _ _))
end
end Mine
end
section
open PySem PySem.W PyProof.Rows
set_option Elab.async false
set_option maxRecDepth 100000
set_option linter.all false
namespace Mine
theorem and63 {d : Nat} (h : d < 64) : Builtin.bitAnd ((64 + d : Nat) : Int) 63 = (d : Nat) ∧ Builtin.bitAnd ((64 + d : Nat) : Int) 64 = 64 := by
  have : ((List.range 64).all fun d => decide (Builtin.bitAnd ((64 + d : Nat) : Int) 63 = (d : Nat)) && decide (Builtin.bitAnd ((64 + d : Nat) : Int) 64 = 64)) = true := by decide +kernel
  have := List.all_eq_true.mp this d (List.mem_range.mpr h)
  simpa using this
theorem and63s {l : Nat} (h : l < 64) : Builtin.bitAnd ((sg l : Nat) : Int) 63 = (l : Nat) ∧ Builtin.bitAnd ((sg l : Nat) : Int) 64 = 0 := by
  have : ((List.range 64).all fun l => decide (Builtin.bitAnd ((sg l : Nat) : Int) 63 = (l : Nat)) && decide (Builtin.bitAnd ((sg l : Nat) : Int) 64 = 0)) = true := by decide +kernel
  have := List.all_eq_true.mp this l (List.mem_range.mpr h)
  simpa using this
theorem or_low (v d : Nat) (h : d < 64) : Builtin.bitOr (((v * 64 : Nat) : Int)) (d : Nat) = ((v * 64 + d : Nat) : Int) := by
  have e : Builtin.bitOr (((v * 64 : Nat) : Int)) (d : Nat) = (((v * 64) ||| d : Nat) : Int) := by
    have n : ∀ x : Int, Builtin.bitNot (Builtin.bitNot x) = x := fun x => by unfold Builtin.bitNot; omega
    have g : ∀ x : Nat, decide (0 ≤ Builtin.bitNot (x : Int)) = false := fun x => by rw [decide_eq_false_iff_not]; unfold Builtin.bitNot; omega
    unfold Builtin.bitOr Builtin.bitAnd
    rw [g, g]
    show Builtin.bitNot (Builtin.bitNot _) = _
    rw [n, n, n, Int.toNat_natCast, Int.toNat_natCast]
  rw [e]
  have := Nat.shiftLeft_add_eq_or_of_lt (i := 6) (b := d) (by omega) v
  rw [Nat.shiftLeft_eq] at this
  have h6 : (2 : Nat) ^ 6 = 64 := by decide
  rw [h6] at this
  rw [this]
section
variable {C : Cx} {c : Nat} {f : Fn} {ρ : Lo} {mg mb : Tx → Option Value}
theorem TV.int {e : Expr} {P : Bool → Prop} (h : EV C c f e ρ fun x => ∃ i : Int, x = .sc (.int i) ∧ P (i != 0))
    (he : ∀ L, isTrue e (f.env L) (eval e (f.env L)) = (do let v ← eval e (f.env L); standAt e.pos; holding [v] (truthy v))) : TV C c f e ρ P := by
  intro A X L s Q E r w n b l k
  refine wpAny_isTrue_value (h A X L s _ E r w n b l fun x v h' t' p kk rep => ?_) (he L)
  obtain ⟨t, rfl, p⟩ := p
  cases rep with | sc q => cases q; exact PyProof.Rows.truthy_int (k _ h' t' p kk)
/-- the codes of a row's text -/
noncomputable def cdI (t : List Nat) : List Sc := iL (t.map fun n : Nat => (n : Int))
theorem cdI_get {t : List Nat} {j n : Nat} (h : t[j]? = some n) : (cdI t)[j]? = some (.int (n : Nat)) := by simp [cdI, iL, h]

/-- a def that is handed an iterator -/
theorem Wk.callIt {q : Program} (K : Wk q C mg mb) {nm : Tx} {d : DefRec} {p : Tx} {it l : Addr} {vs : List Value} {i : Nat} {P : PV → Nat → Prop} (e : defOf q nm = some (d, []))
    (fk : d.scope.kind = .function)
    (hbind : ∀ pm cd doc v, bindArgs (Calls.docDef d.name d.params d.body d.scope pm cd doc) ⟨[v], []⟩ = pure [(p, v)])
    (hloc : d.scope.names.lookup p = some .local)
    (hco : (!d.scope.isCoroutine && !d.scope.isGenerator && d.scope.names.all fun x => decide (x.2 ≠ .cell)) = true)
    (h : ∀ a cd, IS C c (fun L => execs d.body ((Fn.of d.name d.scope a cd fk).env L)) (fun y => ([p].zip [PV.obj it]).reverse.lookup y) it l vs i fun o i' => match o with | .ret x => P x i' | _ => False) :
    ∃ a, mg nm = some (.ref a) ∧ (∀ h, C.W h → ∃ o fd, h.get? a = some o ∧ o.data = .func fd) ∧ ∀ (A : Around) (X : List Addr) (s : Shared) (Q E : Value → Shared → Prop), Rm (c + 1) A → C.Ws A s → Bd X s.heap → Itr s.heap it l vs i → C.nw it → it ∉ X →
      (∀ x v i' h' t', P x i' → Kp C.ex [it] s.heap h' → Rep X h' v x → Itr h' it l vs i' → Q v { s with heap := h', toks := t' }) → wpAny (model C.prog C.w) A (call (.ref a) [.ref it]) Q E s := by
  obtain ⟨a, pm, cd, doc, h1, h2⟩ := K.fn nm d e
  simp only [Bool.and_eq_true, Bool.not_eq_true', List.all_eq_true, decide_eq_true_eq] at hco
  refine ⟨a, h1, fun h w => let ⟨⟨o, ho, hd⟩, _⟩ := h2 h w; ⟨o, _, ho, hd⟩, ?_⟩
  intro A X s Q E r w b ti ni nx k
  obtain ⟨⟨o, ho, hdat⟩, hcd⟩ := h2 _ w.1
  refine wpAny_call (call_plain_ret (binds := [(p, .ref it)]) r.lt ho hdat (K.nolimit _ w.1) hcd (hbind pm cd doc _) ?_ (fun h₁ F => ?_) hco.1.1 hco.1.2 fk hco.2)
  · intro x hx; rw [List.mem_singleton.mp hx]; exact hloc
  · have k1 : Kp C.ex [] s.heap h₁ := Kp.of F.keep
    have si : SI C X [] h₁ s.heap.objs.size (fun y => ([p].zip [PV.obj it]).reverse.lookup y) := by
      refine ⟨⟨_, F.ns, fun y x _ e => ?_, fun p hp => nomatch hp⟩, .nil, .nil, (fun p hp => nomatch hp), b.kp k1⟩
      simp only [List.zip_cons_cons, List.zip_nil_left, List.reverse_cons, List.reverse_nil, List.nil_append, List.lookup] at e ⊢
      split at e
      · cases e; exact ⟨.ref it, by simp_all, .obj it⟩
      · cases e
    refine h a cd _ X s.heap.objs.size _ _ _ r.deeper ⟨C.stab _ _ [] w.1 k1.weaker (fun _ m => nomatch m), Nat.le_trans w.2 (Nat.le_add_right _ _), (w.3.kp k1).deeper (by show d.scope.kind ≠ .module; rw [fk]; decide) rfl (C.nwle _ (C.low _ w.1)) (Ns.dictAt F.ns)⟩ (C.low _ w.1) si (ti.kp k1 (fun m => nomatch m) (fun m => nomatch m)) ni nx fun o fl i' h' t' p kk oR ti' => ?_
    have kk' : Kp C.ex [it] s.heap h' := (k1.all (Y := [it])).then2 kk fun x m nm o' e => by
      rcases List.mem_cons.mp m with q | q
      · subst q; exact absurd (Heap.lt_size e) (Nat.lt_irrefl _)
      · exact nm q
    cases o with
    | ret x => obtain ⟨v, rfl, q⟩ := oR; exact k x v i' h' t' p kk' q ti'
    | next _ => exact p.elim
    | brk _ => exact p.elim
    | cont _ => exact p.elim

theorem wr1_at {t : List Nat} {i : Nat} {h : List Nat} {l : Nat} {rest : List Nat} (e : t.drop i = wr1 (h, l) ++ rest) : (∀ j (hj : j < h.length), t[i + j]? = some (64 + h[j])) ∧ t[i + h.length]? = some (sg l) ∧ t.drop (i + h.length + 1) = rest := by
  have g : ∀ j, t[i + j]? = (wr1 (h, l) ++ rest)[j]? := fun j => by rw [← e, List.getElem?_drop]
  refine ⟨fun j hj => ?_, ?_, ?_⟩
  · rw [g, wr1, List.append_assoc, List.getElem?_append_left (by simpa using hj)]; simp [hj]
  · rw [g, wr1, List.append_assoc, List.getElem?_append_right (by simp)]; simp
  · have : t.drop (i + h.length + 1) = (t.drop i).drop (h.length + 1) := by rw [List.drop_drop]; congr 1
    rw [this, e]
    have hl : (wr1 (h, l)).length = h.length + 1 := wr1_len _
    rw [← hl, List.drop_left]
theorem hv_take_succ (D : List Nat) (j : Nat) (hj : j < D.length) : hv (D.take (j + 1)) = hv (D.take j) * 64 + D[j] := by
  rw [List.take_add_one, List.getElem?_eq_getElem hj]
  exact hv_snoc _ _
theorem pv_okG (K : Wk vq C mg mb) {it l : Addr} {vs : List Value} {t : List Nat} {i : Nat} {h : List Nat} {lo : Nat} {rest : List Nat} (sr : ScsR vs (cdI t)) (o : (∀ d ∈ h, d < 64) ∧ lo < 64) (hz : h.length ≤ 1000000) (e : t.drop i = wr1 (h, lo) ++ rest) :
    ∃ a, mg "_parse_varint" = some (.ref a) ∧ (∀ h, C.W h → ∃ o fd, h.get? a = some o ∧ o.data = .func fd) ∧ ∀ (A : Around) (X : List Addr) (s : Shared) (Q E : Value → Shared → Prop), Rm (c + 1) A → C.Ws A s → Bd X s.heap → Itr s.heap it l vs i → C.nw it → it ∉ X →
      (∀ v h' t' u, Kp C.ex [it] s.heap h' → v = .int (nm (h, lo) : Nat) u → Itr h' it l vs (i + h.length + 1) → Q v { s with heap := h', toks := t' }) → wpAny (model C.prog C.w) A (call (.ref a) [.ref it]) Q E s := by
  obtain ⟨w1, w2, w3⟩ := wr1_at e
  have hlo : lo < 64 := o.2
  have oh : ∀ d ∈ h, d < 64 := o.1
  -- the code at a place, and its lower part
  have code : ∀ j, j ≤ h.length → ∃ n, t[i + j]? = some n ∧ Builtin.bitAnd (n : Int) 63 = ((h ++ [lo]).getD j 0 : Nat) ∧ (Builtin.bitAnd (n : Int) 64 != 0) = decide (j < h.length) := by
    intro j hj
    by_cases q : j < h.length
    · have d := oh h[j] (List.getElem_mem q)
      have := and63 d
      refine ⟨_, w1 j q, ?_, ?_⟩
      · rw [this.1, List.getD_eq_getElem?_getD, List.getElem?_append_left q, List.getElem?_eq_getElem q]; rfl
      · rw [this.2, decide_eq_true q]; decide
    · have : j = h.length := by omega
      subst this
      have := and63s hlo
      refine ⟨_, w2, ?_, ?_⟩
      · rw [this.1, List.getD_eq_getElem?_getD]; simp
      · rw [this.2, decide_eq_false q]; decide
  have low : ∀ j, j ≤ h.length → (h ++ [lo]).getD j 0 < 64 := fun j hj => by
    rw [List.getD_eq_getElem?_getD, List.getElem?_eq_getElem (by simp; omega)]
    simp only [Option.getD_some]
    rcases List.mem_append.mp (List.getElem_mem (l := h ++ [lo]) (n := j) (by simp; omega)) with q | q
    · exact oh _ q
    · rw [List.mem_singleton.mp q]; exact hlo
  have body : ∀ a cd, IS C c (fun L => execs (dref 9).body ((Fn.of (dref 9).name (dref 9).scope a cd (by kernel_rfl)).env L)) (fun y => ((["iterator"] : List Tx).zip [PV.obj it]).reverse.lookup y) it l vs i fun o i' => match o with | .ret x => x = .sc (.int (nm (h, lo) : Nat)) ∧ i' = i + h.length + 1 | _ => False := by
    intro a cd
    obtain ⟨n0, c1, c2, c3⟩ := code 0 (Nat.zero_le _)
    refine IS.cons (IS.next K.toGd K.no K.bt rfl sr (cdI_get c1) ?_ (by kernel_rfl) (by kernel_rfl) (by kernel_rfl) (by kernel_rfl) (by intro _; kernel_rfl) (by intro _; kernel_rfl) (by intro _; kernel_rfl))
    refine IS.cons (IS.of (ES1.assign (EV.bin (EV.name rfl (EV.int (OV.band ⟨.inl rfl, ?_⟩)) (by kernel_rfl) (by kernel_rfl))) (by simp) (by kernel_rfl) (by intro _; kernel_rfl)))
    rw [c2]
    refine IS.cons (IS.while (fun m ρ' i' => ∃ j n, j + m = h.length ∧ i' = i + j + 1 ∧ t[i + j]? = some n ∧ ρ' "b" = some (.sc (.int (n : Nat))) ∧ ρ' "val" = some (.sc (.int (hv ((h ++ [lo]).take (j + 1)) : Nat))) ∧ ρ' "iterator" = some (.obj it)) h.length ⟨0, n0, by omega, rfl, c1, rfl, ?_, rfl⟩ ?_)
    · show some (PV.sc (.int _)) = _
      rw [hv_take_succ _ 0 (by simp)]
      simp [hv, List.getD_eq_getElem?_getD]
    · rintro m ρ' i' ⟨j, n, e1, rfl, e3, e4, e5, e6⟩
      obtain ⟨n', d1, d2, d3⟩ := code j (by omega)
      rw [e3] at d1; cases d1
      refine TV.int (EV.bin (EV.name e4 (EV.int (OV.band ⟨_, rfl, ?_⟩)) (by kernel_rfl) (by kernel_rfl))) (by intro _; kernel_rfl)
      rw [d3]
      by_cases q : j < h.length
      · rw [if_pos (by simpa using q)]
        obtain ⟨n2, f1, f2, f3⟩ := code (j + 1) (by omega)
        have hsm : hv ((h ++ [lo]).take (j + 1)) < 2 ^ (6 * (j + 1)) := by
          rw [← p64]
          have hb : ∀ (D : List Nat), (∀ x ∈ D, x < 64) → hv D < 64 ^ D.length := by
            intro D
            refine snocI (P := fun D => (∀ x ∈ D, x < 64) → hv D < 64 ^ D.length) (by simp [hv]) ?_ D
            intro a d ih hd
            rw [hv_snoc, List.length_append, List.length_singleton, Nat.pow_succ]
            have := ih fun x hx => hd x (List.mem_append_left _ hx)
            have := hd d (by simp)
            omega
          have := hb ((h ++ [lo]).take (j + 1)) fun x hx => by
            rcases List.mem_append.mp (List.mem_of_mem_take hx) with q | q
            · exact oh x q
            · rw [List.mem_singleton.mp q]; exact hlo
          rw [List.length_take] at this
          have e : min (j + 1) (h ++ [lo]).length = j + 1 := by simp; omega
          rwa [e] at this
        refine IS.cons (IS.of (ES1.aug e5 (EV.int (OV.ishl (by decide) ?_ ?_)) (by kernel_rfl) (by kernel_rfl)))
        · have := bits_le hsm
          have : (2 : Int) ^ 27 = 134217728 := by decide
          omega
        refine IS.cons (IS.next K.toGd K.no K.bt e6 sr (cdI_get f1) ?_ (by kernel_rfl) (by kernel_rfl) (by kernel_rfl) (by kernel_rfl) (by intro _; kernel_rfl) (by intro _; kernel_rfl) (by intro _; kernel_rfl))
        refine IS.cons (IS.of (ES1.aug rfl (EV.bin (EV.name rfl (EV.int (OV.band (OV.ior ?_))) (by kernel_rfl) (by kernel_rfl))) (by kernel_rfl) (by kernel_rfl)))
        refine IS.nil ⟨m - 1, by omega, j + 1, n2, by omega, by omega, f1, rfl, ?_, e6⟩
        show some (PV.sc (.int _)) = _
        rw [f2]
        have e64 : ((hv ((h ++ [lo]).take (j + 1)) : Nat) : Int) * 2 ^ (6 : Int).toNat = ((hv ((h ++ [lo]).take (j + 1)) * 64 : Nat) : Int) := by
          have : (2 : Int) ^ (6 : Int).toNat = 64 := by decide
          rw [this]; push_cast; rfl
        rw [e64, or_low _ _ (low _ (by omega)), hv_take_succ _ (j + 1) (by simp; omega)]
        rw [List.getD_eq_getElem?_getD, List.getElem?_eq_getElem (by simp; omega)]; rfl
      · rw [if_neg (by simpa using q)]
        have : j = h.length := by omega
        subst this
        refine IS.cons (IS.of (ES1.ret (EV.name e5 ⟨?_, rfl⟩ (by kernel_rfl) (by kernel_rfl))))
        rw [List.take_of_length_le (by simp), hv_snoc]; rfl
  obtain ⟨a, m1, m2, m3⟩ := K.callIt (c := c) (nm := "_parse_varint") (d := dref 9) (p := "iterator") (it := it) (l := l) (vs := vs) (i := i) (P := fun x i' => x = .sc (.int (nm (h, lo) : Nat)) ∧ i' = i + h.length + 1) (by kernel_rfl) (by kernel_rfl) (fun _ _ _ _ => by kernel_rfl) (by kernel_rfl) (by kernel_rfl) body
  exact ⟨a, m1, m2, fun A X s Q E r w b ti ni nx k => m3 A X s Q E r w b ti ni nx fun x v i' h' t' p kk rep ti' => by
    obtain ⟨rfl, rfl⟩ := p
    cases rep with | sc q =>
    cases q with | int _ u => exact k _ h' t' u kk rfl ti'⟩
end
end Mine
end
section
open PySem PySem.W PyProof.Rows
set_option Elab.async false
set_option maxRecDepth 100000
set_option linter.all false
namespace Mine
/-- without the dicts from n on -/
noncomputable def noDicts (n : Nat) (h : Heap) : Heap := { h with objs := h.objs.mapIdx fun i o => if n ≤ i then (match o with | ⟨c, d, .dict _ _, sl⟩ => ⟨c, d, .freed, sl⟩ | o => o) else o }
theorem noDicts_get {n : Nat} {h : Heap} {b : Addr} {o : Obj} : (noDicts n h).get? b = some o ↔ h.get? b = some o ∧ (n ≤ b → ∀ es m, o.data ≠ .dict es m) := by
  rw [Heap.get?_some_iff, Heap.get?_some_iff]
  unfold noDicts
  simp only [Array.getElem?_mapIdx, Option.map_eq_some_iff]
  constructor
  · rintro ⟨⟨o', h1, h2⟩, h3⟩
    by_cases q : n ≤ b
    · rw [if_pos q] at h2
      obtain ⟨c, d, dt, sl⟩ := o'
      cases dt <;> simp only at h2 <;> subst h2 <;> first | exact ⟨⟨h1, h3⟩, fun _ es n e => by cases e⟩ | (simp [Obj.isFreed] at h3)
    · rw [if_neg q] at h2
      subst h2
      exact ⟨⟨h1, h3⟩, fun z => absurd z q⟩
  · rintro ⟨⟨h1, h3⟩, h4⟩
    refine ⟨⟨o, h1, ?_⟩, h3⟩
    by_cases q : n ≤ b
    · rw [if_pos q]
      obtain ⟨c, d, dt, sl⟩ := o
      cases dt <;> first | rfl | exact absurd rfl (h4 q _ _)
    · rw [if_neg q]
theorem noDicts_none {n : Nat} {h : Heap} {b : Addr} (hb : n ≤ b) (d : DictAt h b) : (noDicts n h).get? b = none := by
  cases q : (noDicts n h).get? b with
  | none => rfl
  | some o =>
    obtain ⟨q1, q2⟩ := noDicts_get.mp q
    exact absurd d (notDict q1 (q2 hb))
theorem noDicts_new {n : Nat} {h : Heap} {b : Addr} (e : h.get? b = none) : (noDicts n h).get? b = none := by
  cases q : (noDicts n h).get? b with
  | none => rfl
  | some o => rw [(noDicts_get.mp q).1] at e; cases e
theorem stays_of_kp {n : Nat} {h0 h : Heap} (k : Kp (some n) [] h0 h) : (noDicts n h0).StaysIn h := fun b o e => by
  obtain ⟨q1, q2⟩ := noDicts_get.mp e
  obtain ⟨o', e', s⟩ := k.old b o (fun m => nomatch m) q1
  rcases s with rfl | ⟨⟨n', z1, z2⟩, ⟨es, m, z3⟩, _⟩
  · exact e'
  · cases z1; exact absurd z3 (q2 z2 _ _)
theorem up_of_kp {x : Option Nat} {Y : List Addr} {h0 h : Heap} (k : Kp x Y h0 h) (hY : ∀ b ∈ Y, ∀ o, h0.get? b = some o → ∃ vs, o.data = .fields vs) : h0.UpToSlots h := fun b o e n => by
  have nb : b ∉ Y := fun m => by obtain ⟨vs, q⟩ := hY b m o e; exact n vs q
  obtain ⟨o', e', s⟩ := k.old b o nb e
  rcases s with rfl | ⟨_, _, s1, s2, s3⟩
  · exact ⟨o'.slots, e'⟩
  · refine ⟨o'.slots, ?_⟩
    rw [e']
    obtain ⟨c, d, dt, sl⟩ := o
    obtain ⟨c', d', dt', sl'⟩ := o'
    simp only at s1 s2 s3
    subst s1 s2 s3; rfl
theorem kp_of_up {n : Nat} {h0 h : Heap} (a : (noDicts n h0).StaysIn h) (b : h0.UpToSlots h) : Kp (some n) [] h0 h := by
  refine ⟨fun z o _ e => ?_, fun z d => ?_⟩
  · by_cases q : n ≤ z ∧ ∃ es n, o.data = .dict es n
    · obtain ⟨hz, es, m, q⟩ := q
      obtain ⟨sl, e'⟩ := b z o e fun vs z => by rw [q] at z; cases z
      exact ⟨_, e', .inr ⟨⟨n, rfl, hz⟩, ⟨es, m, q⟩, rfl, rfl, rfl⟩⟩
    · exact ⟨o, a z o (noDicts_get.mpr ⟨e, fun hz es n z => q ⟨hz, es, n, z⟩⟩), .refl _ _ _⟩
  · obtain ⟨o, es, n, e, q⟩ := d
    obtain ⟨sl, e'⟩ := b z o e fun vs z => by rw [q] at z; cases z
    exact ⟨_, es, n, e', q⟩
theorem fun_of_fo {n : Nat} {A : Around} {h base : Heap} {l : List Env} (e : A.frames = some l) (f : Fo n A h) (hb : ∀ L, n ≤ L → DictAt h L → base.get? L = none) : h.FunFrames base l := by
  obtain ⟨l', e', q⟩ := f
  rw [e] at e'; cases e'
  clear e
  induction l with
  | nil => trivial
  | cons z l ih =>
    obtain ⟨n, L, a, hL, d⟩ := q z (by simp)
    refine ⟨n, ?_, ih fun z m => q z (List.mem_cons_of_mem _ m)⟩
    obtain ⟨o, es, m, d1, d2⟩ := d
    exact ⟨L, o, a, hb L hL ⟨o, es, m, d1, d2⟩, d1, fun vs z => by rw [d2] at z; cases z⟩

section
variable {C : Cx} {c : Nat} {f : Fn} {ρ : Lo} {mg mb : Tx → Option Value}
theorem pv_end (K : Wk vq C mg mb) {it l : Addr} {vs : List Value} :
    ∃ a, mg "_parse_varint" = some (.ref a) ∧ (∀ h, C.W h → ∃ o fd, h.get? a = some o ∧ o.data = .func fd) ∧ ∀ (A : Around) (s : Shared) (Q E : Value → Shared → Prop) (base : Heap) (fr : List Env), Rm (c + 1) A → C.Ws A s → Itr s.heap it l vs vs.length → base.StaysIn s.heap → A.frames = some fr → s.heap.FunFrames base fr → base.get? it = none →
      (∀ h' e a0 t', Heap.FlyingW base fr e (.type "StopIteration") a0 h' → s.heap.UpToSlots h' → E (.ref e) { s with heap := h', toks := t' }) → wpAny (model C.prog C.w) A (call (.ref a) [.ref it]) Q E s := by
  obtain ⟨a, pm, cd, doc, h1, h2⟩ := K.fn "_parse_varint" (dref 9) (by kernel_rfl)
  refine ⟨a, h1, fun h w => let ⟨⟨o, ho, hd⟩, _⟩ := h2 h w; ⟨o, _, ho, hd⟩, ?_⟩
  intro A s Q E base fr r w ti hst hfr hff hbit hE
  obtain ⟨⟨o, ho, hdat⟩, hcd⟩ := h2 _ w.1
  refine wpAny_call (call_plain (binds := [("iterator", .ref it)]) r.lt ho hdat (K.nolimit _ w.1) hcd (by kernel_rfl) (fun x hx => by rw [List.mem_singleton.mp hx]; kernel_rfl) (fun h₁ F => ?_) (by kernel_rfl) (by kernel_rfl) (by kernel_rfl) ?_)
  · let env := envOf (dref 9).name (dref 9).scope s.heap.objs.size a cd
    have k1 : Kp Option.none [] s.heap h₁ := Kp.of F.keep
    have ti1 := ti.kp k1 (fun m => nomatch m) (fun m => nomatch m)
    have w1 : C.W h₁ := C.stab _ _ [] w.1 k1.weak (fun _ m => nomatch m)
    have hz : it ≠ s.heap.objs.size := fun e => by
      obtain ⟨⟨o, q, _⟩, _⟩ := ti
      rw [e] at q; exact absurd (Heap.lt_size q) (Nat.lt_irrefl _)
    have mbn : mb "next" = some (.builtin "next") := K.bt
    refine wpAny_execs_cons (wpAny_Assign_Name (env := env) (wpAny_Call_NameR (Calls.Name_function_global (env := env) (by kernel_rfl) (by kernel_rfl) (Calls.loadGlobal_builtin (env := env) (K.g _ w1) K.no (K.b _ w1) mbn ?_))) (by kernel_rfl))
    refine Calls.callWith_builtin (by kernel_rfl) (Calls.evalArgs_plain (spliced_one ?_))
    refine wpAny_Name (wpAny_loadName_local (env := env) (by kernel_rfl) (by kernel_rfl) F.ns (v := .ref it) (by kernel_rfl) ?_) (by kernel_rfl)
    refine next_end (A := A.deeper env) r.deeper.handled ti1.1 ti1.2 (by simp) fun h2 e S => ?_
    obtain ⟨oe, us, a0, q1, q2, q3, q4, q5⟩ := S.obj
    have hfr2 : (A.deeper env).frames = some (env :: fr) := Around.frames_deeper hfr
    have hnew : base.get? s.heap.objs.size = none := hst.fresh
    have nsL : h2.Ns s.heap.objs.size (fun y => ([("iterator", Value.ref it)] : List (Tx × Value)).reverse.lookup y) := F.ns.at' fun o e => S.old _ o (Ne.symm hz) e
    have keep2 : ∀ b o, h₁.get? b = some o → (∀ vs, o.data ≠ .fields vs) → h2.get? b = some o := fun b o e n => S.old b o (fun q => by
      obtain ⟨⟨o', z1, _, z2⟩, _⟩ := ti1
      rw [q, z1] at e; cases e; exact n _ z2) e
    have ff2 : h2.FunFrames base (env :: fr) := by
      have hk : (dref 9).scope.kind = .function := by kernel_rfl
      refine Heap.FunFrames.cons (L := s.heap.objs.size) (by show (dref 9).scope.kind ≠ .module; rw [hk]; decide) rfl nsL hnew ?_
      exact hff.of_keeps fun b o e n => ⟨o, keep2 b o (F.keep b o e) n, rfl⟩
    have st2 : base.StaysIn h2 := fun b o e => S.old b o (fun q => by rw [q, hbit] at e; cases e) (F.keep b o (hst b o e))
    have en : base.get? e = none := by
      cases q : base.get? e with
      | none => rfl
      | some o' =>
        have := F.keep _ _ (hst e o' q)
        rw [S.new] at this; cases this
    refine wpAny_leaving_firstW (base := base) (outer := fr) hfr2 ff2 rfl q1 st2 en q3 q4 q5 fun h3 LW => ?_
    obtain ⟨g1, ⟨_, _, g2⟩, g3, g4⟩ := LW
    rw [q2] at g3
    refine hE h3 e a0 _ ⟨g1, en, g2, g3⟩ ?_
    intro b o e n
    exact g4 b o (keep2 b o (F.keep b o e) n) n
  · have : ((dref 9).scope.names.all fun x => decide (x.2 ≠ .cell)) = true := by kernel_rfl
    simpa using this
end
end Mine
end
section
open PySem PySem.W PyProof.Rows
set_option Elab.async false
set_option maxRecDepth 100000
set_option linter.all false
namespace Mine
theorem signs_mem {t : List Nat} {y : Sc} (h : y ∈ signs (tx t)) : ∃ n, n ∈ t ∧ y = .str ⟨#[n]⟩ := by
  have e : signs (tx t) = t.map fun n => Sc.str ⟨#[n]⟩ := by simp [signs, tx]
  rw [e] at h
  obtain ⟨n, hn, rfl⟩ := List.mem_map.mp h
  exact ⟨n, hn, rfl⟩
theorem paired_codes : ∀ {t : List Nat} {zs : List Sc}, Paired (fun y z => ∃ n : Nat, y = Sc.str ⟨#[n]⟩ ∧ z = Sc.int (n : Nat)) ((signs (tx t)).filter fun _ => true) zs → zs = cdI t := by
  intro t zs h
  have e : (signs (tx t)).filter (fun _ => true) = t.map fun n => Sc.str ⟨#[n]⟩ := by simp [signs, tx]
  rw [e] at h
  clear e
  induction t generalizing zs with
  | nil => cases h; rfl
  | cons n t ih =>
    cases h with
    | cons a b =>
      obtain ⟨m, e1, e2⟩ := a
      have : m = n := by
        have := congrArg (fun s => match s with | Sc.str x => x.cps.getD 0 0 | _ => 0) e1
        simpa using this.symm
      subst this
      rw [ih b, e2]; rfl
section
variable {C : Cx} {c : Nat} {f : Fn} {ρ : Lo} {mg mb : Tx → Option Value}
/-- the codes of a text, in a list -/
theorem codes_comp (K : Wk vq C mg mb) {t : List Nat} (hs : t.length ≤ 1000000) (ht : ρ "text" = some (.sc (.str (tx t)))) {p1 p2 p3 p4 cpos pos : Pos} {scope : Scope} (fk : scope.kind = .function) {P : PV → Prop} (hp : P (.list (cdI t)))
    (hx : f.sc.names.lookup ("text" : Tx) = some .local)
    (h1 : scope.names.lookup ("ord" : Tx) = some .globalImplicit) (h2 : scope.names.lookup ("sign" : Tx) = some .local)
    (hn : (scope.names.all fun y => decide (y.2 ≠ .free) && decide (y.2 ≠ .cell) && (decide (y.2 ≠ .local) || decide (scope.names.lookup y.1 = some .local))) = true) (hss : ∀ L x, foldedSetIterable (.Name "text" p4) (f.env L) x = pure x)
    (ha : ∀ f' : Fn, ∀ L, (backTo cpos (starEach [.Name "sign" p2] (f'.env L))).any (·.1) = false) :
    E C c f (.ListComp (.Call (.Name "ord" p1) [.Name "sign" p2] [] cpos) [⟨.Name "sign" p3, .Name "text" p4, [], 0⟩] scope pos) ρ P := by
  refine cmpn fk (i_of <| nme ht ⟨by rw [signs_length]; exact small_sz (by simpa [tx] using hs), fun _ => true, fun y z => ∃ n : Nat, y = Sc.str ⟨#[n]⟩ ∧ z = Sc.int (n : Nat), fun y _ L => rfl, fun y hy _ L => ?_, fun zs hz => ?_⟩ hx) hn h2 hss
  · obtain ⟨n, _, rfl⟩ := signs_mem hy
    exact callB K.exact.toGd K.no K.bt (args1 (nme rfl (b_ord ⟨_, rfl, n, rfl, rfl⟩) h2) (by intro _; rfl)) (ha _) h1
  · rw [paired_codes hz]; exact hp
theorem hit_stop : isSubtype (.type "StopIteration") (.type "BaseException") = pure true := by rw [isSubtype_type]; kernel_rfl
theorem meta_stop : isSubtype (.type ((Manifest.find? "StopIteration").elim "type" fun x => x.metatype)) (.type "tuple") = pure false := by rw [isSubtype_type]; kernel_rfl

end
end Mine
end
section
open PySem PySem.W PyProof.Rows PySem.Calls
set_option Elab.async false
set_option maxRecDepth 100000
set_option linter.all false
namespace Mine
theorem join_flat0 : ∀ l : List (List Nat), Str.join (tx []) (l.map tx) = tx l.flatten
  | [] => rfl
  | [a] => by
    show tx a = _
    simp
  | a :: b :: r => by
    have ih := join_flat0 (b :: r)
    show tx a ++ tx [] ++ Str.join (tx []) ((b :: r).map tx) = _
    rw [ih, tx_app, tx_app, List.append_nil]; rfl
theorem join_flat (l : List (List Nat)) : Txt.join (tx []) (l.map tx) = tx l.flatten := by
  unfold Txt.join
  rw [StrLaws.glued_eq_join, join_flat0]
theorem paired_map {i : Nat → Sc} (inj : ∀ m n, i m = i n → m = n) {p : Nat → Bool} {q : Sc → Bool} {g : Nat → List Nat} (hq : ∀ n, q (i n) = p n) : ∀ {t : List Nat} {zs : List Sc},
    Paired (fun y z => ∃ n : Nat, y = i n ∧ z = Sc.str (tx (g n))) ((t.map i).filter q) zs → zs = ((t.filter p).map g).map fun x => Sc.str (tx x) := by
  intro t
  induction t with
  | nil => intro zs h; cases h; rfl
  | cons n t ih =>
    intro zs h
    rw [List.map_cons, List.filter_cons, hq] at h
    rw [List.filter_cons]
    cases e : p n with
    | true =>
      rw [e, if_pos rfl] at h
      rw [if_pos rfl]
      cases h with
      | cons a b =>
        obtain ⟨m, e1, e2⟩ := a
        rw [ih b, e2, ← inj _ _ e1]; rfl
    | false =>
      rw [e, if_neg (by decide)] at h
      rw [if_neg (by decide)]
      exact ih h
theorem strs_map : ∀ l : List (List Nat), strsOf (l.map fun x => Sc.str (tx x)) = some (l.map tx)
  | [] => rfl
  | a :: r => by
    show (strsOf (r.map fun x => Sc.str (tx x))).map (tx a :: ·) = _
    rw [strs_map r]; rfl
theorem inj_sign : ∀ m n : Nat, Sc.str ⟨#[m]⟩ = Sc.str ⟨#[n]⟩ → m = n := fun m n e => by
  have := congrArg (fun s => match s with | Sc.str x => x.cps.getD 0 0 | _ => 0) e
  simpa using this
theorem inj_int : ∀ m n : Nat, Sc.int (m : Int) = Sc.int (n : Int) → m = n := fun m n e => by
  have := congrArg (fun s => match s with | Sc.int x => x | _ => 0) e
  have : (m : Int) = n := this
  omega
theorem signs_eq (t : List Nat) : signs (tx t) = t.map fun n => Sc.str ⟨#[n]⟩ := by simp [signs, tx]
theorem oct_eq {t : List Nat} (hb : ∀ n ∈ t, n < 256) : octets (byl t) = t.map fun n : Nat => Sc.int (n : Int) := by
  unfold octets
  have := byl_back hb
  have h2 := congrArg Array.toList this
  rw [Array.toList_map] at h2
  have h3 : t = (byl t).toList.map (·.toNat) := h2.symm
  conv => rhs; rw [h3]
  rw [List.map_map]; rfl
theorem filt_tt (t : List Nat) : t.filter (fun _ => true) = t := by simp
theorem ones {g : Nat → Nat} {t : List Nat} : ∀ x ∈ t.map (fun n => [g n]), x.length = 1 := by
  intro x hx
  obtain ⟨n, _, rfl⟩ := List.mem_map.mp hx
  rfl
theorem sum_ones {l : List (List Nat)} (h : ∀ x ∈ l, x.length = 1) : ((l.map tx).map (·.length)).sum = l.length := by
  induction l with
  | nil => rfl
  | cons a r ih =>
    rw [List.map_cons, List.map_cons, List.sum_cons, ih fun x hx => h x (List.mem_cons_of_mem _ hx), tx_len, h a (by simp), List.length_cons]; omega
noncomputable def okC (n : Nat) : Prop := n < 128 ∨ n = 173
structure Tops (C : Cx) (mg : Tx → Option Value) : Prop where
  p1 : ∃ a, mg "_twin_re_1" = some (.ref a) ∧ ∀ h, C.W h → PtAt h 0 a dotI
  p2 : ∃ a, mg "_twin_re_2" = some (.ref a) ∧ ∀ h, C.W h → PtAt h 1 a dotI
  p3 : ∃ a, mg "_twin_re_3" = some (.ref a) ∧ ∀ h, C.W h → PtAt h 0 a eolI
  b1 : ∃ a, mg "b1_set" = some (.ref a) ∧ ∀ h, C.W h → h.SetOf (intKind C.prog C.w) a (fun i => b1L.contains i) 27
  b3 : ∃ a, mg "b3_exceptions" = some (.ref a) ∧ (a == sysModules) = false ∧ ∀ h, C.W h → DW h a
section
variable {C : Cx} {c : Nat} {f : Fn} {ρ : Lo} {mg mb : Tx → Option Value}
theorem b_joinL {l : List (List Nat)} {P : PV → Prop} (h : ∀ x ∈ l, x.length = 1) (hl : l.length ≤ 1000000) (hp : P (.sc (.str (tx l.flatten)))) :
    B_ C c "str.join" [.sc (.str (tx [])), .list (l.map fun x => Sc.str (tx x))] P := by
  refine b_join (strs_map l) ?_ (by rw [join_flat]; exact hp)
  rw [sum_ones h, tx_len]; simp; omega
theorem flat_ones (g : Nat → Nat) (t : List Nat) : (t.map fun n => [g n]).flatten = t.map g := by
  induction t with
  | nil => rfl
  | cons n t ih => simp [ih]
theorem t_val {e : Expr} {P : Bool → Prop} (h : E C c f e ρ fun x => ∃ b, x = .sc (.bool b) ∧ P b)
    (he : ∀ L, isTrue e (f.env L) (eval e (f.env L)) = (do let v ← eval e (f.env L); standAt e.pos; holding [v] (truthy v)) := by intro _; rfl) : T C c f e ρ P := by
  rw [E_eq] at h
  rw [T_eq]
  exact TV.val h he
theorem es_len : ∀ (s : List Nat) (p : Bool), (es p s).length ≤ 2 * s.length
  | [], _ => by simp [es]
  | c :: r, p => by
    have h1 := es_len r true; have h2 := es_len r false
    unfold es
    repeat' split
    all_goals simp only [List.length_cons]; omega
theorem ds_len : ∀ (s : List Nat) (p : Bool), (ds p s).length ≤ 2 * s.length
  | [], _ => by simp [ds]
  | c :: r, p => by
    have h1 := ds_len r (c == 10); have h2 := ds_len r false
    unfold ds
    repeat' split
    all_goals simp only [List.length_cons]; omega
theorem ds_all {P : Nat → Prop} : ∀ {s : List Nat} {p : Bool}, P 46 → (∀ n ∈ s, P n) → ∀ n ∈ ds p s, P n
  | [], _, _, _ => by simp [ds]
  | c :: r, p, h0, h => by
    intro n hn
    have hr := fun x hx => h x (List.mem_cons_of_mem _ hx)
    unfold ds at hn
    split at hn
    · simp only [List.mem_cons] at hn
      rcases hn with rfl | rfl | hn
      · exact h0
      · exact h0
      · exact ds_all h0 hr n hn
    · rcases List.mem_cons.mp hn with rfl | hn
      · exact h _ (by simp)
      · exact ds_all h0 hr n hn
end
end Mine
end
section
open PySem
set_option linter.all false
namespace Mine
/-- a number without its leading noughts -/
noncomputable def strip (h : List Nat) : List Nat := h.dropWhile (· == 0)
noncomputable def stT (t : Tk) : Tk := (strip t.1, t.2)
theorem hv_zero (h : List Nat) : hv (0 :: h) = hv h := by
  show hv ([0] ++ h) = hv h
  rw [hv_app]; simp [hv]
theorem hv_strip : ∀ h : List Nat, hv (strip h) = hv h
  | [] => rfl
  | d :: h => by
    unfold strip
    rw [List.dropWhile_cons]
    by_cases q : d = 0
    · subst q
      rw [if_pos (by decide), hv_zero]
      exact hv_strip h
    · rw [if_neg (by simpa using q)]
theorem strip_head : ∀ h : List Nat, strip h = [] ∨ ∃ d t, strip h = d :: t ∧ d ≠ 0
  | [] => .inl rfl
  | d :: h => by
    unfold strip
    rw [List.dropWhile_cons]
    by_cases q : d = 0
    · subst q
      rw [if_pos (by decide)]
      exact strip_head h
    · rw [if_neg (by simpa using q)]
      exact .inr ⟨d, h, rfl, q⟩
theorem strip_mem {h : List Nat} {d : Nat} (m : d ∈ strip h) : d ∈ h := (List.dropWhile_suffix _).subset m
theorem strip_len (h : List Nat) : (strip h).length ≤ h.length := (List.dropWhile_suffix _).length_le
theorem hv_cons_pos {d : Nat} (t : List Nat) (h : d ≠ 0) : 0 < hv (d :: t) := by
  show 0 < hv ([d] ++ t)
  rw [hv_app]
  have : hv [d] = d := by simp [hv]
  rw [this]
  have : 0 < d * 64 ^ t.length := Nat.mul_pos (by omega) (Nat.pow_pos (by decide))
  omega
/-- the ahead part of a stripped number is nought just if it is nothing -/
theorem strip_pos {h p q : List Nat} (e : strip h = p ++ q) : 0 < hv p ↔ p ≠ [] := by
  constructor
  · rintro z rfl; simp [hv] at z
  · intro ne
    obtain ⟨d, t, rfl⟩ := List.exists_cons_of_ne_nil ne
    rcases strip_head h with z | ⟨d', t', z, nz⟩
    · rw [z] at e; cases e
    · rw [z] at e
      cases e
      exact hv_cons_pos t nz
end Mine
end
section
open PySem PySem.W PyProof.Rows PySem.Calls
set_option Elab.async false
set_option maxRecDepth 100000
set_option linter.all false
namespace Mine
section
variable {C : Cx} {c : Nat} {f : Fn} {ρ : Lo} {O : List (Tx × Addr)} {mg mb : Tx → Option Value}
theorem e_chain {l r r' : Expr} {op op' : CmpOp} {pos : Pos} {P : PV → Prop}
    (h : E C c f l ρ fun a => E C c f r ρ fun b => O_ C c (compareOp op) a b fun x => ∃ t, x = .sc (.bool t) ∧ if t = true then E C c f r' ρ fun b' => O_ C c (compareOp op') b b' P else P (.sc (.bool false)))
    (hm : lastMarks [op, op'] [r, r'] = false := by rfl) : E C c f (.Compare l [op, op'] [r, r'] pos) ρ P := by
  with_unfolding_all exact EV.chain h hm
theorem e_and {x y : Expr} {pos : Pos} {P : PV → Prop} (h : E C c f x ρ fun v => ∃ t, v = .sc (.bool t) ∧ if t = true then E C c f y ρ P else P (.sc (.bool false))) : E C c f (.BoolOp .And [x, y] pos) ρ P := by
  with_unfolding_all exact EV.and2 h
theorem e_or {x y : Expr} {pos : Pos} {P : PV → Prop} (h : E C c f x ρ fun v => ∃ t, v = .sc (.bool t) ∧ if t = true then P (.sc (.bool true)) else E C c f y ρ P) : E C c f (.BoolOp .Or [x, y] pos) ρ P := by
  with_unfolding_all exact EV.or2 h
theorem e_not {x : Expr} {pos : Pos} {P : PV → Prop} (h : E C c f x ρ fun v => ∃ t, v = .sc (.bool t) ∧ P (.sc (.bool (!t)))) : E C c f (.UnaryOp .Not x pos) ρ P := by
  with_unfolding_all exact EV.not h
theorem o_inLS {i : Tx} {xs : List Tx} {P : PV → Prop} (hp : P (.sc (.bool (xs.any (· == i))))) : O_ C c (compareOp .In) (.sc (.str i)) (.list (sL xs)) P := by
  with_unfolding_all exact OV.inLS hp
theorem o_inTS {i : Tx} {xs : List Tx} {P : PV → Prop} (hp : P (.sc (.bool (xs.any (· == i))))) : O_ C c (compareOp .In) (.sc (.str i)) (.tup (sL xs)) P := by
  with_unfolding_all exact OV.inTS hp
theorem o_eqL {is js : List Int} {P : PV → Prop} (hp : P (.sc (.bool (decide (is = js))))) : O_ C c (compareOp .Eq) (.list (iL is)) (.list (iL js)) P := by
  with_unfolding_all exact OV.eqL hp
theorem o_neE {l : List Sc} {P : PV → Prop} (hp : P (.sc (.bool (!l.isEmpty)))) : O_ C c (compareOp .NotEq) (.list l) (.list []) P := by
  with_unfolding_all exact OV.neE hp
theorem e_sliceS {value : Expr} {k : Nat} {nl : Nat} {pl p pos : Pos} {P : PV → Prop}
    (h : E C c f value ρ fun o => ∃ x, o = .sc (.str x) ∧ x.length ≤ sizeLine ∧ P (.sc (.str (Txt.slice x (some (k : Int)) none)))) : E C c f (.Subscript value (.Slice (some (.Constant (.int (k : Nat)) nl pl)) none .none p) pos) ρ P := by
  with_unfolding_all exact EVsliceS h
theorem t_v {e : Expr} {P : Bool → Prop} (h : E C c f e ρ fun x => ∃ b, x = .sc (.bool b) ∧ P b)
    (he : ∀ L, isTrue e (f.env L) (eval e (f.env L)) = (do let v ← eval e (f.env L); standAt e.pos; holding [v] (truthy v)) := by intro _; rfl) : T C c f e ρ P := by
  rw [E_eq] at h
  rw [T_eq]
  exact TV.val h he
theorem e_count {o : Expr} {e : Expr} {apos pos : Pos} {P : PV → Prop}
    (h : E C c f o ρ fun ov => ∃ x, ov = .sc (.str x) ∧ E C c f e ρ fun yv => ∃ y, yv = .sc (.str y) ∧ P (.sc (.int (Txt.count x y))))
    (hbase : ∀ L, attributeBase o "count" (f.env L) (eval o (f.env L)) = eval o (f.env L) := by intro _; kernel_rfl)
    (hfew : ∀ L, ((backTo pos (starEach [e] (f.env L))).all (fun x => !x.1) && (backToKw pos (keywordEach [] (f.env L))).all (fun x => x.1.isSome)
      && decide ([e].length + ([] : List Keyword).length + (if ([] : List Keyword).isEmpty then 0 else 1) < 30)) = true := by intro _; kernel_rfl)
    (he : ∀ L, starEach (e :: []) (f.env L) = (false, eval e (f.env L)) :: starEach [] (f.env L) := by intro _; kernel_rfl)
    (hline : (apos.endLine == pos.line) = true := by rfl) : E C c f (.Call (.Attribute o "count" apos) [e] [] pos) ρ P := by
  simp only [E_eq] at *
  refine EV.meth F.plainAttrs_str F.slot_str_count F.type_str_count (h.mono fun ov q => ?_) hbase hfew hline
  obtain ⟨x, rfl, q⟩ := q
  refine ⟨OfType.str _, EVs.cons (EV.mono q fun yv z => ?_) he⟩
  obtain ⟨y, rfl, z⟩ := z
  exact EVs.nil (BV.count z)
theorem nmC {cs : List (Addr × Value)} {y : Tx} {pos : Pos} {a : Addr} {v : Value} {x : Sc} {P : PV → Prop} (hm : (a, v) ∈ cs) (hr : ScR v x) (hp : P (.sc x)) (hl : f.sc.names.lookup y = some .cell := by kernel_rfl)
    (hc : ∀ L, (f.cs L).lookup y = some a := by intro _; kernel_rfl) (hd : (y == ("__debug__" : Tx)) = false := by kernel_rfl) : E (C.cells cs) c f (.Name y pos) ρ P := by
  rw [E_eq]
  exact EV.nameC hl hc hm hr hp hd
theorem cmpnC {elt iter : Expr} {x : Tx} {px : Pos} {ifs : List Expr} {scope : Scope} {pos : Pos} {P : PV → Prop} (cl : List (Tx × Addr)) (fk : scope.kind = .function) (hclos : ∀ L, closureFor scope (f.env L) = pure cl)
    (h : EI C c f iter ρ fun xs => xs.length ≤ sizeLine ∧ ∃ (p : Sc → Bool) (R : Sc → Sc → Prop), (∀ y ∈ xs, ∀ L, TestsE C.exact c (f.compC scope fk cl L) (only x y) ifs (p y)) ∧
      (∀ y ∈ xs, p y = true → ∀ L, E C.exact c (f.compC scope fk cl L) elt (only x y) fun z => ∃ w, z = .sc w ∧ R y w) ∧ ∀ zs, Paired R (xs.filter p) zs → P (.list zs))
    (hn : (scope.names.all fun y => decide (y.2 ≠ .cell) && (decide (y.2 ≠ .local) || decide (scope.names.lookup y.1 = some .local))) = true := by kernel_rfl) (hx : scope.names.lookup x = some .local := by kernel_rfl)
    (hs : ∀ L x, foldedSetIterable iter (f.env L) x = pure x := by intro _ _; kernel_rfl) :
    E C c f (.ListComp elt [⟨.Name x px, iter, ifs, 0⟩] scope pos) ρ P := by
  simp only [E_eq, EI_eq, TestsE_eq] at *
  simp only [List.all_eq_true, Bool.and_eq_true, decide_eq_true_eq, Bool.or_eq_true] at hn
  exact EV.compC fk hclos h (fun y hy => (hn y hy).1) (fun y hy e => (hn y hy).2.resolve_left fun q => q e) hx hs
theorem Wk.cells {q : Program} (K : Wk q C mg mb) (cs : List (Addr × Value)) : Wk q (C.cells cs) mg mb where
  g := fun h w => K.g h w.1
  b := fun h w => K.b h w.1
  nolimit := fun h w => K.nolimit h w.1
  fn := fun nm d e => let ⟨a, pm, cd, doc, m, z⟩ := K.fn nm d e; ⟨a, pm, cd, doc, m, fun h w => z h w.1⟩
  bi := K.bi
  fr := K.fr
  crlf := K.crlf
theorem cd_ofC {q : Program} (K : Wk q C mg mb) {nm : Tx} {d : DefRec} {ps : List Tx} {as : List PV} {P : PV → Prop} (e : defOf q nm = some (d, []))
    (fk : d.scope.kind = .function)
    (hbind : ∀ pm cd doc, ∀ vs : List Value, vs.length = as.length → bindArgs (Calls.docDef d.name d.params d.body d.scope pm cd doc) ⟨vs, []⟩ = pure (ps.zip vs))
    (hkind : ∀ L : Addr, ∀ x ∈ ps, d.scope.names.lookup x = some .local ∨ (d.scope.names.lookup x = some .cell ∧ ((cellsFrom (L + 1) d.scope.names []).lookup x).isSome = true))
    (ρ : Lo) (hρ : ∀ a cd X h vs L, Reps X h vs as → ∀ y x, ρ y = some x → ∃ v, bindL (envOfC d.name d.scope L a cd).kindOf (ps.zip vs) (fun _ => none) y = some v ∧ Rep X h v x)
    (cs : Addr → List Value → List (Addr × Value)) (hcs : ∀ a cd L vs, vs.length = as.length → ∀ p ∈ cs L vs, ∃ n, (cellsFrom (L + 1) d.scope.names []).lookup n = some p.1 ∧ bindC (envOfC d.name d.scope L a cd).kindOf (ps.zip vs) (fun _ => none) n = some p.2)
    (hco : (!d.scope.isCoroutine && !d.scope.isGenerator) = true)
    (h : ∀ a cd L X h vs, Reps X h vs as → S (C.cells (cs L vs)) c (Fn.ofC d.name d.scope a cd fk L) d.body ρ [] fun o => match o with | .ret x => P x | .next _ => P (.sc .none) | _ => False) : Cd C (c + 1) mg nm as P := by
  simp only [S_eq, Cd_eq] at *
  obtain ⟨a, pm, cd, doc, h1, h2⟩ := K.fn nm d e
  simp only [Bool.and_eq_true, Bool.not_eq_true'] at hco
  exact ⟨a, h1, fun h w => let ⟨⟨o, ho, hd⟩, _⟩ := h2 h w; ⟨o, _, ho, hd⟩,
    Fct.ofC (mb := mb) (fk := fk) K.toGd (fun h w => (h2 h w).1) (fun h w => (h2 h w).2) (hbind pm cd doc) hkind ρ (fun X h vs L => hρ a cd X h vs L) cs (fun L vs => hcs a cd L vs) (fun L X h' vs rs => h a cd L X h' vs rs) hco.1 hco.2⟩
end
end Mine
end
section
open PySem PySem.W PyProof.Rows
set_option Elab.async false
set_option maxRecDepth 100000
set_option linter.all false
namespace Mine
noncomputable def qTest : Expr := match (dref 27).body.drop 2 with | .While t _ _ _ :: _ => t | _ => .Constant .none 0 ⟨0, 0, 0, 0⟩
noncomputable def qBody : List Stmt := match (dref 27).body.drop 2 with | .While _ b _ _ :: _ => b | _ => []
noncomputable def qArgs : List Expr := match (dref 27).body with | .Assign _ (.Call _ args _ _) _ :: _ => args | _ => []
section
variable {C : Cx} {c : Nat} {f : Fn} {ρ : Lo} {mg mb : Tx → Option Value}
theorem hv_m (p : List Nat) {d : Nat} (h : d < 64) : ((hv (p ++ [d]) : Nat) : Int) % 64 = d := by rw [hv_snoc]; omega
theorem hv_d (p : List Nat) {d : Nat} (h : d < 64) : ((hv (p ++ [d]) : Nat) : Int) / 64 = (hv p : Nat) := by rw [hv_snoc]; omega
theorem nm_m (h : List Nat) {l : Nat} (hl : l < 64) : ((nm (h, l) : Nat) : Int) % 64 = (l : Nat) := by simp only [nm]; omega
theorem nm_d (h : List Nat) {l : Nat} (hl : l < 64) : ((nm (h, l) : Nat) : Int) / 64 = (hv (strip h) : Nat) := by rw [hv_strip]; simp only [nm]; omega
/-- what stands behind the try: the number is written in the fewest digits -/
theorem packed_rest (K : Wk vq C mg mb) {a : Addr} {cd : Value} {fk : (dref 27).scope.kind = .function} {h : List Nat} {l : Nat} (oh : ∀ d ∈ h, d < 64) (hl : l < 64) {z : List Nat} (hz : z.length + h.length + 1 ≤ 1000000) {it : Addr}
    (e1 : ρ "items" = some (.obj it)) (e2 : ρ "packed" = some (.sc (.str (tx z)))) (e3 : ρ "number" = some (.sc (.int (nm (h, l) : Nat)))) :
    S C c (Fn.of (dref 27).name (dref 27).scope a cd fk) (qBody.drop 1) ρ [] (fun o => match o with | .next ρ' => ρ' "items" = some (.obj it) ∧ ρ' "packed" = some (.sc (.str (tx (z ++ wr1 (stT (h, l)))))) | _ => False) := by
  have hm := nm_m h hl
  have hd := nm_d h hl
  refine asg <| e_mono (P := (· = PV.sc (.str (tx [sg l])))) (e_ite <| tcmp <| e_bin <| nme e3 <| e_int <| o_mod (by decide) <| e_int <| o_eqI ⟨_, rfl, ?_⟩) fun x hx => ⟨by subst hx; exact .inl rfl, ?_⟩
  · rw [hm]
    by_cases q : l = 45
    · subst q; exact e_str rfl
    · have : ((l : Int) == 45) = false := by rw [beq_eq_false_iff_ne]; exact fun z => q (Int.ofNat_inj.mp z)
      rw [this]
      refine callB K.toGd K.no K.bt <| args1 <| e_bin <| nme e3 <| e_int <| o_mod (by decide) <| b_chr (by rw [hm]; exact Int.natCast_nonneg l) (by rw [hm]; omega) ?_
      rw [hm, Int.toNat_natCast, sg, if_neg q]; rfl
  subst hx
  refine asg <| e_bin <| nme e3 <| e_int <| o_fdiv (by decide) (by decide) ⟨.inl rfl, ?_⟩
  rw [hd]
  have os : ∀ d ∈ strip h, d < 64 := fun d m => oh d (strip_mem m)
  have sl := strip_len h
  refine whl (fun k ρ' => ∃ p q, strip h = p ++ q ∧ p.length = k ∧ ρ' "left" = some (.sc (.int (hv p : Nat))) ∧ ρ' "signs" = some (.sc (.str (tx (q.map (64 + ·) ++ [sg l])))) ∧ ρ' "packed" = some (.sc (.str (tx z))) ∧ ρ' "items" = some (.obj it)) (strip h).length ⟨strip h, [], by simp, rfl, rfl, rfl, e2, e1⟩ ?_
  rintro k ρ' ⟨p, q, g2, g3, g4, g5, g6, g7⟩
  have pos := strip_pos g2
  have op : ∀ d ∈ p, d < 64 := fun d hd => os d (by rw [g2]; exact List.mem_append_left _ hd)
  refine tcmp <| nme g4 <| e_int <| o_gtI ⟨_, rfl, ?_⟩
  by_cases hp : p = []
  · subst hp
    rw [if_neg (by simp [hv])]
    have hq : (strip h).length = q.length := by rw [g2]; simp
    refine asg <| e_bin <| nme g6 <| nme g5 <| o_addS ?_ ⟨.inl rfl, s_nil ⟨g7, ?_⟩⟩
    · rw [tx_len, tx_len]
      refine small_sz ?_
      simp only [List.length_append, List.length_map, List.length_singleton]
      omega
    · show some (PV.sc (.str (tx _ ++ tx _))) = _
      rw [tx_app, wr1, stT, g2]; rfl
  · rw [if_pos (by simpa using pos.mpr hp)]
    obtain ⟨p', d, rfl⟩ : ∃ p' d, p = p' ++ [d] := ⟨p.dropLast, p.getLast hp, (List.dropLast_concat_getLast hp).symm⟩
    have hd := op d (by simp)
    have m1 := hv_m p' hd
    have m2 := hv_d p' hd
    have hq : (strip h).length = p'.length + 1 + q.length := by rw [g2]; simp; omega
    refine asg <| e_bin <| callB K.toGd K.no K.bt <| args1 <| e_bin <| e_int <| e_bin <| nme g4 <| e_int <| o_mod (by decide) <| o_add <| b_chr (by rw [m1]; exact Int.natCast_nonneg (64 + d)) (by rw [m1]; omega) <| nme g5 <| o_addS (by rw [m1, tx_len]; exact small_sz (by simp only [List.length_append, List.length_map, List.length_singleton]; show 1 + _ ≤ _; omega)) ⟨.inl rfl, ?_⟩
    refine asg <| e_bin <| nme g4 <| e_int <| o_fdiv (by decide) (by decide) ⟨.inl rfl, s_nil ⟨p'.length, by rw [← g3]; simp, p', d :: q, by rw [g2]; simp, rfl, ?_, ?_, g6, g7⟩⟩
    · rw [m2]; rfl
    · rw [m1]
      have e : (64 + (d : Int)).toNat = 64 + d := rfl
      rw [e]
      show some (PV.sc (.str (tx [64 + d] ++ tx _))) = _
      rw [tx_app]; rfl

noncomputable def pk_ (r : List Tk) : List Nat := wr (r.map stT)
/-- while True: try: number = _parse_varint(items) except StopIteration: return packed ... -/
theorem packed_loop (K : Wk vq C mg mb) (hx : C.ex = some C.n0) (r : List Tk) (ok : ∀ t ∈ r, (∀ d ∈ t.1, d < 64) ∧ t.2 < 64) (hs : (wr r).length ≤ 1000000) {vs : List Value} (sr : ScsR vs (cdI (wr r)))
    {A : Around} {X : List Addr} {s : Shared} {a : Addr} {cd : Value} {fr : List Env} (rm : Rm (c + 1) (A.deeper (envOf (dref 27).name (dref 27).scope s.heap.objs.size a cd))) (w : C.W0 A s) (hfr : A.frames = some fr) (b : Bd X s.heap)
    {it l : Addr} (ni : s.heap.get? it = none) (ci : C.nw it)
    {h0 : Heap} {t0 : Nat} (kp0 : Kp (some C.n0) [] s.heap h0) {ρ0 : Lo} (si0 : SI C X [] h0 s.heap.objs.size ρ0) (r1 : ρ0 "items" = some (.obj it)) (r2 : ρ0 "packed" = some (.sc (.str (tx [])))) (ti0 : Itr h0 it l vs 0) (ht0 : 1 ≤ t0)
    {Q : Flow → Shared → Prop} (hQ : ∀ u h' t', Kp (some C.n0) [] s.heap h' → Q (.ret (.str (tx (pk_ r)) u)) { s with heap := h', toks := t' }) :
    wpAny (model C.prog C.w) (A.deeper (envOf (dref 27).name (dref 27).scope s.heap.objs.size a cd)) (execs ((dref 27).body.drop 2) (envOf (dref 27).name (dref 27).scope s.heap.objs.size a cd)) Q (fun _ _ => False) { s with heap := h0, toks := t0 } := by
  have hlr := Nat.le_trans (wr_len_le r) hs
  let env := envOf (dref 27).name (dref 27).scope s.heap.objs.size a cd
  have hk : (dref 27).scope.kind = .function := by kernel_rfl
  let f : Fn := Fn.of (dref 27).name (dref 27).scope a cd hk
  have foL : ∀ {h : Heap}, Kp (some C.n0) [] s.heap h → DictAt h s.heap.objs.size → Fo C.n0 (A.deeper env) h := fun k d => (w.2.kp k).deeper (by show (dref 27).scope.kind ≠ .module; rw [hk]; decide) rfl (C.nwle _ (C.low _ w.1)) d
  have wsOf : ∀ {h : Heap} {t : Nat}, Kp (some C.n0) [] s.heap h → DictAt h s.heap.objs.size → 1 ≤ t → C.Ws (A.deeper env) { s with heap := h, toks := t } := fun k n ht => ⟨C.stab _ _ [] w.1 k (fun _ m => nomatch m), ht, foL k n⟩
  have baseL : (noDicts C.n0 s.heap).get? s.heap.objs.size = none := noDicts_new (fresh_size _)
  have hfr2 : (A.deeper env).frames = some (env :: fr) := Around.frames_deeper hfr
  have nX : it ∉ X := fun mX => by obtain ⟨o', e'⟩ := Option.isSome_iff_exists.mp (b it mX); rw [ni] at e'; cases e'
  refine wpAny_execs_cons ?_
  refine whl_start 0 ?_
  have main : ∀ (z k : Nat) (h : Heap) (t : Nat) (ρ : Lo), k + z = r.length → Kp (some C.n0) [] s.heap h → SI C X [] h s.heap.objs.size ρ → ρ "items" = some (.obj it) → ρ "packed" = some (.sc (.str (tx (pk_ (r.take k))))) → Itr h it l vs (wr (r.take k)).length → 1 ≤ t →
      WhlRest C.prog C.w (A.deeper env) (fun _ _ => False) env qTest qBody [] (fun fl s' => match fl with | .next => wpAny (model C.prog C.w) (A.deeper env) (execs [] env) Q (fun _ _ => False) s' | fl => Q fl s') 0 { s with heap := h, toks := t } := by
    intro z
    induction z with
    | zero =>
      intro k h t ρ hk' kp si e1 e2 ti ht
      have hkl : k = r.length := hk'
      subst hkl
      rw [List.take_length] at e2 ti
      refine whl_turn (k := 0) PassesOwn.never (TV.run (f := f) (ρ := ρ) (c := c + 1) (X := X) (TV.val (EV.bool ⟨true, rfl, rfl⟩) (by intro _; kernel_rfl)) rm (wsOf kp si.dictAt ht) trivial (b.kp kp) si.loc fun bb h1 t1 p k1 w1 => ?_)
      subst p
      refine WhlIf.yes rfl (wpAny_execs_cons (wpAny_Try_except ?_))
      have si1 := si.kp k1
      replace k1 : Kp (some C.n0) [] h h1 := k1.weaker
      have kp1 := kp.trans k1
      have ti1 := ti.kp k1 (fun m => nomatch m) (fun m => nomatch m)
      obtain ⟨m, ns1, hm⟩ := si1.loc
      obtain ⟨vi, mi, repi⟩ := hm _ _ e1
      cases repi
      obtain ⟨vp, mp, repp⟩ := hm _ _ e2
      cases repp with | sc repp =>
      cases repp with | str _ tp =>
      obtain ⟨pa, pm1, pm2, pm3⟩ := pv_end (c := c) K (it := it) (l := l) (vs := vs)
      obtain ⟨po, pfd, po1, po2⟩ := pm2 _ w1.1
      refine wpAny_execs_cons (wpAny_Assign_Name (env := env) (wpAny_Call_NameR (Calls.Name_function_global (env := env) hk (by kernel_rfl) (Calls.loadGlobal_global (env := env) (K.g _ w1.1) pm1 (Calls.callWith_function (o := po) (fd := pfd) (Calls.evalArgs_plain (spliced_one ?_)))) (by kernel_rfl))) (by kernel_rfl))
      refine wpAny_Name (wpAny_loadName_local (env := env) hk (by kernel_rfl) ns1 mi ⟨⟨po1, po2⟩, ?_⟩) (by kernel_rfl)
      have hvl : vs.length = (wr r).length := by rw [sr.length]; simp [cdI, iL]
      have st1 : (noDicts C.n0 s.heap).StaysIn h1 := stays_of_kp kp1
      have ff1 : h1.FunFrames (noDicts C.n0 s.heap) (env :: fr) := by
        refine Heap.FunFrames.cons (L := s.heap.objs.size) (by show (dref 27).scope.kind ≠ .module; rw [hk]; decide) rfl ns1 baseL ?_
        refine Heap.FunFrames.of_keeps (h := s.heap) (fun b o e n => ?_) (fun_of_fo hfr w.2 fun L hL d => noDicts_none hL d)
        obtain ⟨o', e', sm⟩ := kp1.old b o (fun m => nomatch m) e
        exact ⟨o', e', sm.data⟩
      refine pm3 _ _ _ _ (noDicts C.n0 s.heap) (env :: fr) rm w1 (by rw [hvl]; exact ti1) st1 hfr2 ff1 (noDicts_new ni) fun h2 e a0 t2 fl2 up2 => ?_
      refine wpAny_looks_onW hfr2 rfl fl2 fun h3 he3 up3 => ?_
      refine wpAny_landsW he3 fun h4 fl4 up4 => ?_
      have up14 : h1.UpToSlots h4 := (up2.trans up3).trans up4
      have kp4 : Kp (some C.n0) [] s.heap h4 := kp_of_up fl4.1 ((up_of_kp kp1 (fun _ m => nomatch m)).trans up14)
      have w4 : C.W h4 := C.stab _ _ [] w.1 kp4 (fun _ m => nomatch m)
      have mbs : mb "StopIteration" = some (.type "StopIteration") := K.bt
      refine wpAny_handleBy_builtin (X := "StopIteration") (T := "StopIteration") (b := true) hit_stop meta_stop isSubtype_stop ?_
      refine Calls.Name_function_global (env := env) hk (by kernel_rfl) (Calls.loadGlobal_builtin (env := env) (K.g _ w4) K.no (K.b _ w4) mbs ?_) (by kernel_rfl)
      refine ⟨rfl, fl4.there, ?_⟩
      rw [if_pos rfl]
      obtain ⟨g1, g2, g3, g4⟩ := fl4
      refine wpAny_setFlight_noneW g1 g3 g4.at fun h5 m1 m2 m3 m4 => ?_
      have up45 : h4.UpToSlots h5 := fun b o e n => ⟨o.slots, m4 b o e n⟩
      have up15 := up14.trans up45
      have kp5 : Kp (some C.n0) [] s.heap h5 := kp_of_up m1 ((up_of_kp kp1 (fun _ m => nomatch m)).trans up15)
      have ns5 : h5.Ns s.heap.objs.size m := up15.ns ns1
      refine wpAny_execs_cons (wpAny_Return_some (wpAny_Name (wpAny_loadName_local (env := env) hk (by kernel_rfl) ns5 mp ?_) (by kernel_rfl)))
      exact hQ tp h5 _ kp5
    | succ z ih =>
      intro k h t ρ hk' kp si e1 e2 ti ht
      have hkr : k < r.length := by rw [← hk']; exact Nat.lt_add_of_pos_right (Nat.succ_pos z)
      refine whl_turn (k := 0) PassesOwn.never (TV.run (f := f) (ρ := ρ) (c := c + 1) (X := X) (TV.val (EV.bool ⟨true, rfl, rfl⟩) (by intro _; kernel_rfl)) rm (wsOf kp si.dictAt ht) trivial (b.kp kp) si.loc fun bb h1 t1 p k1 w1 => ?_)
      subst p
      refine WhlIf.yes rfl (wpAny_execs_cons (wpAny_Try_except ?_))
      have si1 := si.kp k1
      replace k1 : Kp (some C.n0) [] h h1 := k1.weaker
      have kp1 := kp.trans k1
      have ti1 := ti.kp k1 (fun m => nomatch m) (fun m => nomatch m)
      obtain ⟨m, ns1, hm⟩ := si1.loc
      obtain ⟨vi, mi, repi⟩ := hm _ _ e1
      cases repi
      have o := ok r[k] (List.getElem_mem hkr)
      have hwt := wr_take r k hkr
      have hdr : (wr r).drop (wr (r.take k)).length = wr1 r[k] ++ wr (r.drop (k + 1)) := by
        have e : wr r = wr (r.take k) ++ (wr1 r[k] ++ wr (r.drop (k + 1))) := by
          conv => lhs; rw [← List.take_append_drop k r]
          rw [wr_app, ← List.getElem_cons_drop hkr, wr_cons]
        rw [e, List.drop_left]
      have hlt := wr_take_len r k hkr
      have hpk : pk_ (r.take (k + 1)) = pk_ (r.take k) ++ wr1 (stT r[k]) := by unfold pk_; rw [take_snoc hkr, List.map_append, wr_app]; simp [wr]
      have hpl : (pk_ (r.take k)).length ≤ (wr (r.take k)).length := by
        unfold pk_
        generalize r.take k = q
        induction q with
        | nil => simp [wr]
        | cons t q ih =>
          rw [List.map_cons, wr_cons, wr_cons, List.length_append, List.length_append, wr1_len, wr1_len]
          have := strip_len t.1
          show (strip t.1).length + 1 + _ ≤ _
          omega
      generalize r[k] = tk at o hwt hdr hlt hpk
      obtain ⟨hh, ll⟩ := tk
      rw [wr1_len] at hlt; dsimp only at hlt
      have o1 : ∀ d ∈ hh, d < 64 := o.1
      have o2 : ll < 64 := o.2
      obtain ⟨pa, pm1, pm2, pm3⟩ := pv_okG (c := c) K (it := it) (l := l) (vs := vs) (i := (wr (r.take k)).length) (h := hh) (lo := ll) sr ⟨o1, o2⟩ (by omega) hdr
      obtain ⟨po, pfd, po1, po2⟩ := pm2 _ w1.1
      refine wpAny_execs_cons (wpAny_Assign_Name (env := env) (wpAny_Call_NameR (Calls.Name_function_global (env := env) hk (by kernel_rfl) (Calls.loadGlobal_global (env := env) (K.g _ w1.1) pm1 (Calls.callWith_function (o := po) (fd := pfd) (Calls.evalArgs_plain (spliced_one ?_)))) (by kernel_rfl))) (by kernel_rfl))
      refine wpAny_Name (wpAny_loadName_local (env := env) hk (by kernel_rfl) ns1 mi ⟨⟨po1, po2⟩, ?_⟩) (by kernel_rfl)
      refine wpAny_with_toks (n := 1) w1.2 (pm3 _ X _ _ _ rm w1 (b.kp kp1) ti1 ci nX fun v h2 t2 u k2 ev ti2 ht2 => ?_)
      subst ev
      have si2 : SI C X [] h2 s.heap.objs.size ρ := si1.keepY k2 (fun b m => by
        obtain rfl := List.mem_singleton.mp m
        obtain ⟨⟨o', q1, _, q2⟩, _⟩ := ti1
        exact ⟨o', _, q1, q2⟩) (by
        have k2' : Kp (some C.n0) [it] h1 h2 := k2.weaker
        have kp2 : Kp (some C.n0) [] s.heap h2 := kp1.then k2' fun z m o' e => by rw [List.mem_singleton.mp m, ni] at e; cases e
        exact b.kp kp2)
      replace k2 : Kp (some C.n0) [it] h1 h2 := k2.weaker
      have kp2 : Kp (some C.n0) [] s.heap h2 := kp1.then k2 fun z m o' e => by rw [List.mem_singleton.mp m, ni] at e; cases e
      obtain ⟨m2, ns2, hm2⟩ := si2.loc
      refine wpAny_storeName_local (env := env) (by kernel_rfl) ns2 (fun h3 ns3 sb3 => ?_) (by show ((dref 27).scope.kind == .class || ((dref 27).scope.kind == .module && _)) = false; rw [hk]; rfl)
      have k3 : Kp (some C.n0) [s.heap.objs.size] h2 h3 := Kp.but sb3 fun _ => Ns.dictAt ns3
      have kp3 : Kp (some C.n0) [] s.heap h3 := kp2.then k3 fun z m o' e => by rw [List.mem_singleton.mp m, fresh_size] at e; cases e
      have si3 := si2.store ns2 ns3 sb3 (x := .sc (.int (nm (hh, ll) : Nat))) (.sc (.int _ _)) (fun m => nomatch m)
      have d2 := ti2.ne (Ns.dictAt ns2)
      have ti3 := ti2.kp k3 (by simp [d2.1]) (by simp [d2.2])
      refine wpAny_execs_nil ?_
      refine wpAny_execs_nil ?_
      have body := packed_rest (c := c + 1) (a := a) (cd := cd) (fk := hk) (ρ := upd ρ "number" (.sc (.int (nm (hh, ll) : Nat)))) K o1 o2 (z := pk_ (r.take k)) (by omega) (it := it) (by rw [upd_ne _ _ (by decide)]; exact e1) (by rw [upd_ne _ _ (by decide)]; exact e2) (upd_same _ _ _)
      rw [S_eq] at body
      refine ESof.run body rm (wsOf kp3 si3.dictAt (Nat.le_trans ht2 (Nat.le_add_right _ _))) (C.low _ w.1) si3 fun o' fl' h4 t4 p4 k4 oR4 w4 => ?_
      cases o' with
      | next ρ' =>
        obtain ⟨rfl, si4⟩ := oR4
        replace k4 : Kp (some C.n0) [s.heap.objs.size] h3 h4 := k4.weaker
        have kp4 : Kp (some C.n0) [] s.heap h4 := kp3.then k4 fun z m o' e => by rw [List.mem_singleton.mp m, fresh_size] at e; cases e
        have d3 : it ≠ s.heap.objs.size ∧ l ≠ s.heap.objs.size := ti3.ne (Ns.dictAt ns3)
        refine ih (k + 1) h4 t4 ρ' (by rw [← hk', Nat.add_right_comm]; rfl) kp4 si4 p4.1 (by rw [hpk]; exact p4.2) (by rw [hwt, List.length_append, wr1_len]; exact ti3.kp k4 (by simp [d3.1]) (by simp [d3.2])) w4.2
      | ret _ => exact p4.elim
      | brk _ => exact p4.elim
      | cont _ => exact p4.elim
  exact main r.length 0 h0 t0 ρ0 (Nat.zero_add _) kp0 si0 r1 (by simpa [pk_, wr] using r2) (by simpa [wr] using ti0) ht0
end
end Mine
end
section
open PySem PySem.W PyProof.Rows
set_option Elab.async false
set_option maxRecDepth 100000
set_option linter.all false
namespace Mine
section
variable {C : Cx} {c : Nat} {f : Fn} {ρ : Lo} {mg mb : Tx → Option Value}
theorem C_packed (K : Wk vq C mg mb) (hx : C.ex = some C.n0) (r : List Tk) (ok : ∀ t ∈ r, (∀ d ∈ t.1, d < 64) ∧ t.2 < 64) (hs : (wr r).length ≤ 1000000) : Cd C (c + 2) mg "_law_packed" [.sc (.str (tx (wr r)))] (· = .sc (.str (tx (pk_ r)))) := by
  rw [Cd_eq]
  obtain ⟨a, pm, cd, doc, h1, h2⟩ := K.fn "_law_packed" (dref 27) (by kernel_rfl)
  refine ⟨a, h1, fun h w => let ⟨⟨o, ho, hd⟩, _⟩ := h2 h w; ⟨o, _, ho, hd⟩, ?_⟩
  intro A X s vs Q E r0 w' b rs k
  have w := w'.w0
  cases rs with | cons r1 rs =>
  cases rs
  cases r1 with | sc r1 =>
  cases r1 with | str _ tt =>
  obtain ⟨⟨o, ho, hdat⟩, hcd⟩ := h2 _ w.1
  obtain ⟨fr, hfr, _⟩ := id w.2
  have hk : (dref 27).scope.kind = .function := by kernel_rfl
  have hcell : ∀ x ∈ (dref 27).scope.names, x.2 ≠ .cell := by
    have : ((dref 27).scope.names.all fun x => decide (x.2 ≠ .cell)) = true := by kernel_rfl
    simpa using this
  refine wpAny_call (call_plain_ret (binds := [("text", .str (tx (wr r)) tt)]) r0.lt ho hdat (K.nolimit _ w.1) hcd (by kernel_rfl) (fun x hx => by rw [List.mem_singleton.mp hx]; kernel_rfl) (fun h₁ F => ?_) (by kernel_rfl) (by kernel_rfl) hk hcell)
  let env := envOf (dref 27).name (dref 27).scope s.heap.objs.size a cd
  let f : Fn := Fn.of (dref 27).name (dref 27).scope a cd hk
  have rm : Rm (c + 1) (A.deeper env) := r0.deeper
  have kp1 : Kp Option.none [] s.heap h₁ := Kp.of F.keep
  have lo1 : Loc X h₁ s.heap.objs.size (fun y => if y = "text" then some (.sc (.str (tx (wr r)))) else none) := ⟨_, F.ns, fun y x e => by
    by_cases q : y = "text"
    · subst q
      dsimp only at e; rw [if_pos rfl] at e; cases e
      exact ⟨_, rfl, .sc (.str _ tt)⟩
    · dsimp only at e; rw [if_neg q] at e; cases e⟩
  have w1 : C.Ws (A.deeper env) { s with heap := h₁, toks := s.toks + 1 } := ⟨C.stab _ _ [] w.1 kp1.weak (fun _ m => nomatch m), Nat.le_add_left _ _, (w.2.kp kp1).deeper (by show (dref 27).scope.kind ≠ .module; rw [hk]; decide) rfl (C.nwle _ (C.low _ w.1)) (Ns.dictAt F.ns)⟩
  have mbi : mb "iter" = some (.builtin "iter") := K.bt
  refine wpAny_execs_cons (wpAny_Assign_Name (env := env) (wpAny_Call_NameR (Calls.Name_function_global (env := env) hk (by kernel_rfl) (Calls.loadGlobal_builtin (env := env) (K.g _ w1.1) K.no (K.b _ w1.1) mbi ?_))) (by kernel_rfl))
  have comp : EVs C (c + 1) f qArgs (fun y => if y = "text" then some (.sc (.str (tx (wr r)))) else none) (fun xs => xs = [PV.list (cdI (wr r))]) := by
    rw [← Es_eq]
    exact args1 (codes_comp K hs rfl (by kernel_rfl) rfl (by kernel_rfl) (by kernel_rfl) (by kernel_rfl) (by kernel_rfl) (by intro _ _; kernel_rfl) (by intro _ _; rfl))
  refine Calls.callWith_builtin (by kernel_rfl) (args_of (f := f) comp _ rm w1 trivial (b.kp kp1) lo1 (by kernel_rfl) fun xs us h2 t2 p k2 r2 w2 => ?_)
  subst p
  cases r2 with | cons q2 r2 =>
  cases r2
  cases q2 with | @list l vs _ hxl hol sr =>
  refine iter_list hol fun h3 it3 k3 => ?_
  have kp2 : Kp (some C.n0) [] s.heap h2 := kp1.weak.trans k2.weaker
  have kp3 : Kp (some C.n0) [] s.heap h3 := kp2.trans k3.weak
  have ns3 : h3.Ns s.heap.objs.size _ := (k2.weaker.trans k3.weak).ns F.ns (fun m => nomatch m)
  have nit : s.heap.get? h2.objs.size = none := fresh_of kp2
  have l3 : h3.IsList l vs.toArray := by
    obtain ⟨o2, q1, q2, n, q3⟩ := hol
    exact ⟨o2, k3.get0 q1 (fun es m e => by rw [q3] at e; cases e), q2, n, q3⟩
  refine wpAny_storeName_local (env := env) (by kernel_rfl) ns3 (fun h4 ns4 sb4 => ?_) (by show ((dref 27).scope.kind == .class || ((dref 27).scope.kind == .module && _)) = false; rw [hk]; rfl)
  have k4 : Kp (some C.n0) [s.heap.objs.size] h3 h4 := Kp.but sb4 fun _ => Ns.dictAt ns4
  have kp4 : Kp (some C.n0) [] s.heap h4 := kp3.then k4 fun z m o' e => by rw [List.mem_singleton.mp m, fresh_size] at e; cases e
  have ti3 : Itr h3 h2.objs.size l vs 0 := ⟨it3, l3⟩
  have d3 := ti3.ne (Ns.dictAt ns3)
  have ti4 := ti3.kp k4 (by simp [d3.1]) (by simp [d3.2])
  have siA : SI C X [] h₁ s.heap.objs.size (fun y => if y = "text" then some (.sc (.str (tx (wr r)))) else none) := by
    obtain ⟨m, q1, q2⟩ := lo1
    exact ⟨⟨m, q1, fun y x _ e => let ⟨v, a1, a2⟩ := q2 y x e; ⟨v, a1, by simpa using a2⟩, fun p hp => nomatch hp⟩, .nil, .nil, (fun p hp => nomatch hp), b.kp kp1⟩
  have siB := siA.kp (k2.weaker.trans k3.weak)
  have siC := siB.store ns3 ns4 sb4 (x := .obj h2.objs.size) (.obj _) (fun m => nomatch m)
  have ws4 : C.Ws (A.deeper env) { s with heap := h4, toks := t2 + 1 } := ⟨C.stab _ _ [] w.1 kp4 (fun _ m => nomatch m), Nat.le_add_left _ _, (w.2.kp kp4).deeper (by show (dref 27).scope.kind ≠ .module; rw [hk]; decide) rfl (C.nwle _ (C.low _ w.1)) (Ns.dictAt ns4)⟩
  have as1 : ES1 C (c + 1) f (match (dref 27).body with | _ :: st :: _ => st | _ => .Pass default) (upd (fun y => if y = "text" then some (.sc (.str (tx (wr r)))) else none) "items" (.obj h2.objs.size)) [] (fun o => match o with | .next ρ' => ρ' "items" = some (.obj h2.objs.size) ∧ ρ' "packed" = some (.sc (.str (tx []))) | _ => False) :=
    ES1.assign (EV.str ⟨.inl rfl, by rw [upd_ne _ _ (by decide)]; exact upd_same _ _ _, upd_same _ _ _⟩) (by simp) (by kernel_rfl) (by intro _; kernel_rfl)
  refine wpAny_execs_cons (ESof.run as1 rm ws4 (C.low _ w.1) siC fun o' fl' h6 t6 p6 k6 oR6 w6 => ?_)
  cases o' with
  | ret _ => exact p6.elim
  | brk _ => exact p6.elim
  | cont _ => exact p6.elim
  | next ρ' =>
  obtain ⟨rfl, si6⟩ := oR6
  replace k6 : Kp (some C.n0) [s.heap.objs.size] h4 h6 := k6.weaker
  have kp6 : Kp (some C.n0) [] s.heap h6 := kp4.then k6 fun z m o' e => by rw [List.mem_singleton.mp m, fresh_size] at e; cases e
  have d4 : h2.objs.size ≠ s.heap.objs.size ∧ l ≠ s.heap.objs.size := ti4.ne (Ns.dictAt ns4)
  have ti6 := ti4.kp k6 (by simp [d4.1]) (by simp [d4.2])
  refine wpAny_mono (E := fun _ _ => False) (packed_loop (c := c) K hx r ok hs sr (X := X) rm w hfr b (it := h2.objs.size) (l := l) nit (C.low _ w2.1) kp6 si6 p6.1 p6.2 ti6 w6.2 fun u h' t' kp' => ?_) (fun _ _ q => q) (fun _ _ q => q)
  exact k _ _ h' t' rfl (by rw [hx]; exact kp') (.sc (.str _ u))
end
end Mine
end
section
open PySem PySem.W
set_option linter.all false
namespace Mine
theorem kEq (k j : Nat) : (((k : Nat) : Int) == ((j : Nat) : Int)) = true ↔ k = j := by rw [beq_iff_eq]; exact Int.ofNat_inj
theorem kNe (k j : Nat) : (((k : Nat) : Int) != ((j : Nat) : Int)) = true ↔ k ≠ j := by rw [bne_iff_ne]; exact not_congr Int.ofNat_inj
theorem kLt (k j : Nat) : decide (((k : Nat) : Int) < ((j : Nat) : Int)) = true ↔ k < j := by rw [decide_eq_true_eq]; exact Int.ofNat_lt
theorem kLe (k j : Nat) : decide (((k : Nat) : Int) ≤ ((j : Nat) : Int)) = true ↔ k ≤ j := by rw [decide_eq_true_eq]; exact Int.ofNat_le
theorem kMid {n : Nat} (h : 64 < n) (j : Nat) : decide (((n : Nat) : Int) < ((j : Nat) : Int)) = decide (64 < n ∧ n < j) := by
  rw [Bool.eq_iff_iff, decide_eq_true_eq, decide_eq_true_eq, Int.ofNat_lt]; exact ⟨fun z => ⟨h, z⟩, fun z => z.2⟩
theorem kDec (k j : Nat) : decide (((k : Nat) : Int) < ((j : Nat) : Int)) = decide (k < j) := by
  rw [Bool.eq_iff_iff, decide_eq_true_eq, decide_eq_true_eq]; exact Int.ofNat_lt
theorem kSub {k j : Nat} (h : j ≤ k) : ((k : Nat) : Int) - ((j : Nat) : Int) = ((k - j : Nat) : Int) := (Int.ofNat_sub h).symm
theorem any3 (k : Nat) : ([8, 9, 11] : List Int).any (· == (k : Int)) = true ↔ k = 8 ∨ k = 9 ∨ k = 11 := by
  simp only [List.any_cons, List.any_nil, Bool.or_eq_true, Bool.or_false, beq_iff_eq]; omega
theorem any2 (k : Nat) : ([8, 11] : List Int).any (· == (k : Int)) = true ↔ k = 8 ∨ k = 11 := by
  simp only [List.any_cons, List.any_nil, Bool.or_eq_true, Bool.or_false, beq_iff_eq]; omega
theorem three_of {α : Type} : ∀ {l : List α}, l.length = 3 → ∃ a b c, l = [a, b, c]
  | [a, b, c], _ => ⟨a, b, c, rfl⟩
theorem k11 (k : Nat) (h : k ≤ 11) (q0 : ¬ k = 0) (q1 : ¬ k = 1) (q2 : ¬ k = 2) (q3 : ¬ k = 3) (q4 : ¬ k = 4) (q5 : ¬ k = 5) (q6 : ¬ k = 6) (q7 : ¬ k = 7) (q8 : ¬ k = 8) (q9 : ¬ k = 9) (q10 : ¬ k = 10) : k = 11 :=
  Nat.le_antisymm h (Nat.lt_of_le_of_ne (Nat.lt_of_le_of_ne (Nat.lt_of_le_of_ne (Nat.lt_of_le_of_ne (Nat.lt_of_le_of_ne (Nat.lt_of_le_of_ne (Nat.lt_of_le_of_ne (Nat.lt_of_le_of_ne (Nat.lt_of_le_of_ne (Nat.lt_of_le_of_ne (Nat.lt_of_le_of_ne (Nat.zero_le k) (Ne.symm q0)) (Ne.symm q1)) (Ne.symm q2)) (Ne.symm q3)) (Ne.symm q4)) (Ne.symm q5)) (Ne.symm q6)) (Ne.symm q7)) (Ne.symm q8)) (Ne.symm q9)) (Ne.symm q10))
end Mine
end
section
open PySem
set_option linter.all false
namespace Mine
noncomputable def okD (n : Nat) : Prop := (n < 128 ∧ n ≠ 45) ∨ n = 173
/-- without each @ that leads a number -/
noncomputable def pkS : Bool → List Nat → List Nat
  | _, [] => []
  | b, c :: s => if c = 64 then (if b = true then 64 :: pkS b s else pkS b s) else c :: pkS (decide (64 < c ∧ c < 128)) s
noncomputable def tkz : List Nat → List Nat → List Tk
  | _, [] => []
  | a, c :: s => if 64 ≤ c ∧ c < 128 then tkz (a ++ [c - 64]) s else (a, if c = 173 then 45 else c) :: tkz [] s
noncomputable def Semi (s : List Nat) : Prop := ∃ s', s = s' ++ [59]
theorem tkz_wr : ∀ (s a : List Nat), (∀ n ∈ s, okD n) → wr (tkz a (s ++ [59])) = a.map (64 + ·) ++ (s ++ [59])
  | [], a, _ => by simp [tkz, wr, wr1, sg]
  | c :: s, a, ok => by
    have oc := ok c (by simp)
    have ok' := fun n hn => ok n (List.mem_cons_of_mem _ hn)
    show wr (tkz a (c :: (s ++ [59]))) = _
    rw [tkz]
    by_cases q : 64 ≤ c ∧ c < 128
    · rw [if_pos q, tkz_wr s _ ok']
      have : 64 + (c - 64) = c := by omega
      simp [this]
    · rw [if_neg q, wr_cons, tkz_wr s _ ok', wr1]
      have : sg (if c = 173 then 45 else c) = c := by
        unfold sg okD at *
        split <;> split <;> omega
      simp [this]
theorem tkz_ok : ∀ (s a : List Nat), (∀ n ∈ s, okD n) → (∀ d ∈ a, d < 64) → ∀ t ∈ tkz a s, (∀ d ∈ t.1, d < 64) ∧ t.2 < 64
  | [], a, _, _, t, ht => by simp [tkz] at ht
  | c :: s, a, ok, ha, t, ht => by
    have oc := ok c (by simp)
    have ok' := fun n hn => ok n (List.mem_cons_of_mem _ hn)
    rw [tkz] at ht
    by_cases q : 64 ≤ c ∧ c < 128
    · rw [if_pos q] at ht
      refine tkz_ok s _ ok' (fun d hd => ?_) t ht
      rcases List.mem_append.mp hd with hd | hd
      · exact ha d hd
      · rw [List.mem_singleton.mp hd]; omega
    · rw [if_neg q] at ht
      rcases List.mem_cons.mp ht with rfl | ht
      · refine ⟨ha, ?_⟩
        unfold okD at oc
        dsimp only
        split <;> omega
      · exact tkz_ok s [] ok' (by simp) t ht
theorem strip_snoc (a : List Nat) (d : Nat) : strip (a ++ [d]) = if strip a = [] ∧ d = 0 then [] else strip a ++ [d] := by
  induction a with
  | nil =>
    unfold strip
    by_cases q : d = 0
    · subst q; simp
    · simp [q]
  | cons e a ih =>
    by_cases q : e = 0
    · subst q
      have h1 : strip (0 :: a) = strip a := by simp [strip]
      have h2 : strip (0 :: a ++ [d]) = strip (a ++ [d]) := by simp [strip]
      rw [h2, h1, ih]
    · have h1 : strip (e :: a) = e :: a := by simp [strip, q]
      have h2 : strip (e :: a ++ [d]) = e :: a ++ [d] := by simp [strip, q]
      rw [h2, h1, if_neg (by simp)]
theorem tkz_pk : ∀ (s a : List Nat), (∀ n ∈ s, okD n) → wr ((tkz a (s ++ [59])).map stT) = (strip a).map (64 + ·) ++ pkS (!(strip a).isEmpty) (s ++ [59])
  | [], a, _ => by
    have : tkz a ([] ++ [59]) = [(a, 59)] := by simp [tkz]
    rw [this]
    simp [wr, wr1, stT, sg, pkS]
  | c :: s, a, ok => by
    have oc := ok c (by simp)
    have ok' := fun n hn => ok n (List.mem_cons_of_mem _ hn)
    show wr ((tkz a (c :: (s ++ [59]))).map stT) = _ ++ pkS _ (c :: (s ++ [59]))
    rw [tkz, pkS]
    by_cases q : 64 ≤ c ∧ c < 128
    · rw [if_pos q, tkz_pk s _ ok', strip_snoc]
      by_cases q2 : c = 64
      · subst q2
        rw [if_pos rfl]
        by_cases q3 : strip a = []
        · rw [if_pos ⟨q3, rfl⟩, q3]; simp
        · rw [if_neg (fun z => q3 z.1)]
          have : (!(strip a).isEmpty) = true := by simp [q3]
          rw [this, if_pos rfl]
          have h2 : (!(strip a ++ [64 - 64]).isEmpty) = true := by simp
          rw [h2]; simp
      · rw [if_neg q2, if_neg (fun z => by have := z.2; omega)]
        have h2 : (!(strip a ++ [c - 64]).isEmpty) = true := by simp
        have h3 : decide (64 < c ∧ c < 128) = true := decide_eq_true (by omega)
        rw [h2, h3]
        have : 64 + (c - 64) = c := by omega
        simp [this]
    · rw [if_neg q, List.map_cons, wr_cons, tkz_pk s _ ok', if_neg (show ¬ c = 64 by omega)]
      have h3 : decide (64 < c ∧ c < 128) = false := decide_eq_false (by omega)
      have h4 : (!(strip ([] : List Nat)).isEmpty) = false := rfl
      rw [h3, h4, stT, wr1]
      have : sg (if c = 173 then 45 else c) = c := by
        unfold sg okD at *
        split <;> split <;> omega
      dsimp only
      rw [this]
      simp [strip]
theorem pk_text {s : List Nat} (ok : ∀ n ∈ s, okD n) (hs : Semi s) : ∃ r : List Tk, wr r = s ∧ (∀ t ∈ r, (∀ d ∈ t.1, d < 64) ∧ t.2 < 64) ∧ wr (r.map stT) = pkS false s := by
  obtain ⟨s', rfl⟩ := hs
  have ok' : ∀ n ∈ s', okD n := fun n hn => ok n (List.mem_append_left _ hn)
  refine ⟨tkz [] (s' ++ [59]), by rw [tkz_wr s' [] ok']; rfl, tkz_ok _ [] ok (by simp), ?_⟩
  rw [tkz_pk s' [] ok']; rfl
end Mine
end
section
open PySem PySem.W PyProof.Rows PySem.Calls
set_option Elab.async false
set_option maxRecDepth 100000
set_option linter.all false
namespace Mine
noncomputable def hand2 (k : Nat) (s : List Nat) : List Nat :=
  if k = 0 then s.map lowA else if k = 1 then s.filter (· != 173) else if k = 2 then s.filter (· != 32) else if k = 3 then pkS false s else if k = 4 then ds true (es false s) else if k = 5 then es false s else if k = 6 then ds true s else esc (k - 1) s
section
variable {C : Cx} {c : Nat} {f : Fn} {ρ : Lo} {mg mb : Tx → Option Value}
theorem min63 (n : Nat) : (min (63 : Int) (n : Nat)).toNat ≤ 63 ∧ (min (63 : Int) (n : Nat)).toNat ≤ n := by omega
theorem seed_up (i : Nat) : 269 + 1000000 * (i : Int) ≤ 269 + 1000000 * ((i + 1 : Nat) : Int) := by omega
theorem seed_at {a b : Int} {i : Nat} (h0 : 0 ≤ a) (h1 : a ≤ 269 + 1000000 * (i : Int)) (h2 : 0 ≤ b) (h3 : b < 1000000) : 0 ≤ a + b ∧ a + b ≤ 269 + 1000000 * ((i + 1 : Nat) : Int) := by omega
theorem C_seeds (K : Wk vq C mg mb) (is : List Int) (hl : is.length ≤ 1000) : Cd C (c + 1) mg "_law_seeds" [.list (iL is)] (fun x => ∃ l, x = .list (iL l) ∧ l.length = 9 ∧ ∀ y ∈ l, 0 ≤ y ∧ y < 100000000) := by
  refine cd_of K (d := dref 25) (ps := ["script"]) (by kernel_rfl) (by kernel_rfl) (bind1 fun _ _ _ _ => by kernel_rfl) rfl (by kernel_rfl) (by kernel_rfl) fun a cd => ?_
  refine own ?_
  iterate 9 refine argsC (e_int ?_)
  refine a_nil ⟨iL [6, 0, 1, 4, 2, 269, 5, 6, 3], rfl, by decide, fun A => ?_⟩
  have iLl : (iL is).length = is.length := by simp [iL]
  refine forS (rng K.toGd K.no K.bt (callB K.toGd K.no K.bt (args2 (e_int (callB K.toGd K.no K.bt (args1 (nme (hid rfl) (b_len (small_sz (by rw [iLl]; exact Nat.le_trans hl (by decide))) (b_min2 ?_)))))))))
  have hm : (min (63 : Int) ((iL is).length : Nat)).toNat ≤ 63 ∧ (min (63 : Int) ((iL is).length : Nat)).toNat ≤ is.length := by rw [iLl]; exact min63 _
  refine ⟨_, rfl, by omega, by omega, fun i ρ => ∃ l, ρ "seeds" = some (.list (iL l)) ∧ l.length = 9 ∧ (∀ y ∈ l, 0 ≤ y ∧ y ≤ 269 + 1000000 * (i : Int)) ∧ ρ "script" = some (.list (iL is)), ⟨_, rfl, rfl, by decide, rfl⟩, ?_, ?_⟩
  · rintro i x ρ hx ⟨l, h1, h2, h3, h4⟩
    have hi : i < (min (63 : Int) ((iL is).length : Nat)).toNat := by
      by_cases q : i < (upto (min (63 : Int) ((iL is).length : Nat)).toNat).length
      · rwa [upto_length] at q
      · rw [List.getElem?_eq_none (Nat.le_of_not_lt q)] at hx; cases hx
    rw [upto_get hi] at hx; cases hx
    have ll : (iL l).length = 9 := by simp [iL, h2]
    have hj : i % 9 < l.length := by rw [h2]; exact Nat.mod_lt _ (by decide)
    have hii : i < is.length := Nat.lt_of_lt_of_le hi hm.2
    have e12 : (i : Int) % 9 = ((i % 9 : Nat) : Int) := rfl
    refine seti (l := iL l) h1 (.head _) (by rw [ll]; decide) (e_bin (itm (nme h1 ⟨_, .inl rfl, by rw [ll]; decide, e_bin (nme rfl (e_int (o_mod (by decide) ⟨i % 9, .int l[i % 9], by rw [e12], by simp [iL, hj], e_bin (itm (nme h4 ⟨_, .inl rfl, by rw [iLl]; exact small_sz (Nat.le_trans hl (by decide)), nme rfl ⟨i, .int is[i], rfl, by simp [iL, hii], e_int (o_mod (by decide) (o_add ?_))⟩⟩))⟩)))⟩)))
    refine ⟨_, rfl, e_bin (nme rfl (e_int (o_mod (by decide) ⟨i % 9, by rw [e12], by rw [ll]; omega, ?_⟩)))⟩
    refine s_nil ⟨l.set (i % 9) (l[i % 9] + is[i] % 1000000), ?_, by simp [h2], fun y hy => ?_, h4⟩
    · show some (PV.list ((iL l).set (i % 9) (.int (l[i % 9] + is[i] % 1000000)))) = _
      simp [iL, List.map_set]
    · rcases List.mem_or_eq_of_mem_set hy with q | q
      · exact ⟨(h3 y q).1, Int.le_trans (h3 y q).2 (seed_up i)⟩
      · have this2 := h3 l[i % 9] (List.getElem_mem hj)
        have this0 : 0 ≤ is[i] % 1000000 := Int.emod_nonneg _ (by decide)
        have this1 : is[i] % 1000000 < 1000000 := Int.emod_lt_of_pos _ (by decide)
        rw [q]; exact seed_at this2.1 this2.2 this0 this1
  · rintro ρ ⟨l, h1, h2, h3, h4⟩
    refine retS (nme h1 ⟨l, rfl, h2, fun y hy => ?_⟩)
    have := h3 y hy
    rw [upto_length] at this
    omega
theorem C_hand2 (K : Wk vq C mg mb) (T : Tops C mg) (k : Nat) (s : List Nat) (hk : k ≤ 11) (hx : C.ex = some C.n0) (sm : Semi s) (okd : ∀ n ∈ s, okD n) (hs : s.length ≤ 200000) : Cd C (c + 3) mg "_law_hand" [.sc (.int k), .sc (.str (tx s))] (· = .sc (.str (tx (hand2 k s)))) := by
  have ok : ∀ n ∈ s, okC n := fun n hn => by have := okd n hn; unfold okD okC at *; omega
  refine cd_of K (d := dref 28) (ps := ["kind", "text"]) (by kernel_rfl) (by kernel_rfl) (bind2 fun _ _ _ _ _ => by kernel_rfl) rfl (by kernel_rfl) (by kernel_rfl) fun a cd => ?_
  have sz : (signs (tx s)).length ≤ sizeLine := by rw [signs_len]; exact small_sz (by first | exact Nat.le_trans hs (by decide) | exact Int.natCast_nonneg _ | omega)
  obtain ⟨a1, m1, h1⟩ := T.p1
  obtain ⟨a2, m2, h2⟩ := T.p2
  obtain ⟨a3, m3, h3⟩ := T.p3
  obtain ⟨u1, n1, g1⟩ := T.b1
  obtain ⟨u3, n3, y3, g3⟩ := T.b3
  refine iff <| tcmp <| nme rfl <| e_int <| o_eqI ⟨_, rfl, ifN (k = 0) (kEq _ 0) (fun q => ?_) fun q0 => s_nil ?_⟩
  · refine retS <| e_join <| e_str ⟨rfl, args1 <| cmpn (by kernel_rfl) (i_of <| nme rfl ⟨sz, fun _ => true, fun y z => ∃ n : Nat, y = Sc.str ⟨#[n]⟩ ∧ z = Sc.str (tx ((fun n => [lowA n]) n)), fun y _ L => rfl, fun y hy _ L => ?_, fun zs hz => ?_⟩)⟩
    · obtain ⟨n, hn, rfl⟩ := signs_mem hy
      exact callD K.exact.toGd (K.exact.df (d := dref 22) (by kernel_rfl)) <| args1 (nme rfl (cd_mono (cd_less (C_b3 (c := c) K.exact n3 y3 g3 n (ok n hn)) (by first | exact Nat.le_refl _ | exact Nat.le_succ _ | exact Nat.add_le_add_left (by decide) _ | omega)) fun x hx => ⟨_, hx, n, rfl, rfl⟩))
    · rw [signs_eq] at hz
      rw [paired_map inj_sign (p := fun _ => true) (fun _ => rfl) hz]
      refine b_joinL ones (by rw [List.length_map, filt_tt]; first | exact Nat.le_trans hs (by decide) | exact Int.natCast_nonneg _ | omega) ?_
      rw [hand2, if_pos q, filt_tt, flat_ones]
  refine iff <| tcmp <| nme rfl <| e_int <| o_eqI ⟨_, rfl, ifN (k = 1) (kEq _ 1) (fun q => ?_) fun q1 => s_nil ?_⟩
  · refine retS <| e_join <| e_str ⟨rfl, args1 <| cmpn (by kernel_rfl) (i_of <| nme rfl ⟨sz, fun y => match y with | .str x => x.cps.getD 0 0 != 173 | _ => false, fun y z => ∃ n : Nat, y = Sc.str ⟨#[n]⟩ ∧ z = Sc.str (tx ((fun n => [n]) n)), fun y hy L => ?_, fun y hy _ L => ?_, fun zs hz => ?_⟩)⟩
    · obtain ⟨n, hn, rfl⟩ := signs_mem hy
      exact t_not <| t_val <| callD K.exact.toGd (K.exact.df (d := dref 20) (by kernel_rfl)) <| args1 (nme rfl (cd_mono (cd_less (C_b1 (c := c) K.exact n1 g1 n (ok n hn)) (by first | exact Nat.le_refl _ | exact Nat.le_succ _ | exact Nat.add_le_add_left (by decide) _ | omega)) fun x hx => ⟨_, hx, rfl⟩))
    · obtain ⟨n, hn, rfl⟩ := signs_mem hy
      exact nme rfl ⟨_, rfl, n, rfl, rfl⟩
    · rw [signs_eq] at hz
      rw [paired_map inj_sign (p := fun n => n != 173) (fun _ => rfl) hz]
      refine b_joinL ones (by rw [List.length_map]; exact Nat.le_trans (List.length_filter_le _ _) (by first | exact Nat.le_trans hs (by decide) | exact Int.natCast_nonneg _ | omega)) ?_
      rw [hand2, if_neg q0, if_pos q, flat_ones, List.map_id']
  refine iff <| tcmp <| nme rfl <| e_int <| o_eqI ⟨_, rfl, ifN (k = 2) (kEq _ 2) (fun q => ?_) fun q2 => s_nil ?_⟩
  · refine retS <| e_join <| e_str ⟨rfl, args1 <| cmpn (by kernel_rfl) (i_of <| nme rfl ⟨sz, fun y => match y with | .str x => x.cps.getD 0 0 != 32 | _ => false, fun y z => ∃ n : Nat, y = Sc.str ⟨#[n]⟩ ∧ z = Sc.str (tx ((fun n => [n]) n)), fun y hy L => ?_, fun y hy _ L => ?_, fun zs hz => ?_⟩)⟩
    · obtain ⟨n, hn, rfl⟩ := signs_mem hy
      exact t_not <| t_val <| callD K.exact.toGd (K.exact.df (d := dref 23) (by kernel_rfl)) <| args1 (nme rfl (cd_mono (cd_less (C_c11 (c := c) K.exact n) (by first | exact Nat.le_refl _ | exact Nat.le_succ _ | exact Nat.add_le_add_left (by decide) _ | omega)) fun x hx => ⟨_, hx, rfl⟩))
    · obtain ⟨n, hn, rfl⟩ := signs_mem hy
      exact nme rfl ⟨_, rfl, n, rfl, rfl⟩
    · rw [signs_eq] at hz
      rw [paired_map inj_sign (p := fun n => n != 32) (fun _ => rfl) hz]
      refine b_joinL ones (by rw [List.length_map]; exact Nat.le_trans (List.length_filter_le _ _) (by first | exact Nat.le_trans hs (by decide) | exact Int.natCast_nonneg _ | omega)) ?_
      rw [hand2, if_neg q0, if_neg q1, if_pos q, flat_ones, List.map_id']
  obtain ⟨r, r1, r2, r3⟩ := pk_text okd sm
  refine iff <| tcmp <| nme rfl <| e_int <| o_eqI ⟨_, rfl, ifN (k = 3) (kEq _ 3) (fun q => retS <| callD K.toGd (K.df (d := dref 27) (by kernel_rfl)) <| args1 <| nme rfl <| by
    have := cd_mono (cd_less (C_packed (c := c) K hx r r2 (by rw [r1]; first | exact Nat.le_trans hs (by decide) | exact Int.natCast_nonneg _ | omega)) (Nat.le_refl (c + 2))) (P' := (· = .sc (.str (tx (hand2 k s))))) fun x hx => by rw [hx, hand2, if_neg q0, if_neg q1, if_neg q2, if_pos q, pk_, r3]
    rwa [r1] at this) fun q3 => s_nil ?_⟩
  refine iff <| tcmp <| nme rfl <| e_int <| o_eqI ⟨_, rfl, ifN (k = 4) (kEq _ 4) (fun q => retS <| callD K.toGd (K.df (d := dref 15) (by kernel_rfl)) <| args1 <| nme rfl <| cd_mono (cd_less (C_quotedata (c := c) K m1 m3 h1 h3 s (by first | exact Nat.le_trans hs (by decide) | exact Int.natCast_nonneg _ | omega) (by have := es_len s false; first | exact Nat.le_trans hs (by decide) | exact Int.natCast_nonneg _ | omega)) (by first | exact Nat.le_refl _ | exact Nat.le_succ _ | exact Nat.add_le_add_left (by decide) _ | omega)) fun x hx => by rw [hx, hand2, if_neg q0, if_neg q1, if_neg q2, if_neg q3, if_pos q]) fun q4 => s_nil ?_⟩
  refine iff <| tcmp <| nme rfl <| e_int <| o_eqI ⟨_, rfl, ifN (k = 5) (kEq _ 5) (fun q => retS <| callD K.toGd (K.df (d := dref 17) (by kernel_rfl)) <| args1 <| nme rfl <| cd_mono (cd_less (C_eols (c := c) K m3 h3 s (by first | exact Nat.le_trans hs (by decide) | exact Int.natCast_nonneg _ | omega)) (by first | exact Nat.le_refl _ | exact Nat.le_succ _ | exact Nat.add_le_add_left (by decide) _ | omega)) fun x hx => by rw [hx, hand2, if_neg q0, if_neg q1, if_neg q2, if_neg q3, if_neg q4, if_pos q]) fun q5 => s_nil ?_⟩
  have ok256 : ∀ n ∈ s, n < 256 := fun n hn => by have := ok n hn; unfold okC at this; first | exact Nat.le_trans hs (by decide) | exact Int.natCast_nonneg _ | omega
  have ok256' : ∀ n ∈ ds true s, n < 256 := ds_all (by decide) ok256
  have dl := ds_len s true
  refine iff <| tcmp <| nme rfl <| e_int <| o_eqI ⟨_, rfl, ifN (k = 6) (kEq _ 6) (fun q => ?_) fun q6 => s_nil ?_⟩
  · refine retS <| e_join <| e_str ⟨rfl, args1 <| cmpn (by kernel_rfl) (i_ofB <| callD K.toGd (K.df (d := dref 16) (by kernel_rfl)) <| args1 <| callBytes K.toGd K.no K.bt <| codes_comp K (by first | exact Nat.le_trans hs (by decide) | exact Int.natCast_nonneg _ | omega) rfl (by kernel_rfl) ⟨s, by simp [cdI, iL, oL], ok256, by first | exact Nat.le_trans hs (by decide) | exact Int.natCast_nonneg _ | omega, ?_⟩ (by kernel_rfl) (by kernel_rfl) (by kernel_rfl) (by kernel_rfl) (by intro _ _; kernel_rfl) (by intro _ _; rfl))⟩
    refine cd_mono (cd_less (C_qp (c := c) K m2 h2 s ok256 (by first | exact Nat.le_trans hs (by decide) | exact Int.natCast_nonneg _ | omega)) (by first | exact Nat.le_refl _ | exact Nat.le_succ _ | exact Nat.add_le_add_left (by decide) _ | omega)) fun x hx => ⟨_, hx, ?_⟩
    rw [oct_eq ok256']
    refine ⟨by rw [List.length_map]; exact small_sz (by first | exact Nat.le_trans hs (by decide) | exact Int.natCast_nonneg _ | omega), fun _ => true, fun y z => ∃ n : Nat, y = Sc.int (n : Int) ∧ z = Sc.str (tx ((fun n => [n]) n)), fun y _ L => rfl, fun y hy _ L => ?_, fun zs hz => ?_⟩
    · obtain ⟨n, hn, rfl⟩ := List.mem_map.mp hy
      have := ok256' n hn
      refine callB K.exact.toGd K.no K.bt <| args1 <| nme rfl <| b_chr (by first | exact Nat.le_trans hs (by decide) | exact Int.natCast_nonneg _ | omega) (by first | exact Nat.le_trans hs (by decide) | exact Int.natCast_nonneg _ | omega) ⟨_, rfl, n, rfl, ?_⟩
      rw [Int.toNat_natCast]; rfl
    · rw [paired_map inj_int (p := fun _ => true) (fun _ => rfl) hz]
      refine b_joinL ones (by rw [List.length_map, filt_tt]; first | exact Nat.le_trans hs (by decide) | exact Int.natCast_nonneg _ | omega) ?_
      rw [hand2, if_neg q0, if_neg q1, if_neg q2, if_neg q3, if_neg q4, if_neg q5, if_pos q, filt_tt, flat_ones, List.map_id']
  refine iff <| tcmp <| nme rfl <| e_int <| o_eqI ⟨_, rfl, ifN (k = 7) (kEq _ 7) (fun q => retS <| callD K.toGd (K.df (d := dref 3) (by kernel_rfl)) <| args1 <| nme rfl <| cd_mono (cd_less (C_cdata (c := c) K s hs) (by first | exact Nat.le_refl _ | exact Nat.le_succ _ | exact Nat.add_le_add_left (by decide) _ | omega)) fun x hx => by rw [hx, hand2, if_neg q0, if_neg q1, if_neg q2, if_neg q3, if_neg q4, if_neg q5, if_neg q6, q]) fun q7 => s_nil ?_⟩
  refine iff <| tcmp <| nme rfl <| e_int <| o_eqI ⟨_, rfl, ifN (k = 8) (kEq _ 8) (fun q => retS <| callD K.toGd (K.df (d := dref 4) (by kernel_rfl)) <| args1 <| nme rfl <| cd_mono (cd_less (C_attrib (c := c) K s hs) (by first | exact Nat.le_refl _ | exact Nat.le_succ _ | exact Nat.add_le_add_left (by decide) _ | omega)) fun x hx => by rw [hx, hand2, if_neg q0, if_neg q1, if_neg q2, if_neg q3, if_neg q4, if_neg q5, if_neg q6, q]) fun q8 => s_nil ?_⟩
  refine iff <| tcmp <| nme rfl <| e_int <| o_eqI ⟨_, rfl, ifN (k = 9) (kEq _ 9) (fun q => retS <| callD K.toGd (K.df (d := dref 5) (by kernel_rfl)) <| args1 <| nme rfl <| cd_mono (cd_less (C_html (c := c) K s hs) (by first | exact Nat.le_refl _ | exact Nat.le_succ _ | exact Nat.add_le_add_left (by decide) _ | omega)) fun x hx => by rw [hx, hand2, if_neg q0, if_neg q1, if_neg q2, if_neg q3, if_neg q4, if_neg q5, if_neg q6, q]) fun q9 => s_nil ?_⟩
  refine iff <| tcmp <| nme rfl <| e_int <| o_eqI ⟨_, rfl, ifN (k = 10) (kEq _ 10) (fun q => retS <| callD K.toGd (K.df (d := dref 6) (by kernel_rfl)) <| args1 <| nme rfl <| cd_mono (cd_less (C_cdatac (c := c) K s hs) (by first | exact Nat.le_refl _ | exact Nat.le_succ _ | exact Nat.add_le_add_left (by decide) _ | omega)) fun x hx => by rw [hx, hand2, if_neg q0, if_neg q1, if_neg q2, if_neg q3, if_neg q4, if_neg q5, if_neg q6, q]) fun q10 => s_nil ?_⟩
  refine retS <| callD K.toGd (K.df (d := dref 7) (by kernel_rfl)) <| args1 <| nme rfl <| cd_mono (cd_less (C_attribc (c := c) K s hs) (by first | exact Nat.le_refl _ | exact Nat.le_succ _ | exact Nat.add_le_add_left (by decide) _ | omega)) fun x hx => ?_
  have := k11 k hk q0 q1 q2 q3 q4 q5 q6 q7 q8 q9 q10
  rw [hx, hand2, if_neg q0, if_neg q1, if_neg q2, if_neg q3, if_neg q4, if_neg q5, if_neg q6, this]
end
end Mine
end
section
open PySem PySem.W PyProof.Rows PySem.Calls
set_option Elab.async false
set_option maxRecDepth 100000
set_option linter.all false
namespace Mine
section
variable {C : Cx} {c : Nat} {f : Fn} {ρ : Lo} {mg mb : Tx → Option Value}
noncomputable def pieces : List (List Nat) := [[46], [13], [10], [13, 10], [32], [173], [64], [38], [60], [62], [34], [9], [46]]
theorem pieces_ok : (pieces.all fun z => decide (z.length ≤ 2) && z.all fun n => decide ((n < 128 ∧ n ≠ 45) ∨ n = 173)) = true := by decide
theorem sL_get {l : List (List Nat)} {k : Nat} (h : k < l.length) : (sL (l.map tx))[k]? = some (.str (tx l[k])) := by simp [sL, h]
theorem C_piece (K : Wk vq C mg mb) (d : Int) (h0 : 0 ≤ d) (h1 : d < 100000000) : Cd C (c + 1) mg "_law_piece" [.sc (.int d)] (fun x => ∃ z, x = .sc (.str (tx z)) ∧ (∀ n ∈ z, okD n) ∧ z.length ≤ 2) := by
  refine cd_of K (d := dref 26) (ps := ["seed"]) (by kernel_rfl) (by kernel_rfl) (bind1 fun _ _ _ _ => by kernel_rfl) rfl (by kernel_rfl) (by kernel_rfl) fun a cd => ?_
  refine asg (e_bin (nme rfl (e_int (o_fdiv (by decide) (by decide) ⟨.inl rfl, ?_⟩))))
  refine iff <| tcmp <| e_bin <| nme rfl <| e_int <| o_mod (by decide) <| e_int <| o_eqI ⟨_, rfl, ifN (d % 16 = 15) beq_iff_eq (fun q => retS <| e_str ⟨[], rfl, by simp, by simp⟩) fun q15 => s_nil ?_⟩
  refine iff <| tcmp <| e_bin <| nme rfl <| e_int <| o_mod (by decide) <| e_int <| o_eqI ⟨_, rfl, ifN (d % 16 = 14) beq_iff_eq (fun q => retS <| e_ite <| tcmp <| e_bin <| nme rfl <| e_int <| o_mod (by decide) <| e_int <| o_eqI ⟨_, rfl, ifN (d / 16 % 128 = 45) beq_iff_eq (fun q2 => e_str ⟨[173], rfl, by simp [okD], by simp⟩) fun q2 => ?_⟩) fun q14 => s_nil ?_⟩
  · have m0 : 0 ≤ d / 16 % 128 := Int.emod_nonneg _ (by decide)
    have m1 : d / 16 % 128 < 128 := Int.emod_lt_of_pos _ (by decide)
    refine callB K.toGd K.no K.bt <| args1 <| e_bin <| nme rfl <| e_int <| o_mod (by decide) <| b_chr m0 (by omega) ⟨[(d / 16 % 128).toNat], rfl, fun n hn => ?_, by simp⟩
    rw [List.mem_singleton.mp hn]
    exact .inl ⟨by omega, by omega⟩
  refine iff <| tcmp <| e_bin <| nme rfl <| e_int <| o_mod (by decide) <| e_int <| o_eqI ⟨_, rfl, ifN (d % 16 = 13) beq_iff_eq (fun q => ?_) fun q13 => s_nil ?_⟩
  · have m0 : 0 ≤ d / 16 % 63 := Int.emod_nonneg _ (by decide)
    have m1 : d / 16 % 63 < 63 := Int.emod_lt_of_pos _ (by decide)
    refine retS <| callB K.toGd K.no K.bt <| args1 <| e_bin <| e_int <| e_bin <| nme rfl <| e_int <| o_mod (by decide) <| o_add <| b_chr (by omega) (by omega) ⟨[(65 + d / 16 % 63).toNat], rfl, fun n hn => ?_, by simp⟩
    rw [List.mem_singleton.mp hn]
    exact .inl ⟨by omega, by omega⟩
  have k13 : (d % 16).toNat < pieces.length := by show _ < 13; omega
  refine retS <| itm <| e_tup ?_
  iterate 12 refine argsC (e_str ?_)
  refine args1 <| e_str ⟨sL (pieces.map tx), rfl, by decide, sL (pieces.map tx), .inr rfl, by decide, e_bin <| nme rfl <| e_int <| o_mod (by decide) ⟨(d % 16).toNat, _, by rw [Int.toNat_of_nonneg (by omega)], sL_get k13, pieces[(d % 16).toNat], rfl, ?_⟩⟩
  have := List.all_eq_true.mp pieces_ok _ (List.getElem_mem k13)
  simp only [Bool.and_eq_true, decide_eq_true_eq, List.all_eq_true] at this
  exact ⟨fun n hn => this.2 n hn, this.1⟩

noncomputable def nmK (k n : Nat) : List Nat :=
    if n = 38 then [97, 109, 112, 59] else if n = 60 ∧ k ≠ 9 then [108, 116, 59] else if n = 62 ∧ k ≠ 11 then [103, 116, 59] else if n = 34 ∧ (k = 8 ∨ k = 9 ∨ k = 11) then [113, 117, 111, 116, 59] else
    if n = 13 then ([[], [35, 49, 51, 59], [], [35, 120, 68, 59], [35, 120, 68, 59]] : List (List Nat)).getD (k - 7) [] else
    if n = 10 then ([[], [35, 49, 48, 59], [], [], [35, 120, 65, 59]] : List (List Nat)).getD (k - 7) [] else
    if n = 9 then ([[], [35, 48, 57, 59], [], [], [35, 120, 57, 59]] : List (List Nat)).getD (k - 7) [] else []
theorem nmc_k {k : Nat} (h7 : 7 ≤ k) (h11 : k ≤ 11) (n : Nat) : nmc (k - 1) n = nmK k n := by
  by_cases q : n < 64
  · have fin : ((List.range 5).all fun j => (List.range 64).all fun n => decide (nmc (j + 6) n = nmK (j + 7) n)) = true := by decide +kernel
    have := List.all_eq_true.mp (List.all_eq_true.mp fin (k - 7) (List.mem_range.mpr (by omega))) n (List.mem_range.mpr q)
    have e2 : k - 7 + 7 = k := Nat.sub_add_cancel h7
    have e1 : k - 7 + 6 = k - 1 := congrArg (· - 1) e2
    rw [e1, e2] at this
    exact of_decide_eq_true this
  · rw [nmc_big (Nat.le_of_not_lt q), nmK, if_neg (by rintro rfl; exact q (by decide)), if_neg (by rintro ⟨rfl, -⟩; exact q (by decide)), if_neg (by rintro ⟨rfl, -⟩; exact q (by decide)), if_neg (by rintro ⟨rfl, -⟩; exact q (by decide)), if_neg (by rintro rfl; exact q (by decide)), if_neg (by rintro rfl; exact q (by decide)), if_neg (by rintro rfl; exact q (by decide))]
theorem c_eq (n m : Nat) : ((⟨#[n]⟩ : Tx) == tx [m]) = true ↔ n = m := by
  rw [beq_iff_eq]
  exact (tx_inj (a := [n]) (b := [m])).trans (by simp)
theorem C_name2 (K : Wk vq C mg mb) (k n : Nat) (h7 : 7 ≤ k) (h11 : k ≤ 11) : Cd C (c + 1) mg "_law_name" [.sc (.int k), .sc (.str ⟨#[n]⟩)] (· = .sc (.str (tx (nmc (k - 1) n)))) := by
  rw [nmc_k h7 h11]
  unfold nmK
  refine cd_of K (d := dref 29) (ps := ["kind", "sign"]) (by kernel_rfl) (by kernel_rfl) (bind2 fun _ _ _ _ _ => by kernel_rfl) rfl (by kernel_rfl) (by kernel_rfl) fun a cd => ?_
  have k5 : k - 7 < 5 := by omega
  have ek : ((k : Nat) : Int) - 7 = ((k - 7 : Nat) : Int) := kSub h7
  refine iff <| tcmp <| nme rfl <| e_str <| o_eqS ⟨_, rfl, ifN (n = 38) (c_eq n 38) (fun q => retS <| e_str ?_) fun q1 => s_nil ?_⟩
  · rw [if_pos q]; rfl
  refine iff <| t_and2 (tcmp <| nme rfl <| e_str <| o_eqS ⟨_, rfl, rfl⟩) (fun _ => tcmp <| nme rfl <| e_int <| o_neI ⟨_, rfl, rfl⟩) <| ifN (n = 60 ∧ k ≠ 9) (by rw [Bool.and_eq_true]; exact and_congr (c_eq n 60) (kNe k 9)) (fun q => retS <| e_str ?_) fun q2 => s_nil ?_
  · rw [if_neg q1, if_pos q]; rfl
  refine iff <| t_and2 (tcmp <| nme rfl <| e_str <| o_eqS ⟨_, rfl, rfl⟩) (fun _ => tcmp <| nme rfl <| e_int <| o_neI ⟨_, rfl, rfl⟩) <| ifN (n = 62 ∧ k ≠ 11) (by rw [Bool.and_eq_true]; exact and_congr (c_eq n 62) (kNe k 11)) (fun q => retS <| e_str ?_) fun q3 => s_nil ?_
  · rw [if_neg q1, if_neg q2, if_pos q]; rfl
  refine iff <| t_and2 (b2 := [8, 9, 11].any (· == (k : Int))) (tcmp <| nme rfl <| e_str <| o_eqS ⟨_, rfl, rfl⟩) (fun _ => tcmp <| nme rfl <| e_tup <| argsC <| e_int <| argsC <| e_int <| args1 <| e_int ⟨iL [8, 9, 11], rfl, by decide, o_inTI ⟨_, rfl, rfl⟩⟩) <| ifN (n = 34 ∧ (k = 8 ∨ k = 9 ∨ k = 11)) (by rw [Bool.and_eq_true]; exact and_congr (c_eq n 34) (any3 k)) (fun q => retS <| e_str ?_) fun q4 => s_nil ?_
  · rw [if_neg q1, if_neg q2, if_neg q3, if_pos q]; rfl
  refine iff <| tcmp <| nme rfl <| e_str <| o_eqS ⟨_, rfl, ifN (n = 13) (c_eq n 13) (fun q => ?_) fun q5 => s_nil ?_⟩
  · refine retS <| itm <| e_tup <| argsC <| e_str <| argsC <| e_str <| argsC <| e_str <| argsC <| e_str <| args1 <| e_str ⟨sL ([[], [35, 49, 51, 59], [], [35, 120, 68, 59], [35, 120, 68, 59]].map tx), rfl, by decide, _, .inr rfl, by decide, e_bin <| nme rfl <| e_int <| o_sub ⟨k - 7, _, by rw [ek], sL_get k5, ?_⟩⟩
    rw [if_neg q1, if_neg q2, if_neg q3, if_neg q4, if_pos q, List.getD_eq_getElem?_getD, List.getElem?_eq_getElem k5]; rfl
  refine iff <| tcmp <| nme rfl <| e_str <| o_eqS ⟨_, rfl, ifN (n = 10) (c_eq n 10) (fun q => ?_) fun q6 => s_nil ?_⟩
  · refine retS <| itm <| e_tup <| argsC <| e_str <| argsC <| e_str <| argsC <| e_str <| argsC <| e_str <| args1 <| e_str ⟨sL ([[], [35, 49, 48, 59], [], [], [35, 120, 65, 59]].map tx), rfl, by decide, _, .inr rfl, by decide, e_bin <| nme rfl <| e_int <| o_sub ⟨k - 7, _, by rw [ek], sL_get k5, ?_⟩⟩
    rw [if_neg q1, if_neg q2, if_neg q3, if_neg q4, if_neg q5, if_pos q, List.getD_eq_getElem?_getD, List.getElem?_eq_getElem k5]; rfl
  refine iff <| tcmp <| nme rfl <| e_str <| o_eqS ⟨_, rfl, ifN (n = 9) (c_eq n 9) (fun q => ?_) fun q7 => s_nil ?_⟩
  · refine retS <| itm <| e_tup <| argsC <| e_str <| argsC <| e_str <| argsC <| e_str <| argsC <| e_str <| args1 <| e_str ⟨sL ([[], [35, 48, 57, 59], [], [], [35, 120, 57, 59]].map tx), rfl, by decide, _, .inr rfl, by decide, e_bin <| nme rfl <| e_int <| o_sub ⟨k - 7, _, by rw [ek], sL_get k5, ?_⟩⟩
    rw [if_neg q1, if_neg q2, if_neg q3, if_neg q4, if_neg q5, if_neg q6, if_pos q, List.getD_eq_getElem?_getD, List.getElem?_eq_getElem k5]; rfl
  refine retS <| e_str ?_
  rw [if_neg q1, if_neg q2, if_neg q3, if_neg q4, if_neg q5, if_neg q6, if_neg q7]; rfl
end
end Mine
end
section
open PySem PySem.W PyProof.Rows PySem.Calls
set_option Elab.async false
set_option maxRecDepth 100000
set_option linter.all false
namespace Mine
noncomputable def parted (b : Nat) : Nat → List Nat → Bool
  | _, [] => false
  | st, c :: s => if c = 64 then (if st = 2 then true else parted b st s) else if c = b then parted b (if 0 < st then 2 else 0) s else parted b (if 64 < c ∧ c < 128 then 1 else 0) s
/-- the seams of a text: what meets where something is left out -/
noncomputable def seamsF (k x : Nat) : List Nat → Bool → Bool → List Nat → List (List Nat)
  | _, _, _, [] => []
  | ah, gap, ins, c :: s =>
    let gone := (c == x) && !((k == 3) && ins)
    let ins' := if c = 64 then ins else decide (64 < c ∧ c < 128)
    if gone = true then seamsF k x ah true ins' s else (if gap = true then [ah ++ [c]] else []) ++ seamsF k x [c] false ins' s
noncomputable def goneOf (k : Nat) : Nat := [173, 32, 64].getD (k - 1) 0
section
variable {C : Cx} {c : Nat} {f : Fn} {ρ : Lo} {mg mb : Tx → Option Value}
theorem c_ne (n m : Nat) : ((⟨#[n]⟩ : Tx) != tx [m]) = true ↔ n ≠ m := by
  rw [bne, Bool.not_eq_true', ← Bool.not_eq_true, c_eq]
theorem drop_cons' {s : List Nat} {j : Nat} (hj : j < s.length) : s.drop j = s[j] :: s.drop (j + 1) := (List.getElem_cons_drop hj).symm
theorem C_parted (K : Wk vq C mg mb) (b : Nat) (s : List Nat) (hs : s.length ≤ 1000000) : Cd C (c + 1) mg "_law_parted" [.sc (.str (tx [b])), .sc (.str (tx s))] (· = .sc (.bool (parted b 0 s))) := by
  refine cd_of K (d := dref 32) (ps := ["between", "text"]) (by kernel_rfl) (by kernel_rfl) (bind2 fun _ _ _ _ _ => by kernel_rfl) rfl (by kernel_rfl) (by kernel_rfl) fun a cd => ?_
  refine asg <| e_int ⟨.inl rfl, ?_⟩
  refine forS <| i_of <| nme (hid rfl) ?_
  refine ⟨fun i ρ => ∃ st, ρ "state" = some (.sc (.int (st : Nat))) ∧ ρ "between" = some (.sc (.str (tx [b]))) ∧ parted b 0 s = parted b st (s.drop i), ⟨0, rfl, rfl, rfl⟩, ?_, ?_⟩
  · rintro i x ρ hx ⟨st, e1, e2, e3⟩
    obtain ⟨hj, rfl⟩ := signs_get hx
    rw [drop_cons' hj] at e3
    generalize s[i] = ch at e3
    rw [parted] at e3
    refine iff <| tcmp <| nme rfl <| e_str <| o_eqS ⟨_, rfl, ifN (ch = 64) (c_eq ch 64) (fun q => ?_) fun q => ?_⟩
    · rw [if_pos q] at e3
      refine iff <| tcmp <| nme e1 <| e_int <| o_eqI ⟨_, rfl, ifN (st = 2) (kEq _ 2) (fun q2 => retS <| e_bool ?_) fun q2 => s_nil <| s_nil <| s_nil ?_⟩
      · rw [if_pos q2] at e3
        show PV.sc (.bool true) = _
        rw [e3]
      · rw [if_neg q2] at e3; exact ⟨st, e1, e2, e3⟩
    · rw [if_neg q] at e3
      refine iff <| tcmp <| nme rfl <| nme e2 <| o_eqS ⟨_, rfl, ifN (ch = b) (c_eq ch b) (fun q2 => ?_) fun q2 => ?_⟩
      · rw [if_pos q2] at e3
        refine asg <| e_ite <| tcmp <| nme e1 <| e_int <| o_gtI ⟨_, rfl, ifN (0 < st) (kLt 0 st) (fun q3 => e_int ⟨.inl rfl, s_nil <| s_nil <| s_nil ⟨2, rfl, e2, ?_⟩⟩) fun q3 => e_int ⟨.inl rfl, s_nil <| s_nil <| s_nil ⟨0, rfl, e2, ?_⟩⟩⟩
        · rw [if_pos q3] at e3; exact e3
        · rw [if_neg q3] at e3; exact e3
      · rw [if_neg q2] at e3
        refine asg <| e_ite <| t_chain <| e_int <| callB K.toGd K.no K.bt <| args1 <| nme rfl <| b_ord <| o_ltI ⟨_, rfl, ?_⟩
        by_cases q3 : 64 < ch ∧ ch < 128
        · rw [if_pos (by rw [decide_eq_true_eq]; omega)]
          refine e_int <| o_ltI ⟨_, rfl, ?_⟩
          rw [if_pos (by rw [decide_eq_true_eq]; omega)]
          rw [if_pos q3] at e3
          exact e_int ⟨.inl rfl, s_nil <| s_nil <| s_nil ⟨1, rfl, e2, e3⟩⟩
        · rw [if_neg q3] at e3
          have fin : E C c (Fn.of (dref 32).name (dref 32).scope a cd (by kernel_rfl)) (.Constant (.int 0) 0 ⟨0, 0, 0, 0⟩) ρ (fun _ => True) := e_int trivial
          by_cases q4 : 64 < ch
          · rw [if_pos (by exact (kLt 64 ch).2 q4)]
            refine e_int <| o_ltI ⟨_, rfl, ?_⟩
            rw [if_neg (by rw [decide_eq_true_eq]; omega)]
            exact e_int ⟨.inl rfl, s_nil <| s_nil <| s_nil ⟨0, rfl, e2, e3⟩⟩
          · rw [if_neg (by rw [decide_eq_true_eq]; omega), if_neg (by decide)]
            exact e_int ⟨.inl rfl, s_nil <| s_nil <| s_nil ⟨0, rfl, e2, e3⟩⟩
  · rintro ρ ⟨st, e1, e2, e3⟩
    rw [signs_len, List.drop_length, parted] at e3
    refine retS <| e_bool ?_
    show PV.sc (.bool false) = _
    rw [e3]

theorem sL_len (M : List (List Nat)) : (sL (M.map tx)).length = M.length := by simp [sL]
theorem C_seams (K : Wk vq C mg mb) (k : Nat) (h1 : 1 ≤ k) (h3 : k ≤ 3) (s : List Nat) (hs : s.length ≤ 1000000) : Cd C (c + 1) mg "_law_seams" [.sc (.int k), .sc (.str (tx s))] (· = .list (sL ((seamsF k (goneOf k) [] false false s).map tx))) := by
  refine cd_of K (d := dref 31) (ps := ["kind", "text"]) (by kernel_rfl) (by kernel_rfl) (bind2 fun _ _ _ _ _ => by kernel_rfl) rfl (by kernel_rfl) (by kernel_rfl) fun a cd => ?_
  refine own <| a_nil ⟨[], rfl, by decide, fun A => ?_⟩
  refine asg <| e_str ⟨.inl rfl, ?_⟩
  refine asg <| e_bool ⟨.inl rfl, ?_⟩
  refine asg <| e_bool ⟨.inl rfl, ?_⟩
  refine forS <| i_of <| nme (hid rfl) ?_
  refine ⟨fun i ρ => ∃ M ah gap ins, ρ "seams" = some (.list (sL (M.map tx))) ∧ ρ "ahead" = some (.sc (.str (tx ah))) ∧ ρ "gap" = some (.sc (.bool gap)) ∧ ρ "inside" = some (.sc (.bool ins)) ∧ ρ "kind" = some (.sc (.int k)) ∧
    seamsF k (goneOf k) [] false false s = M ++ seamsF k (goneOf k) ah gap ins (s.drop i) ∧ M.length ≤ i ∧ ah.length ≤ 1, ⟨[], [], false, false, rfl, rfl, rfl, rfl, rfl, rfl, by simp, by simp⟩, ?_, ?_⟩
  · rintro i x ρ hx ⟨M, ah, gap, ins, e1, e2, e3, e4, e5, e6, e7, e8⟩
    obtain ⟨hj, rfl⟩ := signs_get hx
    rw [drop_cons' hj] at e6
    generalize s[i] = ch at e6
    rw [seamsF] at e6
    have kb : k - 1 < ([[173], [32], [64]] : List (List Nat)).length := by show _ < 3; omega
    have ek : ((k : Nat) : Int) - 1 = ((k - 1 : Nat) : Int) := kSub (by first | assumption | omega)
    have g1 : (((⟨#[ch]⟩ : Tx) == tx ([[173], [32], [64]] : List (List Nat))[k - 1])) = (ch == goneOf k) := by
      have : ([[173], [32], [64]] : List (List Nat))[k - 1] = [goneOf k] := by
        have hk : k = 1 ∨ k = 2 ∨ k = 3 := by omega
        rcases hk with rfl | rfl | rfl <;> rfl
      rw [this, Bool.eq_iff_iff, c_eq, beq_iff_eq]
    -- gone
    refine asg <| e_mono (P := (· = PV.sc (.bool ((ch == goneOf k) && !((k == 3) && ins))))) (e_and <| cmpR <| nme rfl <| itm <| e_tup <| argsC <| e_str <| argsC <| e_str <| args1 <| e_str ⟨sL ([[173], [32], [64]].map tx), rfl, by decide, _, .inr rfl, by decide, e_bin <| nme e5 <| e_int <| o_sub ⟨k - 1, _, by rw [ek], sL_get kb, o_eqS ⟨_, rfl, ?_⟩⟩⟩) fun v hv => ⟨by subst hv; exact .inl rfl, ?_⟩
    · rw [g1]
      cases ch == goneOf k with
      | false => rw [if_neg (by decide)]; rfl
      | true =>
        rw [if_pos rfl]
        refine e_not <| e_and <| cmpR <| nme e5 <| e_int <| o_eqI ⟨_, rfl, ?_⟩
        have g3 : (((k : Nat) : Int) == 3) = (k == 3) := by rw [Bool.eq_iff_iff]; exact (kEq k 3).trans beq_iff_eq.symm
        rw [g3]
        cases k == 3 with
        | false => rw [if_neg (by decide)]; exact ⟨_, rfl, rfl⟩
        | true => rw [if_pos rfl]; exact nme e4 ⟨_, rfl, rfl⟩
    subst hv
    generalize hg : ((ch == goneOf k) && !((k == 3) && ins)) = gone at e6 ⊢
    -- inside
    refine meet (fun ρ' => ρ' "seams" = some (.list (sL (M.map tx))) ∧ ρ' "ahead" = some (.sc (.str (tx ah))) ∧ ρ' "gap" = some (.sc (.bool gap)) ∧ ρ' "kind" = some (.sc (.int k)) ∧ ρ' "gone" = some (.sc (.bool gone)) ∧ ρ' "sign" = some (.sc (.str ⟨#[ch]⟩)) ∧
      ρ' "inside" = some (.sc (.bool (if ch = 64 then ins else decide (64 < ch ∧ ch < 128))))) (tcmp <| nme rfl <| e_str <| o_neS ⟨_, rfl, ifN (ch ≠ 64) (c_ne ch 64) (fun q => ?_) fun q => s_nil ?_⟩) ?_
    · refine asg <| e_mono (P := (· = PV.sc (.bool (decide (64 < ch ∧ ch < 128))))) (e_chain <| e_int <| callB K.toGd K.no K.bt <| args1 <| nme rfl <| b_ord <| o_ltI ⟨_, rfl, ?_⟩) fun v hv => ⟨by subst hv; exact .inl rfl, ?_⟩
      · by_cases q4 : 64 < ch
        · rw [if_pos (by rw [decide_eq_true_eq]; omega)]
          refine e_int <| o_ltI ?_
          show PV.sc (.bool _) = _
          congr 2
          exact kMid q4 128
        · rw [if_neg (by exact fun z => q4 ((kLt 64 ch).1 z)), decide_eq_false (fun z => q4 z.1)]
      · subst hv
        refine s_nil ⟨e1, e2, e3, e5, rfl, rfl, ?_⟩
        rw [if_neg q]; rfl
    · have q : ch = 64 := Decidable.not_not.mp q
      refine ⟨e1, e2, e3, e5, rfl, rfl, ?_⟩
      rw [if_pos q]; exact e4
    rintro ρ' ⟨f1, f2, f3, f4, f5, f6, f7⟩
    generalize (if ch = 64 then ins else decide (64 < ch ∧ ch < 128)) = ins' at e6 f7
    refine iff <| t_not <| t_v <| nme f5 ⟨_, rfl, ?_⟩
    cases gone with
    | true =>
      rw [if_neg (by decide)]
      rw [if_pos rfl] at e6
      exact s_nil <| asg <| nme f5 ⟨.inl rfl, s_nil ⟨M, ah, true, ins', f1, f2, rfl, f7, f4, e6, by omega, e8⟩⟩
    | false =>
      rw [if_pos (by decide)]
      rw [if_neg (by decide)] at e6
      refine iff <| t_v <| nme f3 ⟨_, rfl, ?_⟩
      cases gap with
      | true =>
        rw [if_pos rfl]
        refine app f1 (.head _) (by rw [sL_len]; exact small_sz (by omega)) <| e_bin <| nme f2 <| nme f6 <| o_addS (by rw [tx_len]; show ah.length + 1 ≤ _; exact small_sz (by omega)) ⟨_, rfl, s_nil <| asg <| nme f6 ⟨.inl rfl, s_nil <| asg <| nme f5 ⟨.inl rfl, s_nil ⟨M ++ [ah ++ [ch]], [ch], false, ins', ?_, rfl, rfl, f7, f4, ?_, by simp; omega, by simp⟩⟩⟩⟩
        · show some (PV.list (sL (M.map tx) ++ [Sc.str (tx ah ++ tx [ch])])) = _
          rw [tx_app]; simp [sL]
        · rw [e6]; simp
      | false =>
        rw [if_neg (by decide)]
        refine s_nil <| asg <| nme f6 ⟨.inl rfl, s_nil <| asg <| nme f5 ⟨.inl rfl, s_nil ⟨M, [ch], false, ins', f1, rfl, rfl, f7, f4, ?_, by omega, by simp⟩⟩⟩
        rw [e6]; simp
  · rintro ρ ⟨M, ah, gap, ins, e1, e2, e3, e4, e5, e6, e7, e8⟩
    rw [signs_len, List.drop_length, seamsF, List.append_nil] at e6
    refine retS <| nme e1 ?_
    rw [e6]
end
end Mine
end
section
open PySem PyProof.Rows PySem.Builtin.Str
set_option linter.all false
namespace Mine
noncomputable def rp2 (x z : Nat) (w : List Nat) : List Nat → List Nat
  | [] => []
  | [c] => [c]
  | c1 :: c2 :: r => if c1 = x ∧ c2 = z then w ++ rp2 x z w r else c1 :: rp2 x z w (c2 :: r)
noncomputable def occ2 (x z : Nat) : Nat → List Nat → List Nat
  | _, [] => []
  | _, [_] => []
  | a, c1 :: c2 :: r => if c1 = x ∧ c2 = z then a :: occ2 x z (a + 2) r else occ2 x z (a + 1) (c2 :: r)
noncomputable def adj (x z : Nat) : List Nat → Bool
  | [] => false
  | [_] => false
  | c1 :: c2 :: r => (c1 == x && c2 == z) || adj x z (c2 :: r)
theorem tx_list (s : List Nat) : (tx s).cps.toList = s := by simp [tx]
theorem at2 (s : List Nat) (x z k : Nat) : StrLaws.At (tx s) (tx [x, z]) (tx s).length k ↔ s[k]? = some x ∧ s[k + 1]? = some z := by
  unfold StrLaws.At
  rw [StrLaws.subAt_eq, tx_len, tx_len, tx_list, tx_list]
  show (k + 2 ≤ s.length ∧ ((s.drop k).take 2 == [x, z]) = true) ↔ _
  rw [beq_iff_eq]
  have e0 : s[k]? = (s.drop k)[0]? := by rw [List.getElem?_drop]; rfl
  have e1 : s[k + 1]? = (s.drop k)[1]? := by rw [List.getElem?_drop]
  have el : (s.drop k).length = s.length - k := by simp
  rw [e0, e1]
  match hd : s.drop k with
  | [] => simp
  | [a] => simp
  | a :: b :: r =>
    rw [hd] at el
    simp only [List.length_cons] at el
    simp
    omega
theorem sb1 {m a n : Nat} (h : m - a ≤ n + 1) : m - (a + 1) ≤ n := by omega
theorem sb2 {m a n : Nat} (h : m - a ≤ n + 1) : m - (a + 2) ≤ n := by omega
theorem sb3 {m a c : Nat} (h2 : c + 1 < m) (h3 : a ≤ c) (e : m - a = 1) : False := by omega
theorem sb4 {m b k : Nat} (h : m - b = k + 2) : b + 2 ≤ m := by omega
theorem sb0 {m a : Nat} (h : m - a ≤ 0) : m ≤ a := Nat.sub_eq_zero_iff_le.mp (Nat.le_zero.mp h)
theorem occ2_of (s : List Nat) (x z : Nat) : ∀ (n a : Nat) (cuts : List Nat) (f : Nat), s.length - a ≤ n → StrLaws.ChainG (tx s) (tx [x, z]) (tx s).length a cuts f → (∀ k, f ≤ k → ¬ StrLaws.At (tx s) (tx [x, z]) (tx s).length k) → cuts = occ2 x z a (s.drop a) := by
  intro n
  induction n with
  | zero =>
    intro a cuts f hn hG hf
    have hd : s.drop a = [] := List.drop_eq_nil_of_le (sb0 hn)
    rw [hd]
    cases cuts with
    | nil => rfl
    | cons c r =>
      have := (at2 s x z c).mp hG.2.1
      have := (List.getElem?_eq_some_iff.mp this.1).1
      exact absurd this (Nat.not_lt.mpr (Nat.le_trans (sb0 hn) hG.1))
  | succ n ih =>
    intro a cuts f hn hG hf
    match hd : s.drop a with
    | [] =>
      cases cuts with
      | nil => rfl
      | cons c r =>
        have h1 := (at2 s x z c).mp hG.2.1
        have h2 := (List.getElem?_eq_some_iff.mp h1.1).1
        have h3 := hG.1
        have : s.length ≤ a := List.drop_eq_nil_iff.mp hd
        exact absurd h2 (Nat.not_lt.mpr (Nat.le_trans this h3))
    | [c0] =>
      cases cuts with
      | nil => rfl
      | cons c r =>
        have h1 := (at2 s x z c).mp hG.2.1
        have h2 := (List.getElem?_eq_some_iff.mp h1.2).1
        have h3 := hG.1
        have : (s.drop a).length = 1 := by rw [hd]; rfl
        rw [List.length_drop] at this
        exact (sb3 h2 h3 this).elim
    | c1 :: c2 :: r =>
      have g0 : s[a]? = some c1 := by
        have : (s.drop a)[0]? = some c1 := by rw [hd]; rfl
        rwa [List.getElem?_drop] at this
      have g1 : s[a + 1]? = some c2 := by
        have : (s.drop a)[1]? = some c2 := by rw [hd]; rfl
        rwa [List.getElem?_drop] at this
      have d1 : s.drop (a + 1) = c2 :: r := by rw [← List.drop_drop, hd]; rfl
      have d2 : s.drop (a + 2) = r := by rw [← List.drop_drop, hd]; rfl
      have hl : (s.drop a).length = r.length + 2 := by rw [hd]; rfl
      simp at hl
      rw [occ2]
      by_cases q : c1 = x ∧ c2 = z
      · rw [if_pos q]
        have hA : StrLaws.At (tx s) (tx [x, z]) (tx s).length a := (at2 s x z a).mpr ⟨by rw [g0, q.1], by rw [g1, q.2]⟩
        cases cuts with
        | nil => have e : f = a := hG; exact absurd hA (hf a (Nat.le_of_eq e))
        | cons c r' =>
          obtain ⟨h1, h2, h3, h4⟩ := hG
          have : c = a := by
            by_cases e : a < c
            · exact absurd hA (h3 a (Nat.le_refl _) e)
            · exact Nat.le_antisymm (Nat.not_lt.mp e) h1
          subst this
          have e2 : (tx [x, z]).length = 2 := rfl
          rw [e2] at h4
          rw [ih (c + 2) r' f (sb2 hn) h4 hf, d2]
      · rw [if_neg q, ← d1]
        have hA : ¬ StrLaws.At (tx s) (tx [x, z]) (tx s).length a := fun z' => q (by
          have := (at2 s x z a).mp z'
          rw [g0, g1] at this
          exact ⟨Option.some.inj this.1, Option.some.inj this.2⟩)
        cases cuts with
        | nil =>
          have e : f = a := hG
          exact ih (a + 1) [] (a + 1) (sb1 hn) rfl fun k hk => hf k (by rw [e]; exact Nat.le_of_succ_le hk)
        | cons c r' =>
          obtain ⟨h1, h2, h3, h4⟩ := hG
          have hc : c ≠ a := fun e => hA (e ▸ h2)
          exact ih (a + 1) (c :: r') f (sb1 hn) ⟨Nat.lt_of_le_of_ne h1 (Ne.symm hc), h2, fun k k1 k2 => h3 k (Nat.le_of_succ_le k1) k2, h4⟩ hf
theorem occ2_eq (s : List Nat) (x z : Nat) : occurrences (tx s) (tx [x, z]) 0 (tx s).length ((tx s).length + 1) = occ2 x z 0 s := by
  obtain ⟨f, hG, hn⟩ := StrLaws.occ_tight (tx s) (tx [x, z]) (show 1 ≤ 2 by decide)
  have := occ2_of s x z s.length 0 _ f (Nat.sub_le _ _) hG hn
  rwa [List.drop_zero] at this
theorem sub_tx (s : List Nat) (a b : Nat) : strSub (tx s) a b = tx ((s.drop a).take (b - a)) := by
  apply Str.ext'
  apply Array.toList_inj.mp
  rw [StrLaws.strSub_toList, tx_list, tx_list]
theorem join_rp2 (s w : List Nat) (x z : Nat) : ∀ (n a b : Nat), s.length - b ≤ n → a ≤ b → b ≤ s.length → Str.join (tx w) (StrLaws.partsFrom (tx s) 2 a (occ2 x z b (s.drop b))) = tx ((s.drop a).take (b - a) ++ rp2 x z w (s.drop b)) := by
  have base : ∀ a b, a ≤ b → b ≤ s.length → strSub (tx s) a (tx s).length = tx ((s.drop a).take (b - a) ++ s.drop b) := by
    intro a b h1 h2
    rw [sub_tx, tx_len]
    congr 1
    rw [List.take_of_length_le (by simp)]
    have e5 : s.drop b = (s.drop a).drop (b - a) := by rw [List.drop_drop]; congr 1; exact (Nat.add_sub_cancel' h1).symm
    rw [e5, List.take_append_drop]
  intro n
  induction n with
  | zero =>
    intro a b hn hab hb
    have hd : s.drop b = [] := List.drop_eq_nil_of_le (sb0 hn)
    have := base a b hab hb
    rw [hd] at this ⊢
    exact this
  | succ n ih =>
    intro a b hn hab hb
    match hd : s.drop b with
    | [] => have := base a b hab hb; rw [hd] at this; exact this
    | [c0] => have := base a b hab hb; rw [hd] at this; exact this
    | c1 :: c2 :: r =>
      have d1 : s.drop (b + 1) = c2 :: r := by rw [← List.drop_drop, hd]; rfl
      have d2 : s.drop (b + 2) = r := by rw [← List.drop_drop, hd]; rfl
      have hl : (s.drop b).length = r.length + 2 := by rw [hd]; rfl
      rw [List.length_drop] at hl
      rw [occ2, rp2]
      by_cases q : c1 = x ∧ c2 = z
      · rw [if_pos q, if_pos q]
        have := ih (b + 2) (b + 2) (sb2 hn) (Nat.le_refl _) (sb4 hl)
        rw [d2, Nat.sub_self, List.take_zero, List.nil_append] at this
        obtain ⟨p, q', e⟩ := StrLaws.partsFrom_ne (tx s) 2 (b + 2) (occ2 x z (b + 2) r)
        show Str.join (tx w) (strSub (tx s) a b :: StrLaws.partsFrom (tx s) 2 (b + 2) (occ2 x z (b + 2) r)) = _
        rw [e] at this ⊢
        show strSub (tx s) a b ++ tx w ++ Str.join (tx w) (p :: q') = _
        rw [this, sub_tx, tx_app, tx_app, List.append_assoc]
      · rw [if_neg q, if_neg q, ← d1, ih a (b + 1) (sb1 hn) (Nat.le_succ_of_le hab) (Nat.le_of_succ_le (sb4 hl))]
        congr 1
        have e1 : b + 1 - a = (b - a) + 1 := Nat.succ_sub hab
        have e2 : (s.drop a)[b - a]? = some c1 := by
          rw [List.getElem?_drop]
          have : a + (b - a) = b := Nat.add_sub_cancel' hab
          rw [this]
          have : (s.drop b)[0]? = some c1 := by rw [hd]; rfl
          rwa [List.getElem?_drop] at this
        rw [e1, List.take_add_one, e2, d1]
        simp
theorem replace2 (s w : List Nat) (x z : Nat) : Txt.replace (tx s) (tx [x, z]) (tx w) = tx (rp2 x z w s) := by
  unfold Txt.replace
  rw [occ2_eq]
  have h2 : ((tx [x, z]).length == 0) = false := rfl
  rw [h2, Bool.false_and, Bool.or_false]
  have key := join_rp2 s w x z s.length 0 0 (Nat.sub_le _ _) (Nat.le_refl _) (Nat.zero_le _)
  rw [List.drop_zero, Nat.sub_self, List.take_zero, List.nil_append] at key
  cases he : (occ2 x z 0 s).isEmpty
  · rw [if_neg Bool.false_ne_true, StrLaws.glued_eq_join, StrLaws.partsBetween_eq]
    exact key
  · rw [if_pos rfl]
    rw [List.isEmpty_iff.mp he] at key
    rw [← key]
    show _ = strSub (tx s) 0 (tx s).length
    exact (StrLaws.sub_whole _).symm
theorem contains2 (s : List Nat) (x z : Nat) : Txt.contains (tx s) (tx [x, z]) = adj x z s := by
  rw [Bool.eq_iff_iff]
  unfold Txt.contains
  rw [StrLaws.found_iff]
  have e : (∃ i, i + (tx [x, z]).length ≤ (tx s).length ∧ subAt (tx s) (tx [x, z]) i = true) ↔ ∃ i, s[i]? = some x ∧ s[i + 1]? = some z := exists_congr fun i => at2 s x z i
  rw [e]
  have : ∀ s : List Nat, (∃ i, s[i]? = some x ∧ s[i + 1]? = some z) ↔ adj x z s = true := by
    intro s
    induction s with
    | nil => simp [adj]
    | cons c r ih =>
      cases r with
      | nil => simp [adj]
      | cons d r =>
        rw [adj, Bool.or_eq_true, ← ih, Bool.and_eq_true, beq_iff_eq, beq_iff_eq]
        constructor
        · rintro ⟨i, h1, h2⟩
          cases i with
          | zero => left; exact ⟨by simpa using h1, by simpa using h2⟩
          | succ i => right; exact ⟨i, by simpa using h1, by simpa using h2⟩
        · rintro (⟨h1, h2⟩ | ⟨i, h1, h2⟩)
          · exact ⟨0, by simp [h1], by simp [h2]⟩
          · exact ⟨i + 1, by simpa using h1, by simpa using h2⟩
  exact this s
theorem count2 (s : List Nat) (x z : Nat) : Txt.count (tx s) (tx [x, z]) = ((occ2 x z 0 s).length : Nat) := by
  unfold Txt.count
  rw [occ2_eq]
theorem count1 (s : List Nat) (x : Nat) : Txt.count (tx s) (tx [x]) = cnt x s := by
  show Txt.count (tx s) ⟨#[x]⟩ = _
  rw [count_is, tx_list]; rfl
/-- a return or a feed that stands alone -/
noncomputable def alF : Bool → List Nat → Bool
  | p, [] => p
  | p, c :: s => if c = 13 then (if p = true then true else alF true s) else if c = 10 then (if p = true then alF false s else true) else (if p = true then true else alF false s)
theorem occ2_shift (x z : Nat) : ∀ (n : Nat) (s : List Nat) (a b : Nat), s.length ≤ n → (occ2 x z a s).length = (occ2 x z b s).length := by
  intro n
  induction n with
  | zero =>
    intro s a b h
    match s, h with
    | [], _ => rfl
  | succ n ih =>
    intro s a b h
    match s, h with
    | [], _ => rfl
    | [_], _ => rfl
    | c1 :: c2 :: r, h =>
      rw [occ2, occ2]
      simp only [List.length_cons] at h
      split
      · simp only [List.length_cons, ih r (a + 2) (b + 2) (by omega)]
      · exact ih (c2 :: r) _ _ (by simp only [List.length_cons]; omega)
noncomputable def dif (s : List Nat) : Int := cnt 13 s + cnt 10 s - 2 * ((occ2 13 10 0 s).length : Nat)
theorem dif_match (r : List Nat) : dif (13 :: 10 :: r) = dif r := by
  unfold dif
  rw [occ2, if_pos ⟨rfl, rfl⟩, List.length_cons, occ2_shift 13 10 r.length r (0 + 2) 0 (Nat.le_refl _)]
  simp only [cnt_cons]
  simp
  omega
theorem dif_cons {c : Nat} {r : List Nat} (h : ¬ (c = 13 ∧ r.head? = some 10)) : dif (c :: r) = (if c = 13 then 1 else 0) + (if c = 10 then 1 else 0) + dif r := by
  unfold dif
  cases r with
  | nil => simp [occ2, cnt_cons, cnt_nil]
  | cons d r =>
    rw [occ2, if_neg (fun z => h ⟨z.1, by simp [z.2]⟩), occ2_shift 13 10 _ (d :: r) (0 + 1) 0 (Nat.le_refl _), cnt_cons, cnt_cons 10 c]
    have e1 : (if c = 13 then (1 : Int) else 0) = if c = 13 then 1 else 0 := rfl
    omega
theorem alone_is : ∀ (n : Nat) (s : List Nat), s.length ≤ n → (0 ≤ dif s ∧ (0 < dif s ↔ alF false s = true)) ∧ (0 ≤ dif (13 :: s) ∧ (0 < dif (13 :: s) ↔ alF true s = true)) := by
  intro n
  induction n with
  | zero =>
    intro s h
    match s, h with
    | [], _ => exact ⟨⟨by decide, by decide⟩, by decide, by decide⟩
  | succ n ih =>
    intro s h
    match s, h with
    | [], _ => exact ⟨⟨by decide, by decide⟩, by decide, by decide⟩
    | c :: r, h =>
      simp only [List.length_cons] at h
      obtain ⟨⟨i1, i2⟩, i3, i4⟩ := ih r (by omega)
      have first : 0 ≤ dif (c :: r) ∧ (0 < dif (c :: r) ↔ alF false (c :: r) = true) := by
        rw [alF]
        by_cases q13 : c = 13
        · subst q13
          rw [if_pos rfl, if_neg (by decide)]
          exact ⟨i3, i4⟩
        · rw [if_neg q13, dif_cons (fun z => q13 z.1), if_neg q13]
          by_cases q10 : c = 10
          · rw [if_pos q10, if_pos q10, if_neg (by decide)]
            exact ⟨by omega, by simp; omega⟩
          · rw [if_neg q10, if_neg q10, if_neg (by decide)]
            refine ⟨by omega, ?_⟩
            rw [← i2]; omega
      refine ⟨first, ?_⟩
      rw [alF]
      by_cases q10 : c = 10
      · subst q10
        rw [dif_match, if_neg (by decide), if_pos rfl, if_pos rfl]
        exact ⟨i1, i2⟩
      · rw [dif_cons (c := 13) (r := c :: r) (fun z => q10 (by simpa using z.2)), if_pos rfl, if_neg (by decide)]
        have f1 := first.1
        refine ⟨by omega, ?_⟩
        have : (if c = 13 then (if (true : Bool) = true then true else alF true r) else if c = 10 then (if (true : Bool) = true then alF false r else true) else (if (true : Bool) = true then true else alF false r)) = true := by
          by_cases q13 : c = 13
          · rw [if_pos q13, if_pos rfl]
          · rw [if_neg q13, if_neg q10, if_pos rfl]
        exact ⟨fun _ => this, fun _ => by omega⟩
end Mine
end
section
open PySem PySem.W PyProof.Rows PySem.Calls
set_option Elab.async false
set_option maxRecDepth 100000
set_option linter.all false
namespace Mine
noncomputable def sm (a : Nat) (s : List Nat) : List (List Nat) := seamsF a (goneOf a) [] false false s
noncomputable def someB (s : List Nat) : Bool := decide (13 ∈ s) || decide (10 ∈ s)
/-- the plain rule: these two hands may not change places over the text -/
noncomputable def mn (a b : Nat) (s : List Nat) : Bool :=
  if a = 0 then (b == 10 && decide (13 ∈ s)) || (b == 11 && someB s)
  else if a < 3 ∧ b = 3 then parted (if a = 1 then 173 else 32) 0 s
  else if a < 4 then (if b < 4 ∨ 6 < b then false else if b = 4 then (sm a s).any (fun z => ([[46], [13, 46], [10, 46], [13, 10]] : List (List Nat)).contains z) else if b = 5 then (sm a s).contains [13, 10] else (sm a s).contains [46] || (sm a s).contains [10, 46])
  else if 6 < a then s.any fun n => decide (nmc (a - 1) n ≠ nmc (b - 1) n)
  else if b = 6 then adj 13 46 s
  else if b = 10 then decide (a < 6) && someB s
  else if b = 8 ∨ b = 11 then (decide (a < 6) && alF false s) || (decide (a ≠ 5) && adj 10 46 s)
  else false
theorem bind3 {nm : Tx} {params : Arguments} {body : List Stmt} {scope : Scope} {p p' p'' : Tx} (h : ∀ pm cd doc v v' v'', bindArgs (Calls.docDef nm params body scope pm cd doc) ⟨[v, v', v''], []⟩ = pure [(p, v), (p', v'), (p'', v'')]) {x y z : PV} :
    ∀ pm cd doc, ∀ vs : List Value, vs.length = [x, y, z].length → bindArgs (Calls.docDef nm params body scope pm cd doc) ⟨vs, []⟩ = pure ([p, p', p''].zip vs) := fun pm cd doc vs e => by
  obtain ⟨v, v', v'', rfl⟩ := three_of e
  exact h pm cd doc v v' v''
theorem any_sL (M : List (List Nat)) (z : List Nat) : (M.map tx).any (· == tx z) = M.contains z := by
  rw [Bool.eq_iff_iff, List.any_eq_true, List.contains_iff_mem]
  constructor
  · rintro ⟨x, hx, e⟩
    obtain ⟨y, hy, rfl⟩ := List.mem_map.mp hx
    rw [beq_iff_eq, tx_inj] at e
    exact e ▸ hy
  · intro h
    exact ⟨tx z, List.mem_map.mpr ⟨z, h, rfl⟩, by simp⟩
theorem paired_same : ∀ {xs zs : List Sc}, Paired (fun y w => w = y) xs zs → zs = xs := by
  intro xs zs h
  induction h with
  | nil => rfl
  | cons a _ ih => rw [a, ih]
theorem ne_filter {α β : Type} (g : α → β) (p : β → Bool) : ∀ M : List α, (!((M.map g).filter p).isEmpty) = M.any fun z => p (g z)
  | [] => rfl
  | a :: M => by
    have ih := ne_filter g p M
    rw [List.map_cons, List.filter_cons, List.any_cons]
    cases h : p (g a) with
    | true => simp
    | false => rw [if_neg (by decide), ih, Bool.false_or]
theorem seamsF_len (k x : Nat) : ∀ (s : List Nat) (ah : List Nat) (g i : Bool), (seamsF k x ah g i s).length ≤ s.length
  | [], _, _, _ => Nat.le_refl _
  | c :: s, ah, g, i => by
    have ih := seamsF_len k x s
    rw [seamsF]
    split
    · exact Nat.le_succ_of_le (ih _ _ _)
    · have h1 : (if g = true then [ah ++ [c]] else []).length ≤ 1 := by split <;> simp
      rw [List.length_append, List.length_cons, Nat.add_comm]
      exact Nat.add_le_add (ih _ _ _) h1
noncomputable def txt (s : List Nat) : Lo := fun y => if y = "text" then some (.sc (.str (tx s))) else none
noncomputable def cel2 (L : Addr) (vs : List Value) : List (Addr × Value) := [(L + 1, vs.getD 0 .none), (L + 2, vs.getD 1 .none)]
section
variable {C : Cx} {c : Nat} {f : Fn} {ρ : Lo} {mg mb : Tx → Option Value}
/-- two bools, the one or the other -/
theorem e_or' {x y : Expr} {pos : Pos} {P : PV → Prop} {b1 b2 : Bool} (h1 : E C c f x ρ (· = .sc (.bool b1))) (h2 : E C c f y ρ (· = .sc (.bool b2))) (hp : P (.sc (.bool (b1 || b2)))) : E C c f (.BoolOp .Or [x, y] pos) ρ P := by
  refine e_or (e_mono h1 fun v hv => ⟨b1, hv, ?_⟩)
  cases b1 with
  | true => rw [if_pos rfl]; exact hp
  | false => rw [if_neg (by decide)]; exact e_mono h2 fun v hv => by subst hv; exact hp
theorem e_and' {x y : Expr} {pos : Pos} {P : PV → Prop} {b1 b2 : Bool} (h1 : E C c f x ρ (· = .sc (.bool b1))) (h2 : E C c f y ρ (· = .sc (.bool b2))) (hp : P (.sc (.bool (b1 && b2)))) : E C c f (.BoolOp .And [x, y] pos) ρ P := by
  refine e_and (e_mono h1 fun v hv => ⟨b1, hv, ?_⟩)
  cases b1 with
  | false => rw [if_neg (by decide)]; exact hp
  | true => rw [if_pos rfl]; exact e_mono h2 fun v hv => by subst hv; exact hp
theorem nat_eq (a b : Nat) : (((a : Nat) : Int) == (b : Nat)) = (a == b) := by rw [Bool.eq_iff_iff, beq_iff_eq, beq_iff_eq]; omega
theorem C_maynot (K : Wk vq C mg mb) (a b : Nat) (hab : a < b) (hb : b ≤ 11) (s : List Nat) (hs : s.length ≤ 1000000) : Cd C (c + 2) mg "_law_may_not" [.sc (.int a), .sc (.int b), .sc (.str (tx s))] (· = .sc (.bool (mn a b s))) := by
  refine cd_ofC K (d := dref 33) (ps := ["first", "second", "text"]) (by kernel_rfl) (by kernel_rfl) (bind3 fun _ _ _ _ _ _ => by kernel_rfl) ?_ (txt s) ?_ cel2 ?_ (by kernel_rfl) fun ad cd L X h vs rs => ?_
  · intro L x hx
    simp only [List.mem_cons, List.not_mem_nil, or_false] at hx
    rcases hx with rfl | rfl | rfl
    · exact .inr ⟨by kernel_rfl, by kernel_rfl⟩
    · exact .inr ⟨by kernel_rfl, by kernel_rfl⟩
    · exact .inl (by kernel_rfl)
  · intro ad cd X h vs L rs y x e
    cases rs with | cons r1 rs => cases rs with | cons r2 rs => cases rs with | cons r3 rs =>
    cases rs
    unfold txt at e
    split at e
    · rename_i hy
      subst hy; cases e
      exact ⟨_, by kernel_rfl, r3⟩
    · cases e
  · intro ad cd L vs hl p hp
    obtain ⟨v1, v2, v3, rfl⟩ := three_of hl
    · unfold cel2 at hp
      simp only [List.mem_cons, List.not_mem_nil, or_false] at hp
      rcases hp with rfl | rfl
      · exact ⟨"first", by kernel_rfl, by kernel_rfl⟩
      · exact ⟨"second", by kernel_rfl, by kernel_rfl⟩
  cases rs with | cons r1 rs => cases rs with | cons r2 rs => cases rs with | cons r3 rs =>
  cases rs
  cases r1 with | sc r1 => cases r2 with | sc r2 => cases r3 with | sc r3 =>
  cases r1 with | int _ t1 => cases r2 with | int _ t2 => cases r3 with | str _ t3 =>
  have K' := K.cells (cel2 L [.int (a : Nat) t1, .int (b : Nat) t2, .str (tx s) t3])
  have nf : ∀ (ρ : Lo) (pos : Pos) (P : PV → Prop), P (.sc (.int (a : Nat))) → E (C.cells (cel2 L [.int (a : Nat) t1, .int (b : Nat) t2, .str (tx s) t3])) (c + 1) (Fn.ofC (dref 33).name (dref 33).scope ad cd (by kernel_rfl) L) (.Name "first" pos) ρ P :=
    fun ρ pos P hp => nmC (a := L + 1) (v := .int (a : Nat) t1) (List.Mem.head _) (.int _ _) hp
  have ns : ∀ (ρ : Lo) (pos : Pos) (P : PV → Prop), P (.sc (.int (b : Nat))) → E (C.cells (cel2 L [.int (a : Nat) t1, .int (b : Nat) t2, .str (tx s) t3])) (c + 1) (Fn.ofC (dref 33).name (dref 33).scope ad cd (by kernel_rfl) L) (.Name "second" pos) ρ P :=
    fun ρ pos P hp => nmC (a := L + 2) (v := .int (b : Nat) t2) (List.Mem.tail _ (List.Mem.head _)) (.int _ _) hp
  have m1 : (L + 1, Value.int (a : Nat) t1) ∈ cel2 L [.int (a : Nat) t1, .int (b : Nat) t2, .str (tx s) t3] := List.Mem.head _
  have m2 : (L + 2, Value.int (b : Nat) t2) ∈ cel2 L [.int (a : Nat) t1, .int (b : Nat) t2, .str (tx s) t3] := List.Mem.tail _ (List.Mem.head _)
  generalize cel2 L [.int (a : Nat) t1, .int (b : Nat) t2, .str (tx s) t3] = cs at K' nf ns m1 m2
  refine asg <| e_or' (b1 := decide (13 ∈ s)) (b2 := decide (10 ∈ s)) (cmpR <| e_str <| nme rfl <| o_inS (by rw [← contains_one]; rfl)) (cmpR <| e_str <| nme rfl <| o_inS (by rw [← contains_one]; rfl)) ⟨.inl rfl, ?_⟩
  refine asg <| e_mono (P := (· = .sc (.bool (alF false s)))) (cmpR <| e_bin <| e_count <| nme rfl ⟨_, rfl, e_str ⟨_, rfl, e_count <| nme rfl ⟨_, rfl, e_str ⟨_, rfl, o_add <| e_bin <| e_int <| e_count <| nme rfl ⟨_, rfl, e_str ⟨_, rfl, o_mul (IntMulOk.of_left (by decide +kernel)) <| o_gtI ?_⟩⟩⟩⟩⟩⟩) fun v hv => ⟨by subst hv; exact .inl rfl, ?_⟩
  · have c1 := count1 s 13; have c2 := count1 s 10; have c3 := count2 s 13 10
    have al := (alone_is s.length s (Nat.le_refl _)).1.2
    unfold dif at al
    show PV.sc (.bool (decide (2 * Txt.count (tx s) (tx [13, 10]) < Txt.count (tx s) (tx [13]) + Txt.count (tx s) (tx [10])))) = _
    rw [c1, c2, c3]
    congr 2
    rw [Bool.eq_iff_iff, decide_eq_true_eq, ← al]; omega
  subst hv
  have seq : ∀ (ρ : Lo) (p1 p2 p3 : Pos) (n k : Nat), E (C.cells cs) (c + 1) (Fn.ofC (dref 33).name (dref 33).scope ad cd (by kernel_rfl) L) (.Compare (.Name "second" p1) [.Eq] [.Constant (.int (k : Nat)) n p2] p3) ρ (· = .sc (.bool (b == k))) :=
    fun ρ p1 p2 p3 n k => cmpR <| ns _ _ _ <| e_int <| o_eqI (by rw [nat_eq])
  refine iff <| tcmp <| nf _ _ _ <| e_int <| o_eqI ⟨_, rfl, ifN (a = 0) (kEq _ 0) (fun q => ?_) fun q0 => s_nil ?_⟩
  · refine retS <| e_or' (b1 := b == 10 && decide (13 ∈ s)) (b2 := b == 11 && someB s) (e_and' (b1 := b == 10) (b2 := decide (13 ∈ s)) (seq _ _ _ _ _ 10) (cmpR <| e_str <| nme rfl <| o_inS (by rw [← contains_one]; rfl)) rfl) (e_and' (b1 := b == 11) (b2 := someB s) (seq _ _ _ _ _ 11) (nme rfl rfl) rfl) ?_
    show _ = PV.sc (.bool (mn a b s))
    rw [mn, if_pos q]
  refine iff <| t_and2 (tcmp <| nf _ _ _ <| e_int <| o_ltI ⟨_, rfl, rfl⟩) (fun _ => tcmp <| ns _ _ _ <| e_int <| o_eqI ⟨_, rfl, rfl⟩) <| ifN (a < 3 ∧ b = 3) (by rw [Bool.and_eq_true, decide_eq_true_eq, beq_iff_eq]; omega) (fun q => ?_) fun q1 => s_nil ?_
  · refine retS <| callD K'.toGd (K'.df (d := dref 32) (by kernel_rfl)) <| args2 <| e_ite <| tcmp <| nf _ _ _ <| e_int <| o_eqI ⟨_, rfl, ifN (a = 1) (kEq _ 1) (fun z => e_str <| nme rfl <| cd_mono (cd_less (C_parted (c := c) K' 173 s hs) (by first | exact Nat.le_refl _ | exact Nat.le_succ _ | exact Nat.add_le_add_left (by decide) _ | omega)) fun x hx => by rw [hx, mn, if_neg q0, if_pos q, if_pos z]) fun z => e_str <| nme rfl <| cd_mono (cd_less (C_parted (c := c) K' 32 s hs) (by first | exact Nat.le_refl _ | exact Nat.le_succ _ | exact Nat.add_le_add_left (by decide) _ | omega)) fun x hx => by rw [hx, mn, if_neg q0, if_pos q, if_neg z]⟩
  refine iff <| tcmp <| nf _ _ _ <| e_int <| o_ltI ⟨_, rfl, ifN (a < 4) (kLt a 4) (fun q => ?_) fun q2 => s_nil ?_⟩
  · refine iff <| t_or2 (tcmp <| ns _ _ _ <| e_int <| o_ltI ⟨_, rfl, rfl⟩) (fun _ => tcmp <| ns _ _ _ <| e_int <| o_gtI ⟨_, rfl, rfl⟩) <| ifN (b < 4 ∨ 6 < b) (by rw [Bool.or_eq_true, decide_eq_true_eq, decide_eq_true_eq]; omega) (fun z => retS <| e_bool ?_) fun z => s_nil ?_
    · show PV.sc (.bool false) = PV.sc (.bool (mn a b s))
      rw [mn, if_neg q0, if_neg q1, if_pos q, if_pos z]
    refine asg <| callD K'.toGd (K'.df (d := dref 31) (by kernel_rfl)) <| args2 <| nf _ _ _ <| nme rfl <| cd_mono (cd_less (C_seams (c := c) K' a (by first | exact Nat.le_trans hs (by decide) | exact Int.natCast_nonneg _ | omega) (by first | exact Nat.le_trans hs (by decide) | exact Int.natCast_nonneg _ | omega) s hs) (by first | exact Nat.le_refl _ | exact Nat.le_succ _ | exact Nat.add_le_add_left (by decide) _ | omega)) fun x hx => ⟨by subst hx; exact .inr rfl, ?_⟩
    subst hx
    have hsm : (sL ((sm a s).map tx)).length ≤ sizeLine := by rw [sL_len]; exact small_sz (Nat.le_trans (seamsF_len _ _ s _ _ _) hs)
    refine iff <| tcmp <| ns _ _ _ <| e_int <| o_eqI ⟨_, rfl, ifN (b = 4) (kEq _ 4) (fun y => ?_) fun y4 => s_nil ?_⟩
    · refine retS <| cmpR <| cmpn (by kernel_rfl) (i_of <| nme rfl ⟨hsm, fun v => match v with | .str x => (([[46], [13, 46], [10, 46], [13, 10]] : List (List Nat)).map tx).any (· == x) | _ => false, fun v w => w = v, fun v hv L' => ?_, fun v hv _ L' => ?_, fun zs hz => ?_⟩)
      · obtain ⟨t, ht, rfl⟩ := List.mem_map.mp hv
        exact tcmp <| nme rfl <| e_tup <| argsC <| e_str <| argsC <| e_str <| argsC <| e_str <| args1 <| e_str ⟨sL (([[46], [13, 46], [10, 46], [13, 10]] : List (List Nat)).map tx), rfl, by decide, o_inTS ⟨_, rfl, rfl⟩⟩
      · exact nme rfl ⟨v, rfl, rfl⟩
      · rw [paired_same hz]
        refine e_list <| a_nil ⟨[], rfl, by decide, o_neE ?_⟩
        show PV.sc (.bool (!(((sL ((sm a s).map tx)).filter _).isEmpty))) = PV.sc (.bool (mn a b s))
        unfold sL
        rw [ne_filter, List.any_map, mn, if_neg q0, if_neg q1, if_pos q, if_neg z, if_pos y]
        congr 2
        congr 1
        funext u
        exact any_sL _ u
    refine iff <| tcmp <| ns _ _ _ <| e_int <| o_eqI ⟨_, rfl, ifN (b = 5) (kEq _ 5) (fun y => ?_) fun y5 => s_nil ?_⟩
    · refine retS <| cmpR <| e_str <| nme rfl <| o_inLS ?_
      show PV.sc (.bool (((sm a s).map tx).any (· == tx [13, 10]))) = PV.sc (.bool (mn a b s))
      rw [any_sL, mn, if_neg q0, if_neg q1, if_pos q, if_neg z, if_neg y4, if_pos y]
    · refine retS <| e_or' (b1 := (sm a s).contains [46]) (b2 := (sm a s).contains [10, 46]) (cmpR <| e_str <| nme rfl <| o_inLS (by rw [← any_sL]; rfl)) (cmpR <| e_str <| nme rfl <| o_inLS (by rw [← any_sL]; rfl)) ?_
      show _ = PV.sc (.bool (mn a b s))
      rw [mn, if_neg q0, if_neg q1, if_pos q, if_neg z, if_neg y4, if_neg y5]
  refine iff <| tcmp <| nf _ _ _ <| e_int <| o_gtI ⟨_, rfl, ifN (6 < a) (kLt 6 a) (fun q => ?_) fun q3 => s_nil ?_⟩
  · refine retS <| cmpR <| cmpnC [("second", L + 2), ("first", L + 1)] (by kernel_rfl) (by intro _; kernel_rfl) (i_of <| nme rfl ⟨by rw [signs_len]; exact small_sz hs, fun v => match v with | .str x => decide (nmc (a - 1) (x.cps.getD 0 0) ≠ nmc (b - 1) (x.cps.getD 0 0)) | _ => false, fun v w => w = v, fun v hv L' => ?_, fun v hv _ L' => ?_, fun zs hz => ?_⟩)
    · obtain ⟨n, hn, rfl⟩ := signs_mem hv
      refine tcmp <| callD K'.exact.toGd (K'.exact.df (d := dref 29) (by kernel_rfl)) <| args2 <| nmC (C := C.exact) (a := L + 1) (v := .int (a : Nat) t1) m1 (.int _ _) <| nme rfl <| cd_mono (cd_less (C_name2 (c := c) K'.exact a n (by first | exact Nat.le_trans hs (by decide) | exact Int.natCast_nonneg _ | omega) (by first | exact Nat.le_trans hs (by decide) | exact Int.natCast_nonneg _ | omega)) (by first | exact Nat.le_refl _ | exact Nat.le_succ _ | exact Nat.add_le_add_left (by decide) _ | omega)) fun x hx => ?_
      subst hx
      refine callD K'.exact.toGd (K'.exact.df (d := dref 29) (by kernel_rfl)) <| args2 <| nmC (C := C.exact) (a := L + 2) (v := .int (b : Nat) t2) m2 (.int _ _) <| nme rfl <| cd_mono (cd_less (C_name2 (c := c) K'.exact b n (by first | exact Nat.le_trans hs (by decide) | exact Int.natCast_nonneg _ | omega) (by first | exact Nat.le_trans hs (by decide) | exact Int.natCast_nonneg _ | omega)) (by first | exact Nat.le_refl _ | exact Nat.le_succ _ | exact Nat.add_le_add_left (by decide) _ | omega)) fun x hx => ?_
      subst hx
      refine o_neS ⟨_, rfl, ?_⟩
      show (tx (nmc (a - 1) n) != tx (nmc (b - 1) n)) = decide (nmc (a - 1) n ≠ nmc (b - 1) n)
      rw [Bool.eq_iff_iff, bne_iff_ne, decide_eq_true_eq, ne_eq, ne_eq, tx_inj]
    · exact nme rfl ⟨v, rfl, rfl⟩
    · rw [paired_same hz]
      refine e_list <| a_nil ⟨[], rfl, by decide, o_neE ?_⟩
      rw [signs_eq]
      show PV.sc (.bool (!(((s.map fun n => Sc.str ⟨#[n]⟩).filter _).isEmpty))) = PV.sc (.bool (mn a b s))
      rw [ne_filter, mn, if_neg q0, if_neg q1, if_neg q2, if_pos q]
      rfl
  refine iff <| tcmp <| ns _ _ _ <| e_int <| o_eqI ⟨_, rfl, ifN (b = 6) (kEq _ 6) (fun y => ?_) fun y6 => s_nil ?_⟩
  · refine retS <| cmpR <| e_str <| nme rfl <| o_inS ?_
    show PV.sc (.bool (Txt.contains (tx s) (tx [13, 46]))) = PV.sc (.bool (mn a b s))
    rw [contains2, mn, if_neg q0, if_neg q1, if_neg q2, if_neg q3, if_pos y]
  refine iff <| tcmp <| ns _ _ _ <| e_int <| o_eqI ⟨_, rfl, ifN (b = 10) (kEq _ 10) (fun y => ?_) fun y10 => s_nil ?_⟩
  · refine retS <| e_and' (b1 := decide (a < 6)) (b2 := someB s) (cmpR <| nf _ _ _ <| e_int <| o_ltI (by show PV.sc (.bool _) = _; congr 2; exact kDec _ 6)) (nme rfl rfl) ?_
    show _ = PV.sc (.bool (mn a b s))
    rw [mn, if_neg q0, if_neg q1, if_neg q2, if_neg q3, if_neg y6, if_pos y]
  refine iff <| tcmp <| ns _ _ _ <| e_tup <| argsC <| e_int <| args1 <| e_int ⟨iL [8, 11], rfl, by decide, o_inTI ⟨_, rfl, ifN (b = 8 ∨ b = 11) (any2 b) (fun y => ?_) fun y8 => s_nil <| retS <| e_bool ?_⟩⟩
  · refine retS <| e_or' (b1 := decide (a < 6) && alF false s) (b2 := decide (a ≠ 5) && adj 10 46 s) (e_and' (b1 := decide (a < 6)) (b2 := alF false s) (cmpR <| nf _ _ _ <| e_int <| o_ltI (by show PV.sc (.bool _) = _; congr 2; exact kDec _ 6)) (nme rfl rfl) rfl)
      (e_and' (b1 := decide (a ≠ 5)) (b2 := adj 10 46 s) (cmpR <| nf _ _ _ <| e_int <| o_neI (by show PV.sc (.bool _) = _; congr 2; rw [Bool.eq_iff_iff, bne_iff_ne, decide_eq_true_eq]; omega)) (cmpR <| e_str <| nme rfl <| o_inS (by rw [← contains2]; rfl)) rfl) ?_
    show _ = PV.sc (.bool (mn a b s))
    rw [mn, if_neg q0, if_neg q1, if_neg q2, if_neg q3, if_neg y6, if_neg y10, if_pos y]
  · show PV.sc (.bool false) = PV.sc (.bool (mn a b s))
    rw [mn, if_neg q0, if_neg q1, if_neg q2, if_neg q3, if_neg y6, if_neg y10, if_neg y8]
end
end Mine
end
section
open PySem PyProof.Rows PySem.Builtin.Str
set_option linter.all false
namespace Mine
theorem es_tf : ∀ {c : Nat} {r : List Nat}, c ≠ 10 → es true (c :: r) = es false (c :: r) := by
  intro c r h
  rw [es, es]
  by_cases q : c = 13
  · rw [if_pos q, if_pos q]
  · rw [if_neg q, if_neg q, if_neg h, if_neg h]
theorem rp_cons (ch : Nat) (z : List Nat) (c : Nat) (s : List Nat) : rp ch z (c :: s) = (if c = ch then z else [c]) ++ rp ch z s := by
  unfold rp; rw [List.flatMap_cons]
theorem ends_es : ∀ (n : Nat) (s : List Nat), s.length ≤ n → rp 10 [13, 10] (rp 13 [10] (rp2 13 10 [10] s)) = es false s := by
  have nx : ∀ (c : Nat) (u : List Nat), rp 10 [13, 10] (rp 13 [10] (c :: u)) = (if c = 13 then [13, 10] else if c = 10 then [13, 10] else [c]) ++ rp 10 [13, 10] (rp 13 [10] u) := by
    intro c u
    rw [rp_cons, rp_app]
    congr 1
    by_cases q : c = 13
    · rw [if_pos q, if_pos q]; rfl
    · rw [if_neg q, if_neg q, rp_cons]
      show _ ++ [] = _
      rw [List.append_nil]
  intro n
  induction n with
  | zero =>
    intro s h
    match s, h with
    | [], _ => rfl
  | succ n ih =>
    intro s h
    match s, h with
    | [], _ => rfl
    | [c], _ =>
      rw [rp2, nx, es]
      by_cases q : c = 13
      · rw [if_pos q, if_pos q]; rfl
      · rw [if_neg q, if_neg q]
        by_cases q2 : c = 10
        · rw [if_pos q2, if_pos q2, if_neg (by decide)]; rfl
        · rw [if_neg q2, if_neg q2]; rfl
    | c1 :: c2 :: r, h =>
      simp only [List.length_cons] at h
      rw [rp2]
      by_cases q : c1 = 13 ∧ c2 = 10
      · rw [if_pos q, List.singleton_append, nx, if_neg (by decide), if_pos rfl, ih r (by omega), q.1, q.2, es, if_pos rfl, es, if_neg (by decide), if_pos rfl, if_pos rfl]; rfl
      · rw [if_neg q, nx, ih (c2 :: r) (by simp only [List.length_cons]; omega), show es false (c1 :: c2 :: r) = if c1 = 13 then 13 :: 10 :: es true (c2 :: r) else if c1 = 10 then (if false = true then es false (c2 :: r) else 13 :: 10 :: es false (c2 :: r)) else c1 :: es false (c2 :: r) from rfl]
        by_cases q13 : c1 = 13
        · rw [if_pos q13, if_pos q13, es_tf (fun z => q ⟨q13, z⟩)]; rfl
        · rw [if_neg q13, if_neg q13]
          by_cases q10 : c1 = 10
          · rw [if_pos q10, if_pos q10, if_neg (by decide)]; rfl
          · rw [if_neg q10, if_neg q10]; rfl
theorem dots_ds : ∀ (n : Nat) (s : List Nat), s.length ≤ n → rp2 10 46 [10, 46, 46] s = ds false s ∧ rp2 10 46 [10, 46, 46] (10 :: s) = 10 :: ds true s := by
  intro n
  induction n with
  | zero =>
    intro s h
    match s, h with
    | [], _ => exact ⟨rfl, rfl⟩
  | succ n ih =>
    intro s h
    match s, h with
    | [], _ => exact ⟨rfl, rfl⟩
    | c :: r, h =>
      simp only [List.length_cons] at h
      obtain ⟨i1, i2⟩ := ih r (by omega)
      have first : rp2 10 46 [10, 46, 46] (c :: r) = ds false (c :: r) := by
        rw [ds, if_neg (by simp)]
        by_cases q : c = 10
        · subst q; rw [i2]; rfl
        · have e : (c == 10) = false := by simpa using q
          rw [e]
          cases r with
          | nil => rfl
          | cons d r => rw [rp2, if_neg (fun z => q z.1), i1]
      refine ⟨first, ?_⟩
      rw [rp2]
      by_cases q : c = 46
      · subst q
        rw [if_pos ⟨rfl, rfl⟩, i1, ds, if_pos ⟨rfl, rfl⟩]; rfl
      · rw [if_neg (fun z => q z.2), first, ds, ds, if_neg (fun z => q z.1), if_neg (fun z => q z.1)]
theorem rp_filter (ch : Nat) (s : List Nat) : rp ch [] s = s.filter (· != ch) := by
  induction s with
  | nil => rfl
  | cons c s ih =>
    rw [rp_cons, ih, List.filter_cons]
    by_cases q : c = ch
    · rw [if_pos q, if_neg (by simp [q])]; rfl
    · rw [if_neg q, if_pos (by simpa using q)]; rfl
theorem rp_len (ch : Nat) (z s : List Nat) : (rp ch z s).length ≤ (z.length + 1) * s.length := by
  induction s with
  | nil => simp [rp]
  | cons c s ih =>
    rw [rp_cons, List.length_append, List.length_cons, Nat.mul_add, Nat.mul_one]
    split
    · omega
    · simp only [List.length_singleton]; omega
theorem rp2_len (x z : Nat) (w : List Nat) : ∀ (n : Nat) (s : List Nat), s.length ≤ n → (rp2 x z w s).length ≤ (w.length + 1) * s.length := by
  intro n
  induction n with
  | zero =>
    intro s h
    match s, h with
    | [], _ => simp [rp2]
  | succ n ih =>
    intro s h
    match s, h with
    | [], _ => simp [rp2]
    | [c], _ => simp [rp2]
    | c1 :: c2 :: r, h =>
      simp only [List.length_cons] at h
      rw [rp2]
      split
      · have := ih r (by omega)
        rw [List.length_append, List.length_cons, List.length_cons, Nat.mul_add, Nat.mul_add, Nat.mul_one]; omega
      · have := ih (c2 :: r) (by simp only [List.length_cons]; omega)
        rw [List.length_cons, List.length_cons (a := c1), Nat.mul_add (w.length + 1) (c2 :: r).length, Nat.mul_one]; omega
theorem esc_len (k : Nat) (s : List Nat) : (esc k s).length ≤ 6 * s.length := by
  induction s with
  | nil => simp [esc]
  | cons c s ih =>
    show (esc1 k c ++ esc k s).length ≤ _
    rw [List.length_append, List.length_cons]
    have : (esc1 k c).length ≤ 6 := by
      unfold esc1
      have := nmc_len k c
      split
      · simp
      · simp only [List.length_cons]; omega
    omega
theorem slice1 (c : Nat) (z : List Nat) : Txt.slice (tx (c :: z)) (some ((1 : Nat) : Int)) none = tx z := by
  have hl : (tx (c :: z)).length = z.length + 1 := by rw [tx_len]; rfl
  rw [slice_from_eq (b := ((z.length + 1 : Nat) : Int)) (by decide) (by rw [hl]; omega) (by rw [hl]), tx_list]
  unfold tx
  congr 2
  have : (((z.length + 1 : Nat) : Int) - ((1 : Nat) : Int)).toNat = z.length := by omega
  rw [this]
  show (z.take z.length) = z
  exact List.take_length
theorem pkS_len : ∀ (s : List Nat) (b : Bool), (pkS b s).length ≤ s.length
  | [], _ => Nat.le_refl _
  | c :: s, b => by
    have h1 := pkS_len s b
    have h2 := pkS_len s (decide (64 < c ∧ c < 128))
    rw [pkS]
    split
    · split
      · exact Nat.succ_le_succ h1
      · exact Nat.le_succ_of_le h1
    · exact Nat.succ_le_succ h2
end Mine
end
section
open PySem PySem.W PyProof.Rows PySem.Calls
set_option Elab.async false
set_option maxRecDepth 100000
set_option linter.all false
namespace Mine
noncomputable def cel1 (L : Addr) (vs : List Value) : List (Addr × Value) := [(L + 1, vs.getD 0 .none)]
theorem sum_flat : ∀ l : List (List Nat), ((l.map tx).map (·.length)).sum = l.flatten.length
  | [] => rfl
  | a :: l => by rw [List.map_cons, List.map_cons, List.sum_cons, sum_flat l, tx_len, List.flatten_cons, List.length_append]
section
variable {C : Cx} {c : Nat} {f : Fn} {ρ : Lo} {mg mb : Tx → Option Value}
theorem b_joinG {l : List (List Nat)} {P : PV → Prop} (hl : l.flatten.length ≤ 16000000) (hp : P (.sc (.str (tx l.flatten)))) : B_ C c "str.join" [.sc (.str (tx [])), .list (l.map fun x => Sc.str (tx x))] P := by
  refine b_join (strs_map l) ?_ (by rw [join_flat]; exact hp)
  rw [sum_flat, tx_len, List.length_nil, Nat.mul_zero]; omega
theorem C_given (K : Wk vq C mg mb) (k : Nat) (hk : k ≤ 11) (s : List Nat) (hs : s.length ≤ 200000) : Cd C (c + 2) mg "_law_given" [.sc (.int k), .sc (.str (tx s))] (· = .sc (.str (tx (hand2 k s)))) := by
  refine cd_ofC K (d := dref 30) (ps := ["kind", "text"]) (by kernel_rfl) (by kernel_rfl) (bind2 fun _ _ _ _ _ => by kernel_rfl) ?_ (txt s) ?_ cel1 ?_ (by kernel_rfl) fun ad cd L X h vs rs => ?_
  · intro L x hx
    simp only [List.mem_cons, List.not_mem_nil, or_false] at hx
    rcases hx with rfl | rfl
    · exact .inr ⟨by kernel_rfl, by kernel_rfl⟩
    · exact .inl (by kernel_rfl)
  · intro ad cd X h vs L rs y x e
    cases rs with | cons r1 rs => cases rs with | cons r2 rs =>
    cases rs
    unfold txt at e
    split at e
    · rename_i hy
      subst hy; cases e
      exact ⟨_, by kernel_rfl, r2⟩
    · cases e
  · intro ad cd L vs hl p hp
    obtain ⟨v1, v2, rfl⟩ := two_of hl
    · unfold cel1 at hp
      simp only [List.mem_cons, List.not_mem_nil, or_false] at hp
      subst hp
      exact ⟨"kind", by kernel_rfl, by kernel_rfl⟩
  cases rs with | cons r1 rs => cases rs with | cons r2 rs =>
  cases rs
  cases r1 with | sc r1 => cases r2 with | sc r2 =>
  cases r1 with | int _ t1 => cases r2 with | str _ t2 =>
  have K' := K.cells (cel1 L [.int (k : Nat) t1, .str (tx s) t2])
  have nk : ∀ (ρ : Lo) (pos : Pos) (P : PV → Prop), P (.sc (.int (k : Nat))) → E (C.cells (cel1 L [.int (k : Nat) t1, .str (tx s) t2])) (c + 1) (Fn.ofC (dref 30).name (dref 30).scope ad cd (by kernel_rfl) L) (.Name "kind" pos) ρ P :=
    fun ρ pos P hp => nmC (a := L + 1) (v := .int (k : Nat) t1) (List.Mem.head _) (.int _ _) hp
  have m1 : (L + 1, Value.int (k : Nat) t1) ∈ cel1 L [.int (k : Nat) t1, .str (tx s) t2] := List.Mem.head _
  generalize cel1 L [.int (k : Nat) t1, .str (tx s) t2] = cs at K' nk m1
  have sz : (signs (tx s)).length ≤ sizeLine := by rw [signs_len]; exact small_sz (by first | exact Nat.le_trans hs (by decide) | exact Int.natCast_nonneg _ | omega)
  refine iff <| tcmp <| nk _ _ _ <| e_int <| o_eqI ⟨_, rfl, ifN (k = 0) (kEq _ 0) (fun q => ?_) fun q0 => s_nil ?_⟩
  · refine retS <| e_join <| e_str ⟨rfl, args1 <| cmpn (by kernel_rfl) (i_of <| nme rfl ⟨sz, fun _ => true, fun y z => ∃ n : Nat, y = Sc.str ⟨#[n]⟩ ∧ z = Sc.str (tx ((fun n => [lowA n]) n)), fun y _ L => rfl, fun y hy _ L' => ?_, fun zs hz => ?_⟩)⟩
    · obtain ⟨n, hn, rfl⟩ := signs_mem hy
      refine e_ite <| t_chain <| e_int <| callB K'.exact.toGd K.no K.bt <| args1 <| nme rfl <| b_ord <| o_ltI ⟨_, rfl, ?_⟩
      by_cases q1 : 64 < n
      · rw [if_pos (by exact (kLt 64 n).2 q1)]
        refine e_int <| o_ltI ⟨_, rfl, ?_⟩
        by_cases q2 : n < 91
        · rw [if_pos (by exact (kLt n 91).2 q2)]
          refine callB K'.exact.toGd K.no K.bt <| args1 <| e_bin <| callB K'.exact.toGd K.no K.bt <| args1 <| nme rfl <| b_ord <| e_int <| o_add <| b_chr (Int.natCast_nonneg (n + 32)) (by omega) ⟨_, rfl, n, rfl, ?_⟩
          have e1 : ((n : Int) + 32).toNat = n + 32 := rfl
          rw [e1]
          show _ = Sc.str (tx [lowA n])
          rw [lowA, if_pos (by exact ⟨q1, Nat.le_of_lt_succ q2⟩)]; rfl
        · rw [if_neg (by exact fun z => q2 ((kLt n 91).1 z))]
          refine nme rfl ⟨_, rfl, n, rfl, ?_⟩
          show _ = Sc.str (tx [lowA n])
          rw [lowA, if_neg (by exact fun z => q2 (Nat.lt_succ_of_le z.2))]; rfl
      · rw [if_neg (by exact fun z => q1 ((kLt 64 n).1 z)), if_neg (by decide)]
        refine nme rfl ⟨_, rfl, n, rfl, ?_⟩
        show _ = Sc.str (tx [lowA n])
        rw [lowA, if_neg (by exact fun z => q1 z.1)]; rfl
    · rw [signs_eq] at hz
      rw [paired_map inj_sign (p := fun _ => true) (fun _ => rfl) hz]
      refine b_joinL ones (by rw [List.length_map, filt_tt]; first | exact Nat.le_trans hs (by decide) | exact Int.natCast_nonneg _ | omega) ?_
      rw [hand2, if_pos q, filt_tt, flat_ones]
  refine iff <| tcmp <| nk _ _ _ <| e_int <| o_eqI ⟨_, rfl, ifN (k = 1) (kEq _ 1) (fun q => ?_) fun q1 => s_nil ?_⟩
  · refine retS <| e_repl <| nme rfl ⟨_, rfl, by rw [tx_len]; show s.length ≤ _; exact Nat.le_trans hs (by decide), ?_⟩
    show PV.sc (.str (Txt.replace (tx s) (tx [173]) (tx []))) = _
    rw [replace_rp, rp_filter, hand2, if_neg q0, if_pos q]
  refine iff <| tcmp <| nk _ _ _ <| e_int <| o_eqI ⟨_, rfl, ifN (k = 2) (kEq _ 2) (fun q => ?_) fun q2 => s_nil ?_⟩
  · refine retS <| e_repl <| nme rfl ⟨_, rfl, by rw [tx_len]; show s.length ≤ _; exact Nat.le_trans hs (by decide), ?_⟩
    show PV.sc (.str (Txt.replace (tx s) (tx [32]) (tx []))) = _
    rw [replace_rp, rp_filter, hand2, if_neg q0, if_neg q1, if_pos q]
  refine iff <| tcmp <| nk _ _ _ <| e_int <| o_gtI ⟨_, rfl, ifN (6 < k) (kLt 6 k) (fun q => ?_) fun q6 => s_nil ?_⟩
  · have hh : hand2 k s = esc (k - 1) s := by
      rw [hand2, if_neg q0, if_neg q1, if_neg q2, if_neg (by rintro rfl; exact absurd q (by decide)), if_neg (by rintro rfl; exact absurd q (by decide)), if_neg (by rintro rfl; exact absurd q (by decide)), if_neg (by rintro rfl; exact absurd q (by decide))]
    have el := esc_len (k - 1) s
    have fl : (s.map (esc1 (k - 1))).flatten = esc (k - 1) s := by rw [esc, List.flatMap]
    refine retS <| e_join <| e_str ⟨rfl, args1 <| cmpnC [("kind", L + 1)] (by kernel_rfl) (by intro _; kernel_rfl) (i_of <| nme rfl ⟨sz, fun _ => true, fun y z => ∃ n : Nat, y = Sc.str ⟨#[n]⟩ ∧ z = Sc.str (tx (esc1 (k - 1) n)), fun y _ L => rfl, fun y hy _ L' => ?_, fun zs hz => ?_⟩)⟩
    · obtain ⟨n, hn, rfl⟩ := signs_mem hy
      refine e_ite <| tcmp <| callD K'.exact.toGd (K'.exact.df (d := dref 29) (by kernel_rfl)) <| args2 <| nmC (C := C.exact) (a := L + 1) (v := .int (k : Nat) t1) m1 (.int _ _) <| nme rfl <| cd_mono (cd_less (C_name2 (c := c) K'.exact k n (by first | exact Nat.le_trans hs (by decide) | exact Int.natCast_nonneg _ | omega) hk) (by first | exact Nat.le_refl _ | exact Nat.le_succ _ | exact Nat.add_le_add_left (by decide) _ | omega)) fun x hx => ?_
      subst hx
      refine e_str <| o_eqS ⟨_, rfl, ifN (nmc (k - 1) n = []) ?_ (fun z => nme rfl ⟨_, rfl, n, rfl, ?_⟩) fun z => ?_⟩
      · rw [beq_iff_eq]; exact tx_inj (a := nmc (k - 1) n) (b := [])
      · rw [esc1, if_pos z]; rfl
      · refine e_bin <| e_str <| callD K'.exact.toGd (K'.exact.df (d := dref 29) (by kernel_rfl)) <| args2 <| nmC (C := C.exact) (a := L + 1) (v := .int (k : Nat) t1) m1 (.int _ _) <| nme rfl <| cd_mono (cd_less (C_name2 (c := c) K'.exact k n (by first | exact Nat.le_trans hs (by decide) | exact Int.natCast_nonneg _ | omega) hk) (by first | exact Nat.le_refl _ | exact Nat.le_succ _ | exact Nat.add_le_add_left (by decide) _ | omega)) fun x hx => ?_
        subst hx
        refine o_addS (by rw [tx_len]; have := nmc_len (k - 1) n; show 1 + _ ≤ _; exact small_sz (by first | exact Nat.le_trans hs (by decide) | exact Int.natCast_nonneg _ | omega)) ⟨_, rfl, n, rfl, ?_⟩
        show Sc.str (tx [38] ++ tx (nmc (k - 1) n)) = _
        rw [tx_app, esc1, if_neg z]; rfl
    · rw [signs_eq] at hz
      rw [paired_map inj_sign (p := fun _ => true) (g := esc1 (k - 1)) (fun _ => rfl) hz, filt_tt]
      refine b_joinG (by rw [fl]; omega) ?_
      rw [fl, hh]
  refine asg <| e_str ⟨.inl rfl, ?_⟩
  refine iff <| tcmp <| nk _ _ _ <| e_int <| o_eqI ⟨_, rfl, ifN (k = 3) (kEq _ 3) (fun q => ?_) fun q3 => s_nil ?_⟩
  · refine asg <| e_bool ⟨.inl rfl, ?_⟩
    refine forS <| i_of <| nme (hid rfl) ?_
    refine ⟨fun i ρ => ∃ z b, ρ "given" = some (.sc (.str (tx z))) ∧ ρ "inside" = some (.sc (.bool b)) ∧ pkS false s = z ++ pkS b (s.drop i) ∧ z.length ≤ i, ⟨[], false, rfl, rfl, rfl, by simp⟩, ?_, ?_⟩
    · rintro i x ρ hx ⟨z, b, e1, e2, e3, e4⟩
      obtain ⟨hj, rfl⟩ := signs_get hx
      rw [drop_cons' hj] at e3
      generalize s[i] = ch at e3
      rw [pkS] at e3
      refine meet (fun ρ' => ρ' "given" = some (.sc (.str (tx z))) ∧ ρ' "sign" = some (.sc (.str ⟨#[ch]⟩)) ∧ ρ' "inside" = some (.sc (.bool (if ch = 64 then b else decide (64 < ch ∧ ch < 128))))) (tcmp <| nme rfl <| e_str <| o_neS ⟨_, rfl, ifN (ch ≠ 64) (c_ne ch 64) (fun q => ?_) fun q => s_nil ?_⟩) ?_
      · refine asg <| e_mono (P := (· = PV.sc (.bool (decide (64 < ch ∧ ch < 128))))) (e_chain <| e_int <| callB K'.toGd K.no K.bt <| args1 <| nme rfl <| b_ord <| o_ltI ⟨_, rfl, ?_⟩) fun v hv => ⟨by subst hv; exact .inl rfl, ?_⟩
        · by_cases q4 : 64 < ch
          · rw [if_pos (by exact (kLt 64 ch).2 q4)]
            refine e_int <| o_ltI ?_
            show PV.sc (.bool _) = _
            congr 2
            exact kMid q4 128
          · rw [if_neg (by exact fun z => q4 ((kLt 64 ch).1 z)), decide_eq_false (fun z => q4 z.1)]
        · subst hv
          refine s_nil ⟨e1, rfl, ?_⟩
          rw [if_neg q]; rfl
      · have q : ch = 64 := Decidable.not_not.mp q
        refine ⟨e1, rfl, ?_⟩
        rw [if_pos q]; exact e2
      rintro ρ' ⟨f1, f2, f3⟩
      have put : ∀ (z' : List Nat), z' = z ++ [ch] → (∃ b', ρ' "inside" = some (.sc (.bool b')) ∧ pkS false s = z' ++ pkS b' (s.drop (i + 1))) → S (C.cells cs) (c + 1) (Fn.ofC (dref 30).name (dref 30).scope ad cd (by kernel_rfl) L) (match (dref 30).body with | _ :: _ :: _ :: _ :: _ :: .If _ (_ :: .For _ _ (_ :: .If _ b _ _ :: _) _ _ :: _) _ _ :: _ => b | _ => []) ρ' [] (fun o => match o with | .next ρ' => ∃ z b, ρ' "given" = some (.sc (.str (tx z))) ∧ ρ' "inside" = some (.sc (.bool b)) ∧ pkS false s = z ++ pkS b (s.drop (i + 1)) ∧ z.length ≤ i + 1 | _ => False) := by
        rintro z' rfl ⟨b', g1, g2⟩
        refine asg <| e_bin <| nme f1 <| nme f2 <| o_addS (by rw [tx_len]; show z.length + 1 ≤ _; exact small_sz (by first | exact Nat.le_trans hs (by decide) | exact Int.natCast_nonneg _ | omega)) ⟨.inl rfl, s_nil ⟨z ++ [ch], b', ?_, g1, g2, by simp; omega⟩⟩
        show some (PV.sc (.str (tx z ++ tx [ch]))) = _
        rw [tx_app]
      refine iff <| t_or2 (b1 := decide (ch ≠ 64)) (b2 := (if ch = 64 then b else decide (64 < ch ∧ ch < 128))) (tcmp <| nme f2 <| e_str <| o_neS ⟨_, rfl, ?_⟩) (fun _ => t_v <| nme f3 ⟨_, rfl, rfl⟩) ?_
      · rw [Bool.eq_iff_iff, decide_eq_true_eq]; exact c_ne ch 64
      by_cases q : ch = 64
      · rw [if_pos q] at e3 f3
        rw [if_pos q, decide_eq_false (by simpa using q), Bool.false_or]
        cases b with
        | true =>
          rw [if_pos rfl] at e3 ⊢
          refine s_mono (put _ rfl ⟨true, f3, by rw [e3, q]; simp⟩) fun o p => ?_
          cases o <;> first | exact s_nil p | exact p.elim
        | false =>
          rw [if_neg (by decide)] at e3 ⊢
          exact s_nil <| s_nil ⟨z, false, f1, f3, e3, Nat.le_succ_of_le e4⟩
      · rw [if_neg q] at e3 f3
        rw [decide_eq_true (by simpa using q), Bool.true_or, if_pos rfl]
        refine s_mono (put _ rfl ⟨_, f3, by rw [e3]; simp⟩) fun o p => ?_
        cases o <;> first | exact s_nil p | exact p.elim
    · rintro ρ ⟨z, b, e1, e2, e3, e4⟩
      rw [signs_len, List.drop_length, pkS, List.append_nil] at e3
      refine retS <| nme e1 ?_
      show PV.sc (.str (tx z)) = _
      rw [hand2, if_neg q0, if_neg q1, if_neg q2, if_pos q, e3]
  refine asg <| nme rfl ⟨.inl rfl, ?_⟩
  have ends := ends_es s.length s (Nat.le_refl _)
  have l1 := rp2_len 13 10 [10] s.length s (Nat.le_refl _)
  have l2 := rp_len 13 [10] (rp2 13 10 [10] s)
  have le := es_len s false
  simp only [List.length_cons, List.length_nil] at l1 l2
  refine meet (fun ρ' => ρ' "given" = some (.sc (.str (tx (if k < 6 then es false s else s))))) (tcmp <| nk _ _ _ <| e_int <| o_ltI ⟨_, rfl, ifN (k < 6) (kLt k 6) (fun q => ?_) fun q => s_nil ?_⟩) ?_
  · refine asg <| e_repl <| e_repl <| e_repl <| nme rfl ⟨_, rfl, by rw [tx_len]; show s.length + (s.length + 1) * 1 ≤ _; omega, ?_⟩
    refine ⟨_, rfl, ?_, ?_⟩
    · show (Txt.replace (tx s) (tx [13, 10]) (tx [10])).length + ((Txt.replace (tx s) (tx [13, 10]) (tx [10])).length + 1) * 1 ≤ _
      rw [replace2, tx_len]; omega
    refine ⟨_, rfl, ?_, .inl rfl, s_nil ?_⟩
    · show (Txt.replace (Txt.replace (tx s) (tx [13, 10]) (tx [10])) (tx [13]) (tx [10])).length + ((Txt.replace (Txt.replace (tx s) (tx [13, 10]) (tx [10])) (tx [13]) (tx [10])).length + 1) * 2 ≤ _
      rw [replace2, replace_rp, tx_len]; omega
    · show some (PV.sc (.str (Txt.replace (Txt.replace (Txt.replace (tx s) (tx [13, 10]) (tx [10])) (tx [13]) (tx [10])) (tx [10]) (tx [13, 10])))) = _
      rw [replace2, replace_rp, replace_rp, ends, if_pos q]
  · show some _ = _
    rw [if_neg q]
  intro ρ' f1
  have lg : (if k < 6 then es false s else s).length ≤ 400000 := by split <;> omega
  have hfin : hand2 k s = if k = 5 then (if k < 6 then es false s else s) else ds true (if k < 6 then es false s else s) := by
    have hk' : k = 4 ∨ k = 5 ∨ k = 6 := by omega
    rcases hk' with rfl | rfl | rfl <;> rfl
  generalize (if k < 6 then es false s else s) = g at f1 lg hfin
  have dd := (dots_ds g.length g (Nat.le_refl _)).2
  have l3 := rp2_len 10 46 [10, 46, 46] (g.length + 1) (10 :: g) (by simp)
  simp only [List.length_cons, List.length_nil] at l3
  refine iff <| tcmp <| nk _ _ _ <| e_int <| o_neI ⟨_, rfl, ifN (k ≠ 5) (kNe _ 5) (fun q => ?_) fun q => s_nil <| retS <| nme f1 ?_⟩
  · have e1 : tx [10] ++ tx g = tx (10 :: g) := by rw [tx_app]; rfl
    refine asg <| e_sliceS (k := 1) <| e_repl <| e_bin <| e_str <| nme f1 <| o_addS (by rw [tx_len]; show 1 + _ ≤ _; exact small_sz (by first | exact Nat.le_trans hs (by decide) | exact Int.natCast_nonneg _ | omega)) ⟨_, rfl, ?_, ?_⟩
    · show (tx [10] ++ tx g).length + ((tx [10] ++ tx g).length + 1) * 3 ≤ _
      rw [e1, tx_len, List.length_cons]; omega
    refine ⟨_, rfl, ?_, .inl rfl, s_nil <| retS <| nme rfl ?_⟩
    · show (Txt.replace (tx [10] ++ tx g) (tx [10, 46]) (tx [10, 46, 46])).length ≤ _
      rw [e1, replace2, tx_len]; exact sz16 (by first | exact Nat.le_trans hs (by decide) | exact Int.natCast_nonneg _ | omega)
    · show PV.sc (.str (Txt.slice (Txt.replace (tx [10] ++ tx g) (tx [10, 46]) (tx [10, 46, 46])) (some ((1 : Nat) : Int)) none)) = _
      rw [e1, replace2, dd, slice1, hfin, if_neg q]
  · show PV.sc (.str (tx g)) = _
    rw [hfin, if_pos (Decidable.not_not.mp q)]
end
end Mine
end
section
open PySem
set_option linter.all false
namespace Mine
abbrev Q := Bool × Bool
noncomputable def es1 (p : Bool) (c : Nat) : Bool × List Nat := if c = 13 then (true, [13, 10]) else if c = 10 then (false, if p = true then [] else [13, 10]) else (false, [c])
noncomputable def ds1 (p : Bool) (c : Nat) : Bool × List Nat := if c = 46 ∧ p = true then (false, [46, 46]) else (c == 10, [c])
noncomputable def dsL : Bool → List Nat → Bool × List Nat
  | p, [] => (p, [])
  | p, c :: s => ((dsL (ds1 p c).1 s).1, (ds1 p c).2 ++ (dsL (ds1 p c).1 s).2)
/-- one step of a hand, as a machine -/
noncomputable def stp (k : Nat) (q : Q) (c : Nat) : Q × List Nat :=
  if k = 0 then (q, [lowA c]) else if k = 1 then (q, if c = 173 then [] else [c]) else if k = 2 then (q, if c = 32 then [] else [c])
  else if k = 3 then (if c = 64 then (q, if q.1 = true then [64] else []) else ((decide (64 < c ∧ c < 128), q.2), [c]))
  else if k = 4 then (((es1 q.1 c).1, (dsL q.2 (es1 q.1 c).2).1), (dsL q.2 (es1 q.1 c).2).2)
  else if k = 5 then (((es1 q.1 c).1, q.2), (es1 q.1 c).2)
  else if k = 6 then ((q.1, (ds1 q.2 c).1), (ds1 q.2 c).2)
  else (q, esc1 (k - 1) c)
noncomputable def runK (k : Nat) : Q → List Nat → Q × List Nat
  | q, [] => (q, [])
  | q, c :: s => ((runK k (stp k q c).1 s).1, (stp k q c).2 ++ (runK k (stp k q c).1 s).2)
theorem runK_app (k : Nat) : ∀ (x y : List Nat) (q : Q), runK k q (x ++ y) = ((runK k (runK k q x).1 y).1, (runK k q x).2 ++ (runK k (runK k q x).1 y).2)
  | [], y, q => rfl
  | c :: x, y, q => by
    show (_, _) = _
    rw [List.append_eq, runK_app k x y]
    simp [runK]
theorem ds_dsL : ∀ (o r : List Nat) (d : Bool), ds d (o ++ r) = (dsL d o).2 ++ ds (dsL d o).1 r
  | [], r, d => rfl
  | c :: o, r, d => by
    have ih := ds_dsL o r
    show ds d (c :: (o ++ r)) = _
    rw [ds, dsL, ds1]
    by_cases q : c = 46 ∧ d = true
    · rw [if_pos q, if_pos q, ih]; rfl
    · rw [if_neg q, if_neg q, ih]; rfl
theorem es_es1 (p : Bool) (c : Nat) (s : List Nat) : es p (c :: s) = (es1 p c).2 ++ es (es1 p c).1 s := by
  rw [es, es1]
  by_cases q : c = 13
  · rw [if_pos q, if_pos q]; rfl
  · rw [if_neg q, if_neg q]
    by_cases q2 : c = 10
    · rw [if_pos q2, if_pos q2]
      cases p <;> rfl
    · rw [if_neg q2, if_neg q2]; rfl
theorem ds_ds1 (p : Bool) (c : Nat) (s : List Nat) : ds p (c :: s) = (ds1 p c).2 ++ ds (ds1 p c).1 s := by
  rw [ds, ds1]
  by_cases q : c = 46 ∧ p = true
  · rw [if_pos q, if_pos q]; rfl
  · rw [if_neg q, if_neg q]; rfl
theorem hand2_run {k : Nat} (hk : k ≤ 11) (s : List Nat) : hand2 k s = (runK k (false, true) s).2 := by
  have h0 : ∀ (s : List Nat) (q : Q), (runK 0 q s).2 = s.map lowA := by
    intro s; induction s with
    | nil => intro q; rfl
    | cons c s ih => intro q; show [lowA c] ++ (runK 0 q s).2 = _; rw [ih]; rfl
  have h1 : ∀ (s : List Nat) (q : Q), (runK 1 q s).2 = s.filter (· != 173) := by
    intro s; induction s with
    | nil => intro q; rfl
    | cons c s ih =>
      intro q
      show (if c = 173 then [] else [c]) ++ (runK 1 q s).2 = _
      rw [ih, List.filter_cons]
      by_cases z : c = 173
      · rw [if_pos z, if_neg (by simp [z])]; rfl
      · rw [if_neg z, if_pos (by simpa using z)]; rfl
  have h2 : ∀ (s : List Nat) (q : Q), (runK 2 q s).2 = s.filter (· != 32) := by
    intro s; induction s with
    | nil => intro q; rfl
    | cons c s ih =>
      intro q
      show (if c = 32 then [] else [c]) ++ (runK 2 q s).2 = _
      rw [ih, List.filter_cons]
      by_cases z : c = 32
      · rw [if_pos z, if_neg (by simp [z])]; rfl
      · rw [if_neg z, if_pos (by simpa using z)]; rfl
  have h3 : ∀ (s : List Nat) (q : Q), (runK 3 q s).2 = pkS q.1 s := by
    intro s; induction s with
    | nil => intro q; rfl
    | cons c s ih =>
      intro q
      rw [runK, pkS]
      have e : stp 3 q c = if c = 64 then (q, if q.1 = true then [64] else []) else ((decide (64 < c ∧ c < 128), q.2), [c]) := rfl
      rw [e]
      by_cases z : c = 64
      · rw [if_pos z, if_pos z, ih]
        cases q.1 <;> rfl
      · rw [if_neg z, if_neg z, ih]; rfl
  have h4 : ∀ (s : List Nat) (q : Q), (runK 4 q s).2 = ds q.2 (es q.1 s) := by
    intro s; induction s with
    | nil => intro q; rfl
    | cons c s ih =>
      intro q
      rw [runK, es_es1, ds_dsL]
      have e : stp 4 q c = (((es1 q.1 c).1, (dsL q.2 (es1 q.1 c).2).1), (dsL q.2 (es1 q.1 c).2).2) := rfl
      rw [e, ih]
  have h5 : ∀ (s : List Nat) (q : Q), (runK 5 q s).2 = es q.1 s := by
    intro s; induction s with
    | nil => intro q; rfl
    | cons c s ih =>
      intro q
      rw [runK, es_es1]
      have e : stp 5 q c = (((es1 q.1 c).1, q.2), (es1 q.1 c).2) := rfl
      rw [e, ih]
  have h6 : ∀ (s : List Nat) (q : Q), (runK 6 q s).2 = ds q.2 s := by
    intro s; induction s with
    | nil => intro q; rfl
    | cons c s ih =>
      intro q
      rw [runK, ds_ds1]
      have e : stp 6 q c = ((q.1, (ds1 q.2 c).1), (ds1 q.2 c).2) := rfl
      rw [e, ih]
  unfold hand2
  by_cases q0 : k = 0
  · rw [if_pos q0]; subst q0; exact (h0 s _).symm
  by_cases q1 : k = 1
  · rw [if_neg q0, if_pos q1]; subst q1; exact (h1 s _).symm
  by_cases q2 : k = 2
  · rw [if_neg q0, if_neg q1, if_pos q2]; subst q2; exact (h2 s _).symm
  by_cases q3 : k = 3
  · rw [if_neg q0, if_neg q1, if_neg q2, if_pos q3]; subst q3; exact (h3 s (false, true)).symm
  by_cases q4 : k = 4
  · rw [if_neg q0, if_neg q1, if_neg q2, if_neg q3, if_pos q4]; subst q4; exact (h4 s (false, true)).symm
  by_cases q5 : k = 5
  · rw [if_neg q0, if_neg q1, if_neg q2, if_neg q3, if_neg q4, if_pos q5]; subst q5; exact (h5 s (false, true)).symm
  by_cases q6 : k = 6
  · rw [if_neg q0, if_neg q1, if_neg q2, if_neg q3, if_neg q4, if_neg q5, if_pos q6]; subst q6; exact (h6 s (false, true)).symm
  rw [if_neg q0, if_neg q1, if_neg q2, if_neg q3, if_neg q4, if_neg q5, if_neg q6]
  have e : ∀ q c, stp k q c = (q, esc1 (k - 1) c) := fun q c => by unfold stp; rw [if_neg q0, if_neg q1, if_neg q2, if_neg q3, if_neg q4, if_neg q5, if_neg q6]
  have h7 : ∀ (s : List Nat) (q : Q), (runK k q s).2 = esc (k - 1) s := by
    intro s; induction s with
    | nil => intro q; rfl
    | cons c s ih =>
      intro q
      rw [runK, e]
      dsimp only
      rw [ih]; rfl
  exact (h7 s _).symm

/-- a letter through b, then through a -/
noncomputable def st2 (a b : Nat) (q : Q × Q) (c : Nat) : (Q × Q) × List Nat := (((stp b q.1 c).1, (runK a q.2 (stp b q.1 c).2).1), (runK a q.2 (stp b q.1 c).2).2)
noncomputable def run2 (a b : Nat) : Q × Q → List Nat → List Nat
  | _, [] => []
  | q, c :: s => (st2 a b q c).2 ++ run2 a b (st2 a b q c).1 s
theorem run2_is (a b : Nat) : ∀ (s : List Nat) (q : Q × Q), (runK a q.2 (runK b q.1 s).2).2 = run2 a b q s
  | [], q => rfl
  | c :: s, q => by
    rw [runK, run2, ← run2_is a b s]
    dsimp only
    rw [runK_app]
    rfl
theorem hand2_2 {a b : Nat} (ha : a ≤ 11) (hb : b ≤ 11) (s : List Nat) : hand2 a (hand2 b s) = run2 a b ((false, true), (false, true)) s := by
  rw [hand2_run ha, hand2_run hb, ← run2_is]

-- letters that no hand looks at
noncomputable def spc : List Nat := [9, 10, 13, 32, 34, 38, 46, 60, 62, 64, 173]
noncomputable def phi (k c : Nat) : Nat := if k = 0 then lowA c else c
noncomputable def nx (k : Nat) (q : Q) (h : Bool) : Q := if k = 3 then (h, q.2) else if k = 4 then (false, false) else if k = 5 then (false, q.2) else if k = 6 then (q.1, false) else q
structure Gen (c : Nat) : Prop where
  lt : c < 128
  ns : c ∉ spc
theorem Gen.ne {c : Nat} (g : Gen c) : c ≠ 9 ∧ c ≠ 10 ∧ c ≠ 13 ∧ c ≠ 32 ∧ c ≠ 34 ∧ c ≠ 38 ∧ c ≠ 46 ∧ c ≠ 60 ∧ c ≠ 62 ∧ c ≠ 64 := by
  have := g.ns
  simp only [spc, List.mem_cons, List.not_mem_nil, or_false, not_or] at this
  obtain ⟨h1, h2, h3, h4, h5, h6, h7, h8, h9, h10, _⟩ := this
  exact ⟨h1, h2, h3, h4, h5, h6, h7, h8, h9, h10⟩
theorem gen_of {c : Nat} (h : c < 128) (n : c ≠ 9 ∧ c ≠ 10 ∧ c ≠ 13 ∧ c ≠ 32 ∧ c ≠ 34 ∧ c ≠ 38 ∧ c ≠ 46 ∧ c ≠ 60 ∧ c ≠ 62 ∧ c ≠ 64) : Gen c := ⟨h, by
  simp only [spc, List.mem_cons, List.not_mem_nil, or_false, not_or]
  obtain ⟨h1, h2, h3, h4, h5, h6, h7, h8, h9, h10⟩ := n
  exact ⟨h1, h2, h3, h4, h5, h6, h7, h8, h9, h10, fun z => absurd h (by rw [z]; decide)⟩⟩
theorem nmc_gen {k c : Nat} (n : c ≠ 9 ∧ c ≠ 10 ∧ c ≠ 13 ∧ c ≠ 34 ∧ c ≠ 38 ∧ c ≠ 60 ∧ c ≠ 62) : nmc k c = [] := by
  obtain ⟨n9, n10, n13, n34, n38, n60, n62⟩ := n
  unfold nmc
  rw [if_neg n38, if_neg (fun z => n60 z.1), if_neg (fun z => n62 z.1), if_neg (fun z => n34 z.1), if_neg (fun z => n13 z.1), if_neg (fun z => n10 z.1), if_neg (fun z => n9 z.1), if_neg (fun z => n13 z.1), if_neg (fun z => n10 z.1), if_neg (fun z => n9 z.1)]
theorem stp_gen {k : Nat} (q : Q) {c : Nat} (g : Gen c) : stp k q c = (nx k q (decide (64 < c)), [phi k c]) := by
  obtain ⟨n9, n10, n13, n32, n34, n38, n46, n60, n62, n64⟩ := g.ne
  have lt := g.lt
  unfold stp nx phi
  by_cases q0 : k = 0
  · subst q0; rfl
  rw [if_neg q0, if_neg q0]
  by_cases q1 : k = 1
  · subst q1
    rw [if_pos rfl, if_neg (fun z : c = 173 => absurd lt (by rw [z]; decide))]; rfl
  rw [if_neg q1]
  by_cases q2 : k = 2
  · subst q2
    rw [if_pos rfl, if_neg n32]; rfl
  rw [if_neg q2]
  have e1 : es1 q.1 c = (false, [c]) := by unfold es1; rw [if_neg n13, if_neg n10]
  have e2 : ∀ p, ds1 p c = (false, [c]) := fun p => by
    unfold ds1
    rw [if_neg (fun z => n46 z.1)]
    have : (c == 10) = false := by simpa using n10
    rw [this]
  by_cases q3 : k = 3
  · subst q3
    rw [if_pos rfl, if_neg n64]
    have : decide (64 < c ∧ c < 128) = decide (64 < c) := by rw [Bool.eq_iff_iff, decide_eq_true_eq, decide_eq_true_eq]; exact ⟨fun z => z.1, fun z => ⟨z, lt⟩⟩
    rw [this]; rfl
  rw [if_neg q3, if_neg q3]
  by_cases q4 : k = 4
  · subst q4
    rw [if_pos rfl, if_pos rfl, e1]
    have : dsL q.2 [c] = (false, [c]) := by rw [dsL, e2]; rfl
    rw [this]
  rw [if_neg q4, if_neg q4]
  by_cases q5 : k = 5
  · subst q5; rw [if_pos rfl, if_pos rfl, e1]
  rw [if_neg q5, if_neg q5]
  by_cases q6 : k = 6
  · subst q6; rw [if_pos rfl, if_pos rfl, e2]
  rw [if_neg q6, if_neg q6]
  have : nmc (k - 1) c = [] := nmc_gen ⟨n9, n10, n13, n34, n38, n60, n62⟩
  rw [esc1, if_pos this]
theorem phi_gen {k c : Nat} (g : Gen c) : Gen (phi k c) ∧ decide (64 < phi k c) = decide (64 < c) := by
  obtain ⟨n9, n10, n13, n32, n34, n38, n46, n60, n62, n64⟩ := g.ne
  have lt := g.lt
  have h : phi k c = c ∨ (65 ≤ c ∧ c ≤ 90 ∧ phi k c = c + 32) := by
    unfold phi lowA
    split
    · split
      · rename_i z; exact .inr ⟨z.1, z.2, rfl⟩
      · exact .inl rfl
    · exact .inl rfl
  rcases h with h | ⟨h1, h2, h3⟩
  · rw [h]; exact ⟨g, rfl⟩
  · rw [h3]
    have l1 : 97 ≤ c + 32 := Nat.add_le_add_right h1 32
    have l2 : c + 32 < 123 := Nat.add_lt_add_right (Nat.lt_succ_of_le h2) 32
    have nn : ∀ x, x < 97 → c + 32 ≠ x := fun x hx z => absurd l1 (by rw [z]; exact Nat.not_le.mpr hx)
    refine ⟨gen_of (Nat.lt_trans l2 (by decide)) ⟨nn 9 (by decide), nn 10 (by decide), nn 13 (by decide), nn 32 (by decide), nn 34 (by decide), nn 38 (by decide), nn 46 (by decide), nn 60 (by decide), nn 62 (by decide), nn 64 (by decide)⟩, ?_⟩
    rw [decide_eq_true (Nat.lt_of_lt_of_le (by decide) l1), decide_eq_true (Nat.lt_of_lt_of_le (by decide) h1)]
theorem phi_comm (a b c : Nat) : phi a (phi b c) = phi b (phi a c) := by
  unfold phi
  split <;> split <;> rfl
theorem st2_gen (a b : Nat) (q : Q × Q) {c : Nat} (g : Gen c) : st2 a b q c = ((nx b q.1 (decide (64 < c)), nx a q.2 (decide (64 < c))), [phi a (phi b c)]) := by
  obtain ⟨g2, e2⟩ := phi_gen (k := b) g
  unfold st2
  rw [stp_gen q.1 g]
  dsimp only
  have : runK a q.2 [phi b c] = (nx a q.2 (decide (64 < c)), [phi a (phi b c)]) := by
    rw [runK, stp_gen _ g2, e2]; rfl
  rw [this]
end Mine
end
section
open PySem
set_option linter.all false
namespace Mine
-- how two texts that are being written stand to each other: (0, []) alike, (1, u) the first is u ahead, (2, u) the second is, (3, []) the first is v, v, .. ahead, (4, []) the second is, (5, []) parted for good, (6, []) not told
abbrev R := Nat × List Nat
noncomputable def cmpW : List Nat → List Nat → R
  | [], [] => (0, [])
  | x :: u, [] => (1, x :: u)
  | [], y :: w => (2, y :: w)
  | x :: u, y :: w => if x = y then cmpW u w else (5, [])
noncomputable def norm (v : List Nat) (r : R) : R := if r.1 = 1 ∧ r.2 = v then (3, []) else if r.1 = 2 ∧ r.2 = v then (4, []) else r
noncomputable def rel (v : List Nat) (r : R) (o p : List Nat) : R :=
  if r.1 = 0 then norm v (cmpW o p)
  else if r.1 = 1 then norm v (cmpW (r.2 ++ o) p)
  else if r.1 = 2 then norm v (cmpW o (r.2 ++ p))
  else if r.1 = 3 then (if p = [] ∧ (o = [] ∨ o = v) then (3, []) else if o = v ∧ p = v then (3, []) else if p ≠ [] ∧ p.head? ≠ v.head? then (5, []) else (6, []))
  else if r.1 = 4 then (if o = [] ∧ (p = [] ∨ p = v) then (4, []) else if p = v ∧ o = v then (4, []) else if o ≠ [] ∧ o.head? ≠ v.head? then (5, []) else (6, []))
  else (r.1, [])
noncomputable def reps (v : List Nat) : Nat → List Nat
  | 0 => []
  | n + 1 => v ++ reps v n
theorem reps_comm (v : List Nat) (n : Nat) : reps v n ++ v = v ++ reps v n := by
  induction n with
  | zero => simp [reps]
  | succ n ih => rw [reps, List.append_assoc, ih]
/-- neither is the beginning of the other -/
noncomputable def Apart (x y : List Nat) : Prop := ∃ z a b x' y', x = z ++ a :: x' ∧ y = z ++ b :: y' ∧ a ≠ b
theorem Apart.app {x y : List Nat} (h : Apart x y) (o p : List Nat) : Apart (x ++ o) (y ++ p) := by
  obtain ⟨z, a, b, x', y', rfl, rfl, n⟩ := h
  exact ⟨z, a, b, x' ++ o, y' ++ p, by simp, by simp, n⟩
theorem Apart.ne {x y : List Nat} (h : Apart x y) : x ≠ y := by
  obtain ⟨z, a, b, x', y', rfl, rfl, n⟩ := h
  intro e
  have := List.append_cancel_left e
  exact n (List.cons.inj this).1
noncomputable def SemR (v : List Nat) (r : R) (x y : List Nat) : Prop :=
  (r.1 = 0 → x = y) ∧ (r.1 = 1 → x = y ++ r.2 ∧ r.2 ≠ []) ∧ (r.1 = 2 → y = x ++ r.2 ∧ r.2 ≠ []) ∧ (r.1 = 3 → ∃ n, x = y ++ reps v (n + 1)) ∧ (r.1 = 4 → ∃ n, y = x ++ reps v (n + 1)) ∧ (r.1 = 5 → Apart x y) ∧ r.1 ≤ 5
theorem sem0 {v x y : List Nat} {u : List Nat} (h : x = y) : SemR v (0, u) x y := ⟨fun _ => h, fun z => (nomatch z), fun z => (nomatch z), fun z => (nomatch z), fun z => (nomatch z), fun z => (nomatch z), by show 0 ≤ 5; decide⟩
theorem sem1 {v x y u : List Nat} (h : x = y ++ u) (n : u ≠ []) : SemR v (1, u) x y := ⟨fun z => (nomatch z), fun _ => ⟨h, n⟩, fun z => (nomatch z), fun z => (nomatch z), fun z => (nomatch z), fun z => (nomatch z), by show 1 ≤ 5; decide⟩
theorem sem2 {v x y u : List Nat} (h : y = x ++ u) (n : u ≠ []) : SemR v (2, u) x y := ⟨fun z => (nomatch z), fun z => (nomatch z), fun _ => ⟨h, n⟩, fun z => (nomatch z), fun z => (nomatch z), fun z => (nomatch z), by show 2 ≤ 5; decide⟩
theorem sem3 {v x y u : List Nat} (h : ∃ n, x = y ++ reps v (n + 1)) : SemR v (3, u) x y := ⟨fun z => (nomatch z), fun z => (nomatch z), fun z => (nomatch z), fun _ => h, fun z => (nomatch z), fun z => (nomatch z), by show 3 ≤ 5; decide⟩
theorem sem4 {v x y u : List Nat} (h : ∃ n, y = x ++ reps v (n + 1)) : SemR v (4, u) x y := ⟨fun z => (nomatch z), fun z => (nomatch z), fun z => (nomatch z), fun z => (nomatch z), fun _ => h, fun z => (nomatch z), by show 4 ≤ 5; decide⟩
theorem sem5 {v x y u : List Nat} (h : Apart x y) : SemR v (5, u) x y := ⟨fun z => (nomatch z), fun z => (nomatch z), fun z => (nomatch z), fun z => (nomatch z), fun z => (nomatch z), fun _ => h, by show 5 ≤ 5; decide⟩
theorem cmpW_sem (v : List Nat) : ∀ (o p z : List Nat), SemR v (cmpW o p) (z ++ o) (z ++ p)
  | [], [], z => sem0 rfl
  | x :: u, [], z => sem1 (by simp) (by simp)
  | [], y :: w, z => sem2 (by simp) (by simp)
  | x :: u, y :: w, z => by
    rw [cmpW]
    by_cases q : x = y
    · rw [if_pos q]
      subst q
      have := cmpW_sem v u w (z ++ [x])
      simpa using this
    · rw [if_neg q]
      exact sem5 ⟨z, x, y, u, w, rfl, rfl, q⟩
theorem norm_sem {v : List Nat} {r : R} {x y : List Nat} (h : SemR v r x y) : SemR v (norm v r) x y := by
  unfold norm
  by_cases q : r.1 = 1 ∧ r.2 = v
  · rw [if_pos q]
    have := h.2.1 q.1
    exact sem3 ⟨0, by rw [this.1, q.2]; simp [reps]⟩
  · rw [if_neg q]
    by_cases q2 : r.1 = 2 ∧ r.2 = v
    · rw [if_pos q2]
      have := h.2.2.1 q2.1
      exact sem4 ⟨0, by rw [this.1, q2.2]; simp [reps]⟩
    · rw [if_neg q2]; exact h
theorem rel_sem {v : List Nat} (hv : v ≠ []) {r : R} {x y : List Nat} (h : SemR v r x y) (o p : List Nat) (n6 : (rel v r o p).1 ≠ 6) : SemR v (rel v r o p) (x ++ o) (y ++ p) := by
  obtain ⟨h0, h1, h2, h3, h4, h5, hle⟩ := h
  unfold rel at n6 ⊢
  by_cases q0 : r.1 = 0
  · rw [if_pos q0, h0 q0]; exact norm_sem (cmpW_sem v o p y)
  rw [if_neg q0] at n6 ⊢
  by_cases q1 : r.1 = 1
  · rw [if_pos q1, (h1 q1).1, List.append_assoc]; exact norm_sem (cmpW_sem v _ p y)
  rw [if_neg q1] at n6 ⊢
  by_cases q2 : r.1 = 2
  · rw [if_pos q2, (h2 q2).1, List.append_assoc]; exact norm_sem (cmpW_sem v o _ x)
  rw [if_neg q2] at n6 ⊢
  have headne : ∀ (w rest : List Nat) (n : Nat), w ≠ [] → w.head? ≠ v.head? → ∀ z t, Apart (z ++ reps v (n + 1) ++ rest) (z ++ (w ++ t)) := by
    intro w rest n hw hh z t
    obtain ⟨a, w', rfl⟩ := List.exists_cons_of_ne_nil hw
    obtain ⟨b, v', e⟩ := List.exists_cons_of_ne_nil hv
    refine ⟨z, b, a, v' ++ reps v n ++ rest, w' ++ t, ?_, by simp, ?_⟩
    · rw [reps, e]; simp
    · rintro rfl; exact hh (by rw [e]; rfl)
  by_cases q3 : r.1 = 3
  · rw [if_pos q3] at n6 ⊢
    obtain ⟨n, e⟩ := h3 q3
    by_cases z1 : p = [] ∧ (o = [] ∨ o = v)
    · rw [if_pos z1]
      obtain ⟨rfl, z⟩ := z1
      rcases z with rfl | rfl
      · exact sem3 ⟨n, by rw [e]; simp⟩
      · exact sem3 ⟨n + 1, by rw [e, List.append_assoc, reps_comm]; simp [reps]⟩
    rw [if_neg z1] at n6 ⊢
    by_cases z2 : o = v ∧ p = v
    · rw [if_pos z2]
      obtain ⟨rfl, rfl⟩ := z2
      exact sem3 ⟨n, by rw [e, List.append_assoc, List.append_assoc, reps_comm]⟩
    rw [if_neg z2] at n6 ⊢
    by_cases z3 : p ≠ [] ∧ p.head? ≠ v.head?
    · rw [if_pos z3, e]
      have := headne p o n z3.1 z3.2 y []
      rw [List.append_nil] at this
      exact sem5 this
    · rw [if_neg z3] at n6
      exact absurd rfl n6
  rw [if_neg q3] at n6 ⊢
  by_cases q4 : r.1 = 4
  · rw [if_pos q4] at n6 ⊢
    obtain ⟨n, e⟩ := h4 q4
    by_cases z1 : o = [] ∧ (p = [] ∨ p = v)
    · rw [if_pos z1]
      obtain ⟨rfl, z⟩ := z1
      rcases z with rfl | rfl
      · exact sem4 ⟨n, by rw [e]; simp⟩
      · exact sem4 ⟨n + 1, by rw [e, List.append_assoc, reps_comm]; simp [reps]⟩
    rw [if_neg z1] at n6 ⊢
    by_cases z2 : p = v ∧ o = v
    · rw [if_pos z2]
      obtain ⟨rfl, rfl⟩ := z2
      exact sem4 ⟨n, by rw [e, List.append_assoc, List.append_assoc, reps_comm]⟩
    rw [if_neg z2] at n6 ⊢
    by_cases z3 : o ≠ [] ∧ o.head? ≠ v.head?
    · rw [if_pos z3, e]
      obtain ⟨z, a, b, x', y', g1, g2, g3⟩ := headne o p n z3.1 z3.2 x []
      rw [List.append_nil] at g2
      exact sem5 ⟨z, b, a, y', x', g2, g1, Ne.symm g3⟩
    · rw [if_neg z3] at n6
      exact absurd rfl n6
  rw [if_neg q4]
  have q5 : r.1 = 5 := by omega
  rw [q5]
  exact sem5 ((h5 q5).app o p)
theorem sem_ne {v : List Nat} (hv : v ≠ []) {r : R} {x y : List Nat} (h : SemR v r x y) : x ≠ y ↔ r.1 ≠ 0 := by
  obtain ⟨h0, h1, h2, h3, h4, h5, hle⟩ := h
  constructor
  · exact fun n e => n (h0 e)
  · intro n
    have self : ∀ (a b : List Nat), b ≠ [] → a ≠ a ++ b := fun a b nb e => nb (by
      have : a ++ [] = a ++ b := by rw [List.append_nil]; exact e
      exact (List.append_cancel_left this).symm)
    have rn : ∀ n, reps v (n + 1) ≠ [] := fun n z => by
      rw [reps] at z
      exact hv (List.append_eq_nil_iff.mp z).1
    have : r.1 = 1 ∨ r.1 = 2 ∨ r.1 = 3 ∨ r.1 = 4 ∨ r.1 = 5 := by omega
    rcases this with q | q | q | q | q
    · have := h1 q; rw [this.1]; exact Ne.symm (self y _ this.2)
    · have := h2 q; rw [this.1]; exact self x _ this.2
    · obtain ⟨n, e⟩ := h3 q; rw [e]; exact Ne.symm (self y _ (rn n))
    · obtain ⟨n, e⟩ := h4 q; rw [e]; exact self x _ (rn n)
    · exact (h5 q).ne
/-- what is ahead begins with a letter that the hands look at -/
noncomputable def goodR (v : List Nat) (r : R) : Bool := if r.1 = 1 ∨ r.1 = 2 then (match r.2 with | [] => false | h :: _ => spc.contains h) else if r.1 = 3 ∨ r.1 = 4 then (match v with | [] => false | h :: _ => spc.contains h) else true
/-- a letter that no hand looks at -/
theorem rel_gen {v : List Nat} {r : R} (hv : ∀ h ∈ v.head?, h ∈ spc) (g : goodR v r = true) (hle : r.1 ≤ 5) {z : Nat} (hz : z ∉ spc) : rel v r [z] [z] = if r.1 = 0 then (0, []) else (5, []) := by
  have nv : [z] ≠ v := fun e => hz (hv z (by rw [← e]; rfl))
  unfold rel
  by_cases q0 : r.1 = 0
  · rw [if_pos q0, if_pos q0]
    have : cmpW [z] [z] = (0, []) := by rw [cmpW, if_pos rfl]; rfl
    rw [this]; rfl
  rw [if_neg q0, if_neg q0]
  have nf : norm v (5, []) = (5, []) := rfl
  by_cases q1 : r.1 = 1
  · rw [if_pos q1]
    unfold goodR at g
    rw [if_pos (.inl q1)] at g
    match hr : r.2 with
    | [] => rw [hr] at g; cases g
    | h :: t =>
      rw [hr] at g
      have hh : h ∈ spc := by simpa using g
      have : cmpW (h :: t ++ [z]) [z] = (5, []) := by
        show cmpW (h :: (t ++ [z])) [z] = _
        rw [cmpW, if_neg (show ¬ h = z from fun e => hz (e ▸ hh))]
      rw [this, nf]
  rw [if_neg q1]
  by_cases q2 : r.1 = 2
  · rw [if_pos q2]
    unfold goodR at g
    rw [if_pos (.inr q2)] at g
    match hr : r.2 with
    | [] => rw [hr] at g; cases g
    | h :: t =>
      rw [hr] at g
      have hh : h ∈ spc := by simpa using g
      have : cmpW [z] (h :: t ++ [z]) = (5, []) := by
        show cmpW [z] (h :: (t ++ [z])) = _
        rw [cmpW, if_neg (show ¬ z = h from fun e => hz (e.symm ▸ hh))]
      rw [this, nf]
  rw [if_neg q2]
  have hne : ([z] : List Nat) ≠ [] ∧ ([z] : List Nat).head? ≠ v.head? := by
    refine ⟨by simp, fun e => hz (hv z ?_)⟩
    rw [← e]; rfl
  by_cases q3 : r.1 = 3
  · rw [if_pos q3, if_neg (fun z => by cases z.1), if_neg (fun z => nv z.1), if_pos hne]
  rw [if_neg q3]
  by_cases q4 : r.1 = 4
  · rw [if_pos q4, if_neg (fun z => by cases z.1), if_neg (fun z => nv z.1), if_pos hne]
  rw [if_neg q4]
  have q5 : r.1 = 5 := by omega
  rw [q5]
end Mine
end
section
open PySem
set_option linter.all false
namespace Mine
/-- what the plain rule looks for -/
inductive Cat where
  | see (l : List Nat) | part (b : Nat) | seam (k : Nat) (l : List (Nat × Nat)) | adjs (x z : Nat) | both (al ad : Bool)
abbrev DS := Nat × Bool × Bool × Bool
noncomputable def fnd (d : DS) : Bool := d.2.2.2
noncomputable def d0 : DS := (0, false, false, false)
noncomputable def hiB (c : Nat) : Bool := decide (64 < c ∧ c < 128)
noncomputable def dstep : Cat → DS → Nat → DS
  | .see l, d, c => (0, false, false, d.2.2.2 || l.contains c)
  | .part b, d, c => if c = 64 then (d.1, false, false, d.2.2.2 || d.1 == 2) else if c = b then (if 0 < d.1 then 2 else 0, false, false, d.2.2.2) else (if hiB c = true then 1 else 0, false, false, d.2.2.2)
  | .seam k l, d, c =>
    if ((c == goneOf k) && !((k == 3) && d.2.2.1)) = true then (d.1, true, (if c = 64 then d.2.2.1 else hiB c), d.2.2.2)
    else (if c = 13 then 13 else if c = 10 then 10 else 1, false, (if c = 64 then d.2.2.1 else hiB c), d.2.2.2 || (d.2.1 && l.contains (d.1, c)))
  | .adjs x z, d, c => (if c = x then 1 else 0, false, false, d.2.2.2 || (d.1 == 1 && c == z))
  | .both al ad, d, c => (0, c == 10, c == 13, d.2.2.2 || (al && (if c = 13 then d.2.2.1 else if c = 10 then !d.2.2.1 else d.2.2.1)) || (ad && d.2.1 && c == 46))
noncomputable def catOf (a b : Nat) : Cat :=
  if a = 0 then (if b = 10 then .see [13] else if b = 11 then .see [13, 10] else .see [])
  else if a < 3 ∧ b = 3 then .part (if a = 1 then 173 else 32)
  else if a < 4 then (if b < 4 ∨ 6 < b then .see [] else .seam a (if b = 4 then [(0, 46), (13, 46), (10, 46), (13, 10)] else if b = 5 then [(13, 10)] else [(0, 46), (10, 46)]))
  else if 6 < a then .see (spc.filter fun n => decide (nmc (a - 1) n ≠ nmc (b - 1) n))
  else if b = 6 then .adjs 13 46
  else if b = 10 then (if a < 6 then .see [13, 10] else .see [])
  else if b = 8 ∨ b = 11 then .both (decide (a < 6)) (decide (a ≠ 5))
  else .see []
noncomputable def run1 (t : Cat) (s : List Nat) (d : DS) : DS := s.foldl (dstep t) d
theorem run1_cons (t : Cat) (c : Nat) (s : List Nat) (d : DS) : run1 t (c :: s) d = run1 t s (dstep t d c) := rfl
theorem run_see (l : List Nat) : ∀ (s : List Nat) (d : DS), fnd (run1 (.see l) s d) = (fnd d || s.any fun c => l.contains c)
  | [], d => by simp [run1, fnd]
  | c :: s, d => by
    rw [run1_cons, run_see l s, List.any_cons, ← Bool.or_assoc]; rfl
theorem run_part (b : Nat) : ∀ (s : List Nat) (d : DS), fnd (run1 (.part b) s d) = (fnd d || parted b d.1 s)
  | [], d => by simp [run1, fnd, parted]
  | c :: s, d => by
    rw [run1_cons, run_part b s, parted, dstep]
    by_cases q : c = 64
    · rw [if_pos q, if_pos q]
      by_cases q2 : d.1 = 2
      · rw [if_pos q2]
        show ((d.2.2.2 || d.1 == 2) || _) = _
        rw [q2]; simp
      · rw [if_neg q2]
        have : (d.1 == 2) = false := by simpa using q2
        show ((d.2.2.2 || d.1 == 2) || _) = _
        rw [this, Bool.or_false]; rfl
    · rw [if_neg q, if_neg q]
      by_cases q2 : c = b
      · rw [if_pos q2, if_pos q2]; rfl
      · rw [if_neg q2, if_neg q2]
        unfold hiB
        by_cases q3 : 64 < c ∧ c < 128
        · rw [if_pos (decide_eq_true q3), if_pos q3]; rfl
        · rw [if_neg (by simpa using q3), if_neg q3]; rfl
noncomputable def ahc : List Nat → Nat
  | [] => 0
  | c :: _ => if c = 13 then 13 else if c = 10 then 10 else 1
theorem run_seam (k : Nat) (l : List (Nat × Nat)) (F : List Nat → Bool) (hF : ∀ ah c, ah.length ≤ 1 → F (ah ++ [c]) = l.contains (ahc ah, c)) : ∀ (s ah : List Nat) (g i f : Bool), ah.length ≤ 1 →
    fnd (run1 (.seam k l) s (ahc ah, g, i, f)) = (f || (seamsF k (goneOf k) ah g i s).any F)
  | [], ah, g, i, f, _ => by simp [run1, fnd, seamsF]
  | c :: s, ah, g, i, f, h => by
    have ih := run_seam k l F hF s
    rw [run1_cons, dstep, seamsF]
    dsimp only
    unfold hiB
    by_cases q : ((c == goneOf k) && !((k == 3) && i)) = true
    · rw [if_pos q, if_pos q, ih ah _ _ _ h]
    · rw [if_neg q, if_neg q]
      have e : (if c = 13 then 13 else if c = 10 then 10 else 1) = ahc [c] := rfl
      rw [e, ih [c] _ _ _ (by simp), List.any_append, ← Bool.or_assoc]
      congr 1
      cases g with
      | true => rw [if_pos rfl, List.any_cons, List.any_nil, Bool.or_false, hF ah c h, Bool.true_and]
      | false => rw [if_neg (by decide)]; simp
theorem run_adj (x z : Nat) : ∀ (s : List Nat) (p f b1 b2 : Bool), fnd (run1 (.adjs x z) s (if p = true then 1 else 0, b1, b2, f)) = (f || adj x z ((if p = true then [x] else []) ++ s))
  | [], p, f, b1, b2 => by cases p <;> simp [run1, fnd, adj]
  | c :: s, p, f, b1, b2 => by
    have ih := run_adj x z s
    rw [run1_cons, dstep]
    dsimp only
    have e : (if c = x then (1 : Nat) else 0) = if decide (c = x) = true then 1 else 0 := by by_cases q : c = x <;> simp [q]
    rw [e, ih]
    have key : adj x z ((if p = true then [x] else []) ++ c :: s) = ((p && c == z) || adj x z ((if decide (c = x) = true then [x] else []) ++ s)) := by
      have h2 : adj x z (c :: s) = adj x z ((if decide (c = x) = true then [x] else []) ++ s) := by
        by_cases q : c = x
        · rw [if_pos (decide_eq_true q), q]; rfl
        · rw [if_neg (by simpa using q)]
          cases s with
          | nil => rfl
          | cons d s =>
            rw [adj]
            have : (c == x) = false := by simpa using q
            rw [this]; simp
      rw [← h2]
      cases p with
      | true => rw [if_pos rfl]; show adj x z (x :: c :: s) = _; rw [adj]; simp
      | false => rw [if_neg (by decide)]; simp
    rw [key, ← Bool.or_assoc]
    congr 1
    cases p <;> rfl
noncomputable def alG : Bool → List Nat → Bool
  | _, [] => false
  | p, c :: s => if c = 13 then p || alG true s else if c = 10 then !p || alG false s else p || alG false s
theorem alF_alG : ∀ (s : List Nat) (p : Bool), alF p (s ++ [59]) = alG p (s ++ [59])
  | [], p => by cases p <;> rfl
  | c :: s, p => by
    have h1 := alF_alG s true; have h2 := alF_alG s false
    show alF p (c :: (s ++ [59])) = alG p (c :: (s ++ [59]))
    rw [alF, alG, h1, h2]
    by_cases q : c = 13
    · rw [if_pos q, if_pos q]; cases p <;> simp
    · rw [if_neg q, if_neg q]
      by_cases q2 : c = 10
      · rw [if_pos q2, if_pos q2]; cases p <;> simp
      · rw [if_neg q2, if_neg q2]; cases p <;> simp
theorem run_both (al ad : Bool) : ∀ (s : List Nat) (g i f : Bool), fnd (run1 (.both al ad) s (0, g, i, f)) = (f || (al && alG i s) || (ad && adj 10 46 ((if g = true then [10] else []) ++ s)))
  | [], g, i, f => by cases g <;> simp [run1, fnd, adj, alG]
  | c :: s, g, i, f => by
    have ih := run_both al ad s
    rw [run1_cons, dstep]
    dsimp only
    rw [ih]
    have k2 : adj 10 46 ((if g = true then [10] else []) ++ c :: s) = ((g && c == 46) || adj 10 46 ((if (c == 10) = true then [10] else []) ++ s)) := by
      have h2 : adj 10 46 (c :: s) = adj 10 46 ((if (c == 10) = true then [10] else []) ++ s) := by
        by_cases q : c = 10
        · rw [if_pos (by simpa using q), q]; rfl
        · have e : (c == 10) = false := by simpa using q
          rw [e, if_neg (by decide)]
          cases s with
          | nil => rfl
          | cons d s => rw [adj, e]; simp
      rw [← h2]
      cases g with
      | true => rw [if_pos rfl]; show adj 10 46 (10 :: c :: s) = _; rw [adj]; simp
      | false => rw [if_neg (by decide)]; simp
    have k1 : alG i (c :: s) = ((if c = 13 then i else if c = 10 then !i else i) || alG (c == 13) s) := by
      rw [alG]
      by_cases q : c = 13
      · rw [if_pos q, if_pos q]
        have : (c == 13) = true := by simpa using q
        rw [this]
      · rw [if_neg q, if_neg q]
        have : (c == 13) = false := by simpa using q
        rw [this]
        by_cases q2 : c = 10
        · rw [if_pos q2, if_pos q2]
        · rw [if_neg q2, if_neg q2]
    rw [k1, k2]
    generalize (if c = 13 then i else if c = 10 then !i else i) = A
    generalize alG (c == 13) s = B
    generalize adj 10 46 ((if (c == 10) = true then [10] else []) ++ s) = D
    generalize (c == 46) = G
    exact (by decide : ∀ f al ad g A B D G : Bool, ((((f || (al && A)) || ((ad && g) && G)) || (al && B)) || (ad && D)) = ((f || (al && (A || B))) || (ad && ((g && G) || D)))) f al ad g A B D G
theorem cont1 (M : List (List Nat)) (x : List Nat) : M.contains x = M.any fun z => ([x] : List (List Nat)).contains z := by
  rw [Bool.eq_iff_iff, List.contains_iff_mem, List.any_eq_true]
  constructor
  · exact fun h => ⟨x, h, by simp⟩
  · rintro ⟨y, h, e⟩
    have : y = x := by simpa using e
    exact this ▸ h
theorem cont2 (M : List (List Nat)) (x y : List Nat) : (M.contains x || M.contains y) = M.any fun z => ([x, y] : List (List Nat)).contains z := by
  rw [Bool.eq_iff_iff, Bool.or_eq_true, List.contains_iff_mem, List.contains_iff_mem, List.any_eq_true]
  constructor
  · rintro (h | h)
    · exact ⟨x, h, by simp⟩
    · exact ⟨y, h, by simp⟩
  · rintro ⟨z, h, e⟩
    have : z = x ∨ z = y := by simpa using e
    rcases this with rfl | rfl
    · exact .inl h
    · exact .inr h
theorem ah_cases {ah : List Nat} (h : ah.length ≤ 1) : ah = [] ∨ ∃ e, ah = [e] := by
  match ah, h with
  | [], _ => exact .inl rfl
  | [e], _ => exact .inr ⟨e, rfl⟩
theorem seamP4 (ah : List Nat) (c : Nat) (h : ah.length ≤ 1) : ([[46], [13, 46], [10, 46], [13, 10]] : List (List Nat)).contains (ah ++ [c]) = ([(0, 46), (13, 46), (10, 46), (13, 10)] : List (Nat × Nat)).contains (ahc ah, c) := by
  rw [Bool.eq_iff_iff, List.contains_iff_mem, List.contains_iff_mem]
  rcases ah_cases h with rfl | ⟨e, rfl⟩
  · simp [ahc]
  · unfold ahc
    by_cases q : e = 13
    · subst q; simp
    · by_cases q2 : e = 10
      · subst q2; simp
      · simp [q, q2]
theorem seamP5 (ah : List Nat) (c : Nat) (h : ah.length ≤ 1) : ([[13, 10]] : List (List Nat)).contains (ah ++ [c]) = ([(13, 10)] : List (Nat × Nat)).contains (ahc ah, c) := by
  rw [Bool.eq_iff_iff, List.contains_iff_mem, List.contains_iff_mem]
  rcases ah_cases h with rfl | ⟨e, rfl⟩
  · simp [ahc]
  · unfold ahc
    by_cases q : e = 13
    · subst q; simp
    · by_cases q2 : e = 10
      · subst q2; simp
      · simp [q, q2]
theorem seamP6 (ah : List Nat) (c : Nat) (h : ah.length ≤ 1) : ([[46], [10, 46]] : List (List Nat)).contains (ah ++ [c]) = ([(0, 46), (10, 46)] : List (Nat × Nat)).contains (ahc ah, c) := by
  rw [Bool.eq_iff_iff, List.contains_iff_mem, List.contains_iff_mem]
  rcases ah_cases h with rfl | ⟨e, rfl⟩
  · simp [ahc]
  · unfold ahc
    by_cases q : e = 13
    · subst q; simp
    · by_cases q2 : e = 10
      · subst q2; simp
      · simp [q, q2]
theorem mn_run {a b : Nat} (hab : a < b) (hb : b ≤ 11) {s : List Nat} (ok : ∀ n ∈ s, okD n) (hs : Semi s) : mn a b s = fnd (run1 (catOf a b) s d0) := by
  have memA : ∀ x : Nat, decide (x ∈ s) = s.any fun c => [x].contains c := by
    intro x
    rw [Bool.eq_iff_iff, decide_eq_true_eq, List.any_eq_true]
    constructor
    · exact fun h => ⟨x, h, by simp⟩
    · rintro ⟨y, h, e⟩
      have : y = x := by simpa using e
      exact this ▸ h
  have some2 : someB s = s.any fun c => [13, 10].contains c := by
    unfold someB
    rw [Bool.eq_iff_iff, Bool.or_eq_true, decide_eq_true_eq, decide_eq_true_eq, List.any_eq_true]
    constructor
    · rintro (h | h)
      · exact ⟨13, h, by decide⟩
      · exact ⟨10, h, by decide⟩
    · rintro ⟨y, h, e⟩
      have : y = 13 ∨ y = 10 := by simpa using e
      rcases this with rfl | rfl
      · exact .inl h
      · exact .inr h
  have none0 : (s.any fun c => ([] : List Nat).contains c) = false := by simp
  unfold mn catOf
  by_cases q0 : a = 0
  · rw [if_pos q0, if_pos q0]
    by_cases b10 : b = 10
    · subst b10
      rw [if_pos rfl, run_see, memA]; simp [fnd, d0]
    · rw [if_neg b10]
      have e10 : (b == 10) = false := by simpa using b10
      rw [e10, Bool.false_and, Bool.false_or]
      by_cases b11 : b = 11
      · subst b11
        rw [if_pos rfl, run_see, some2]; simp [fnd, d0]
      · have e11 : (b == 11) = false := by simpa using b11
        rw [if_neg b11, run_see, e11, none0]; rfl
  rw [if_neg q0, if_neg q0]
  by_cases q1 : a < 3 ∧ b = 3
  · rw [if_pos q1, if_pos q1, run_part]; rfl
  rw [if_neg q1, if_neg q1]
  by_cases q2 : a < 4
  · rw [if_pos q2, if_pos q2]
    by_cases z : b < 4 ∨ 6 < b
    · rw [if_pos z, if_pos z, run_see, none0]; rfl
    rw [if_neg z, if_neg z]
    have e0 : d0 = (ahc [], false, false, false) := rfl
    by_cases b4 : b = 4
    · rw [if_pos b4, if_pos b4, e0, run_seam a _ (fun z => ([[46], [13, 46], [10, 46], [13, 10]] : List (List Nat)).contains z) ?_ s [] false false false (by simp)]
      · rfl
      · exact seamP4
    rw [if_neg b4, if_neg b4]
    by_cases b5 : b = 5
    · rw [if_pos b5, if_pos b5, e0, run_seam a _ (fun z => ([[13, 10]] : List (List Nat)).contains z) ?_ s [] false false false (by simp)]
      · rw [Bool.false_or]; exact cont1 _ _
      · exact seamP5
    · rw [if_neg b5, if_neg b5, e0, run_seam a _ (fun z => ([[46], [10, 46]] : List (List Nat)).contains z) ?_ s [] false false false (by simp)]
      · rw [Bool.false_or]; exact cont2 _ _ _
      · exact seamP6
  rw [if_neg q2, if_neg q2]
  by_cases q3 : 6 < a
  · rw [if_pos q3, if_pos q3, run_see]
    show _ = (false || _)
    rw [Bool.false_or]
    congr 1
    funext n
    rw [Bool.eq_iff_iff, List.contains_iff_mem, List.mem_filter]
    refine ⟨fun h => ⟨?_, h⟩, fun h => h.2⟩
    refine Decidable.byContradiction fun ns => ?_
    have nn : n ≠ 9 ∧ n ≠ 10 ∧ n ≠ 13 ∧ n ≠ 34 ∧ n ≠ 38 ∧ n ≠ 60 ∧ n ≠ 62 := by
      simp only [spc, List.mem_cons, List.not_mem_nil, or_false, not_or] at ns
      obtain ⟨h1, h2, h3, h4, h5, h6, h7, h8, h9, h10, _⟩ := ns
      exact ⟨h1, h2, h3, h5, h6, h8, h9⟩
    rw [nmc_gen nn, nmc_gen nn] at h
    simp at h
  rw [if_neg q3, if_neg q3]
  by_cases b6 : b = 6
  · rw [if_pos b6, if_pos b6]
    have := run_adj 13 46 s false false false false
    rw [if_neg (by decide), if_neg (by decide)] at this
    exact (this.trans (Bool.false_or _)).symm
  rw [if_neg b6, if_neg b6]
  by_cases b10 : b = 10
  · rw [if_pos b10, if_pos b10]
    by_cases a6 : a < 6
    · rw [if_pos a6, decide_eq_true a6, run_see, some2]; simp [fnd, d0]
    · rw [if_neg a6, decide_eq_false a6, run_see, none0]; rfl
  rw [if_neg b10, if_neg b10]
  by_cases b8 : b = 8 ∨ b = 11
  · rw [if_pos b8, if_pos b8]
    have := run_both (decide (a < 6)) (decide (a ≠ 5)) s false false false
    rw [if_neg (by decide), Bool.false_or] at this
    obtain ⟨s', rfl⟩ := hs
    rw [alF_alG]
    exact this.symm
  · rw [if_neg b8, if_neg b8, run_see, none0]; rfl
end Mine
end
section
open PySem
set_option linter.all false
namespace Mine
theorem spc_ne {c x : Nat} (g : Gen c) (h : spc.contains x = true) : c ≠ x := by
  rintro rfl
  exact g.ns (List.contains_iff_mem.mp h)
theorem spc_beq {c x : Nat} (g : Gen c) (h : spc.contains x = true) : (c == x) = false := beq_eq_false_iff_ne.mpr (spc_ne g h)
noncomputable def catGood : Cat → Bool
  | .see l => l.all fun x => spc.contains x
  | .part b => spc.contains b
  | .seam k l => spc.contains (goneOf k) && l.all fun p => spc.contains p.2
  | .adjs x z => spc.contains x && spc.contains z
  | .both _ _ => true
theorem dstep_gen {t : Cat} (ht : catGood t = true) (d : DS) {c e : Nat} (g : Gen c) (g' : Gen e) (h : hiB c = hiB e) : dstep t d c = dstep t d e := by
  obtain ⟨n9, n10, n13, n32, n34, n38, n46, n60, n62, n64⟩ := g.ne
  obtain ⟨m9, m10, m13, m32, m34, m38, m46, m60, m62, m64⟩ := g'.ne
  cases t with
  | see l =>
    rw [dstep, dstep]
    have no : ∀ {c : Nat}, Gen c → l.contains c = false := fun {c} g => by
      cases q : l.contains c with
      | false => rfl
      | true => exact absurd rfl (spc_ne g (List.all_eq_true.mp ht c (List.contains_iff_mem.mp q)))
    rw [no g, no g']
  | part b =>
    rw [dstep, dstep]
    rw [if_neg n64, if_neg m64, if_neg (spc_ne g ht), if_neg (spc_ne g' ht), h]
  | seam k l =>
    obtain ⟨h1, h2⟩ := Bool.and_eq_true_iff.mp ht
    rw [dstep, dstep]
    have no : ∀ {c : Nat}, Gen c → ∀ x, l.contains (x, c) = false := fun {c} g x => by
      cases q : l.contains (x, c) with
      | false => rfl
      | true => exact absurd rfl (spc_ne g (List.all_eq_true.mp h2 (x, c) (List.contains_iff_mem.mp q)))
    rw [spc_beq g h1, spc_beq g' h1, no g, no g', if_neg n64, if_neg m64, if_neg n13, if_neg m13, if_neg n10, if_neg m10, h]
  | adjs x z =>
    obtain ⟨h1, h2⟩ := Bool.and_eq_true_iff.mp ht
    rw [dstep, dstep]
    rw [if_neg (spc_ne g h1), if_neg (spc_ne g' h1), spc_beq g h2, spc_beq g' h2]
  | both al ad =>
    rw [dstep, dstep]
    have e1 : (c == 10) = false := beq_eq_false_iff_ne.mpr n10
    have e2 : (c == 13) = false := beq_eq_false_iff_ne.mpr n13
    have e3 : (c == 46) = false := beq_eq_false_iff_ne.mpr n46
    have f1 : (e == 10) = false := beq_eq_false_iff_ne.mpr m10
    have f2 : (e == 13) = false := beq_eq_false_iff_ne.mpr m13
    have f3 : (e == 46) = false := beq_eq_false_iff_ne.mpr m46
    rw [e1, e2, e3, f1, f2, f3, if_neg n13, if_neg m13, if_neg n10, if_neg m10]
theorem fnd_mono (t : Cat) (d : DS) (c : Nat) (h : fnd d = true) : fnd (dstep t d c) = true := by
  have h' : d.2.2.2 = true := h
  cases t with
  | see l => show (d.2.2.2 || _) = true; rw [h']; rfl
  | part b =>
    rw [dstep]
    by_cases q : c = 64
    · rw [if_pos q]; show (d.2.2.2 || _) = true; rw [h']; rfl
    · rw [if_neg q]
      by_cases q2 : c = b
      · rw [if_pos q2]; exact h'
      · rw [if_neg q2]; exact h'
  | seam k l =>
    rw [dstep]
    by_cases q : ((c == goneOf k) && !((k == 3) && d.2.2.1)) = true
    · rw [if_pos q]; exact h'
    · rw [if_neg q]; show (d.2.2.2 || _) = true; rw [h']; rfl
  | adjs x z => show (d.2.2.2 || _) = true; rw [h']; rfl
  | both al ad => show (d.2.2.2 || _ || _) = true; rw [h']; rfl
theorem run1_mono (t : Cat) : ∀ (s : List Nat) (d : DS), fnd d = true → fnd (run1 t s d) = true
  | [], d, h => h
  | c :: s, d, h => by rw [run1_cons]; exact run1_mono t s _ (fnd_mono t d c h)

abbrev SS := (Q × Q) × (Q × Q) × R × DS
abbrev Ent := Nat × Nat × List Nat × List SS
noncomputable def nxt (a b : Nat) (v : List Nat) (st : SS) (c : Nat) : SS := ((st2 a b st.1 c).1, (st2 b a st.2.1 c).1, rel v st.2.2.1 (st2 a b st.1 c).2 (st2 b a st.2.1 c).2, dstep (catOf a b) st.2.2.2 c)
noncomputable def okN (v : List Nat) (St : List SS) (c : Nat) (n : SS) : Bool :=
  if n.2.2.1.1 = 5 then fnd n.2.2.2 else decide (n.2.2.1.1 ≤ 4) && St.contains n && (c != 59 || ((n.2.2.1.1 != 0) == fnd n.2.2.2))
noncomputable def chk (a b : Nat) (v : List Nat) (St : List SS) : Bool :=
  (match v with | [] => false | h :: _ => spc.contains h) && catGood (catOf a b) && St.contains (((false, true), (false, true)), ((false, true), (false, true)), (0, []), d0) &&
  St.all fun st => decide (st.2.2.1.1 ≤ 4) && goodR v st.2.2.1 && (spc ++ [59, 65]).all fun c => okN v St c (nxt a b v st c)
theorem gen59 : Gen 59 := gen_of (by decide) (by decide)
theorem gen65 : Gen 65 := gen_of (by decide) (by decide)
structure Chk2 (a b : Nat) (v : List Nat) (St : List SS) : Prop where
  vn : v ≠ []
  vh : ∀ h ∈ v.head?, h ∈ spc
  cat : catGood (catOf a b) = true
  init : (((false, true), (false, true)), ((false, true), (false, true)), (0, []), d0) ∈ St
  each : ∀ st ∈ St, st.2.2.1.1 ≤ 4 ∧ goodR v st.2.2.1 = true ∧ ∀ c ∈ spc ++ [59, 65], okN v St c (nxt a b v st c) = true
theorem ch_of {a b : Nat} {v : List Nat} {St : List SS} (h : chk a b v St = true) : Chk2 a b v St := by
  unfold chk at h
  simp only [Bool.and_eq_true] at h
  obtain ⟨⟨⟨h1, h2⟩, h3⟩, h4⟩ := h
  refine ⟨?_, ?_, h2, List.contains_iff_mem.mp h3, fun st hst => ?_⟩
  · rintro rfl; cases h1
  · intro x hx
    match v, h1, hx with
    | y :: r, h1, hx =>
      have : y = x := by simpa using hx
      subst this
      exact List.contains_iff_mem.mp h1
  · have := List.all_eq_true.mp h4 st hst
    simp only [Bool.and_eq_true] at this
    exact ⟨of_decide_eq_true this.1.1, this.1.2, fun c hc => List.all_eq_true.mp this.2 c hc⟩
/-- each letter goes as its kind's letter -/
theorem nxt_cls {a b : Nat} {v : List Nat} {St : List SS} (H : Chk2 a b v St) {st : SS} (hst : st ∈ St) {c : Nat} (ok : okD c) : ∃ e, e ∈ spc ++ [59, 65] ∧ nxt a b v st c = nxt a b v st e := by
  by_cases q : c ∈ spc
  · exact ⟨c, List.mem_append_left _ q, rfl⟩
  · have lt : c < 128 := by
      rcases ok with h | h
      · exact h.1
      · exact absurd (by rw [h]; decide) q
    have g : Gen c := ⟨lt, q⟩
    obtain ⟨h1, h2, _⟩ := H.each st hst
    have go : ∀ e, Gen e → decide (64 < c) = decide (64 < e) → nxt a b v st c = nxt a b v st e := fun e ge he => by
      unfold nxt
      rw [st2_gen a b _ g, st2_gen b a _ g, st2_gen a b _ ge, st2_gen b a _ ge, he]
      dsimp only
      have z1 : phi a (phi b c) ∉ spc := (phi_gen (k := a) (phi_gen (k := b) g).1).1.ns
      have z2 : phi a (phi b e) ∉ spc := (phi_gen (k := a) (phi_gen (k := b) ge).1).1.ns
      rw [phi_comm b a c, phi_comm b a e, rel_gen H.vh h2 (by omega) z1, rel_gen H.vh h2 (by omega) z2]
      have hb : hiB c = hiB e := by
        unfold hiB
        have l2 := ge.lt
        rw [Bool.eq_iff_iff, decide_eq_true_eq, decide_eq_true_eq]
        rw [decide_eq_decide] at he
        omega
      rw [dstep_gen H.cat _ g ge hb]
    by_cases hi : 64 < c
    · exact ⟨65, by decide, go 65 gen65 (by rw [decide_eq_true hi]; rfl)⟩
    · exact ⟨59, by decide, go 59 gen59 (by rw [decide_eq_false hi]; rfl)⟩
theorem step_sem {a b : Nat} {v : List Nat} {St : List SS} (H : Chk2 a b v St) {st : SS} (hst : st ∈ St) {x y : List Nat} (hs : SemR v st.2.2.1 x y) {c : Nat} (ok : okD c) :
    SemR v (nxt a b v st c).2.2.1 (x ++ (st2 a b st.1 c).2) (y ++ (st2 b a st.2.1 c).2) ∧
      (((nxt a b v st c).2.2.1.1 = 5 ∧ fnd (nxt a b v st c).2.2.2 = true) ∨ ((nxt a b v st c).2.2.1.1 ≤ 4 ∧ nxt a b v st c ∈ St ∧ (c = 59 → ((nxt a b v st c).2.2.1.1 ≠ 0 ↔ fnd (nxt a b v st c).2.2.2 = true)))) := by
  obtain ⟨e, he, hn⟩ := nxt_cls H hst ok
  have each := (H.each st hst).2.2
  have main : ∀ e ∈ spc ++ [59, 65], nxt a b v st c = nxt a b v st e → ((nxt a b v st c).2.2.1.1 = 5 ∧ fnd (nxt a b v st c).2.2.2 = true) ∨ ((nxt a b v st c).2.2.1.1 ≤ 4 ∧ nxt a b v st c ∈ St ∧ (e = 59 → ((nxt a b v st c).2.2.1.1 ≠ 0 ↔ fnd (nxt a b v st c).2.2.2 = true))) := fun e he hn => by
    have o := each e he
    rw [← hn] at o
    unfold okN at o
    by_cases q : (nxt a b v st c).2.2.1.1 = 5
    · rw [if_pos q] at o; exact .inl ⟨q, o⟩
    · rw [if_neg q] at o
      simp only [Bool.and_eq_true, Bool.or_eq_true] at o
      obtain ⟨⟨o1, o2⟩, o3⟩ := o
      refine .inr ⟨of_decide_eq_true o1, List.contains_iff_mem.mp o2, fun e59 => ?_⟩
      rcases o3 with o3 | o3
      · rw [e59] at o3; simp at o3
      · rw [beq_iff_eq] at o3
        rw [← o3, bne_iff_ne]
  have m := main e he hn
  refine ⟨?_, ?_⟩
  · refine rel_sem H.vn hs _ _ ?_
    have : (nxt a b v st c).2.2.1.1 ≠ 6 := by rcases m with m | m <;> omega
    exact this
  · rcases m with m | m
    · exact .inl m
    · refine .inr ⟨m.1, m.2.1, fun c59 => ?_⟩
      have m2 := main c (by rw [c59]; decide) rfl
      rcases m2 with m2 | m2
      · omega
      · exact m2.2.2 c59
theorem chk_sound {a b : Nat} {v : List Nat} {St : List SS} (H : Chk2 a b v St) : ∀ (s : List Nat), (∀ n ∈ s, okD n) → ∀ (st : SS) (x y : List Nat), st ∈ St → SemR v st.2.2.1 x y →
    (x ++ run2 a b st.1 (s ++ [59]) ≠ y ++ run2 b a st.2.1 (s ++ [59]) ↔ fnd (run1 (catOf a b) (s ++ [59]) st.2.2.2) = true)
  | [], _, st, x, y, hst, hs => by
    obtain ⟨h1, h2⟩ := step_sem H hst hs (c := 59) (.inl (by decide))
    have e1 : run2 a b st.1 ([] ++ [59]) = (st2 a b st.1 59).2 := by simp [run2]
    have e2 : run2 b a st.2.1 ([] ++ [59]) = (st2 b a st.2.1 59).2 := by simp [run2]
    rw [e1, e2, sem_ne H.vn h1]
    show _ ↔ fnd (nxt a b v st 59).2.2.2 = true
    rcases h2 with h2 | h2
    · exact ⟨fun _ => h2.2, fun _ => by omega⟩
    · exact h2.2.2 rfl
  | c :: s, ok, st, x, y, hst, hs => by
    have ok' := fun n hn => ok n (List.mem_cons_of_mem _ hn)
    obtain ⟨h1, h2⟩ := step_sem H hst hs (ok c (by simp))
    show x ++ run2 a b st.1 (c :: (s ++ [59])) ≠ y ++ run2 b a st.2.1 (c :: (s ++ [59])) ↔ fnd (run1 (catOf a b) (c :: (s ++ [59])) st.2.2.2) = true
    rw [run2, run2, run1_cons, ← List.append_assoc, ← List.append_assoc]
    rcases h2 with h2 | h2
    · have ap := h1.2.2.2.2.2.1 h2.1
      exact ⟨fun _ => run1_mono _ _ _ h2.2, fun _ => (ap.app _ _).ne⟩
    · exact chk_sound H s ok' (nxt a b v st c) _ _ h2.2.1 h1
theorem pair_of {a b : Nat} (hab : a < b) (hb : b ≤ 11) {v : List Nat} {St : List SS} (h : chk a b v St = true) {s : List Nat} (ok : ∀ n ∈ s, okD n) (hs : Semi s) : hand2 a (hand2 b s) ≠ hand2 b (hand2 a s) ↔ mn a b s = true := by
  rw [mn_run hab hb ok hs, hand2_2 (by omega) hb, hand2_2 hb (by omega)]
  obtain ⟨s', rfl⟩ := hs
  have H := ch_of h
  have := chk_sound H s' (fun n hn => ok n (List.mem_append_left _ hn)) _ [] [] H.init (sem0 rfl)
  exact this
noncomputable def tbl0 : List Ent := [
  (0, 1, [173], [
    (((false, true), (false, true)), ((false, true), (false, true)), (0, []), (0, false, false, false))]),
  (0, 2, [173], [
    (((false, true), (false, true)), ((false, true), (false, true)), (0, []), (0, false, false, false))]),
  (0, 3, [173], [
    (((false, true), (false, true)), ((false, true), (false, true)), (0, []), (0, false, false, false)),
    (((true, true), (false, true)), ((false, true), (true, true)), (0, []), (0, false, false, false))]),
  (0, 4, [173], [
    (((false, true), (false, true)), ((false, true), (false, true)), (0, []), (0, false, false, false)),
    (((false, false), (false, true)), ((false, true), (false, false)), (0, []), (0, false, false, false)),
    (((true, true), (false, true)), ((false, true), (true, true)), (0, []), (0, false, false, false))]),
  (0, 5, [173], [
    (((false, true), (false, true)), ((false, true), (false, true)), (0, []), (0, false, false, false)),
    (((true, true), (false, true)), ((false, true), (true, true)), (0, []), (0, false, false, false))]),
  (0, 6, [173], [
    (((false, true), (false, true)), ((false, true), (false, true)), (0, []), (0, false, false, false)),
    (((false, false), (false, true)), ((false, true), (false, false)), (0, []), (0, false, false, false))]),
  (0, 7, [173], [
    (((false, true), (false, true)), ((false, true), (false, true)), (0, []), (0, false, false, false))]),
  (0, 8, [173], [
    (((false, true), (false, true)), ((false, true), (false, true)), (0, []), (0, false, false, false))]),
  (0, 9, [173], [
    (((false, true), (false, true)), ((false, true), (false, true)), (0, []), (0, false, false, false))]),
  (0, 10, [173], [
    (((false, true), (false, true)), ((false, true), (false, true)), (0, []), (0, false, false, false))]),
  (0, 11, [173], [
    (((false, true), (false, true)), ((false, true), (false, true)), (0, []), (0, false, false, false))])]
theorem tbl0_ok : (tbl0.all fun e => chk e.1 e.2.1 e.2.2.1 e.2.2.2) = true := by decide +kernel
noncomputable def tbl1 : List Ent := [
  (1, 2, [173], [
    (((false, true), (false, true)), ((false, true), (false, true)), (0, []), (0, false, false, false))]),
  (1, 3, [64], [
    (((false, true), (false, true)), ((false, true), (false, true)), (0, []), (0, false, false, false)),
    (((true, true), (false, true)), ((false, true), (true, true)), (0, []), (1, false, false, false)),
    (((false, true), (false, true)), ((false, true), (true, true)), (0, []), (2, false, false, false)),
    (((false, true), (false, true)), ((false, true), (true, true)), (4, []), (2, false, false, true))]),
  (1, 4, [13, 10], [
    (((false, true), (false, true)), ((false, true), (false, true)), (0, []), (0, false, false, false)),
    (((false, false), (false, true)), ((false, true), (false, false)), (0, []), (1, false, false, false)),
    (((false, true), (false, true)), ((false, true), (false, true)), (0, []), (10, false, false, false)),
    (((true, true), (false, true)), ((false, true), (true, true)), (0, []), (13, false, false, false)),
    (((false, false), (false, true)), ((false, true), (false, true)), (0, []), (0, true, false, false)),
    (((false, false), (false, true)), ((false, true), (false, false)), (0, []), (1, false, true, false)),
    (((false, false), (false, true)), ((false, true), (false, false)), (0, []), (1, true, false, false)),
    (((false, false), (false, true)), ((false, true), (false, true)), (0, []), (10, true, false, false)),
    (((false, false), (false, true)), ((false, true), (true, true)), (0, []), (13, true, false, false)),
    (((false, false), (false, true)), ((false, true), (false, false)), (2, [46]), (1, false, false, true)),
    (((false, true), (false, true)), ((false, true), (false, true)), (3, []), (10, false, false, true)),
    (((false, false), (false, true)), ((false, true), (false, false)), (2, [46]), (1, true, false, true)),
    (((true, true), (false, true)), ((false, true), (true, true)), (3, []), (13, false, false, true)),
    (((false, false), (false, true)), ((false, true), (false, true)), (3, []), (10, true, false, true)),
    (((false, false), (false, true)), ((false, true), (true, true)), (3, []), (13, true, false, true))]),
  (1, 5, [13, 10], [
    (((false, true), (false, true)), ((false, true), (false, true)), (0, []), (0, false, false, false)),
    (((false, true), (false, true)), ((false, true), (false, true)), (0, []), (1, false, false, false)),
    (((false, true), (false, true)), ((false, true), (false, true)), (0, []), (10, false, false, false)),
    (((true, true), (false, true)), ((false, true), (true, true)), (0, []), (13, false, false, false)),
    (((false, true), (false, true)), ((false, true), (false, true)), (0, []), (0, true, false, false)),
    (((false, true), (false, true)), ((false, true), (false, true)), (0, []), (1, false, true, false)),
    (((false, true), (false, true)), ((false, true), (false, true)), (0, []), (1, true, false, false)),
    (((false, true), (false, true)), ((false, true), (false, true)), (0, []), (10, true, false, false)),
    (((false, true), (false, true)), ((false, true), (true, true)), (0, []), (13, true, false, false)),
    (((false, true), (false, true)), ((false, true), (false, true)), (3, []), (10, false, false, true)),
    (((true, true), (false, true)), ((false, true), (true, true)), (3, []), (13, false, false, true)),
    (((false, true), (false, true)), ((false, true), (false, true)), (3, []), (10, true, false, true)),
    (((false, true), (false, true)), ((false, true), (true, true)), (3, []), (13, true, false, true))]),
  (1, 6, [173], [
    (((false, true), (false, true)), ((false, true), (false, true)), (0, []), (0, false, false, false)),
    (((false, false), (false, true)), ((false, true), (false, false)), (0, []), (1, false, false, false)),
    (((false, true), (false, true)), ((false, true), (false, true)), (0, []), (10, false, false, false)),
    (((false, false), (false, true)), ((false, true), (false, false)), (0, []), (13, false, false, false)),
    (((false, false), (false, true)), ((false, true), (false, true)), (0, []), (0, true, false, false)),
    (((false, false), (false, true)), ((false, true), (false, false)), (0, []), (1, false, true, false)),
    (((false, false), (false, true)), ((false, true), (false, false)), (0, []), (1, true, false, false)),
    (((false, false), (false, true)), ((false, true), (false, true)), (0, []), (10, true, false, false)),
    (((false, false), (false, true)), ((false, true), (false, false)), (0, []), (13, true, false, false)),
    (((false, false), (false, true)), ((false, true), (false, false)), (2, [46]), (1, false, false, true)),
    (((false, false), (false, true)), ((false, true), (false, false)), (2, [46]), (1, true, false, true))]),
  (1, 7, [173], [
    (((false, true), (false, true)), ((false, true), (false, true)), (0, []), (0, false, false, false))]),
  (1, 8, [173], [
    (((false, true), (false, true)), ((false, true), (false, true)), (0, []), (0, false, false, false))]),
  (1, 9, [173], [
    (((false, true), (false, true)), ((false, true), (false, true)), (0, []), (0, false, false, false))]),
  (1, 10, [173], [
    (((false, true), (false, true)), ((false, true), (false, true)), (0, []), (0, false, false, false))]),
  (1, 11, [173], [
    (((false, true), (false, true)), ((false, true), (false, true)), (0, []), (0, false, false, false))])]
theorem tbl1_ok : (tbl1.all fun e => chk e.1 e.2.1 e.2.2.1 e.2.2.2) = true := by decide +kernel
noncomputable def tbl2 : List Ent := [
  (2, 3, [64], [
    (((false, true), (false, true)), ((false, true), (false, true)), (0, []), (0, false, false, false)),
    (((true, true), (false, true)), ((false, true), (true, true)), (0, []), (1, false, false, false)),
    (((false, true), (false, true)), ((false, true), (true, true)), (0, []), (2, false, false, false)),
    (((false, true), (false, true)), ((false, true), (true, true)), (4, []), (2, false, false, true))]),
  (2, 4, [13, 10], [
    (((false, true), (false, true)), ((false, true), (false, true)), (0, []), (0, false, false, false)),
    (((false, false), (false, true)), ((false, true), (false, false)), (0, []), (1, false, false, false)),
    (((false, true), (false, true)), ((false, true), (false, true)), (0, []), (10, false, false, false)),
    (((true, true), (false, true)), ((false, true), (true, true)), (0, []), (13, false, false, false)),
    (((false, false), (false, true)), ((false, true), (false, true)), (0, []), (0, true, false, false)),
    (((false, false), (false, true)), ((false, true), (false, false)), (0, []), (1, false, true, false)),
    (((false, false), (false, true)), ((false, true), (false, false)), (0, []), (1, true, false, false)),
    (((false, false), (false, true)), ((false, true), (false, true)), (0, []), (10, true, false, false)),
    (((false, false), (false, true)), ((false, true), (true, true)), (0, []), (13, true, false, false)),
    (((false, false), (false, true)), ((false, true), (false, false)), (2, [46]), (1, false, false, true)),
    (((false, true), (false, true)), ((false, true), (false, true)), (3, []), (10, false, false, true)),
    (((false, false), (false, true)), ((false, true), (false, false)), (2, [46]), (1, true, false, true)),
    (((true, true), (false, true)), ((false, true), (true, true)), (3, []), (13, false, false, true)),
    (((false, false), (false, true)), ((false, true), (false, true)), (3, []), (10, true, false, true)),
    (((false, false), (false, true)), ((false, true), (true, true)), (3, []), (13, true, false, true))]),
  (2, 5, [13, 10], [
    (((false, true), (false, true)), ((false, true), (false, true)), (0, []), (0, false, false, false)),
    (((false, true), (false, true)), ((false, true), (false, true)), (0, []), (1, false, false, false)),
    (((false, true), (false, true)), ((false, true), (false, true)), (0, []), (10, false, false, false)),
    (((true, true), (false, true)), ((false, true), (true, true)), (0, []), (13, false, false, false)),
    (((false, true), (false, true)), ((false, true), (false, true)), (0, []), (0, true, false, false)),
    (((false, true), (false, true)), ((false, true), (false, true)), (0, []), (1, false, true, false)),
    (((false, true), (false, true)), ((false, true), (false, true)), (0, []), (1, true, false, false)),
    (((false, true), (false, true)), ((false, true), (false, true)), (0, []), (10, true, false, false)),
    (((false, true), (false, true)), ((false, true), (true, true)), (0, []), (13, true, false, false)),
    (((false, true), (false, true)), ((false, true), (false, true)), (3, []), (10, false, false, true)),
    (((true, true), (false, true)), ((false, true), (true, true)), (3, []), (13, false, false, true)),
    (((false, true), (false, true)), ((false, true), (false, true)), (3, []), (10, true, false, true)),
    (((false, true), (false, true)), ((false, true), (true, true)), (3, []), (13, true, false, true))]),
  (2, 6, [173], [
    (((false, true), (false, true)), ((false, true), (false, true)), (0, []), (0, false, false, false)),
    (((false, false), (false, true)), ((false, true), (false, false)), (0, []), (1, false, false, false)),
    (((false, true), (false, true)), ((false, true), (false, true)), (0, []), (10, false, false, false)),
    (((false, false), (false, true)), ((false, true), (false, false)), (0, []), (13, false, false, false)),
    (((false, false), (false, true)), ((false, true), (false, true)), (0, []), (0, true, false, false)),
    (((false, false), (false, true)), ((false, true), (false, false)), (0, []), (1, false, true, false)),
    (((false, false), (false, true)), ((false, true), (false, false)), (0, []), (1, true, false, false)),
    (((false, false), (false, true)), ((false, true), (false, true)), (0, []), (10, true, false, false)),
    (((false, false), (false, true)), ((false, true), (false, false)), (0, []), (13, true, false, false)),
    (((false, false), (false, true)), ((false, true), (false, false)), (2, [46]), (1, false, false, true)),
    (((false, false), (false, true)), ((false, true), (false, false)), (2, [46]), (1, true, false, true))]),
  (2, 7, [173], [
    (((false, true), (false, true)), ((false, true), (false, true)), (0, []), (0, false, false, false))]),
  (2, 8, [173], [
    (((false, true), (false, true)), ((false, true), (false, true)), (0, []), (0, false, false, false))]),
  (2, 9, [173], [
    (((false, true), (false, true)), ((false, true), (false, true)), (0, []), (0, false, false, false))]),
  (2, 10, [173], [
    (((false, true), (false, true)), ((false, true), (false, true)), (0, []), (0, false, false, false))]),
  (2, 11, [173], [
    (((false, true), (false, true)), ((false, true), (false, true)), (0, []), (0, false, false, false))])]
theorem tbl2_ok : (tbl2.all fun e => chk e.1 e.2.1 e.2.2.1 e.2.2.2) = true := by decide +kernel
noncomputable def tbl3 : List Ent := [
  (3, 4, [13, 10], [
    (((false, true), (false, true)), ((false, true), (false, true)), (0, []), (0, false, false, false)),
    (((false, false), (false, true)), ((false, true), (false, false)), (0, []), (1, false, false, false)),
    (((false, true), (false, true)), ((false, true), (false, true)), (0, []), (10, false, false, false)),
    (((true, true), (false, true)), ((false, true), (true, true)), (0, []), (13, false, false, false)),
    (((false, false), (false, true)), ((false, true), (false, true)), (0, []), (0, true, false, false)),
    (((false, false), (true, true)), ((true, true), (false, false)), (0, []), (1, false, true, false)),
    (((false, false), (false, true)), ((false, true), (false, false)), (0, []), (1, true, false, false)),
    (((false, false), (false, true)), ((false, true), (false, true)), (0, []), (10, true, false, false)),
    (((false, false), (false, true)), ((false, true), (true, true)), (0, []), (13, true, false, false)),
    (((false, false), (false, true)), ((false, true), (false, false)), (2, [46]), (1, false, false, true)),
    (((false, true), (false, true)), ((false, true), (false, true)), (3, []), (10, false, false, true)),
    (((false, false), (false, true)), ((false, true), (false, false)), (2, [46]), (1, true, false, true)),
    (((true, true), (false, true)), ((false, true), (true, true)), (3, []), (13, false, false, true)),
    (((false, false), (false, true)), ((false, true), (false, true)), (3, []), (10, true, false, true)),
    (((false, false), (false, true)), ((false, true), (true, true)), (3, []), (13, true, false, true))]),
  (3, 5, [13, 10], [
    (((false, true), (false, true)), ((false, true), (false, true)), (0, []), (0, false, false, false)),
    (((false, true), (false, true)), ((false, true), (false, true)), (0, []), (1, false, false, false)),
    (((false, true), (false, true)), ((false, true), (false, true)), (0, []), (10, false, false, false)),
    (((true, true), (false, true)), ((false, true), (true, true)), (0, []), (13, false, false, false)),
    (((false, true), (false, true)), ((false, true), (false, true)), (0, []), (0, true, false, false)),
    (((false, true), (true, true)), ((true, true), (false, true)), (0, []), (1, false, true, false)),
    (((false, true), (false, true)), ((false, true), (false, true)), (0, []), (1, true, false, false)),
    (((false, true), (false, true)), ((false, true), (false, true)), (0, []), (10, true, false, false)),
    (((false, true), (false, true)), ((false, true), (true, true)), (0, []), (13, true, false, false)),
    (((false, true), (false, true)), ((false, true), (false, true)), (3, []), (10, false, false, true)),
    (((true, true), (false, true)), ((false, true), (true, true)), (3, []), (13, false, false, true)),
    (((false, true), (false, true)), ((false, true), (false, true)), (3, []), (10, true, false, true)),
    (((false, true), (false, true)), ((false, true), (true, true)), (3, []), (13, true, false, true))]),
  (3, 6, [173], [
    (((false, true), (false, true)), ((false, true), (false, true)), (0, []), (0, false, false, false)),
    (((false, false), (false, true)), ((false, true), (false, false)), (0, []), (1, false, false, false)),
    (((false, true), (false, true)), ((false, true), (false, true)), (0, []), (10, false, false, false)),
    (((false, false), (false, true)), ((false, true), (false, false)), (0, []), (13, false, false, false)),
    (((false, false), (false, true)), ((false, true), (false, true)), (0, []), (0, true, false, false)),
    (((false, false), (true, true)), ((true, true), (false, false)), (0, []), (1, false, true, false)),
    (((false, false), (false, true)), ((false, true), (false, false)), (0, []), (1, true, false, false)),
    (((false, false), (false, true)), ((false, true), (false, true)), (0, []), (10, true, false, false)),
    (((false, false), (false, true)), ((false, true), (false, false)), (0, []), (13, true, false, false)),
    (((false, false), (false, true)), ((false, true), (false, false)), (2, [46]), (1, false, false, true)),
    (((false, false), (false, true)), ((false, true), (false, false)), (2, [46]), (1, true, false, true))]),
  (3, 7, [173], [
    (((false, true), (false, true)), ((false, true), (false, true)), (0, []), (0, false, false, false)),
    (((false, true), (true, true)), ((true, true), (false, true)), (0, []), (0, false, false, false))]),
  (3, 8, [173], [
    (((false, true), (false, true)), ((false, true), (false, true)), (0, []), (0, false, false, false)),
    (((false, true), (true, true)), ((true, true), (false, true)), (0, []), (0, false, false, false))]),
  (3, 9, [173], [
    (((false, true), (false, true)), ((false, true), (false, true)), (0, []), (0, false, false, false)),
    (((false, true), (true, true)), ((true, true), (false, true)), (0, []), (0, false, false, false))]),
  (3, 10, [173], [
    (((false, true), (false, true)), ((false, true), (false, true)), (0, []), (0, false, false, false)),
    (((false, true), (true, true)), ((true, true), (false, true)), (0, []), (0, false, false, false))]),
  (3, 11, [173], [
    (((false, true), (false, true)), ((false, true), (false, true)), (0, []), (0, false, false, false)),
    (((false, true), (true, true)), ((true, true), (false, true)), (0, []), (0, false, false, false))])]
theorem tbl3_ok : (tbl3.all fun e => chk e.1 e.2.1 e.2.2.1 e.2.2.2) = true := by decide +kernel
noncomputable def tbl4 : List Ent := [
  (4, 5, [173], [
    (((false, true), (false, true)), ((false, true), (false, true)), (0, []), (0, false, false, false)),
    (((false, true), (false, false)), ((false, false), (false, true)), (0, []), (0, false, false, false)),
    (((true, true), (false, true)), ((true, true), (false, true)), (0, []), (0, false, false, false))]),
  (4, 6, [173], [
    (((false, true), (false, true)), ((false, true), (false, true)), (0, []), (0, false, false, false)),
    (((false, false), (false, false)), ((false, false), (false, false)), (0, []), (0, false, false, false)),
    (((false, false), (true, true)), ((true, true), (false, true)), (0, []), (1, false, false, false)),
    (((false, false), (false, false)), ((false, false), (false, false)), (2, [46]), (0, false, false, true))]),
  (4, 7, [173], [
    (((false, true), (false, true)), ((false, true), (false, true)), (0, []), (0, false, false, false)),
    (((false, true), (false, false)), ((false, false), (false, true)), (0, []), (0, false, false, false)),
    (((false, true), (true, true)), ((true, true), (false, true)), (0, []), (0, false, false, false))]),
  (4, 8, [173], [
    (((false, true), (false, true)), ((false, true), (false, true)), (0, []), (0, false, false, false)),
    (((false, true), (false, false)), ((false, false), (false, true)), (0, []), (0, false, false, false)),
    (((false, true), (false, false)), ((true, true), (false, true)), (2, [38, 35, 49, 48, 59]), (0, false, true, false)),
    (((false, true), (false, false)), ((false, true), (false, true)), (0, []), (0, true, false, false)),
    (((false, true), (false, false)), ((false, false), (false, true)), (2, [46]), (0, false, false, true))]),
  (4, 9, [173], [
    (((false, true), (false, true)), ((false, true), (false, true)), (0, []), (0, false, false, false)),
    (((false, true), (false, false)), ((false, false), (false, true)), (0, []), (0, false, false, false)),
    (((false, true), (true, true)), ((true, true), (false, true)), (0, []), (0, false, false, false))]),
  (4, 10, [173], [
    (((false, true), (false, true)), ((false, true), (false, true)), (0, []), (0, false, false, false)),
    (((false, true), (false, false)), ((false, false), (false, true)), (0, []), (0, false, false, false)),
    (((false, true), (false, false)), ((true, true), (false, true)), (2, [10]), (0, false, false, true))]),
  (4, 11, [173], [
    (((false, true), (false, true)), ((false, true), (false, true)), (0, []), (0, false, false, false)),
    (((false, true), (false, false)), ((false, false), (false, true)), (0, []), (0, false, false, false)),
    (((false, true), (false, false)), ((true, true), (false, true)), (2, [38, 35, 120, 65, 59]), (0, false, true, false)),
    (((false, true), (false, false)), ((false, true), (false, true)), (0, []), (0, true, false, false)),
    (((false, true), (false, false)), ((false, false), (false, true)), (2, [46]), (0, false, false, true))])]
theorem tbl4_ok : (tbl4.all fun e => chk e.1 e.2.1 e.2.2.1 e.2.2.2) = true := by decide +kernel
noncomputable def tbl5 : List Ent := [
  (5, 6, [173], [
    (((false, true), (false, true)), ((false, true), (false, true)), (0, []), (0, false, false, false)),
    (((false, false), (false, true)), ((false, true), (false, false)), (0, []), (0, false, false, false)),
    (((false, false), (true, true)), ((true, true), (false, true)), (0, []), (1, false, false, false)),
    (((false, false), (false, true)), ((false, true), (false, false)), (2, [46]), (0, false, false, true))]),
  (5, 7, [173], [
    (((false, true), (false, true)), ((false, true), (false, true)), (0, []), (0, false, false, false)),
    (((false, true), (true, true)), ((true, true), (false, true)), (0, []), (0, false, false, false))]),
  (5, 8, [173], [
    (((false, true), (false, true)), ((false, true), (false, true)), (0, []), (0, false, false, false)),
    (((false, true), (false, true)), ((true, true), (false, true)), (2, [38, 35, 49, 48, 59]), (0, false, true, false)),
    (((false, true), (false, true)), ((false, true), (false, true)), (0, []), (0, true, false, false))]),
  (5, 9, [173], [
    (((false, true), (false, true)), ((false, true), (false, true)), (0, []), (0, false, false, false)),
    (((false, true), (true, true)), ((true, true), (false, true)), (0, []), (0, false, false, false))]),
  (5, 10, [173], [
    (((false, true), (false, true)), ((false, true), (false, true)), (0, []), (0, false, false, false)),
    (((false, true), (false, true)), ((true, true), (false, true)), (2, [10]), (0, false, false, true))]),
  (5, 11, [173], [
    (((false, true), (false, true)), ((false, true), (false, true)), (0, []), (0, false, false, false)),
    (((false, true), (false, true)), ((true, true), (false, true)), (2, [38, 35, 120, 65, 59]), (0, false, true, false)),
    (((false, true), (false, true)), ((false, true), (false, true)), (0, []), (0, true, false, false))])]
theorem tbl5_ok : (tbl5.all fun e => chk e.1 e.2.1 e.2.2.1 e.2.2.2) = true := by decide +kernel
noncomputable def tbl6 : List Ent := [
  (6, 7, [173], [
    (((false, true), (false, true)), ((false, true), (false, true)), (0, []), (0, false, false, false)),
    (((false, true), (false, false)), ((false, false), (false, true)), (0, []), (0, false, false, false))]),
  (6, 8, [173], [
    (((false, true), (false, true)), ((false, true), (false, true)), (0, []), (0, false, false, false)),
    (((false, true), (false, false)), ((false, false), (false, true)), (0, []), (0, false, false, false)),
    (((false, true), (false, false)), ((false, true), (false, true)), (0, []), (0, true, false, false)),
    (((false, true), (false, false)), ((false, false), (false, true)), (0, []), (0, false, true, false)),
    (((false, true), (false, false)), ((false, false), (false, true)), (2, [46]), (0, false, false, true))]),
  (6, 9, [173], [
    (((false, true), (false, true)), ((false, true), (false, true)), (0, []), (0, false, false, false)),
    (((false, true), (false, false)), ((false, false), (false, true)), (0, []), (0, false, false, false))]),
  (6, 10, [173], [
    (((false, true), (false, true)), ((false, true), (false, true)), (0, []), (0, false, false, false)),
    (((false, true), (false, false)), ((false, false), (false, true)), (0, []), (0, false, false, false))]),
  (6, 11, [173], [
    (((false, true), (false, true)), ((false, true), (false, true)), (0, []), (0, false, false, false)),
    (((false, true), (false, false)), ((false, false), (false, true)), (0, []), (0, false, false, false)),
    (((false, true), (false, false)), ((false, true), (false, true)), (0, []), (0, true, false, false)),
    (((false, true), (false, false)), ((false, false), (false, true)), (0, []), (0, false, true, false)),
    (((false, true), (false, false)), ((false, false), (false, true)), (2, [46]), (0, false, false, true))])]
theorem tbl6_ok : (tbl6.all fun e => chk e.1 e.2.1 e.2.2.1 e.2.2.2) = true := by decide +kernel
noncomputable def tbl7 : List Ent := [
  (7, 8, [173], [
    (((false, true), (false, true)), ((false, true), (false, true)), (0, []), (0, false, false, false))]),
  (7, 9, [173], [
    (((false, true), (false, true)), ((false, true), (false, true)), (0, []), (0, false, false, false))]),
  (7, 10, [173], [
    (((false, true), (false, true)), ((false, true), (false, true)), (0, []), (0, false, false, false))]),
  (7, 11, [173], [
    (((false, true), (false, true)), ((false, true), (false, true)), (0, []), (0, false, false, false))])]
theorem tbl7_ok : (tbl7.all fun e => chk e.1 e.2.1 e.2.2.1 e.2.2.2) = true := by decide +kernel
noncomputable def tbl8 : List Ent := [
  (8, 9, [173], [
    (((false, true), (false, true)), ((false, true), (false, true)), (0, []), (0, false, false, false))]),
  (8, 10, [173], [
    (((false, true), (false, true)), ((false, true), (false, true)), (0, []), (0, false, false, false))]),
  (8, 11, [173], [
    (((false, true), (false, true)), ((false, true), (false, true)), (0, []), (0, false, false, false))])]
theorem tbl8_ok : (tbl8.all fun e => chk e.1 e.2.1 e.2.2.1 e.2.2.2) = true := by decide +kernel
noncomputable def tbl9 : List Ent := [
  (9, 10, [173], [
    (((false, true), (false, true)), ((false, true), (false, true)), (0, []), (0, false, false, false))]),
  (9, 11, [173], [
    (((false, true), (false, true)), ((false, true), (false, true)), (0, []), (0, false, false, false))])]
theorem tbl9_ok : (tbl9.all fun e => chk e.1 e.2.1 e.2.2.1 e.2.2.2) = true := by decide +kernel
noncomputable def tbl10 : List Ent := [
  (10, 11, [173], [
    (((false, true), (false, true)), ((false, true), (false, true)), (0, []), (0, false, false, false))])]
theorem tbl10_ok : (tbl10.all fun e => chk e.1 e.2.1 e.2.2.1 e.2.2.2) = true := by decide +kernel
noncomputable def tblAll : List (List Ent) := [tbl0, tbl1, tbl2, tbl3, tbl4, tbl5, tbl6, tbl7, tbl8, tbl9, tbl10]
theorem tbl_has : ((List.range 12).all fun b => (List.range b).all fun a => (tblAll.getD a []).any fun e => e.1 == a && e.2.1 == b) = true := by decide +kernel
theorem tblAll_ok : ∀ a < 11, ((tblAll.getD a []).all fun e => chk e.1 e.2.1 e.2.2.1 e.2.2.2) = true := by
  intro a ha
  match a, ha with
  | 0, _ => exact tbl0_ok
  | 1, _ => exact tbl1_ok
  | 2, _ => exact tbl2_ok
  | 3, _ => exact tbl3_ok
  | 4, _ => exact tbl4_ok
  | 5, _ => exact tbl5_ok
  | 6, _ => exact tbl6_ok
  | 7, _ => exact tbl7_ok
  | 8, _ => exact tbl8_ok
  | 9, _ => exact tbl9_ok
  | 10, _ => exact tbl10_ok
theorem pairs {a b : Nat} (hab : a < b) (hb : b ≤ 11) {s : List Nat} (ok : ∀ n ∈ s, okD n) (h : Semi s) : hand2 a (hand2 b s) ≠ hand2 b (hand2 a s) ↔ mn a b s = true := by
  have h1 := List.all_eq_true.mp (List.all_eq_true.mp tbl_has b (List.mem_range.mpr (by omega))) a (List.mem_range.mpr hab)
  obtain ⟨e, he, q⟩ := List.any_eq_true.mp h1
  have c := List.all_eq_true.mp (tblAll_ok a (by omega)) e he
  rw [Bool.and_eq_true, beq_iff_eq, beq_iff_eq] at q
  rw [q.1, q.2] at c
  exact pair_of hab hb c ok h
end Mine
end
section
open PySem
set_option linter.all false
namespace Mine
theorem es_all {P : Nat → Prop} (h13 : P 13) (h10 : P 10) : ∀ {s : List Nat} {p : Bool}, (∀ n ∈ s, P n) → ∀ n ∈ es p s, P n
  | [], _, _ => by simp [es]
  | c :: r, p, h => by
    intro n hn
    have hr := fun x hx => h x (List.mem_cons_of_mem _ hx)
    rw [es] at hn
    split at hn
    · simp only [List.mem_cons] at hn
      rcases hn with rfl | rfl | hn
      · exact h13
      · exact h10
      · exact es_all h13 h10 hr n hn
    · split at hn
      · split at hn
        · exact es_all h13 h10 hr n hn
        · simp only [List.mem_cons] at hn
          rcases hn with rfl | rfl | hn
          · exact h13
          · exact h10
          · exact es_all h13 h10 hr n hn
      · rcases List.mem_cons.mp hn with rfl | hn
        · exact h _ (by simp)
        · exact es_all h13 h10 hr n hn
theorem pkS_all {P : Nat → Prop} : ∀ {s : List Nat} {b : Bool}, (∀ n ∈ s, P n) → ∀ n ∈ pkS b s, P n
  | [], _, _ => by simp [pkS]
  | c :: r, b, h => by
    intro n hn
    have hr := fun x hx => h x (List.mem_cons_of_mem _ hx)
    rw [pkS] at hn
    split at hn
    · rename_i q
      split at hn
      · rcases List.mem_cons.mp hn with rfl | hn
        · exact q ▸ h c (by simp)
        · exact pkS_all hr n hn
      · exact pkS_all hr n hn
    · rcases List.mem_cons.mp hn with rfl | hn
      · exact h _ (by simp)
      · exact pkS_all hr n hn
theorem nmc_okD (k low : Nat) : ∀ c ∈ nmc k low, okD c := by
  have h : ∀ s ∈ [[97, 109, 112, 59], [108, 116, 59], [103, 116, 59], [113, 117, 111, 116, 59], [35, 49, 51, 59], [35, 49, 48, 59], [35, 48, 57, 59], [35, 120, 68, 59], [35, 120, 65, 59], [35, 120, 57, 59], []], ∀ c ∈ s, (c < 128 ∧ c ≠ 45) ∨ c = 173 := by decide
  exact h _ (nmc_in k low)
theorem hand2_ok {k : Nat} (hk : k ≤ 11) {s : List Nat} (ok : ∀ n ∈ s, okD n) : ∀ n ∈ hand2 k s, okD n := by
  have o13 : okD 13 := .inl (by decide)
  have o10 : okD 10 := .inl (by decide)
  have o46 : okD 46 := .inl (by decide)
  unfold hand2
  by_cases q0 : k = 0
  · rw [if_pos q0]
    intro n hn
    obtain ⟨m, hm, rfl⟩ := List.mem_map.mp hn
    have := ok m hm
    unfold okD lowA at *
    split <;> omega
  rw [if_neg q0]
  by_cases q1 : k = 1
  · rw [if_pos q1]; exact fun n hn => ok n (List.mem_filter.mp hn).1
  rw [if_neg q1]
  by_cases q2 : k = 2
  · rw [if_pos q2]; exact fun n hn => ok n (List.mem_filter.mp hn).1
  rw [if_neg q2]
  by_cases q3 : k = 3
  · rw [if_pos q3]; exact pkS_all ok
  rw [if_neg q3]
  by_cases q4 : k = 4
  · rw [if_pos q4]; exact ds_all o46 (es_all o13 o10 ok)
  rw [if_neg q4]
  by_cases q5 : k = 5
  · rw [if_pos q5]; exact es_all o13 o10 ok
  rw [if_neg q5]
  by_cases q6 : k = 6
  · rw [if_pos q6]; exact ds_all o46 ok
  rw [if_neg q6]
  intro n hn
  obtain ⟨m, hm, hn⟩ := List.mem_flatMap.mp hn
  unfold esc1 at hn
  split at hn
  · rw [List.mem_singleton.mp hn]; exact ok m hm
  · rcases List.mem_cons.mp hn with rfl | hn
    · exact .inl (by decide)
    · exact nmc_okD _ _ n hn
theorem pkS_semi : ∀ (s : List Nat) (b : Bool), Semi (pkS b (s ++ [59]))
  | [], b => ⟨[], by simp [pkS]⟩
  | c :: s, b => by
    obtain ⟨z1, e1⟩ := pkS_semi s b
    obtain ⟨z2, e2⟩ := pkS_semi s (decide (64 < c ∧ c < 128))
    show Semi (pkS b (c :: (s ++ [59])))
    rw [pkS, e1, e2]
    split
    · split
      · exact ⟨64 :: z1, rfl⟩
      · exact ⟨z1, rfl⟩
    · exact ⟨c :: z2, rfl⟩
theorem es_semi : ∀ (s : List Nat) (b : Bool), Semi (es b (s ++ [59]))
  | [], b => ⟨[], by simp [es]⟩
  | c :: s, b => by
    obtain ⟨z1, e1⟩ := es_semi s true
    obtain ⟨z2, e2⟩ := es_semi s false
    show Semi (es b (c :: (s ++ [59])))
    rw [es, e1, e2]
    split
    · exact ⟨13 :: 10 :: z1, rfl⟩
    · split
      · split
        · exact ⟨z2, rfl⟩
        · exact ⟨13 :: 10 :: z2, rfl⟩
      · exact ⟨c :: z2, rfl⟩
theorem ds_semi : ∀ (s : List Nat) (b : Bool), Semi (ds b (s ++ [59]))
  | [], b => ⟨[], by simp [ds]⟩
  | c :: s, b => by
    obtain ⟨z1, e1⟩ := ds_semi s false
    obtain ⟨z2, e2⟩ := ds_semi s (c == 10)
    show Semi (ds b (c :: (s ++ [59])))
    rw [ds, e1, e2]
    split
    · exact ⟨46 :: 46 :: z1, rfl⟩
    · exact ⟨c :: z2, rfl⟩
theorem hand2_semi {k : Nat} (hk : k ≤ 11) {s : List Nat} (h : Semi s) : Semi (hand2 k s) := by
  obtain ⟨s', rfl⟩ := h
  unfold hand2
  by_cases q0 : k = 0
  · rw [if_pos q0]; exact ⟨s'.map lowA, by rw [List.map_append]; rfl⟩
  rw [if_neg q0]
  by_cases q1 : k = 1
  · rw [if_pos q1]; exact ⟨s'.filter (· != 173), by rw [List.filter_append]; rfl⟩
  rw [if_neg q1]
  by_cases q2 : k = 2
  · rw [if_pos q2]; exact ⟨s'.filter (· != 32), by rw [List.filter_append]; rfl⟩
  rw [if_neg q2]
  by_cases q3 : k = 3
  · rw [if_pos q3]; exact pkS_semi s' false
  rw [if_neg q3]
  by_cases q4 : k = 4
  · rw [if_pos q4]
    obtain ⟨z, e⟩ := es_semi s' false
    rw [e]; exact ds_semi z true
  rw [if_neg q4]
  by_cases q5 : k = 5
  · rw [if_pos q5]; exact es_semi s' false
  rw [if_neg q5]
  by_cases q6 : k = 6
  · rw [if_pos q6]; exact ds_semi s' true
  rw [if_neg q6]
  refine ⟨esc (k - 1) s', ?_⟩
  show esc (k - 1) (s' ++ [59]) = _
  have : esc (k - 1) [59] = [59] := by
    show esc1 (k - 1) 59 ++ [] = _
    rw [esc1, if_pos (nmc_gen ⟨by decide, by decide, by decide, by decide, by decide, by decide, by decide⟩)]; rfl
  have app : ∀ a b : List Nat, esc (k - 1) (a ++ b) = esc (k - 1) a ++ esc (k - 1) b := fun a b => by simp [esc]
  rw [app, this]
theorem hand2_len (k : Nat) (s : List Nat) : (hand2 k s).length ≤ 6 * s.length := by
  unfold hand2
  by_cases q0 : k = 0
  · rw [if_pos q0, List.length_map]; omega
  rw [if_neg q0]
  by_cases q1 : k = 1
  · rw [if_pos q1]; have := List.length_filter_le (· != 173) s; omega
  rw [if_neg q1]
  by_cases q2 : k = 2
  · rw [if_pos q2]; have := List.length_filter_le (· != 32) s; omega
  rw [if_neg q2]
  by_cases q3 : k = 3
  · rw [if_pos q3]; have := pkS_len s false; omega
  rw [if_neg q3]
  by_cases q4 : k = 4
  · rw [if_pos q4]; have := ds_len (es false s) true; have := es_len s false; omega
  rw [if_neg q4]
  by_cases q5 : k = 5
  · rw [if_pos q5]; have := es_len s false; omega
  rw [if_neg q5]
  by_cases q6 : k = 6
  · rw [if_pos q6]; have := ds_len s true; omega
  rw [if_neg q6]
  exact esc_len _ s
end Mine
end
section
open PySem PySem.W PyProof.Rows PySem.Calls
set_option Elab.async false
set_option maxRecDepth 100000
set_option linter.all false
namespace Mine
theorem paired_pieces : ∀ {xs zs : List Sc}, Paired (fun _ z => ∃ p : List Nat, z = Sc.str (tx p) ∧ (∀ n ∈ p, okD n) ∧ p.length ≤ 2) xs zs → ∃ l : List (List Nat), zs = l.map (fun x => Sc.str (tx x)) ∧ l.length = xs.length ∧ ∀ p ∈ l, (∀ n ∈ p, okD n) ∧ p.length ≤ 2 := by
  intro xs zs h
  induction h with
  | nil => exact ⟨[], rfl, rfl, by simp⟩
  | cons a _ ih =>
    obtain ⟨p, rfl, h1, h2⟩ := a
    obtain ⟨l, rfl, h3, h4⟩ := ih
    refine ⟨p :: l, rfl, by simp [h3], fun u hu => ?_⟩
    rcases List.mem_cons.mp hu with rfl | hu
    · exact ⟨h1, h2⟩
    · exact h4 u hu
theorem flat_len {l : List (List Nat)} (h : ∀ p ∈ l, p.length ≤ 2) : l.flatten.length ≤ 2 * l.length := by
  induction l with
  | nil => simp
  | cons a l ih =>
    rw [List.flatten_cons, List.length_append, List.length_cons]
    have := h a (by simp)
    have := ih fun p hp => h p (List.mem_cons_of_mem _ hp)
    omega
theorem iL_take (l : List Int) (n : Nat) : (iL l).take n = iL (l.take n) := by simp [iL]
noncomputable def dueL (k : Nat) (s : List Nat) (i : Nat) : List Int := ((List.range i).filter fun o => o != k && mn (min k o) (max k o) s).map fun o : Nat => (o : Int)
theorem dueL_succ (k : Nat) (s : List Nat) (i : Nat) : dueL k s (i + 1) = dueL k s i ++ (if (i != k && mn (min k i) (max k i) s) = true then [(i : Int)] else []) := by
  unfold dueL
  rw [List.range_succ, List.filter_append, List.map_append]
  congr 1
  rw [List.filter_cons, List.filter_nil]
  split <;> rfl
theorem dueL_len (k : Nat) (s : List Nat) (i : Nat) : (dueL k s i).length ≤ i := by
  unfold dueL
  rw [List.length_map]
  exact Nat.le_trans (List.length_filter_le _ _) (by simp)
section
variable {C : Cx} {c : Nat} {f : Fn} {ρ : Lo} {mg mb : Tx → Option Value}
theorem C_law (K : Wk vq C mg mb) (T : Tops C mg) (hx : C.ex = some C.n0) (is : List Int) (hl : is.length ≤ 1000) : Cl0 C (c + 4) mg "law" [.list (iL is)] (· = .sc (.bool true)) := by
  refine cd_of0 K (d := dref 34) (ps := ["script"]) (by kernel_rfl) (by kernel_rfl) (bind1 fun _ _ _ _ => by kernel_rfl) rfl (by kernel_rfl) (by kernel_rfl) fun a cd => ?_
  refine asg <| callD K.toGd (K.df (d := dref 25) (by kernel_rfl)) <| args1 <| nme rfl <| cd_mono (cd_less (C_seeds (c := c) K is hl) (by first | exact Nat.le_refl _ | exact Nat.le_succ _ | exact Nat.add_le_add_left (by decide) _ | omega)) fun x hx => ?_
  obtain ⟨l, rfl, hl9, hlb⟩ := hx
  refine ⟨.inr rfl, ?_⟩
  have szl : (iL l).length ≤ sizeLine := by simp [iL, hl9]; decide
  refine asg <| e_bin <| e_join <| e_str ⟨rfl, args1 <| cmpn (by kernel_rfl) (i_of <| e_slice none (some 8) 0 0 ⟨0, 0, 0, 0⟩ _ (h := nme rfl ⟨iL l, rfl, szl, ?_⟩))⟩
  dsimp only
  rw [iL_take]
  refine ⟨by simp [iL]; exact Nat.le_trans (Nat.min_le_left _ _) (by decide), fun _ => true, fun _ z => ∃ p : List Nat, z = Sc.str (tx p) ∧ (∀ n ∈ p, okD n) ∧ p.length ≤ 2, fun y _ L => rfl, fun y hy _ L => ?_, fun zs hz => ?_⟩
  · obtain ⟨d, hd, rfl⟩ := List.mem_map.mp hy
    have hb := hlb d (List.mem_of_mem_take hd)
    refine callD K.exact.toGd (K.exact.df (d := dref 26) (by kernel_rfl)) <| args1 <| nme rfl <| cd_mono (cd_less (C_piece (c := c) K.exact d hb.1 hb.2) (by first | exact Nat.le_refl _ | exact Nat.le_succ _ | exact Nat.add_le_add_left (by decide) _ | omega)) fun x hx => ?_
    obtain ⟨p, rfl, h1, h2⟩ := hx
    exact ⟨_, rfl, p, rfl, h1, h2⟩
  rw [List.filter_eq_self.mpr (fun _ _ => rfl)] at hz
  obtain ⟨ps, rfl, hr1, hr2⟩ := paired_pieces hz
  have hr8 : ps.length = 8 := by rw [hr1]; simp [iL, hl9]
  have fl := flat_len fun p hp => (hr2 p hp).2
  refine b_joinG (by omega) <| e_str <| o_addS (by rw [tx_len]; show _ + 1 ≤ _; exact small_sz (by omega)) ⟨.inl rfl, ?_⟩
  show S _ _ _ _ (upd _ _ (.sc (.str (tx ps.flatten ++ tx [59])))) _ _
  rw [tx_app]
  have okd : ∀ n ∈ ps.flatten ++ [59], okD n := by
    intro n hn
    rcases List.mem_append.mp hn with hn | hn
    · obtain ⟨p, hp, hn⟩ := List.mem_flatten.mp hn
      exact (hr2 p hp).1 n hn
    · rw [List.mem_singleton.mp hn]; exact .inl (by decide)
  have semi : Semi (ps.flatten ++ [59]) := ⟨_, rfl⟩
  have hlen : (ps.flatten ++ [59]).length ≤ 17 := by rw [List.length_append, List.length_singleton]; omega
  generalize ps.flatten ++ [59] = s at okd semi hlen
  -- the hand
  have k8 : 8 < l.length := by omega
  have hb8 := hlb l[8] (List.getElem_mem k8)
  refine asg <| e_bin <| itm <| nme rfl ⟨_, .inl rfl, szl, e_int ⟨8, .int l[8], rfl, by simp [iL, k8], e_int <| o_mod (by decide) ⟨.inl rfl, ?_⟩⟩⟩
  generalize l[8] = d8 at hb8
  have hk : d8 % 12 = ((d8 % 12).toNat : Nat) := by omega
  have hk11 : (d8 % 12).toNat ≤ 11 := by omega
  rw [hk]
  generalize (d8 % 12).toNat = k at hk hk11
  have dok := hand2_ok hk11 okd
  have dsemi := hand2_semi hk11 semi
  have dlen := hand2_len k s
  refine asg <| callD K.toGd (K.df (d := dref 28) (by kernel_rfl)) <| args2 <| nme rfl <| nme rfl <| cd_mono (C_hand2 (c := c) K T k s hk11 hx semi okd (by first | exact Nat.le_trans hlen (by decide) | exact Int.natCast_nonneg _ | omega)) fun x hx => ⟨by subst hx; exact .inl rfl, ?_⟩
  subst hx
  refine iff <| tcmp <| nme rfl <| callD K.toGd (K.df (d := dref 30) (by kernel_rfl)) <| args2 <| nme rfl <| nme rfl <| cd_mono (cd_less (C_given (c := c) K k hk11 s (by first | exact Nat.le_trans hlen (by decide) | exact Int.natCast_nonneg _ | omega)) (by first | exact Nat.le_refl _ | exact Nat.le_succ _ | exact Nat.add_le_add_left (by decide) _ | omega)) fun x hx => ?_
  subst hx
  refine o_neS ⟨_, rfl, ?_⟩
  rw [if_neg (by simp)]
  refine s_nil <| own <| a_nil ⟨[], rfl, by decide, fun A => own <| a_nil ⟨[], rfl, by decide, fun B => ?_⟩⟩
  refine forS <| rng K.toGd K.no K.bt <| e_int ⟨12, rfl, by decide, by decide, ?_⟩
  refine ⟨fun i ρ => i ≤ 12 ∧ ρ "told" = some (.list (iL (dueL k s i))) ∧ ρ "due" = some (.list (iL (dueL k s i))) ∧ ρ "kind" = some (.sc (.int k)) ∧ ρ "text" = some (.sc (.str (tx s))) ∧ ρ "done" = some (.sc (.str (tx (hand2 k s)))), ⟨by decide, rfl, rfl, rfl, rfl, rfl⟩, ?_, ?_⟩
  · rintro i x ρ hx' ⟨_, e1, e2, e3, e4, e5⟩
    obtain ⟨hi, rfl⟩ := upto_lt hx'
    have hi12 : i < 12 := hi
    have ll := dueL_len k s i
    have lsz : (iL (dueL k s i)).length ≤ sizeLine := by simp only [iL, List.length_map]; exact small_sz (by omega)
    refine iff <| tcmp <| nme rfl <| nme e3 <| o_neI ⟨_, rfl, ifN (i ≠ k) (kNe _ k) (fun q => ?_) fun q => s_nil <| s_nil ?_⟩
    · have key : hand2 i (hand2 k s) ≠ hand2 k (hand2 i s) ↔ mn (min k i) (max k i) s = true := by
        rcases Nat.lt_or_gt_of_ne q with q' | q'
        · rw [Nat.min_eq_right (by omega), Nat.max_eq_left (by omega)]
          exact pairs q' hk11 okd semi
        · rw [Nat.min_eq_left (by omega), Nat.max_eq_right (by omega), ne_comm]
          exact pairs q' (by omega) okd semi
      have iok := hand2_ok (show i ≤ 11 by omega) okd
      have isemi := hand2_semi (show i ≤ 11 by omega) semi
      have ilen := hand2_len i s
      have hsucc : dueL k s (i + 1) = dueL k s i ++ (if mn (min k i) (max k i) s = true then [(i : Int)] else []) := by
        rw [dueL_succ]
        have : (i != k) = true := by simpa using q
        rw [this, Bool.true_and]
      refine meet (fun ρ' => ρ' "told" = some (.list (iL (dueL k s (i + 1)))) ∧ ρ' "due" = some (.list (iL (dueL k s i))) ∧ ρ' "kind" = some (.sc (.int k)) ∧ ρ' "text" = some (.sc (.str (tx s))) ∧ ρ' "done" = some (.sc (.str (tx (hand2 k s)))) ∧ ρ' "other" = some (.sc (.int (i : Nat)))) (tcmp <| callD K.toGd (K.df (d := dref 28) (by kernel_rfl)) <| args2 <| nme rfl <| nme e5 <| cd_mono (C_hand2 (c := c) K T i (hand2 k s) (by omega) hx dsemi dok (by omega)) fun x hx1 => ?_) ?_
      · subst hx1
        refine callD K.toGd (K.df (d := dref 28) (by kernel_rfl)) <| args2 <| nme e3 <| callD K.toGd (K.df (d := dref 28) (by kernel_rfl)) <| args2 <| nme rfl <| nme e4 <| cd_mono (C_hand2 (c := c) K T i s (by omega) hx semi okd (by first | exact Nat.le_trans hlen (by decide) | exact Int.natCast_nonneg _ | omega)) fun x hx2 => ?_
        subst hx2
        refine cd_mono (C_hand2 (c := c) K T k (hand2 i s) hk11 hx isemi iok (by omega)) fun x hx3 => ?_
        subst hx3
        refine o_neS ⟨_, rfl, ifN (mn (min k i) (max k i) s = true) ?_ (fun z => ?_) fun z => s_nil ?_⟩
        · rw [bne_iff_ne, ne_eq, tx_inj, ← key]
        · refine app e1 (.tail _ (.head _)) lsz <| nme rfl ⟨_, rfl, s_nil ⟨?_, e2, e3, e4, e5, rfl⟩⟩
          rw [hsucc, if_pos z]
          show some (PV.list _) = _
          simp [iL]
        · refine ⟨?_, e2, e3, e4, e5, rfl⟩
          rw [hsucc, if_neg z, List.append_nil]; exact e1
      · rintro ρ' ⟨f1, f2, f3, f4, f5, f6⟩
        refine iff <| t_v <| callD K.toGd (K.df (d := dref 33) (by kernel_rfl)) <| argsC <| callB K.toGd K.no K.bt <| args2 <| nme f3 <| nme f6 <| b_min2 <| argsC <| callB K.toGd K.no K.bt <| args2 <| nme f3 <| nme f6 <| b_max2 <| args1 <| nme f4 ?_
        have emin : min ((k : Nat) : Int) ((i : Nat) : Int) = ((min k i : Nat) : Int) := by omega
        have emax : max ((k : Nat) : Int) ((i : Nat) : Int) = ((max k i : Nat) : Int) := by omega
        rw [emin, emax]
        refine cd_mono (cd_less (C_maynot (c := c) K (min k i) (max k i) (by omega) (by omega) s (by first | exact Nat.le_trans hlen (by decide) | exact Int.natCast_nonneg _ | omega)) (by first | exact Nat.le_refl _ | exact Nat.le_succ _ | exact Nat.add_le_add_left (by decide) _ | omega)) fun x hx1 => ⟨_, hx1, ?_⟩
        refine ifN (mn (min k i) (max k i) s = true) .rfl (fun z => ?_) fun z => s_nil <| s_nil <| s_nil ?_
        · refine app f2 (.head _) lsz <| nme f6 ⟨_, rfl, s_nil <| s_nil <| s_nil ⟨hi, f1, ?_, f3, f4, f5⟩⟩
          rw [hsucc, if_pos z]
          show some (PV.list _) = _
          simp [iL]
        · refine ⟨hi, f1, ?_, f3, f4, f5⟩
          rw [hsucc, if_neg z, List.append_nil]; exact f2
    · have hsucc : dueL k s (i + 1) = dueL k s i := by
        rw [dueL_succ]
        have : (i != k) = false := by simpa using q
        rw [this, Bool.false_and, if_neg (by decide), List.append_nil]
      exact ⟨hi, by rw [hsucc]; exact e1, by rw [hsucc]; exact e2, e3, e4, e5⟩
  · rintro ρ ⟨_, e1, e2, _⟩
    refine retS <| cmpR <| nme e1 <| nme e2 <| o_eqL ?_
    show PV.sc (.bool (decide _)) = _
    rw [decide_eq_true rfl]
end
end Mine
end
section
open PySem PySem.W PyProof.Rows
namespace Mine
set_option maxRecDepth 100000

theorem qden_eq : qden = denote table := by unfold qden; rw [← PySem.W.Fast.te11892475500146522536, ← PySem.W.Fast.te14364793385576792824, ← table_eq_tree]
theorem qcalm_eq : qcalm = Thread.calm := PySem.W.Fast.te2348191978395082540.symm
theorem execsQ_eq : execsQ = execs := PySem.W.Fast.te12563942051412417395.symm
theorem behindQ_eq : behindQ = behind := by
  funext a b c d e
  unfold behindQ behind
  rw [execsQ_eq]
  try rfl
theorem opened_eq (w : World) : opened w = (importEnds table (opening pw) w 2000 (start (opening pw)).1 (start (opening pw)).2).bind (fenceModules? pw) := by
  unfold opened startQ
  rw [← PySem.W.Fast.te10274390034422433532, ← PySem.W.Fast.te14364793385576792824, ← PySem.W.Fast.te1435165496053646825, ← PySem.W.Fast.te14289696077712309145, ← table_eq_tree]

theorem stA_spec {w : World} {x : StA} (h : stA w = some x) : opened w = some x.s0 ∧ toT x.s0 = some x.t0 ∧ ev okA qden qcalm pw w.params 400 Γc (pre pw) default x.t0 = some (.ok (x.code, x.frame), x.p1, x.t1) ∧
    ev okA qden qcalm pw w.params 3000 (Γq x.code x.frame x.p1) (do blockStart top (bodyEnv pw x.code x.frame); execsQ (top.take 20) (bodyEnv pw x.code x.frame)) x.p1 x.t1 = some (.ok .next, x.p2, x.t2) ∧
    ev okA qden qcalm pw w.params 100 (Γq x.code x.frame x.p1) (do standAt b3.2.2.2.2; swapsWithSole b3.1 dictE b3.2.2.2.2.line (bodyEnv pw x.code x.frame)) x.p2 x.t2 = some (.ok false, x.p3, x.t3) := by
  unfold stA at h
  obtain ⟨s0, h0, h⟩ := Option.bind_eq_some_iff.mp h
  obtain ⟨t0, h1, h⟩ := Option.bind_eq_some_iff.mp h
  split at h
  · rename_i code frame p1 t1 e1
    split at h
    · rename_i p2 t2 e2
      split at h
      · rename_i p3 t3 e3
        cases h
        exact ⟨h0, h1, e1, e2, e3⟩
      · cases h
    · cases h
  · cases h

theorem toT_go : ∀ (l : List Obj) (T : BT) (n : Nat) (T' : BT) (n' : Nat) (life : Life), l.foldl (fun (x : Option (BT × Nat)) o => match x with
    | some (T, n) => match ((T.ins n o).get n).isSome with
      | true => some (T.ins n o, n + 1)
      | false => none
    | none => none) (some (T, n)) = some (T', n') → (absHeap T' n' life).objs = (absHeap T n life).objs ++ l.toArray
  | [], T, n, T', n', life, h => by cases h; simp
  | o :: l, T, n, T', n', life, h => by
    rw [List.foldl_cons] at h
    dsimp only at h
    cases e : ((T.ins n o).get n).isSome with
    | true =>
      rw [e] at h
      rw [toT_go l _ _ _ _ life h, absHeap_ins e]
      show ((absHeap T n life).objs.push o) ++ _ = _
      simp
    | false =>
      rw [e] at h
      dsimp only at h
      have : ∀ l : List Obj, l.foldl (fun (x : Option (BT × Nat)) o => match x with
        | some (T, n) => match ((T.ins n o).get n).isSome with
          | true => some (T.ins n o, n + 1)
          | false => none
        | none => none) none = none := by
        intro l
        induction l with
        | nil => rfl
        | cons a l ih => rw [List.foldl_cons]; exact ih
      rw [this] at h
      cases h

theorem toT_abs {s : Shared} {t : SharedT} (h : toT s = some t) : t.abs = s := by
  unfold toT at h
  obtain ⟨⟨T, n⟩, h1, h2⟩ := Option.map_eq_some_iff.mp h
  cases h2
  have := toT_go _ _ _ _ _ s.heap.life h1
  have e0 : (absHeap BT.nil 0 s.heap.life).objs = #[] := rfl
  rw [e0] at this
  obtain ⟨⟨objs, life⟩, gens, drawn, toks, os⟩ := s
  have : absHeap T n life = ⟨objs, life⟩ := by
    have z : (absHeap T n life).objs = objs := by rw [this]; simp
    show (⟨(absHeap T n life).objs, life⟩ : Heap) = _
    rw [z]
  show (⟨absHeap T n life, gens, drawn, toks, os⟩ : Shared) = _
  rw [this]

theorem insAll_spec : ∀ (l : List Obj) (T : BT) (n : Nat) (T' : BT) (life : Life), insAll T n l = some T' → (absHeap T' (n + l.length) life).objs = (absHeap T n life).objs ++ l.toArray ∧ ∀ b, b < n → T'.get b = T.get b
  | [], T, n, T', life, h => by cases h; exact ⟨by simp, fun _ _ => rfl⟩
  | o :: l, T, n, T', life, h => by
    unfold insAll at h
    cases e : ((T.ins n o).get n).isSome with
    | true =>
      rw [e] at h
      obtain ⟨a, b⟩ := insAll_spec l _ _ _ life h
      refine ⟨?_, fun x hx => (b x (Nat.lt_succ_of_lt hx)).trans ?_⟩
      · rw [show n + (o :: l).length = n + 1 + l.length by simp; omega, a, absHeap_ins e]
        show ((absHeap T n life).objs.push o) ++ _ = _
        simp
      · rw [BT.get_ins o T n e, if_neg (Nat.ne_of_lt hx)]
    | false => rw [e] at h; cases h

/-- a heap that has grown by k objects, as a tree -/
theorem grown_abs {T T' : BT} {n k : Nat} {life : Life} {h' : Heap} (hs : h'.objs.size = n + k) (hl : h'.life = life) (old : ∀ b : Nat, b < n → h'.objs[b]? = (absHeap T n life).objs[b]?)
    (hi : insAll T n ((List.range k).map fun i => (h'.objs[n + i]?).getD default) = some T') : absHeap T' (n + k) life = h' := by
  have a := (insAll_spec _ _ _ _ life hi).1
  rw [List.length_map, List.length_range] at a
  obtain ⟨objs, lf⟩ := h'
  subst hl
  have z : (absHeap T' (n + k) lf).objs = objs := by
    rw [a]
    apply Array.ext_getElem?
    intro i
    rw [Array.getElem?_append, absHeap_size]
    by_cases hin : i < n
    · rw [if_pos hin, ← old i hin]
    · rw [if_neg hin, List.getElem?_toArray, List.getElem?_map]
      by_cases hk : i - n < k
      · rw [List.getElem?_range hk]
        have : n + (i - n) = i := by omega
        simp only [Option.map_some, this]
        have hlt : i < objs.size := by dsimp only at hs; omega
        rw [Array.getElem?_eq_getElem hlt]; rfl
      · have h1 : (List.range k)[i - n]? = none := List.getElem?_eq_none (by rw [List.length_range]; omega)
        have h2 : objs[i]? = none := Array.getElem?_eq_none (by dsimp only at hs; omega)
        rw [h1, h2]; rfl
  show (⟨(absHeap T' (n + k) lf).objs, lf⟩ : Heap) = _
  rw [z]
end Mine
end
section
open PySem PySem.W PyProof.Rows PySem.Calls
namespace Mine

/-- how the program's top leaves the world -/
structure Beh (p q : Program) (loose : List PySem.Str) (XP : (PySem.Str → Option Value) → Heap → Prop) (w : World) : Prop where
  ex : ∃ s, AfterRun (opening p) w s
  all : ∀ s, AfterRun (opening p) w s → ∃ s₀, fenceModules? p s = some s₀ ∧ s₀.gens = #[] ∧ ∃ s₁, TopRan p w s₀ s₁ ∧ s₁.asleep ∧ s₁.gens = #[] ∧ s₁.heap.isNs mainGlobals = true ∧
    Ground q loose [] XP w s₁ (s₁.heap.nsMap mainGlobals) (s₁.heap.nsMap builtinsNs) s₁.heap

theorem row_holds {r : OpenRow} {q : Program} {loose : List PySem.Str} {XP : (PySem.Str → Option Value) → Heap → Prop} {d : DefRec} {kwd : List (PySem.Str × PySem.Expr)}
    (said : r.wellSaid = true) (hw : r.toRowW.promised) (hb : r.prog.bare) (hrec : r.records = []) (ok : (opensWell r.prog && (frees r.toRowW && r.within.isEmpty)) = true)
    (hdef : defOf q r.name = some (d, kwd)) (hp : r.prog.theDef r.name = some (d.params, d.body, d.scope)) (hk : kwWritten? d.params.kwonlyargs d.params.kw_defaults = some kwd)
    (hXk : ∀ mg h h', XP mg h → (∀ b o, h.get? b = some o → h'.get? b = some o) → XP mg h') (beh : ∀ w, Beh r.prog q loose XP w)
    (walk : ∀ (w : World) (s₀ s₁ : Shared) (mg mb : PySem.Str → Option Value), Ground q loose [] XP w s₀ mg mb s₁.heap → ∀ (args : List WData) (vs : List Value) (as : List Addr),
      r.claim.pre args = true → WData.layableAll args = true → Laid r.records w s₀ s₁ args vs as → sysModules < s₀.heap.objs.size → ∃ f, mg r.name = some f ∧
        wpAny (model r.prog w) callerA (PySem.call f vs) (fun v s' => GoodWG r.claim (classAt s₀.heap) (ExcName.means s₀.heap) args s₁ (.ok (.ret v)) s')
          (fun e s' => GoodWG r.claim (classAt s₀.heap) (ExcName.means s₀.heap) args s₁ (.error e) s') s₁) : r.Holds := by
  obtain ⟨o1, ok⟩ := Bool.and_eq_true_iff.mp ok
  obtain ⟨k1, k2⟩ := Bool.and_eq_true_iff.mp ok
  obtain ⟨hsame, hu, ha, hap, hm⟩ := frees_parts k1
  have hcr : r.toRowW.claim.records = [] := hrec
  have hwi : r.claim.within = [] := List.isEmpty_iff.mp k2
  have hi := ident_freeW hu ha hap
  refine ⟨said, hw, ⟨hb, o1, ?_⟩, hw.witness, fun w => ⟨(beh w).ex, fun s hs => ?_⟩⟩
  · show r.makers.map _ = []
    rw [hm]; rfl
  · obtain ⟨s₀, hf, hg0, s₁, T, hz, hg, hns, G⟩ := (beh w).all s hs
    refine ⟨s₀, hf, hg0, s₁, T, ?_, ?_, ?_, ?_⟩
    · intro n hn
      obtain rfl : n = r.name := by split at hn <;> simp_all
      exact pinned_of_view hns G hdef hp hk
    · intro x hx; rw [hcr] at hx; cases hx
    · intro x hx; rw [hcr] at hx; cases hx
    · refine ClaimW.callFrom_of_specG (c := r.claim) (tree := fun vs => do match ← nsGet mainNs r.name with
        | some f => do ret (← PySem.call f vs)
        | none => unsupported "claim.caller:no-such-global") hz hg fun args hpre hlay ord hord => ?_
      have hG : Ground q loose r.records XP w s₁ (s₁.heap.nsMap mainGlobals) (s₁.heap.nsMap builtinsNs) s₁.heap := by rw [hrec]; exact G
      obtain ⟨⟨vs, s₂⟩, hl⟩ := Option.isSome_iff_exists.mp (layAllW_isSome (P := w.params) (ord := ord) hG.has args r.args s₁ (pre_splitW hpre).1)
      have keeps := layAllW_keeps _ _ _ hl
      have rest := layAllW_rest _ _ _ hl
      obtain ⟨as, hrd, hin, hold⟩ := reads_layAllW hord _ _ _ hl hlay s₂.heap (fun _ _ e => e)
      have L : Laid r.records w s₁ s₂ args vs as := ⟨⟨ord, hord, hl⟩, hrd, hin, hold, keeps, rest.1.trans hg, rest.2.2.1⟩
      have G₂ := G.keeps hXk keeps
      obtain ⟨f, hmg, hwp⟩ := walk w s₁ s₂ _ _ G₂ args vs as hpre hlay L G.low
      have fin : ∀ res s', GoodWG r.claim (classAt s₁.heap) (ExcName.means s₁.heap) args s₂ res s' → r.claim.Ends s₁ args vs s₂ res s' ∧ s'.os = s₁.os ∧ AllBare s'.gens ∧
          (r.writes = true → namesKept r.claim.prog r.keeps s₁.heap s'.heap ∧ ∀ x ∈ r.claim.records, ∀ a, classAt s₁.heap x.1 = some a → recordClass s'.heap a x.1 (x.2.map (·.1)) = true) := fun res s' g => by
        have z := g.laid (c := r.claim) hsame hwi hi L
        exact ⟨z.1, z.2.1, z.2.2, fun _ => ⟨namesKept_of T hns r.keeps keeps g.2.1.old, fun x hx => by rw [hcr] at hx; cases hx⟩⟩
      refine ⟨vs, s₂, hl, wpAny_bind (wpAny_nsGet G₂.T.g ?_)⟩
      rw [hmg]
      exact wpAny_bind (wpAny_mono hwp (fun v s' g => wpAny_pure ⟨_, rfl, fin _ _ g⟩) fun e s' g => fin _ _ g)
end Mine
end
section
open PySem PySem.W PyProof.Rows
namespace Mine
set_option maxRecDepth 100000
noncomputable def seenQ := @PySem.W.Fast.tw4187177175401517315

noncomputable def rawV (l : List Int) : Array Value := (l.map fun i => Value.int i 0).toArray
noncomputable def tupO (l : List Int) : Obj := ⟨.type "tuple", none, .seq (rawV l) 0, #[]⟩
noncomputable def dotW : List Int := [14, 4, 0, 1, 1, 6, 1, 16, 46, 1]
noncomputable def eolW : List Int := [14, 9, 4, 1, 2, 16, 10, 16, 13, 0, 7, 7, 16, 13, 16, 10, 15, 18, 5, 16, 10, 15, 13, 11, 16, 13, 5, 5, 0, 16, 10, 1, 15, 2, 0, 1]
noncomputable def pat1 : Obj := ⟨.type "re.Pattern", none, .fields #[.str ⟨#[40, 63, 109, 41, 94, 92, 46]⟩ 340, .int 40 353, .int 0 0, .none, .none, .ref 84, .int 0 0], #[]⟩
noncomputable def pat2 : Obj := ⟨.type "re.Pattern", none, .fields #[.bytes #[40, 63, 109, 41, 94, 92, 46] 356, .int 8 369, .int 0 0, .none, .none, .ref 89, .int 1 0], #[]⟩
noncomputable def pat3 : Obj := ⟨.type "re.Pattern", none, .fields #[.str ⟨#[40, 63, 58, 92, 114, 92, 110, 124, 92, 110, 124, 92, 114, 40, 63, 33, 92, 110, 41, 41]⟩ 372, .int 32 411, .int 0 0, .none, .none, .ref 94, .int 0 0], #[]⟩
noncomputable def b1es (t : Nat) : List (Int × Value) := [(65024, 16), (65025, 17), (65026, 18), (65027, 19), (65028, 20), (65029, 21), (6150, 2), (65030, 22), (65031, 23), (65032, 24), (65033, 25), (6155, 3), (6156, 4), (6157, 5), (8203, 6), (8204, 7), (8205, 8), (65034, 26), (65035, 27),
  (65036, 28), (65037, 29), (65038, 30), (65039, 31), (173, 0), (847, 1), (8288, 9), (65279, 10)].map fun (x : Int × Nat) => (x.1, Value.int x.1 (t + x.2))
noncomputable def setO (t : Nat) (led : Bool) : Obj := ⟨.type "set", none, .set (b1es t).toArray 29 { mask := 127, place := #[0, 1, 2, 3, 4, 5, 6, 7, 8, 9, 10, 11, 12, 13, 14, 15, 16, 17, 18, 19, 20, 21, 22, 45, 79, 96, 127], dummies := #[], finger := 0, led := led, moves := 2, plain := true }, #[]⟩
noncomputable def names5 : List PySem.Str := ["_twin_re_1", "_twin_re_2", "_twin_re_3", "b1_set", "b3_exceptions"]
noncomputable def looks (x : StA) (s : SharedT) :=
  ((staticsOk modsq x.s0.heap s.abs.heap && namesBound pw s.abs.heap && gensDone s.abs && laidKept x.s0.heap s.abs.heap && (x.s0.gens.size == 0) && Nat.beq x.t0.n 28 && Nat.beq x.t3.n 135 && x.s0.heap.isNs mainGlobals && Nat.ble 248 s.n),
   seenQ vq lsq modsq (fun _ => true) true s.abs,
   names5.map (s.abs.heap.nsMap mainGlobals),
   [84, 85, 89, 90, 94, 95, 124].map s.tree.get, s.tree.get 135)
noncomputable def expect (w : World) (g : Nat → Obj) :=
  (true, openGood vq lsq,
   [some (Value.ref 85), some (.ref 90), some (.ref 95), some (.ref 124), some (.ref 135)],
   [some (tupO dotW), some pat1, some (tupO dotW), some pat2, some (tupO eolW), some pat3, some (setO 438 (!(w.params.followText "set-order")))], some (g 0))
theorem kernT (w : World) (g : Nat → Obj) (tk : Nat) (p : Pos) : (both (rW w true) g tk p).map (fun (x, s) => looks x s) = some (expect (rW w true) g) := by kernel_rfl
theorem kernF (w : World) (g : Nat → Obj) (tk : Nat) (p : Pos) : (both (rW w false) g tk p).map (fun (x, s) => looks x s) = some (expect (rW w false) g) := by kernel_rfl
theorem kern (w : World) (g : Nat → Obj) (tk : Nat) (p : Pos) : ∃ x s, stA w = some x ∧ stB w g tk p x = some s ∧ looks x s = expect w g := by
  have h : (both w g tk p).map (fun (x, s) => looks x s) = some (expect w g) := by
    have e : rW w (w.params.followText "special-get-raises") = w := World.withFollow_self w _
    cases hb : w.params.followText "special-get-raises" <;> rw [hb] at e
    · have := kernF w g tk p; rwa [e] at this
    · have := kernT w g tk p; rwa [e] at this
  obtain ⟨⟨x, s⟩, h1, h2⟩ := Option.map_eq_some_iff.mp h
  obtain ⟨y, h3, h4⟩ := Option.bind_eq_some_iff.mp h1
  obtain ⟨z, h5, h6⟩ := Option.map_eq_some_iff.mp h4
  cases h6
  exact ⟨x, s, h3, h5, h2⟩
theorem top_split : behindTheImports pw = top.take 20 ++ .Assign b3.1 (.Dict b3.2.1 b3.2.2.1 b3.2.2.2.1) b3.2.2.2.2 :: top.drop 21 := by kernel_rfl
theorem kv_good : goodKV 181 b3.2.1 b3.2.2.1 = true := by kernel_rfl
theorem kv_len : b3.2.1.length = 650 := by kernel_rfl
end Mine
end
section
open PySem PySem.W PyProof.Rows
namespace Mine

/-- the own facts of the top's heap -/
structure XQ (mg : PySem.Str → Option Value) (h : Heap) : Prop where
  m1 : mg "_twin_re_1" = some (.ref 85)
  m2 : mg "_twin_re_2" = some (.ref 90)
  m3 : mg "_twin_re_3" = some (.ref 95)
  mb1 : mg "b1_set" = some (.ref 124)
  mb3 : mg "b3_exceptions" = some (.ref 135)
  o35 : h.get? 84 = some (tupO dotW)
  o36 : h.get? 85 = some pat1
  o40 : h.get? 89 = some (tupO dotW)
  o41 : h.get? 90 = some pat2
  o45 : h.get? 94 = some (tupO eolW)
  o46 : h.get? 95 = some pat3
  o82 : ∃ t led, h.get? 124 = some (setO t led)
  o93 : DD 181 h 135 650
theorem XQ.keeps (mg : PySem.Str → Option Value) (h h' : Heap) (x : XQ mg h) (k : ∀ b o, h.get? b = some o → h'.get? b = some o) : XQ mg h' := by
  obtain ⟨m1, m2, m3, mb1, mb3, o35, o36, o40, o41, o45, o46, ⟨t, led, o82⟩, ⟨o, es, ep, q, r⟩⟩ := x
  exact ⟨m1, m2, m3, mb1, mb3, k _ _ o35, k _ _ o36, k _ _ o40, k _ _ o41, k _ _ o45, k _ _ o46, ⟨t, led, k _ _ o82⟩, ⟨o, es, ep, k _ _ q, r⟩⟩

theorem sm_get {s s' : SharedT} (m : Sm okA s s') {b : Nat} (h1 : b ≠ mainNs) (h2 : b ≠ cStatics) (hb : b < s.n) (h28 : b < 28) : s'.tree.get b = s.tree.get b := by
  refine m.tree b ?_ hb
  unfold okA
  have a1 : (b == mainNs) = false := beq_eq_false_iff_ne.mpr h1
  have a2 : (b == cStatics) = false := beq_eq_false_iff_ne.mpr h2
  have a3 : Nat.ble 28 b = false := by
    cases q : Nat.ble 28 b with
    | false => rfl
    | true => exact absurd (Nat.le_of_ble_eq_true q) (by omega)
  show (b == mainNs || b == cStatics || Nat.ble 28 b) = false
  rw [a1, a2, a3]; rfl

theorem abs_get' {s : SharedT} {a : Nat} {o : Obj} (hn : 248 ≤ s.n) (ha : a < 248) (h : s.tree.get a = some o) : s.abs.heap.get? a = alive o := abs_get (Nat.lt_of_lt_of_le ha hn) h

/-- how the top ends, from any world -/
structure TopEnd (w : World) (s0 s' : Shared) : Prop where
  gens : s'.gens = #[]
  os : s'.os = s0.os
  old : ∀ b o, s0.heap.get? b = some o → b ≠ mainNs → b ≠ cStatics → s'.heap.get? b = some o
  fin : ∃ x g sF, x.s0 = s0 ∧ s' = sF.abs ∧ looks x sF = expect w g ∧ (∃ o, g 0 = o ∧ alive o = some o ∧ ∃ es ep, o.ExactDict ∧ o.data = .dict es ep ∧ es.size ≤ 650 ∧ ∀ e ∈ es, ∃ k t, e.key = .int k t ∧ e.hash = hashInt k ∧ 181 ≤ k)

theorem top_end (w : World) : ∃ s0, opened w = some s0 ∧ ∃ x, stA w = some x ∧ x.s0 = s0 ∧ (s0.asleep → ∃ s', TopEnd w s0 s' ∧ s'.heap.life = s0.heap.life ∧ ∃ n t', schedN (denote table) pw w n (.single s0 (topStub pw)) = .running (.single s' t') ∧ through t' = true) := by
  obtain ⟨x, sF0, hx, _, lk⟩ := kern w (fun _ => default) 0 default
  obtain ⟨h0, h1, e1, e2, e3⟩ := stA_spec hx
  refine ⟨x.s0, h0, x, hx, rfl, fun hz => ?_⟩
  have ab := toT_abs h1
  have l1 := congrArg Prod.fst lk
  change (_ && _) = true at l1
  simp only [Bool.and_eq_true] at l1
  obtain ⟨⟨⟨⟨⟨_, hg0⟩, n0⟩, n3⟩, _⟩, _⟩ := l1
  have n0 : x.t0.n = 28 := Nat.eq_of_beq_eq_true n0
  have n3 : x.t3.n = 135 := Nat.eq_of_beq_eq_true n3
  have g0 : x.s0.gens = #[] := Array.eq_empty_of_size_eq_zero (beq_iff_eq.mp hg0)
  have m1 := ev_same _ _ _ _ _ _ _ _ e1
  have m2 := ev_same _ _ _ _ _ _ _ _ e2
  have m3 := ev_same _ _ _ _ _ _ _ _ e3
  have m13 := (m1.trans m2).trans m3
  have gt : x.t3.gens = #[] := m13.gens.trans ((congrArg Shared.gens ab).trans g0)
  rw [qden_eq, qcalm_eq] at e1 e2 e3
  rw [execsQ_eq] at e2
  have ex := top_ran (pr := pw) (w := w) (ok := okA) (cm := Thread.calm) calms (R := TopEnd w x.s0) (l1 := top.take 20) (l2 := top.drop 21) (targets := b3.1) (keys := b3.2.1) (values := b3.2.2.1) (dpos := b3.2.2.2.1) (apos := b3.2.2.2.2) (lo := 181)
    (t0 := x.t0) (by rw [ab]; exact hz) (fun s' r => r.gens) e1 top_split e2 e3 kv_good (by intro z; have := kv_len; rw [z] at this; cases this) (by rw [kv_len]; decide) (by rw [n3]; decide) ?_
  · rw [ab] at ex; exact ex
  · intro h' tk p sz lf old D ht
    rw [kv_len] at sz D
    rw [n3] at sz old D
    have hT : ∃ T', insAll x.t3.tree x.t3.n ((List.range 39).map fun i => (h'.objs[135 + i]?).getD default) = some T' ∧ ∃ q sF, ev okA qden qcalm pw w.params 3000 (Γq x.code x.frame x.p1) (behindQ b3.1 dictE (top.drop 21) (bodyEnv pw x.code x.frame) (.ref x.t3.n)) p
        ⟨T', x.t3.n + 39, x.t3.life, x.t3.gens, x.t3.drawn, tk, x.t3.os⟩ = some (.ok .next, q, sF) ∧ looks x sF = expect w (fun i => (h'.objs[135 + i]?).getD default) := by
      obtain ⟨y, sF, hy, hB, lk⟩ := kern w (fun i => (h'.objs[135 + i]?).getD default) tk p
      obtain rfl : x = y := Option.some.inj (hx.symm.trans hy)
      unfold stB at hB
      obtain ⟨T', hi, hB⟩ := Option.bind_eq_some_iff.mp hB
      split at hB
      · rename_i q s he
        cases hB
        exact ⟨T', hi, q, _, he, lk⟩
      · cases hB
    obtain ⟨T', hi, q, sF, he, lk⟩ := hT
    have ms := ev_same _ _ _ _ _ _ _ _ he
    have spec := insAll_spec _ _ _ _ x.t3.life hi
    have hh : absHeap T' (135 + 39) x.t3.life = h' := grown_abs sz lf (fun b hb => by rw [old b hb]; show (absHeap x.t3.tree x.t3.n x.t3.life).objs[b]? = _; rw [n3]) (by rw [← n3]; simpa only [n3] using hi)
    have he' := he
    rw [qden_eq, qcalm_eq, behindQ_eq, n3] at he
    have wp := ev_wp (M := model pw w) calms _ _ _ _ _ _ _ _ he
    have hst : (SharedT.abs ⟨T', 135 + 39, x.t3.life, x.t3.gens, x.t3.drawn, tk, x.t3.os⟩ : Shared) = { x.t3.abs with heap := h', toks := tk } := by
      show (⟨absHeap T' (135 + 39) x.t3.life, x.t3.gens, x.t3.drawn, tk, x.t3.os⟩ : Shared) = ⟨h', x.t3.gens, x.t3.drawn, tk, x.t3.os⟩
      rw [hh]
    rw [hst] at wp
    rw [n3]
    refine Sem.wp_mono _ _ _ (fun f q' y hy => ?_) (fun _ _ _ z => by cases z.1) _ _ wp
    obtain ⟨ef, _, rfl⟩ := hy
    cases ef
    refine ⟨rfl, ⟨ms.gens.trans gt, ms.os.trans (m13.os.trans (congrArg Shared.os ab)), fun b o hb b1 b2 => ?_, x, _, sF, rfl, rfl, lk, ?_⟩⟩
    · have key : ∀ b : Nat, b < 28 → b ≠ mainNs → b ≠ cStatics → (absHeap sF.tree sF.n sF.life).objs[b]? = (absHeap x.t0.tree x.t0.n x.t0.life).objs[b]? := by
        intro b hb28 b1 b2
        have t3 : x.t3.tree.get b = x.t0.tree.get b := sm_get m13 b1 b2 (by omega) hb28
        have tT : T'.get b = x.t3.tree.get b := spec.2 b (by omega)
        have tF : sF.tree.get b = T'.get b := by
          refine ms.tree b ?_ (by show b < x.t3.n + 39; omega)
          unfold okA
          have a1 : (b == mainNs) = false := beq_eq_false_iff_ne.mpr b1
          have a2 : (b == cStatics) = false := beq_eq_false_iff_ne.mpr b2
          have a3 : Nat.ble 28 b = false := by
            cases q : Nat.ble 28 b with
            | false => rfl
            | true => exact absurd (Nat.le_of_ble_eq_true q) (by omega)
          show (b == mainNs || b == cStatics || Nat.ble 28 b) = false
          rw [a1, a2, a3]; rfl
        have hn : x.t3.n + 39 ≤ sF.n := ms.n
        rw [absHeap_at, absHeap_at, if_pos (by omega), if_pos (by omega), tF, tT, t3]
      rw [← ab] at hb
      exact (get_congr (key b (by rw [← n0]; exact Nat.lt_of_lt_of_eq (Heap.lt_size hb) (absHeap_size ..)) b1 b2)).trans hb
    · obtain ⟨o, es, ep, ho, hc, hd, hs, hk⟩ := D
      have : (h'.objs[(135 : Nat)]?).getD default = o := by
        obtain ⟨e, _⟩ := Heap.get?_some_iff.mp ho
        have e' : h'.objs[(135 : Nat)]? = some o := e
        rw [e']; rfl
      refine ⟨o, this, ?_, es, ep, hc, hd, hs, hk⟩
      obtain ⟨c, d, dt, sl⟩ := o
      cases hd
      rfl
end Mine
end
section
open PySem PySem.W PyProof.Rows
namespace Mine

theorem list5 {a b c d e a' b' c' d' e' : α} (h : [a, b, c, d, e] = [a', b', c', d', e']) : a = a' ∧ b = b' ∧ c = c' ∧ d = d' ∧ e = e' := by
  simpa using h
theorem list7 {a b c d e f g a' b' c' d' e' f' g' : α} (h : [a, b, c, d, e, f, g] = [a', b', c', d', e', f', g']) : a = a' ∧ b = b' ∧ c = c' ∧ d = d' ∧ e = e' ∧ f = f' ∧ g = g' := by
  simpa using h
theorem chains_vq : chainsOk vq = true := by kernel_rfl

theorem beh (w : World) : Beh pw vq lsq XQ w := by
  obtain ⟨s0, ho, _, _, _, run⟩ := top_end w
  rw [opened_eq] at ho
  obtain ⟨s, hi, hf⟩ := Option.bind_eq_some_iff.mp ho
  have A : AfterRun (opening pw) w s := AfterImport.of_importEnds hi
  refine ⟨⟨s, A⟩, fun s' hs' => ?_⟩
  obtain rfl : s' = s := AfterImport.unique hs' A
  have hz : s0.asleep := Shared.asleep_of_life (fence_lifeW hf) (AfterImport.life A)
  obtain ⟨s1, ⟨hg, hos, old, x, g, sF, hx0, rfl, lk, o93, e93, al93, es, ep, c93, d93, z93, k93⟩, hl, ran⟩ := run hz
  have l1 := congrArg Prod.fst lk
  change (_ && _) = true at l1
  simp only [Bool.and_eq_true] at l1
  obtain ⟨⟨⟨⟨⟨⟨⟨⟨hst, hnb⟩, hgd⟩, hlk⟩, hg0⟩, _⟩, _⟩, hns0⟩, hn⟩ := l1
  have hn : 248 ≤ sF.n := Nat.le_of_ble_eq_true hn
  subst hx0
  have g0 : x.s0.gens = #[] := Array.eq_empty_of_size_eq_zero (beq_iff_eq.mp hg0)
  have l2 : seenQ vq lsq modsq (fun _ => true) true sF.abs = openGood vq lsq := congrArg (fun z => z.2.1) lk
  unfold seenQ at l2
  rw [← PySem.W.Fast.te4187177175401517315] at l2
  obtain ⟨G, _, q1, q2, q3, q4, q5⟩ := ground_of_open (w := w) (XP := fun _ _ => True) (fun _ _ => trivial) chains_vq l2
  have l3 : names5.map (sF.abs.heap.nsMap mainGlobals) = [some (Value.ref 85), some (.ref 90), some (.ref 95), some (.ref 124), some (.ref 135)] := congrArg (fun z => z.2.2.1) lk
  obtain ⟨a1, a2, a3, a4, a5⟩ := list5 (show [_, _, _, _, _] = _ from l3)
  have l4 : [84, 85, 89, 90, 94, 95, 124].map sF.tree.get = [some (tupO dotW), some pat1, some (tupO dotW), some pat2, some (tupO eolW), some pat3, some (setO 438 (!(w.params.followText "set-order")))] := congrArg (fun z => z.2.2.2.1) lk
  obtain ⟨b1, b2, b3, b4, b5, b6, b7⟩ := list7 (show [_, _, _, _, _, _, _] = _ from l4)
  have l5 : sF.tree.get 135 = some (g 0) := congrArg (fun z => z.2.2.2.2) lk
  have X : XQ (sF.abs.heap.nsMap mainGlobals) sF.abs.heap := ⟨a1, a2, a3, a4, a5, abs_get' hn (by decide) b1, abs_get' hn (by decide) b2, abs_get' hn (by decide) b3, abs_get' hn (by decide) b4, abs_get' hn (by decide) b5, abs_get' hn (by decide) b6,
    ⟨_, _, abs_get' hn (by decide) b7⟩, ⟨o93, es, ep, (abs_get' hn (by decide) (l5.trans (congrArg some e93))).trans al93, c93, d93, z93, k93⟩⟩
  refine ⟨x.s0, hf, g0, sF.abs, ⟨ran, hl, Shared.rest_eq hos, ?_, q2, statics_of_ok hst, q3, q4, q5, gens_of_done hgd, names_of_bound hnb, laid_of_kept hlk⟩, Shared.asleep_of_life hl hz, hg, q1,
    ⟨G.T, G.B, G.D, G.TE, G.TD, G.W, X, G.cls, G.has, G.apart, G.once, G.K⟩⟩
  intro b o hb hn
  exact old b o hb (fun q => hn (.inl q)) (fun q => hn (.inr (.inl q)))
end Mine
end
section
open PySem PySem.W PyProof.Rows PySem.Builtin PySem.Builtin.Re
set_option Elab.async false
set_option maxRecDepth 100000
namespace Mine
theorem live_top (h : Heap) : ∃ n0, (∀ b o, h.get? b = some o → b < n0) ∧ (n0 = 0 ∨ ∃ o, h.get? (n0 - 1) = some o) := by
  have key : ∀ n : Nat, (∀ b o, h.get? b = some o → b < n) → ∃ n0, (∀ b o, h.get? b = some o → b < n0) ∧ (n0 = 0 ∨ ∃ o, h.get? (n0 - 1) = some o) := by
    intro n
    induction n with
    | zero => exact fun H => ⟨0, H, .inl rfl⟩
    | succ n ih =>
      intro H
      cases q : h.get? n with
      | some o => exact ⟨n + 1, H, .inr ⟨o, q⟩⟩
      | none =>
        refine ih fun b o e => ?_
        have h1 := H b o e
        have h2 : b ≠ n := by rintro rfl; rw [q] at e; cases e
        exact Nat.lt_of_le_of_ne (Nat.le_of_lt_succ h1) h2
  exact key h.objs.size fun b o e => Heap.lt_size e
/-- the walk's surroundings: all objects that stand at the call stay as they are -/
noncomputable def cx (p : Program) (w : World) (h0 : Heap) (n0 : Nat) (h1 : ∀ b o, h0.get? b = some o → b < n0) (h2 : n0 = 0 ∨ ∃ o, h0.get? (n0 - 1) = some o) : Cx where
  prog := p
  w := w
  n0 := n0
  W := fun h => ∀ b o, h0.get? b = some o → h.get? b = some o
  nw := fun a => n0 ≤ a
  nwle := fun _ h => h
  stab := fun h h' Y W k hY b o e => by
    have hb := h1 b o e
    obtain ⟨o', e', s⟩ := k.old b o (fun m => absurd (hY b m) (Nat.not_le.mpr hb)) (W b o e)
    rcases s with rfl | ⟨⟨n, q, z⟩, _⟩
    · exact e'
    · cases q; exact absurd z (Nat.not_le.mpr hb)
  low := fun h W => by
    rcases h2 with rfl | ⟨o, e⟩
    · exact Nat.zero_le _
    · have := Heap.lt_size (W _ _ e)
      exact Nat.le_of_pred_lt this
  ex := some n0
  hex := .inr rfl
theorem nodefs : wdefsOf vq = [] := by kernel_rfl
theorem free_ok : (freeN.all fun x => !startupNames.contains x && !(looseW vq lsq).contains x && !((recsOf vq).map (·.name)).contains x && !((litsOf vq).map (·.1)).contains x && !((clssOf vq (looseW vq lsq)).map (·.name)).contains x) = true := by kernel_rfl
theorem crlf_ok : valOf vq "CRLF" = some (.str "\r\n") := by kernel_rfl
noncomputable def b1P : List (Int × Nat) := [(65024, 16), (65025, 17), (65026, 18), (65027, 19), (65028, 20), (65029, 21), (6150, 2), (65030, 22), (65031, 23), (65032, 24), (65033, 25), (6155, 3), (6156, 4), (6157, 5), (8203, 6), (8204, 7), (8205, 8), (65034, 26), (65035, 27),
  (65036, 28), (65037, 29), (65038, 30), (65039, 31), (173, 0), (847, 1), (8288, 9), (65279, 10)]
theorem b1P_ok : (b1P.all fun x => hashInt x.1 == x.1) = true := by decide +kernel
theorem b1P_fst : b1P.map (·.1) = b1L := by decide +kernel
theorem set_of {prog : Program} {w : World} {h : Heap} {a : Addr} {t : Nat} {led : Bool} (e : h.get? a = some (setO t led)) : h.SetOf (intKind prog w) a (fun i => b1L.contains i) 27 := by
  have e0 : b1es t = b1P.map fun (x : Int × Nat) => (x.1, Value.int x.1 (t + x.2)) := rfl
  refine ⟨_, _, _, _, e, ⟨rfl, rfl, rfl⟩, rfl, ?_, ?_, by show 27 < 4096; decide, by rfl, rfl⟩
  · intro x hx
    rw [List.toList_toArray, e0] at hx
    obtain ⟨y, hy, rfl⟩ := List.mem_map.mp hx
    refine ⟨⟨y.1, by simp [intKind, Value.isInt], ?_⟩, rfl⟩
    exact (beq_iff_eq.mp (List.all_eq_true.mp b1P_ok y hy)).symm
  · intro k
    rw [List.contains_iff_mem, ← b1P_fst, List.mem_map, List.toList_toArray, e0]
    constructor
    · rintro ⟨y, hy, rfl⟩
      exact ⟨_, List.mem_map.mpr ⟨y, hy, rfl⟩, by simp [intKind, Value.isInt]⟩
    · rintro ⟨x, hx, q⟩
      obtain ⟨y, hy, rfl⟩ := List.mem_map.mp hx
      exact ⟨y, hy, by simpa [intKind, Value.isInt] using q⟩
theorem dw_of {h : Heap} {a : Addr} {n : Nat} (d : DD 181 h a n) : DW h a := by
  obtain ⟨o, es, ep, h1, ⟨h2, h3, _⟩, h4, _, h5⟩ := d
  refine ⟨⟨o, h1, h2, h3⟩, fun k => findBy Value.isInt es k, ⟨o, es, ep, h1, h2, h4, fun e he => let ⟨k, t, q1, q2, _⟩ := h5 e he; ⟨k, t, q1, q2⟩, fun _ => rfl⟩, fun i hi => ?_⟩
  show (es.find? fun e => Value.isInt i e.key).map (·.val) = none
  rw [Option.map_eq_none_iff, Array.find?_eq_none]
  intro e he
  obtain ⟨k, t, q1, _, q3⟩ := h5 e he
  rw [q1]
  show ¬ (k == i) = true
  rw [beq_iff_eq]
  exact fun z => absurd hi (by rw [← z]; exact Int.not_lt.mpr q3)
theorem pat_of {h : Heap} {k a ca : Nat} {l : List Int} {x y : Value} (e : h.get? a = some ⟨.type "re.Pattern", none, .fields #[x, y, .int 0 0, .none, .none, .ref ca, .int (k : Nat) 0], #[]⟩) (e2 : h.get? ca = some (tupO l)) (hk : reRawNat (.int (k : Nat) 0) = k) : PtAt h k a l :=
  ⟨_, _, ca, e, rfl, rfl, rfl, hk, rfl, rfl, _, _, e2, rfl⟩
end Mine
end
section
open PySem PySem.W PyProof.Rows
set_option Elab.async false
set_option maxRecDepth 100000
namespace Mine
theorem bare_pw : pw.bare := ⟨rfl, rfl, rfl, rfl, rfl, by kernel_rfl⟩
theorem def_law : defOf vq "law" = some (dref 34, []) := by kernel_rfl
theorem the_law : pw.theDef "law" = some ((dref 34).params, (dref 34).body, (dref 34).scope) := by kernel_rfl
theorem kw_law : kwWritten? (dref 34).params.kwonlyargs (dref 34).params.kw_defaults = some [] := by kernel_rfl
theorem ok_law : (opensWell PySem.Challenge.rw_ta0068_02.row.prog && (frees PySem.Challenge.rw_ta0068_02.row.toRowW && PySem.Challenge.rw_ta0068_02.row.within.isEmpty)) = true := by kernel_rfl
section
variable {w : World} {s₀ : Shared} {mg mb : PySem.Str → Option Value} {h0 : Heap} {n0 : Nat} {h1 : ∀ b o, h0.get? b = some o → b < n0} {h2 : n0 = 0 ∨ ∃ o, h0.get? (n0 - 1) = some o}
theorem wk_of (G : Ground vq lsq [] XQ w s₀ mg mb h0) : Wk vq (cx pw w h0 n0 h1 h2) mg mb where
  g := fun h k => (G.keeps XQ.keeps k).T.g
  b := fun h k => (G.keeps XQ.keeps k).T.b
  nolimit := fun h k => (G.keeps XQ.keeps k).T.nolimit
  fn := fun nm d e => by
    unfold defOf at e
    split at e
    · rename_i d' hf
      split at e <;> cases e
      have hn : d.name = nm := beq_iff_eq.mp (List.find?_some (p := fun e : DefRec => e.name == nm) hf)
      obtain ⟨a, o, pm, cd, doc, q1, q2, q3, q4⟩ := G.T.fn d (List.mem_of_find?_eq_some hf)
      exact ⟨a, pm, cd, doc, hn ▸ q1, fun h k => ⟨⟨o, k _ _ q2, q3⟩, q4.keeps k⟩⟩
    · rw [nodefs] at e; cases e
  bi := G.T.builtins
  fr := fun x hx => by
    have := List.all_eq_true.mp free_ok x hx
    simp only [Bool.and_eq_true, Bool.not_eq_true', List.contains_eq_mem, decide_eq_false_iff_not] at this
    obtain ⟨⟨⟨⟨a, b⟩, c⟩, d⟩, e⟩ := this
    exact G.T.free x a b c d e
  crlf := by
    obtain ⟨v, e, r⟩ := G.T.const _ _ crlf_ok
    have := r h0
    cases this
    exact ⟨_, e⟩
theorem tops_of (G : Ground vq lsq [] XQ w s₀ mg mb h0) : Tops (cx pw w h0 n0 h1 h2) mg where
  p1 := ⟨85, G.X.m1, fun h k => pat_of (k _ _ G.X.o36) (k _ _ G.X.o35) (by decide)⟩
  p2 := ⟨90, G.X.m2, fun h k => pat_of (k _ _ G.X.o41) (k _ _ G.X.o40) (by decide)⟩
  p3 := ⟨95, G.X.m3, fun h k => pat_of (k _ _ G.X.o46) (k _ _ G.X.o45) (by decide)⟩
  b1 := ⟨124, G.X.mb1, fun h k => let ⟨t, led, e⟩ := G.X.o82; set_of (k _ _ e)⟩
  b3 := ⟨135, G.X.mb3, by decide, fun h k => dw_of (XQ.keeps _ _ _ G.X k).o93⟩
end
theorem rm_caller {c : Nat} (h : c ≤ 100) : Rm c callerA := ⟨rfl, by show 1 + claimMargin + c < recursionLimit; have : claimMargin = 300 := rfl; have : recursionLimit = 1000 := rfl; omega, by show 4 + 8 * c < cLine; have : cLine = 9900 := rfl; omega⟩
theorem ints_of : ∀ {xs : List WData}, WShape.hasItems [] xs .int = true → ∃ is : List Int, xs = is.map .int
  | [], _ => ⟨[], rfl⟩
  | x :: xs, h => by
    have h' : (WShape.has [] x .int && WShape.hasItems [] xs .int) = true := h
    obtain ⟨h1, h2⟩ := Bool.and_eq_true_iff.mp h'
    obtain ⟨is, rfl⟩ := ints_of h2
    cases x with
    | int i => exact ⟨i :: is, rfl⟩
    | _ => first | exact absurd h1 (by decide) | exact absurd (show false = true from h1) (by decide)
theorem args_ints {args : List WData} (h : WShape.hasAll [] args [.list .int] = true) : ∃ is : List Int, args = [.list (is.map .int)] := by
  match args, h with
  | [], h => exact absurd (show false = true from h) (by decide)
  | [x], h =>
    have h' : (WShape.has [] x (.list .int) && true) = true := h
    obtain ⟨h1, _⟩ := Bool.and_eq_true_iff.mp h'
    cases x with
    | list xs =>
      have h2 : (WShape.hasItems [] xs .int || false) = true := h1
      rw [Bool.or_false] at h2
      obtain ⟨is, rfl⟩ := ints_of h2
      exact ⟨is, rfl⟩
    | _ => exact absurd (show false = true from h1) (by decide)
  | x :: y :: r, h =>
    have h' : (WShape.has [] x (.list .int) && false) = true := h
    rw [Bool.and_false] at h'
    cases h'
noncomputable def F1 (v : Option WData) : Bool :=
  match (match (match v with | some (.bool b) => some (WData.bool (!b)) | _ => none) with | some (.bool false) => some (WData.bool false) | some (.bool true) => some (.bool true) | _ => none) with
  | some (.bool true) => true
  | _ => false
theorem F1_holds (a : WTm) (e : WCtx) : WTm.holds [] (.and (.not a) (.lit (.bool true))) e = F1 (WTm.value [] a e) := by
  unfold WTm.holds F1
  congr 1
theorem most_of {n : Nat} {l : OpenLaw} {xs : List WData} (hm : l.most = some n) (hb : l.bound = none) (h : WTm.holds [] l.pre { args := [.list xs] } = true) : xs.length ≤ n := by
  unfold OpenLaw.pre at h
  rw [hm, hb] at h
  dsimp only at h
  rw [F1_holds] at h
  have e : WTm.value [] (.lt (.lit (.int n)) (.len (.arg 0))) { args := [.list xs] } = some (.bool (decide ((n : Int) < (xs.length : Int)))) := by kernel_rfl
  rw [e] at h
  by_cases q : (n : Int) < (xs.length : Int)
  · rw [decide_eq_true q] at h; exact absurd h (by decide)
  · omega
theorem post_ok (a : List WData) (as : List WData) : PySem.Challenge.rw_ta0068_02.row.claim.post a (.bool true) as = true := by kernel_rfl
theorem and2 {a b : Bool} (h : a = true) (k : b = true) : (a && b) = true := by rw [h, k]; rfl
set_option maxHeartbeats 8000000 in
theorem said1 : OpenLaw.wellSaid PySem.Challenge.rw_ta0068_02 = true := by
  rw [PySem.W.Fast.te9446332074065402090]
  delta PySem.W.Fast.tw9446332074065402090
  repeat' with_reducible refine and2 ?_ ?_
  · delta PySem.W.Fast.tw17960256430627541270
    repeat' with_reducible refine and2 ?_ ?_
    · delta PySem.W.Fast.tw2436336058641802641
      repeat' with_reducible refine and2 ?_ ?_
      · delta PySem.W.Fast.tw12908688711261696721
        repeat' with_reducible refine and2 ?_ ?_
        all_goals as_aux_lemma => kernel_rfl
      all_goals as_aux_lemma => kernel_rfl
    all_goals as_aux_lemma => kernel_rfl
  all_goals as_aux_lemma => kernel_rfl
theorem ints_read {cl : PySem.Str → Option Addr} {h : Heap} : ∀ {vs : List Value} {is : List Int} {as : List Addr}, ReadsAllW [] cl h vs (is.map .int) as → ScsR vs (iL is)
  | _, [], _, r => by cases r; exact .nil
  | _, i :: is, _, r => by
    cases r with | cons a b =>
    cases a
    exact .cons (.int _ _) (ints_read b)
end Mine
end
open PySem PySem.W PyProof.Rows
set_option maxRecDepth 100000
set_option maxHeartbeats 8000000 in
theorem PySem.Challenge.cw_ta0068_02_holds : PySem.Challenge.rw_ta0068_02.Holds := by
  refine holds_law Mine.said1 fun said => ?_
  refine Mine.row_holds (q := Mine.vq) (loose := Mine.lsq) (XP := Mine.XQ) (d := Mine.dref 34) (kwd := []) said ?_ Mine.bare_pw rfl Mine.ok_law Mine.def_law Mine.the_law Mine.kw_law Mine.XQ.keeps Mine.beh ?_
  · exact ⟨[.list [.int 3, .int 1]], by decide +kernel, by decide +kernel⟩
  · intro w s₀ s₁ mg mb G args vs as hpre hlay L hs
    obtain ⟨n0, t1, t2⟩ := Mine.live_top s₁.heap
    have K := Mine.wk_of (h1 := t1) (h2 := t2) G
    have T := Mine.tops_of (h1 := t1) (h2 := t2) G
    have ⟨p1, p2⟩ := Bool.and_eq_true_iff.mp hpre
    obtain ⟨is, rfl⟩ := Mine.args_ints (show WShape.hasAll [] args [.list .int] = true from p1)
    have hl : is.length ≤ 63 := by
      have := Mine.most_of (l := PySem.Challenge.rw_ta0068_02) (n := 63) rfl rfl (show WTm.holds [] _ _ = true from p2)
      rwa [List.length_map] at this
    obtain ⟨a, m1, _, F⟩ := Mine.C_law (c := 1) K T rfl is (by omega)
    refine ⟨_, m1, ?_⟩
    have R := L.reads
    cases R with | cons r1 rs =>
    cases rs
    cases r1 with | list g1 g2 g3 g4 =>
    refine F callerA [] s₁ _ _ _ (Mine.rm_caller (by decide)) ⟨fun _ _ e => e, ⟨[], rfl, fun _ m => nomatch m⟩⟩ (fun _ m => nomatch m) (.cons (.list (vs := _) (fun m => nomatch m) ⟨_, g1, g2, _, g3⟩ (Mine.ints_read g4)) .nil) fun x v h' t' hx kp rep => ?_
    subst hx
    cases rep with | sc rep =>
    cases rep
    refine ⟨.inl ⟨_, .bool true, [], rfl, fun _ => rfl, .bool true, Mine.post_ok _ _, fun _ => ⟨.nil, fun _ m => nomatch m⟩⟩, .of_keep fun b o e => ?_, rfl, .of_eq L.gens⟩
    obtain ⟨o', e', q⟩ := kp.old b o (fun m => nomatch m) e
    rcases q with rfl | ⟨⟨n, q, z⟩, _⟩
    · exact e'
    · cases q; exact absurd z (Nat.not_le.mpr (t1 b o e))
