import PyProof.Rows.All
import Wide.All
import OpenK.AllK
import Wide.FinOn
import PySem.Challenge.RW_wy0009_01
set_option Elab.async false
set_option maxRecDepth 100000
set_option maxHeartbeats 8000000
set_option linter.all false
set_option linter.unusedVariables false
namespace Mine
open PySem PySem.W PyProof.Rows in
open_top hd for PySem.Challenge.rw_wy0009_01
end Mine
-- part SreA
namespace Mine
open PySem PySem.Sre
/-- the machine reaches an outcome within k steps, in a state where P holds -/
def EndsIn (k : Nat) (m : M) (P : M → Prop) : Prop := ∃ j, j ≤ k ∧ (M.runFor j m).outcome.isSome = true ∧ P (M.runFor j m)
theorem EndsIn.mono {k k' : Nat} {m : M} {P : M → Prop} (h : EndsIn k m P) (hk : k ≤ k') : EndsIn k' m P :=
  let ⟨j, h1, h2⟩ := h; ⟨j, Nat.le_trans h1 hk, h2⟩
theorem EndsIn.now {m : M} {P : M → Prop} (ho : m.outcome.isSome = true) (hp : P m) : EndsIn 0 m P := ⟨0, Nat.le_refl _, ho, hp⟩
theorem EndsIn.step {k : Nat} {m : M} {P : M → Prop} (ho : m.outcome = none) (h : EndsIn k m.step P) : EndsIn (k + 1) m P := by
  obtain ⟨j, h1, h2⟩ := h
  refine ⟨j + 1, Nat.succ_le_succ h1, ?_⟩
  have e : M.runFor (j + 1) m = M.runFor j m.step := by
    show (if m.outcome.isSome = true then m else M.runFor j m.step) = _
    rw [ho]; rfl
  rw [e]; exact h2
theorem runFor_done {m : M} (h : m.outcome.isSome = true) : ∀ n, M.runFor n m = m
  | 0 => rfl
  | n + 1 => by show (if m.outcome.isSome = true then m else _) = _; rw [if_pos h]
theorem runFor_add : ∀ (a b : Nat) (m : M), M.runFor (a + b) m = M.runFor b (M.runFor a m)
  | 0, b, m => by rw [Nat.zero_add]; rfl
  | a + 1, b, m => by
    rw [Nat.add_right_comm]
    by_cases h : m.outcome.isSome = true
    · rw [runFor_done h, runFor_done h, runFor_done h]
    · show (if m.outcome.isSome = true then m else M.runFor (a + b) m.step) = M.runFor b (if m.outcome.isSome = true then m else M.runFor a m.step)
      rw [if_neg h, if_neg h]; exact runFor_add a b m.step
/-- one character class: whatever was seen before, the set answers f -/
def Accepts (code : Array Nat) (i : Nat) (f : Nat → Bool) : Prop := ∀ c sn, ∃ sn', accepts code i c sn = .ok (f c, sn')
theorem run_spec {code text : Array Nat} {i : Nat} {f : Nat → Bool} (A : Accepts code i f) : ∀ (k n p found : Nat) (sn : Seen),
    (∀ j, j < k → f (text.getD (p + j) 0) = true) → (k = n ∨ (k < n ∧ f (text.getD (p + k) 0) = false)) → ∃ sn', run code text i n p found sn = .ok (found + k, sn')
  | 0, n, p, found, sn, _, h2 => by
    cases n with
    | zero => exact ⟨sn, rfl⟩
    | succ n =>
      obtain ⟨sn', e⟩ := A (text.getD p 0) sn
      rcases h2 with h | ⟨_, h⟩
      · cases h
      · refine ⟨sn', ?_⟩
        show (do let (yes, seen) ← accepts code i (text.getD p 0) sn; if yes then run code text i n (p + 1) (found + 1) seen else pure (found, seen)) = _
        rw [e]
        rw [Nat.add_zero] at h
        rw [h]; rfl
  | k + 1, n, p, found, sn, h1, h2 => by
    cases n with
    | zero => rcases h2 with h | ⟨h, _⟩ <;> cases h
    | succ n =>
      obtain ⟨sn', e⟩ := A (text.getD p 0) sn
      have hp := h1 0 (Nat.succ_pos _)
      rw [Nat.add_zero] at hp
      have ih := run_spec A k n (p + 1) (found + 1) sn' (fun j hj => by have := h1 (j + 1) (Nat.succ_lt_succ hj); rwa [show p + 1 + j = p + (j + 1) from by omega])
        (h2.imp (fun h => Nat.succ.inj h) fun h => ⟨Nat.lt_of_succ_lt_succ h.1, by rw [show p + 1 + k = p + (k + 1) from by omega]; exact h.2⟩)
      obtain ⟨sn'', e2⟩ := ih
      refine ⟨sn'', ?_⟩
      show (do let (yes, seen) ← accepts code i (text.getD p 0) sn; if yes then run code text i n (p + 1) (found + 1) seen else pure (found, seen)) = _
      rw [e, hp]
      show run code text i n (p + 1) (found + 1) sn' = _
      rw [e2, show found + 1 + k = found + (k + 1) from by omega]
section
variable {k : Nat} {m : M} {P : M → Prop}
/-- the step's shape where the machine runs -/
theorem step_exec (ho : m.outcome = none) (ha : m.answer = none) (hpc : m.pc < m.code.size) : m.step = m.exec := by
  unfold M.step
  rw [ho, ha]
  simp [hpc]
theorem exec_op {o : Op} (e : ops[m.word 0]? = some o) : m.exec = (
    let room : Int := (m.lim : Int) - m.pos
    let m' := { m with seen := m.seen.add (m.word 0) }
    match o with
  | .FAILURE => m'.say false
  | .SUCCESS =>
    if m'.outermost && ((m'.wholeText && m'.pos != m'.lim) || (m'.mustAdvance && m'.pos == m'.start)) then m'.say false
    else { m' with handed := m'.pos }.say true
  | .ANY | .ANY_ALL | .LITERAL | .NOT_LITERAL | .IN | .LITERAL_IGNORE | .NOT_LITERAL_IGNORE | .IN_IGNORE | .LITERAL_UNI_IGNORE | .NOT_LITERAL_UNI_IGNORE
  | .IN_UNI_IGNORE | .LITERAL_LOC_IGNORE | .NOT_LITERAL_LOC_IGNORE | .IN_LOC_IGNORE =>
    if m'.pos ≥ m'.lim then m'.say false else
    match accepts m'.code m'.pc (m'.text.getD m'.pos 0) m'.seen with
    | .error why => m'.stick why
    | .ok (false, seen) => { m' with seen }.say false
    | .ok (true, seen) => { m' with seen, pc := m'.pc + itemWidth m'.code m'.pc, pos := m'.pos + 1 }
  | .AT =>
    match m'.isAt (m'.word 1) with
    | .error why => m'.stick why
    | .ok yes => let m'' := { m' with seen := m'.seen.add (43 + m'.word 1) }; if yes then { m'' with pc := m''.pc + 2 } else m''.say false
  | .MARK => m'.mark (m'.word 1)
  | .REPEAT_ONE =>
    let (least, most) := (m'.word 2, m'.word 3)
    if (least : Int) > room then m'.say false else
    match run m'.code m'.text (m'.pc + 4) (min most room.toNat) m'.pos 0 (m'.seen.add (m'.word 4)) with
    | .error why => m'.stick why
    | .ok (n, seen) =>
      let m'' := { m' with seen }
      if n < m'.word 2 then m''.say false else
      { m'' with pos := m''.pos + n }.afterRun .giveBack n ({ m'' with pos := m''.pos + n }.keep m''.inner.isSome)
  | .REPEAT =>
    let i := m'.loops.size
    let m'' := { m' with loops := m'.loops.push { pc := m'.pc, outer := m'.inner }, inner := some i }
    m''.attempt { m''.frame .closeLoop with loop := i } (m''.pc + 1 + m''.word 1) m''.pos m''.outermost
  | .MAX_UNTIL => { m' with pc := m'.pc + 1 }.until_ true
  | _ => m.exec) := by
  cases o
  case REPEAT_ONE =>
    unfold M.exec; simp only [e, Bool.false_eq_true, if_false]
    split
    · rfl
    · split
      · rename_i h1; rw [h1]
      · rename_i h1; rw [h1]
  all_goals first | rfl | (unfold M.exec; simp only [e]; done) | (unfold M.exec; simp only [e, Bool.false_eq_true, if_false]; done) | (unfold M.exec; simp only [e]; rfl)
theorem exec_at0 (ho : m.outcome = none) (ha : m.answer = none) (hpc : m.pc < m.code.size) (h0 : m.word 0 = 6) (h1 : m.word 1 = 0) (hp : m.pos = 0)
    (h : ∀ sn, EndsIn k { m with seen := sn, pc := m.pc + 2 } P) : EndsIn (k + 1) m P := by
  refine .step ho ?_
  rw [step_exec ho ha hpc, exec_op (o := .AT) (by rw [h0]; rfl)]
  have e1 : ({ m with seen := m.seen.add (m.word 0) } : M).isAt (({ m with seen := m.seen.add (m.word 0) } : M).word 1) = .ok true := by
    rw [show ({ m with seen := m.seen.add (m.word 0) } : M).word 1 = 0 from h1]; show Except.ok (m.pos == 0) = _; rw [hp]; rfl
  dsimp only
  rw [e1]
  exact h _
theorem exec_at0_no (ho : m.outcome = none) (ha : m.answer = none) (hpc : m.pc < m.code.size) (h0 : m.word 0 = 6) (h1 : m.word 1 = 0) (hp : m.pos ≠ 0)
    (h : ∀ sn, EndsIn k { m with seen := sn, answer := some false } P) : EndsIn (k + 1) m P := by
  refine .step ho ?_
  rw [step_exec ho ha hpc, exec_op (o := .AT) (by rw [h0]; rfl)]
  have e1 : ({ m with seen := m.seen.add (m.word 0) } : M).isAt (({ m with seen := m.seen.add (m.word 0) } : M).word 1) = .ok false := by
    rw [show ({ m with seen := m.seen.add (m.word 0) } : M).word 1 = 0 from h1]; show Except.ok (m.pos == 0) = _; simp [hp]
  dsimp only
  rw [e1]
  exact h _
theorem exec_mark (ho : m.outcome = none) (ha : m.answer = none) (hpc : m.pc < m.code.size) (h0 : m.word 0 = 17)
    (h : ∀ sn, EndsIn k ({ m with seen := sn }.mark (m.word 1)) P) : EndsIn (k + 1) m P := by
  refine .step ho ?_
  rw [step_exec ho ha hpc, exec_op (o := .MARK) (by rw [h0]; rfl)]
  exact h _
theorem exec_success (ho : m.outcome = none) (ha : m.answer = none) (hpc : m.pc < m.code.size) (h0 : m.word 0 = 1)
    (hw : (m.outermost && ((m.wholeText && m.pos != m.lim) || (m.mustAdvance && m.pos == m.start))) = false)
    (h : ∀ sn, EndsIn k { m with seen := sn, handed := m.pos, answer := some true } P) : EndsIn (k + 1) m P := by
  refine .step ho ?_
  rw [step_exec ho ha hpc, exec_op (o := .SUCCESS) (by rw [h0]; rfl)]
  dsimp only
  rw [if_neg (by rw [hw]; exact Bool.false_ne_true)]
  exact h _
/-- a sign that is asked for stands there -/
theorem exec_one {f : Nat → Bool} (ho : m.outcome = none) (ha : m.answer = none) (hpc : m.pc < m.code.size) (h0 : m.word 0 = 16 ∨ m.word 0 = 2 ∨ m.word 0 = 13) (A : Accepts m.code m.pc f)
    (hp : m.pos < m.lim) (hc : f (m.text.getD m.pos 0) = true)
    (h : ∀ sn, EndsIn k { m with seen := sn, pc := m.pc + itemWidth m.code m.pc, pos := m.pos + 1 } P) : EndsIn (k + 1) m P := by
  refine .step ho ?_
  rw [step_exec ho ha hpc]
  have key : ∀ o : Op, ops[m.word 0]? = some o → (o = .LITERAL ∨ o = .ANY ∨ o = .IN) → EndsIn k m.exec P := by
    intro o e hor
    rw [exec_op e]
    obtain ⟨sn, e2⟩ := A (m.text.getD m.pos 0) (m.seen.add (m.word 0))
    rw [hc] at e2
    rcases hor with rfl | rfl | rfl <;> (dsimp only; rw [if_neg (Nat.not_le.mpr hp)]; rw [e2]; exact h _)
  rcases h0 with h0 | h0 | h0
  · exact key .LITERAL (by rw [h0]; rfl) (.inl rfl)
  · exact key .ANY (by rw [h0]; rfl) (.inr (.inl rfl))
  · exact key .IN (by rw [h0]; rfl) (.inr (.inr rfl))
theorem exec_one_no {f : Nat → Bool} (ho : m.outcome = none) (ha : m.answer = none) (hpc : m.pc < m.code.size) (h0 : m.word 0 = 16 ∨ m.word 0 = 2 ∨ m.word 0 = 13) (A : Accepts m.code m.pc f)
    (hp : m.lim ≤ m.pos ∨ f (m.text.getD m.pos 0) = false)
    (h : ∀ sn, EndsIn k { m with seen := sn, answer := some false } P) : EndsIn (k + 1) m P := by
  refine .step ho ?_
  rw [step_exec ho ha hpc]
  have key : ∀ o : Op, ops[m.word 0]? = some o → (o = .LITERAL ∨ o = .ANY ∨ o = .IN) → EndsIn k m.exec P := by
    intro o e hor
    rw [exec_op e]
    obtain ⟨sn, e2⟩ := A (m.text.getD m.pos 0) (m.seen.add (m.word 0))
    by_cases hl : m.pos ≥ m.lim
    · rcases hor with rfl | rfl | rfl <;> (dsimp only; rw [if_pos hl]; exact h _)
    · have hc := hp.resolve_left hl
      rw [hc] at e2
      rcases hor with rfl | rfl | rfl <;> (dsimp only; rw [if_neg hl]; rw [e2]; exact h _)
  rcases h0 with h0 | h0 | h0
  · exact key .LITERAL (by rw [h0]; rfl) (.inl rfl)
  · exact key .ANY (by rw [h0]; rfl) (.inr (.inl rfl))
  · exact key .IN (by rw [h0]; rfl) (.inr (.inr rfl))
/-- a class repeated: j signs are taken, greedily -/
theorem exec_rep {f : Nat → Bool} {j : Nat} (ho : m.outcome = none) (ha : m.answer = none) (hpc : m.pc < m.code.size) (h0 : m.word 0 = 24) (h3 : m.word 3 = 4294967295) (A : Accepts m.code (m.pc + 4) f)
    (hlim : m.lim < 4294967295) (hp : m.pos + j ≤ m.lim) (hj : m.word 2 ≤ j) (hc : ∀ i, i < j → f (m.text.getD (m.pos + i) 0) = true) (hend : m.pos + j = m.lim ∨ f (m.text.getD (m.pos + j) 0) = false)
    (h : ∀ sn, EndsIn k (({ m with seen := sn, pos := m.pos + j } : M).afterRun .giveBack j (({ m with seen := sn, pos := m.pos + j } : M).keep m.inner.isSome)) P) : EndsIn (k + 1) m P := by
  refine .step ho ?_
  rw [step_exec ho ha hpc, exec_op (o := .REPEAT_ONE) (by rw [h0]; rfl)]
  have er : ((m.lim : Int) - (m.pos : Int)).toNat = m.lim - m.pos := by omega
  have hmin : min (m.word 3) ((m.lim : Int) - (m.pos : Int)).toNat = m.lim - m.pos := by rw [h3, er]; omega
  obtain ⟨sn, e⟩ := run_spec A j (m.lim - m.pos) m.pos 0 ((m.seen.add (m.word 0)).add (m.word 4)) hc (by
    rcases hend with h | h
    · exact .inl (by omega)
    · by_cases he : m.pos + j = m.lim
      · exact .inl (by omega)
      · exact .inr ⟨by omega, h⟩)
  have hw2 : ¬ ((m.word 2 : Nat) : Int) > (m.lim : Int) - (m.pos : Int) := by omega
  dsimp only
  rw [if_neg (show ¬ ((({ m with seen := m.seen.add (m.word 0) } : M).word 2 : Nat) : Int) > (m.lim : Int) - (m.pos : Int) from hw2)]
  rw [show min (({ m with seen := m.seen.add (m.word 0) } : M).word 3) ((m.lim : Int) - (m.pos : Int)).toNat = m.lim - m.pos from hmin]
  rw [show run m.code m.text (m.pc + 4) (m.lim - m.pos) m.pos 0 ((m.seen.add (m.word 0)).add (({ m with seen := m.seen.add (m.word 0) } : M).word 4)) = .ok (0 + j, sn) from e]
  dsimp only
  rw [Nat.zero_add, if_neg (show ¬ j < ({ m with seen := m.seen.add (m.word 0) } : M).word 2 from Nat.not_lt.mpr hj)]
  exact h _
/-- too few signs of the class -/
theorem exec_rep_few {f : Nat → Bool} {j : Nat} (ho : m.outcome = none) (ha : m.answer = none) (hpc : m.pc < m.code.size) (h0 : m.word 0 = 24) (h3 : m.word 3 = 4294967295) (A : Accepts m.code (m.pc + 4) f)
    (hlim : m.lim < 4294967295) (hp : m.pos + j ≤ m.lim) (hj : j < m.word 2) (hc : ∀ i, i < j → f (m.text.getD (m.pos + i) 0) = true) (hend : m.pos + j = m.lim ∨ f (m.text.getD (m.pos + j) 0) = false)
    (h : ∀ sn, EndsIn k { m with seen := sn, answer := some false } P) : EndsIn (k + 1) m P := by
  refine .step ho ?_
  rw [step_exec ho ha hpc, exec_op (o := .REPEAT_ONE) (by rw [h0]; rfl)]
  have er : ((m.lim : Int) - (m.pos : Int)).toNat = m.lim - m.pos := by omega
  have hmin : min (m.word 3) ((m.lim : Int) - (m.pos : Int)).toNat = m.lim - m.pos := by rw [h3, er]; omega
  obtain ⟨sn, e⟩ := run_spec A j (m.lim - m.pos) m.pos 0 ((m.seen.add (m.word 0)).add (m.word 4)) hc (by
    rcases hend with h | h
    · exact .inl (by omega)
    · by_cases he : m.pos + j = m.lim
      · exact .inl (by omega)
      · exact .inr ⟨by omega, h⟩)
  dsimp only
  by_cases hw2 : ((m.word 2 : Nat) : Int) > (m.lim : Int) - (m.pos : Int)
  · rw [if_pos (show ((({ m with seen := m.seen.add (m.word 0) } : M).word 2 : Nat) : Int) > (m.lim : Int) - (m.pos : Int) from hw2)]
    exact h _
  · rw [if_neg (show ¬ ((({ m with seen := m.seen.add (m.word 0) } : M).word 2 : Nat) : Int) > (m.lim : Int) - (m.pos : Int) from hw2)]
    rw [show min (({ m with seen := m.seen.add (m.word 0) } : M).word 3) ((m.lim : Int) - (m.pos : Int)).toNat = m.lim - m.pos from hmin]
    rw [show run m.code m.text (m.pc + 4) (m.lim - m.pos) m.pos 0 ((m.seen.add (m.word 0)).add (({ m with seen := m.seen.add (m.word 0) } : M).word 4)) = .ok (0 + j, sn) from e]
    dsimp only
    rw [Nat.zero_add, if_pos (show j < ({ m with seen := m.seen.add (m.word 0) } : M).word 2 from hj)]
    exact h _
/-- an answer is handed to the frame that waits for it -/
theorem back_step {yes : Bool} {f : Sre.Frame} {rest : List Sre.Frame} (ho : m.outcome = none) (ha : m.answer = some yes) (hf : m.frames = f :: rest)
    (h : EndsIn k (M.resume { m with answer := none, frames := rest, weight := m.weight - (1 + f.kept.marks.size), pc := f.pc, pos := f.pos, outermost := f.outermost } f yes) P) : EndsIn (k + 1) m P := by
  refine .step ho ?_
  have e : m.step = M.resume { m with answer := none, frames := rest, weight := m.weight - (1 + f.kept.marks.size), pc := f.pc, pos := f.pos, outermost := f.outermost } f yes := by
    unfold M.step
    rw [ho, ha, hf]; rfl
  rw [e]; exact h
theorem last_step {yes : Bool} (ho : m.outcome = none) (ha : m.answer = some yes) (hf : m.frames = []) (h : P { m with outcome := some (if yes then .matched else .failed) }) : EndsIn 1 m P := by
  refine .step (k := 0) ho ?_
  have e : m.step = { m with outcome := some (if yes then .matched else .failed) } := by
    unfold M.step
    rw [ho, ha, hf]; rfl
  rw [e]; exact .now rfl h
end
end Mine
-- part SreB
namespace Mine
open PySem PySem.Sre
abbrev junkCode : Array Nat := #[14, 4, 0, 0, 4294967295, 6, 0, 24, 13, 0, 4294967295, 13, 8, 16, 61, 8, 12, 16, 59, 0, 1, 1]
abbrev tokCode : Array Nat := #[14, 4, 0, 1, 4294967295, 6, 0, 24, 9, 0, 4294967295, 13, 4, 8, 12, 0, 1, 17, 0, 24, 19, 1, 4294967295, 13, 14, 21, 9, 0, 671092736, 0, 0, 0, 0, 0, 0, 8, 12, 0, 1, 17, 1, 1]
abbrev quoCode : Array Nat := #[14, 4, 0, 3, 4294967295, 6, 0, 24, 9, 0, 4294967295, 13, 4, 8, 12, 0, 1, 16, 61, 24, 9, 0, 4294967295, 13, 4, 8, 12, 0, 1, 16, 34, 17, 0, 24, 12, 0, 4294967295, 13, 7, 21, 16, 34, 16, 92, 0, 1, 23, 19, 0, 4294967295, 16, 92, 2, 24, 12, 0, 4294967295, 13, 7, 21, 16, 34, 16, 92, 0, 1, 18, 17, 1, 16, 34, 1]
abbrev valCode : Array Nat := #[14, 4, 0, 1, 4294967295, 6, 0, 24, 9, 0, 4294967295, 13, 4, 8, 12, 0, 1, 16, 61, 24, 9, 0, 4294967295, 13, 4, 8, 12, 0, 1, 17, 0, 24, 14, 0, 4294967295, 13, 9, 21, 8, 12, 16, 59, 16, 44, 0, 1, 17, 1, 1]
def isJunk (c : Nat) : Bool := c == 61 || Unicode.isSpace c || c == 59
def isTok (c : Nat) : Bool := !((decide (c < 256) && (tokCode.getD (27 + c / 32) 0).testBit (c % 32)) || Unicode.isSpace c)
def isVal (c : Nat) : Bool := !(Unicode.isSpace c || c == 59 || c == 44)
def isQ (c : Nat) : Bool := !(c == 34 || c == 92)
theorem cat12 (c : Nat) : category 12 c = .ok (Unicode.isSpace c) := by
  show Except.ok (Unicode.isSpace c != (false)) = _
  cases Unicode.isSpace c <;> rfl
theorem acc_lit {code : Array Nat} {i n : Nat} (h : code.getD i 0 = 16) (hn : code.getD (i + 1) 0 = n) : Accepts code i (fun c => c == n) := by
  intro c sn
  refine ⟨sn, ?_⟩
  unfold accepts
  rw [h, hn]
  rfl
theorem acc_any {code : Array Nat} {i : Nat} (h : code.getD i 0 = 2) : Accepts code i (fun c => c != 10) := by
  intro c sn
  refine ⟨sn, ?_⟩
  unfold accepts
  rw [h]
  rfl
/-- the class of blanks, wherever it stands -/
theorem acc_ws {code : Array Nat} {i : Nat} (h : code.getD i 0 = 13) (h2 : code.getD (i + 2) 0 = 8) (h3 : code.getD (i + 3) 0 = 12) (h4 : code.getD (i + 4) 0 = 0) (hs : 2 ≤ code.size) : Accepts code i Unicode.isSpace := by
  intro c sn
  unfold accepts
  rw [h]
  obtain ⟨n, hn⟩ : ∃ n, code.size = n + 2 := ⟨code.size - 2, by omega⟩
  show ∃ sn', inSet code c code.size (i + 2) true sn = _
  rw [hn, inSet]
  simp only [Nat.add_zero, h2, Nat.add_assoc, h3]
  show ∃ sn', (do if ← category 12 c then pure (true, _) else inSet code c (n + 1) (i + 4) true _) = Except.ok (Unicode.isSpace c, sn')
  rw [cat12]
  cases Unicode.isSpace c with
  | true => exact ⟨_, rfl⟩
  | false =>
    show ∃ sn', inSet code c (n + 1) (i + 4) true _ = _
    rw [inSet]
    simp only [Nat.add_zero, h4]
    exact ⟨_, rfl⟩
theorem acc_junk : Accepts junkCode 11 isJunk := by
  intro c sn
  show ∃ sn', inSet junkCode c 22 13 true sn = _
  unfold isJunk
  rw [inSet]
  show ∃ sn', (if c == 61 then Except.ok (true, _) else inSet junkCode c 21 15 true _) = _
  cases h1 : c == 61 with
  | true => exact ⟨_, rfl⟩
  | false =>
    show ∃ sn', inSet junkCode c 21 15 true _ = _
    rw [inSet]
    show ∃ sn', (do if ← category 12 c then pure (true, _) else inSet junkCode c 20 17 true _) = (Except.ok _ : Except String (Bool × Seen))
    rw [cat12]
    cases Unicode.isSpace c with
    | true => exact ⟨_, rfl⟩
    | false =>
      show ∃ sn', inSet junkCode c 20 17 true _ = _
      rw [inSet]
      show ∃ sn', (if c == 59 then Except.ok (true, _) else inSet junkCode c 19 19 true _) = _
      cases h3 : c == 59 with
      | true => exact ⟨_, rfl⟩
      | false => exact ⟨_, rfl⟩
theorem acc_tok : Accepts tokCode 23 isTok := by
  intro c sn
  show ∃ sn', inSet tokCode c 42 25 true sn = _
  unfold isTok
  rw [inSet]
  show ∃ sn', inSet tokCode c 41 26 false _ = _
  rw [inSet]
  show ∃ sn', (if (decide (c < 256) && (tokCode.getD (26 + (1 + c / 32)) 0).testBit (c % 32)) then Except.ok (false, _) else inSet tokCode c 40 35 false _) = _
  rw [show 26 + (1 + c / 32) = 27 + c / 32 from by omega]
  cases h1 : (decide (c < 256) && (tokCode.getD (27 + c / 32) 0).testBit (c % 32)) with
  | true => exact ⟨_, rfl⟩
  | false =>
    show ∃ sn', inSet tokCode c 40 35 false _ = _
    rw [inSet]
    show ∃ sn', (do if ← category 12 c then pure (false, _) else inSet tokCode c 39 37 false _) = (Except.ok _ : Except String (Bool × Seen))
    rw [cat12]
    cases Unicode.isSpace c with
    | true => exact ⟨_, rfl⟩
    | false => exact ⟨_, rfl⟩
theorem acc_val : Accepts valCode 35 isVal := by
  intro c sn
  show ∃ sn', inSet valCode c 49 37 true sn = _
  unfold isVal
  rw [inSet]
  show ∃ sn', inSet valCode c 48 38 false _ = _
  rw [inSet]
  show ∃ sn', (do if ← category 12 c then pure (false, _) else inSet valCode c 47 40 false _) = (Except.ok _ : Except String (Bool × Seen))
  rw [cat12]
  cases Unicode.isSpace c with
  | true => exact ⟨_, rfl⟩
  | false =>
    show ∃ sn', inSet valCode c 47 40 false _ = _
    rw [inSet]
    show ∃ sn', (if c == 59 then Except.ok (false, _) else inSet valCode c 46 42 false _) = _
    cases h3 : c == 59 with
    | true => exact ⟨_, rfl⟩
    | false =>
      show ∃ sn', inSet valCode c 46 42 false _ = _
      rw [inSet]
      show ∃ sn', (if c == 44 then Except.ok (false, _) else inSet valCode c 45 44 false _) = _
      cases h4 : c == 44 with
      | true => exact ⟨_, rfl⟩
      | false => exact ⟨_, rfl⟩
theorem acc_q1 : Accepts quoCode 37 isQ := by
  intro c sn
  show ∃ sn', inSet quoCode c 72 39 true sn = _
  unfold isQ
  rw [inSet]
  show ∃ sn', inSet quoCode c 71 40 false _ = _
  rw [inSet]
  show ∃ sn', (if c == 34 then Except.ok (false, _) else inSet quoCode c 70 42 false _) = _
  cases h3 : c == 34 with
  | true => exact ⟨_, rfl⟩
  | false =>
    show ∃ sn', inSet quoCode c 70 42 false _ = _
    rw [inSet]
    show ∃ sn', (if c == 92 then Except.ok (false, _) else inSet quoCode c 69 44 false _) = _
    cases h4 : c == 92 with
    | true => exact ⟨_, rfl⟩
    | false => exact ⟨_, rfl⟩
theorem acc_q2 : Accepts quoCode 57 isQ := by
  intro c sn
  show ∃ sn', inSet quoCode c 72 59 true sn = _
  unfold isQ
  rw [inSet]
  show ∃ sn', inSet quoCode c 71 60 false _ = _
  rw [inSet]
  show ∃ sn', (if c == 34 then Except.ok (false, _) else inSet quoCode c 70 62 false _) = _
  cases h3 : c == 34 with
  | true => exact ⟨_, rfl⟩
  | false =>
    show ∃ sn', inSet quoCode c 70 62 false _ = _
    rw [inSet]
    show ∃ sn', (if c == 92 then Except.ok (false, _) else inSet quoCode c 69 64 false _) = _
    cases h4 : c == 92 with
    | true => exact ⟨_, rfl⟩
    | false => exact ⟨_, rfl⟩
theorem attempt_eq {m : M} {f : Sre.Frame} {target p : Nat} {o : Bool} (h : m.weight + 1 + f.kept.marks.size ≤ 16777216) :
    m.attempt f target p o = { m with frames := f :: m.frames, weight := m.weight + 1 + f.kept.marks.size, pc := target, pos := p, handed := p, outermost := o } := by
  unfold M.attempt
  rw [if_neg (by omega)]
def Failed (m : M) : Prop := ∃ x, m.outcome = some x ∧ (match x with | .failed => True | _ => False)
/-- the search goes on from place to place where the pattern begins at the text's start alone -/
theorem dead_ends : ∀ (n : Nat) (m : M) (f : Sre.Frame), m.outcome = none → m.answer = some false → m.frames = [f] → f.wait = .nextStart → f.kept.marks.size = 0 → m.hasFirstSet = false → f.pc < m.code.size →
    m.code.getD f.pc 0 = 6 → m.code.getD (f.pc + 1) 0 = 0 → m.weight ≤ 100000 → m.lastStart - f.pos = n → EndsIn (2 * n + 2) m Failed
  | n, m, ⟨wt, fpc, fpos, fo, fcount, fkept, floop, fbegan⟩, ho, ha, hf, hwt, hk, hfs, hpc, h6, h60, hw, hn => by
    dsimp only at hwt hk hpc h6 h60 hn
    subst hwt
    by_cases hlt : fpos < m.lastStart
    · obtain ⟨n', rfl⟩ : ∃ n', n = n' + 1 := ⟨n - 1, by omega⟩
      refine EndsIn.mono (k := (2 * n' + 2 + 1) + 1) ?_ (by omega)
      refine back_step ho ha hf ?_
      unfold M.resume
      dsimp only
      rw [if_neg Bool.false_ne_true, if_pos (show fpos < m.lastStart from hlt)]
      unfold M.attemptFrom
      rw [if_pos (by exact congrArg (! ·) hfs)]
      unfold M.attemptAt
      rw [attempt_eq (by show m.weight - (1 + fkept.marks.size) + 1 + 0 ≤ 16777216; omega)]
      refine exec_at0_no (by exact ho) rfl (by exact hpc) (by exact h6) (by exact h60) (by simp) fun sn => ?_
      exact dead_ends n' _ ⟨.nextStart, fpc, fpos + 1, false, 0, {}, 0, none⟩ ho rfl rfl rfl rfl hfs hpc h6 h60 (by show m.weight - (1 + fkept.marks.size) + 1 + 0 ≤ 100000; omega) (by show m.lastStart - (fpos + 1) = n'; omega)
    · refine EndsIn.mono (k := 1 + 1) ?_ (by omega)
      refine back_step ho ha hf ?_
      unfold M.resume
      dsimp only
      rw [if_neg Bool.false_ne_true, if_neg (show ¬ fpos < m.lastStart from hlt)]
      refine last_step ho rfl rfl ?_
      exact ⟨_, rfl, trivial⟩
end Mine
-- part SreC
namespace Mine
open PySem PySem.Sre
/-- what a match tells -/
def Found1 (b e gb ge : Nat) (m : M) : Prop := (∃ x, m.outcome = some x ∧ (match x with | .matched => True | _ => False)) ∧ m.start = b ∧ m.handed = e ∧ m.marks = #[some gb, some ge] ∧ m.lastmark = 1 ∧ m.lastindex = 1
def Found0 (b e : Nat) (m : M) : Prop := (∃ x, m.outcome = some x ∧ (match x with | .matched => True | _ => False)) ∧ m.start = b ∧ m.handed = e ∧ m.marks = #[] ∧ m.lastmark = -1 ∧ m.lastindex = -1
/-- the state at the search's first try -/
abbrev att (code text : Array Nat) (lim ls pos : Nat) (marks : Array (Option Nat)) (must : Bool) : M :=
  { code, text, lim, start := pos, lastStart := ls, mustAdvance := must, pc := 5, pos, handed := pos, outermost := true, marks, lastmark := -1, lastindex := -1, frames := [{ wait := .nextStart, pc := 5, pos, outermost := true }], weight := 1, seen := ({} : Seen).add 14 }
theorem search_few {code text : Array Nat} {g pos lim : Nat} {must : Bool} (h : lim < pos + (header code).1) : EndsIn 1 (forSearch code text g pos lim must) Failed := by
  unfold forSearch
  rw [if_pos (by simp; omega)]
  exact last_step rfl rfl rfl ⟨_, rfl, trivial⟩
theorem search_tok {text : Array Nat} {pos lim : Nat} (h : pos + 1 ≤ lim) : forSearch tokCode text 1 pos lim false = att tokCode text lim lim pos #[none, none] false := by
  have hh : header tokCode = (1, 5) := rfl
  unfold forSearch
  simp only [hh]
  rw [if_neg (by simp; omega)]
  rfl
theorem search_val {text : Array Nat} {pos lim : Nat} (h : pos + 1 ≤ lim) : forSearch valCode text 1 pos lim false = att valCode text lim lim pos #[none, none] false := by
  have hh : header valCode = (1, 5) := rfl
  unfold forSearch
  simp only [hh]
  rw [if_neg (by simp; omega)]
  rfl
theorem search_quo {text : Array Nat} {pos lim : Nat} (h : pos + 3 ≤ lim) : forSearch quoCode text 1 pos lim false = att quoCode text lim (max pos (lim - 2)) pos #[none, none] false := by
  have hh : header quoCode = (3, 5) := rfl
  unfold forSearch
  simp only [hh]
  rw [if_neg (by simp; omega)]
  rfl
theorem search_junk {text : Array Nat} {pos lim : Nat} (must : Bool) (h : pos ≤ lim) : forSearch junkCode text 0 pos lim must = att junkCode text lim lim pos #[] must := by
  have hh : header junkCode = (0, 5) := rfl
  unfold forSearch
  simp only [hh]
  rw [if_neg (by simp; omega)]
  rfl
theorem back_yes {k : Nat} {m : M} {P : M → Prop} {f : Sre.Frame} {rest : List Sre.Frame} (ho : m.outcome = none) (ha : m.answer = some true) (hf : m.frames = f :: rest) (hw : f.wait = .giveBack ∨ f.wait = .nextStart)
    (h : EndsIn k { m with answer := some true, frames := rest, weight := m.weight - (1 + f.kept.marks.size), pc := f.pc, pos := f.pos, outermost := f.outermost } P) : EndsIn (k + 1) m P := by
  refine back_step ho ha hf ?_
  unfold M.resume
  rcases hw with hw | hw <;> (rw [hw]; exact h)
theorem exec_repG {k : Nat} {m : M} {P : M → Prop} {f : Nat → Bool} {j : Nat} (pc T : Nat) (hpc' : m.pc = pc) (ho : m.outcome = none) (ha : m.answer = none) (hpc : pc < m.code.size) (h0 : m.code.getD pc 0 = 24) (hT : pc + 1 + m.code.getD (pc + 1) 0 = T) (h2 : m.code.getD (pc + 2) 0 = 0 ∨ (m.code.getD (pc + 2) 0 = 1 ∧ 0 < j)) (h3 : m.code.getD (pc + 3) 0 = 4294967295) (A : Accepts m.code (pc + 4) f) (hi : m.inner = none) (hw : m.weight ≤ 1000)
    (hlim : m.lim < 4294967295) (hp : m.pos + j ≤ m.lim) (hc : ∀ i, i < j → f (m.text.getD (m.pos + i) 0) = true) (hend : m.pos + j = m.lim ∨ f (m.text.getD (m.pos + j) 0) = false)
    (h : ∀ sn, EndsIn k { m with seen := sn, frames := { wait := .giveBack, pc := pc, pos := m.pos + j, outermost := m.outermost, count := (j : Int), kept := { lastmark := m.lastmark, lastindex := m.lastindex, whole := false, marks := #[] } } :: m.frames, weight := m.weight + 1, pc := T, pos := m.pos + j, handed := m.pos + j } P) : EndsIn (k + 1) m P := by
  subst hpc'
  refine exec_rep (j := j) ho ha hpc h0 h3 A hlim hp (by unfold M.word; rcases h2 with h | ⟨h, h'⟩ <;> (rw [h]; omega)) hc hend fun sn => ?_
  unfold M.afterRun
  have e : ({ m with seen := sn, pos := m.pos + j } : M).keep m.inner.isSome = { lastmark := m.lastmark, lastindex := m.lastindex, whole := false, marks := #[] } := by rw [hi]; rfl
  rw [e, attempt_eq (by show m.weight + 1 + 0 ≤ 16777216; omega)]
  have e2 : ({ m with seen := sn, pos := m.pos + j } : M).pc + 1 + ({ m with seen := sn, pos := m.pos + j } : M).word 1 = T := hT
  rw [e2]
  exact h sn
theorem exec_oneG {k : Nat} {m : M} {P : M → Prop} {f : Nat → Bool} (pc T : Nat) (hpc' : m.pc = pc) (ho : m.outcome = none) (ha : m.answer = none) (hpc : pc < m.code.size) (h0 : m.code.getD pc 0 = 16 ∨ m.code.getD pc 0 = 2 ∨ m.code.getD pc 0 = 13) (hT : pc + itemWidth m.code pc = T) (A : Accepts m.code pc f)
    (hp : m.pos < m.lim) (hc : f (m.text.getD m.pos 0) = true)
    (h : ∀ sn, EndsIn k { m with seen := sn, pc := T, pos := m.pos + 1 } P) : EndsIn (k + 1) m P := by
  subst hpc'
  refine exec_one ho ha hpc h0 A hp hc fun sn => ?_
  rw [hT]
  exact h sn
theorem exec_mark0 {k : Nat} {m : M} {P : M → Prop} (ho : m.outcome = none) (ha : m.answer = none) (hpc : m.pc < m.code.size) (h0 : m.word 0 = 17) (h1 : m.word 1 = 0) (hl : m.lastmark = -1) (T : Nat) (hT : m.pc + 2 = T) (ms : Array (Option Nat)) (hms : m.marks.setIfInBounds 0 (some m.pos) = ms)
    (h : ∀ sn, EndsIn k { m with seen := sn, marks := ms, lastmark := 0, pc := T } P) : EndsIn (k + 1) m P := by
  refine exec_mark ho ha hpc h0 fun sn => ?_
  have e : ({ m with seen := sn } : M).mark (m.word 1) = { m with seen := sn, marks := m.marks.setIfInBounds 0 (some m.pos), lastmark := 0, pc := m.pc + 2 } := by
    rw [h1]; unfold M.mark; simp [hl]; decide
  rw [e, hT, hms]; exact h sn
theorem exec_mark1 {k : Nat} {m : M} {P : M → Prop} (ho : m.outcome = none) (ha : m.answer = none) (hpc : m.pc < m.code.size) (h0 : m.word 0 = 17) (h1 : m.word 1 = 1) (hl : m.lastmark = 0) (T : Nat) (hT : m.pc + 2 = T) (ms : Array (Option Nat)) (hms : m.marks.setIfInBounds 1 (some m.pos) = ms)
    (h : ∀ sn, EndsIn k { m with seen := sn, marks := ms, lastmark := 1, lastindex := 1, pc := T } P) : EndsIn (k + 1) m P := by
  refine exec_mark ho ha hpc h0 fun sn => ?_
  have e : ({ m with seen := sn } : M).mark (m.word 1) = { m with seen := sn, marks := m.marks.setIfInBounds 1 (some m.pos), lastmark := 1, lastindex := 1, pc := m.pc + 2 } := by
    rw [h1]; unfold M.mark; simp [hl]; rfl
  rw [e, hT, hms]; exact h sn
theorem exec_repeat {k : Nat} {m : M} {P : M → Prop} (ho : m.outcome = none) (ha : m.answer = none) (hpc : m.pc < m.code.size) (h0 : m.word 0 = 23) (hl : m.loops = #[]) (hi : m.inner = none) (hw : m.weight ≤ 1000)
    (h : ∀ sn, EndsIn k { m with seen := sn, loops := #[{ pc := m.pc, outer := none }], inner := some 0, frames := { wait := .closeLoop, pc := m.pc, pos := m.pos, outermost := m.outermost, «loop» := 0 } :: m.frames, weight := m.weight + 1 + 0, pc := m.pc + 1 + m.word 1, handed := m.pos } P) : EndsIn (k + 1) m P := by
  refine .step ho ?_
  rw [step_exec ho ha hpc, exec_op (o := .REPEAT) (by rw [h0]; rfl)]
  dsimp only
  rw [attempt_eq (by show m.weight + 1 + 0 ≤ 16777216; omega)]
  have key := h (m.seen.add (m.word 0))
  rw [hl, hi]
  exact key
theorem exec_until {k : Nat} {m : M} {P : M → Prop} {l : Loop} (ho : m.outcome = none) (ha : m.answer = none) (hpc : m.pc < m.code.size) (h0 : m.word 0 = 18) (hl : m.loops = #[l]) (hi : m.inner = some 0) (hw : m.weight ≤ 1000)
    (hlo : l.outer = none) (h2 : m.code.getD (l.pc + 2) 0 = 0) (h3 : m.code.getD (l.pc + 3) 0 = 4294967295) (hc : 0 ≤ l.count + 1) (hb : l.began ≠ some m.pos) (hlm : m.lastmark = 0) (hms : m.marks.size = 2)
    (h : ∀ sn, EndsIn k { m with seen := sn, loops := #[{ pc := l.pc, count := l.count + 1, began := some m.pos, outer := none }], frames := { wait := .maxMore, pc := m.pc + 1, pos := m.pos, outermost := m.outermost, count := l.count + 1, kept := { lastmark := 0, lastindex := m.lastindex, whole := true, marks := m.marks.extract 0 1 }, loop := 0, began := l.began } :: m.frames, weight := m.weight + 1 + 1, pc := l.pc + 4, handed := m.pos } P) : EndsIn (k + 1) m P := by
  refine .step ho ?_
  rw [step_exec ho ha hpc, exec_op (o := .MAX_UNTIL) (by rw [h0]; rfl)]
  obtain ⟨lpc, lcount, lbegan, louter⟩ := l
  dsimp only at hlo h2 h3 hc hb h
  subst hlo
  unfold M.until_
  dsimp only
  rw [hi]
  dsimp only
  unfold M.loopAt
  rw [hl]
  simp only [show ∀ d, (#[({ pc := lpc, count := lcount, began := lbegan, outer := none } : Loop)]).getD 0 d = { pc := lpc, count := lcount, began := lbegan, outer := none } from fun _ => rfl, h2, h3]
  rw [if_neg (by omega)]
  have hbb : (lbegan != some m.pos) = true := by simpa using hb
  simp only [Bool.not_true, Bool.false_eq_true, if_false, hbb, maxRepeat, beq_self_eq_true, Bool.or_true, Bool.true_and, if_true]
  unfold M.round M.loopAt M.setLoop M.keep
  have hex : (m.marks.extract 0 ((0 : Int) + 1).toNat).size = 1 := by simp [hms]
  have hex2 : ((0 : Int) + 1).toNat = 1 := rfl
  rw [attempt_eq (by rw [hlm]; show m.weight + 1 + (m.marks.extract 0 ((0 : Int) + 1).toNat).size ≤ 16777216; rw [hex]; omega)]
  have key := h (m.seen.add (m.word 0))
  have e : ∀ (x y : M), x = y → EndsIn k x P → EndsIn k y P := fun x y e h => e ▸ h
  refine e _ _ ?_ key
  simp [hlm, hms, M.frame, hi]
/-- the loop's body finds no more: its end is tried -/
theorem back_maxMore {k : Nat} {m : M} {P : M → Prop} {f : Sre.Frame} {rest : List Sre.Frame} {l : Loop} (ho : m.outcome = none) (ha : m.answer = some false) (hf : m.frames = f :: rest) (hw : f.wait = .maxMore) (hlp : f.loop = 0) (hl : m.loops = #[l]) (hlo : l.outer = none)
    (hk : f.kept.whole = true) (hks : f.kept.marks.size = 1) (hms : m.marks.size = 2) (hwt : m.weight ≤ 1000)
    (h : EndsIn k { m with answer := none, inner := none, loops := #[{ pc := l.pc, count := f.count - 1, began := f.began, outer := none }], lastmark := f.kept.lastmark, lastindex := f.kept.lastindex, marks := f.kept.marks ++ m.marks.extract 1 2, frames := { wait := .maxTail, pc := f.pc, pos := f.pos, outermost := f.outermost, count := f.count, kept := { lastmark := f.kept.lastmark, lastindex := f.kept.lastindex, whole := false, marks := #[] }, loop := 0 } :: rest, weight := m.weight - (1 + f.kept.marks.size) + 1 + 0, pc := f.pc, pos := f.pos, handed := f.pos, outermost := f.outermost } P) : EndsIn (k + 1) m P := by
  refine back_step ho ha hf ?_
  obtain ⟨wt, fpc, fpos, fo, fcount, ⟨flm, fli, fwh, fms⟩, floop, fbegan⟩ := f
  dsimp only at hw hlp hk hks h
  subst hw hlp hk
  obtain ⟨lpc, lcount, lbegan, louter⟩ := l
  dsimp only at hlo h
  subst hlo
  unfold M.resume
  dsimp only
  rw [if_neg Bool.false_ne_true]
  unfold M.afterLoop
  dsimp only
  rw [attempt_eq (by unfold M.keep M.setLoop M.putBack; show m.weight - (1 + fms.size) + 1 + 0 ≤ 16777216; omega)]
  have e : ∀ (x y : M), x = y → EndsIn k x P → EndsIn k y P := fun x y e h => e ▸ h
  refine e _ _ ?_ h
  unfold M.keep M.setLoop M.putBack M.loopAt M.frame
  simp [hl, hks, hms]
theorem back_maxTail {k : Nat} {m : M} {P : M → Prop} {f : Sre.Frame} {rest : List Sre.Frame} (ho : m.outcome = none) (ha : m.answer = some true) (hf : m.frames = f :: rest) (hw : f.wait = .maxTail)
    (h : EndsIn k { m with answer := some true, inner := some f.loop, frames := rest, weight := m.weight - (1 + f.kept.marks.size), pc := f.pc, pos := f.pos, outermost := f.outermost } P) : EndsIn (k + 1) m P := by
  refine back_step ho ha hf ?_
  unfold M.resume
  rw [hw]; exact h
theorem back_maxMoreYes {k : Nat} {m : M} {P : M → Prop} {f : Sre.Frame} {rest : List Sre.Frame} (ho : m.outcome = none) (ha : m.answer = some true) (hf : m.frames = f :: rest) (hw : f.wait = .maxMore)
    (h : ∀ ls, EndsIn k { m with answer := some true, loops := ls, frames := rest, weight := m.weight - (1 + f.kept.marks.size), pc := f.pc, pos := f.pos, outermost := f.outermost } P) : EndsIn (k + 1) m P := by
  refine back_step ho ha hf ?_
  unfold M.resume
  rw [hw]; exact h _
theorem back_closeLoop {k : Nat} {m : M} {P : M → Prop} {f : Sre.Frame} {rest : List Sre.Frame} (ho : m.outcome = none) (ha : m.answer = some true) (hf : m.frames = f :: rest) (hw : f.wait = .closeLoop)
    (h : ∀ i ls, EndsIn k { m with answer := some true, inner := i, loops := ls, frames := rest, weight := m.weight - (1 + f.kept.marks.size), pc := f.pc, pos := f.pos, outermost := f.outermost } P) : EndsIn (k + 1) m P := by
  refine back_step ho ha hf ?_
  unfold M.resume
  rw [hw]; exact h _ _
section
variable {text : Array Nat}
/-- a token with the blanks ahead of it -/
theorem tok_found {j n : Nat} (hlim : text.size < 4294967295) (hn : 0 < n) (hsz : j + n ≤ text.size) (hw : ∀ i, i < j → Unicode.isSpace (text.getD i 0) = true) (ht : ∀ i, i < n → isTok (text.getD (j + i) 0) = true)
    (hw' : Unicode.isSpace (text.getD j 0) = false) (he : j + n = text.size ∨ isTok (text.getD (j + n) 0) = false) :
    EndsIn 10 (forSearch tokCode text 1 0 text.size false) (Found1 0 (j + n) j (j + n)) := by
  rw [search_tok (by omega)]
  refine exec_at0 rfl rfl (by show 5 < 42; decide) rfl rfl rfl fun sn => ?_
  dsimp only
  refine exec_repG (j := j) 7 17 rfl rfl rfl (by show 7 < 42; decide) rfl rfl (.inl rfl) rfl (acc_ws rfl rfl rfl rfl (by show 2 ≤ 42; decide)) rfl (by show 1 ≤ 1000; decide) hlim (by show 0 + j ≤ text.size; omega) (fun i hi => by show Unicode.isSpace (text.getD (0 + i) 0) = true; rw [Nat.zero_add]; exact hw i hi) (.inr (by show Unicode.isSpace (text.getD (0 + j) 0) = false; rw [Nat.zero_add]; exact hw')) fun sn => ?_
  dsimp only
  rw [Nat.zero_add]
  refine exec_mark0 rfl rfl (by show 17 < 42; decide) rfl rfl rfl 19 rfl #[some j, none] rfl fun sn => ?_
  dsimp only
  refine exec_repG (j := n) 19 39 rfl rfl rfl (by show 19 < 42; decide) rfl rfl (.inr ⟨rfl, hn⟩) rfl acc_tok rfl (by show 2 ≤ 1000; decide) hlim hsz ht he fun sn => ?_
  dsimp only
  refine exec_mark1 rfl rfl (by show 39 < 42; decide) rfl rfl rfl 41 rfl #[some j, some (j + n)] rfl fun sn => ?_
  dsimp only
  refine exec_success rfl rfl (by show 41 < 42; decide) rfl rfl fun sn => ?_
  dsimp only
  refine back_yes rfl rfl rfl (.inl rfl) ?_
  refine back_yes rfl rfl rfl (.inl rfl) ?_
  refine back_yes rfl rfl rfl (.inr rfl) ?_
  refine last_step rfl rfl rfl ?_
  exact ⟨⟨_, rfl, trivial⟩, rfl, rfl, rfl, rfl, rfl⟩
/-- junk is taken away from the text's start -/
theorem junk_found {j : Nat} {must : Bool} (hlim : text.size < 4294967295) (hsz : j ≤ text.size) (hw : ∀ i, i < j → isJunk (text.getD i 0) = true) (he : j = text.size ∨ isJunk (text.getD j 0) = false) (hm : (must && j == 0) = false) :
    EndsIn 6 (forSearch junkCode text 0 0 text.size must) (Found0 0 j) := by
  rw [search_junk _ (by omega)]
  refine exec_at0 rfl rfl (by show 5 < 22; decide) rfl rfl rfl fun sn => ?_
  (try dsimp only)
  refine exec_rep (j := j) rfl rfl (by show 7 < 22; decide) rfl rfl acc_junk hlim (by show 0 + j ≤ text.size; omega) (Nat.zero_le _) (fun i hi => by show isJunk (text.getD (0 + i) 0) = true; rw [Nat.zero_add]; exact hw i hi) (by show 0 + j = text.size ∨ isJunk (text.getD (0 + j) 0) = false; rw [Nat.zero_add]; exact he) fun sn => ?_
  unfold M.afterRun
  rw [attempt_eq (by show 1 + 1 + 0 ≤ 16777216; decide)]
  (try dsimp only)
  refine exec_success rfl rfl (by show 21 < 22; decide) rfl (by show (true && ((false && _) || (must && (0 + j == 0)))) = false; rw [Nat.zero_add]; simpa using hm) fun sn => ?_
  (try dsimp only)
  refine back_yes rfl rfl rfl (.inl rfl) ?_
  refine back_yes rfl rfl rfl (.inr rfl) ?_
  refine last_step rfl rfl rfl ?_
  refine ⟨⟨_, rfl, trivial⟩, rfl, ?_, rfl, rfl, rfl⟩
  show 0 + j = j; omega
/-- behind the text's start nothing more is found -/
theorem junk_over {j : Nat} {must : Bool} (hsz : j ≤ text.size) (hj : 0 < j) : EndsIn (2 * text.size + 3) (forSearch junkCode text 0 j text.size must) Failed := by
  rw [search_junk _ hsz]
  refine EndsIn.mono (k := (2 * (text.size - j) + 2) + 1) ?_ (by omega)
  refine exec_at0_no rfl rfl (by show 5 < 22; decide) rfl rfl (by show j ≠ 0; omega) fun sn => ?_
  exact dead_ends (text.size - j) _ { wait := .nextStart, pc := 5, pos := j, outermost := true } rfl rfl rfl rfl rfl rfl (by show 5 < 22; decide) rfl rfl (by show 1 ≤ 100000; decide) rfl
end
/-- what stays as it is while a try fails -/
structure Ok (code text : Array Nat) (ls : Nat) (m : M) : Prop where
  hc : m.code = code
  ht : m.text = text
  hl : m.lim = text.size
  hls : m.lastStart = ls
  ho : m.outcome = none
  hi : m.inner = none
  hw : m.weight = m.frames.length
abbrev gbFrame (pc pos : Nat) (j : Nat) (o : Bool) (fk : Sre.Kept) : Sre.Frame := { wait := .giveBack, pc, pos, outermost := o, count := (j : Int), kept := fk }
section
variable {code text : Array Nat} {ls : Nat}
theorem gb_fail {T pcR base c J : Nat} {rest : List Sre.Frame} {fk : Sre.Kept} (hfk : fk.marks = #[]) (hfw : fk.whole = false) (hT : pcR + 1 + code.getD (pcR + 1) 0 = T) (h2 : code.getD (pcR + 2) 0 = 0) (hr : rest.length ≤ 1000)
    (tail : ∀ j', j' < J → ∀ (m : M) (o : Bool), Ok code text ls m → m.answer = none → m.pc = T → m.pos = base + j' → m.frames = gbFrame pcR (base + j') j' o fk :: rest →
      ∀ k P, (∀ m', Ok code text ls m' → m'.answer = some false → m'.frames = gbFrame pcR (base + j') j' o fk :: rest → EndsIn k m' P) → EndsIn (c + k) m P) :
    ∀ j, j ≤ J → ∀ (m : M) (o : Bool), Ok code text ls m → m.answer = some false → m.frames = gbFrame pcR (base + j) j o fk :: rest →
      ∀ k P, (∀ m', Ok code text ls m' → m'.answer = some false → m'.frames = rest → EndsIn k m' P) → EndsIn ((c + 1) * j + 1 + k) m P
  | 0, _, m, o, O, ha, hf, k, P, h => by
    refine EndsIn.mono (k := k + 1) ?_ (by omega)
    refine back_step O.ho ha hf ?_
    unfold M.resume
    dsimp only
    rw [if_neg Bool.false_ne_true, if_pos (by show ((0 : Nat) : Int) - 1 < ((m.code.getD (pcR + 2) 0 : Nat) : Int); rw [O.hc, h2]; decide)]
    refine h _ ⟨?_, ?_, ?_, ?_, ?_, ?_, ?_⟩ rfl ?_
    all_goals (unfold M.say M.putBack; dsimp only)
    · exact O.hc
    · exact O.ht
    · exact O.hl
    · exact O.hls
    · exact O.ho
    · exact O.hi
    · show m.weight - (1 + fk.marks.size) = rest.length
      rw [O.hw, hf, hfk]; simp
  | j + 1, hj, m, o, O, ha, hf, k, P, h => by
    refine EndsIn.mono (k := (c + ((c + 1) * j + 1 + k)) + 1) ?_ (by rw [Nat.mul_succ]; omega)
    refine back_step O.ho ha hf ?_
    unfold M.resume
    dsimp only
    rw [if_neg Bool.false_ne_true, if_neg (by show ¬ (((j + 1 : Nat) : Int) - 1 < ((m.code.getD (pcR + 2) 0 : Nat) : Int)); rw [O.hc, h2]; show ¬ _ < (0 : Int); omega)]
    unfold M.afterRun
    have hwt : m.weight - (1 + fk.marks.size) = rest.length := by rw [O.hw, hf, hfk]; simp
    rw [attempt_eq (by show m.weight - (1 + fk.marks.size) + 1 + fk.marks.size ≤ 16777216; rw [hwt, hfk]; show rest.length + 1 + 0 ≤ _; omega)]
    have hcnt : (((j + 1 : Nat) : Int) - 1) = (j : Int) := by omega
    have hfr : (({ wait := .giveBack, pc := pcR, pos := base + (j + 1) - 1, outermost := o, count := ((j + 1 : Nat) : Int) - 1, kept := fk } : Sre.Frame)) = gbFrame pcR (base + j) j o fk := by rw [hcnt]; rfl
    have O' : Ok code text ls ({ m with answer := none, frames := gbFrame pcR (base + j) j o fk :: rest, weight := m.weight - (1 + fk.marks.size) + 1 + fk.marks.size, pc := T, pos := base + j, handed := base + j, outermost := o, lastmark := fk.lastmark, lastindex := fk.lastindex }) :=
      ⟨O.hc, O.ht, O.hl, O.hls, O.ho, O.hi, by show m.weight - (1 + fk.marks.size) + 1 + fk.marks.size = rest.length + 1; rw [hwt, hfk]; rfl⟩
    have key := tail j (by omega) _ o O' rfl rfl rfl rfl ((c + 1) * j + 1 + k) P fun m' O'' ha' hf' => gb_fail hfk hfw hT h2 hr tail j (by omega) m' o O'' ha' hf' k P h
    have e : ∀ (x y : M), x = y → EndsIn (c + ((c + 1) * j + 1 + k)) x P → EndsIn (c + ((c + 1) * j + 1 + k)) y P := fun x y e h => e ▸ h
    refine e _ _ ?_ key
    have hT' : pcR + 1 + m.code.getD (pcR + 1) 0 = T := by rw [O.hc]; exact hT
    unfold M.putBack M.frame M.word
    simp only [hfw, hT', hcnt]
    rfl
theorem Ok.dead {m : M} (O : Ok code text ls m) (ha : m.answer = some false) (hf : m.frames = [{ wait := .nextStart, pc := 5, pos := 0, outermost := true }]) (h2 : code.getD 2 0 = 0)
    (hsz : 5 < code.size) (h5 : code.getD 5 0 = 6) (h6 : code.getD 6 0 = 0) : EndsIn (2 * ls + 2) m Failed := by
  refine dead_ends ls m { wait := .nextStart, pc := 5, pos := 0, outermost := true } O.ho ha hf rfl rfl ?_ (by rw [O.hc]; exact hsz) (by rw [O.hc]; exact h5) (by rw [O.hc]; exact h6) (by rw [O.hw, hf]; decide) (by rw [O.hls]; rfl)
  unfold M.hasFirstSet
  rw [O.hc, h2]
  simp
theorem tok_tail {k : Nat} {rest : List Sre.Frame} (hlim : text.size < 4294967295) (hk : k ≤ text.size) (hw : ∀ i, i < k → Unicode.isSpace (text.getD i 0) = true) (he : k = text.size ∨ isTok (text.getD k 0) = false)
    (j : Nat) (hj : j ≤ k) (m : M) (O : Ok tokCode text ls m) (ha : m.answer = none) (hpc : m.pc = 17) (hp : m.pos = 0 + j) (hf : m.frames = rest) (n : Nat) (P : M → Prop)
    (h : ∀ m', Ok tokCode text ls m' → m'.answer = some false → m'.frames = rest → EndsIn n m' P) : EndsIn (2 + n) m P := by
  refine EndsIn.mono (k := n + 1 + 1) ?_ (by omega)
  have hc := O.hc
  refine exec_mark O.ho ha (by rw [hpc, hc]; decide) (by unfold M.word; rw [hpc, hc]; rfl) fun sn => ?_
  refine exec_rep_few (f := isTok) (j := 0) O.ho ha (by show m.pc + 2 < m.code.size; rw [hpc, hc]; decide) (by show m.code.getD (m.pc + 2 + 0) 0 = 24; rw [hpc, hc]; rfl) (by show m.code.getD (m.pc + 2 + 3) 0 = _; rw [hpc, hc]; rfl)
      (by show Accepts m.code (m.pc + 2 + 4) isTok; rw [hpc, hc]; exact acc_tok) (by show m.lim < _; rw [O.hl]; exact hlim) (by show m.pos + 0 ≤ m.lim; rw [hp, O.hl]; omega) (by show 0 < m.code.getD (m.pc + 2 + 2) 0; rw [hpc, hc]; decide) (fun i hi => absurd hi (Nat.not_lt_zero _)) ?_ fun sn => ?_
  · show m.pos + 0 = m.lim ∨ isTok (m.text.getD (m.pos + 0) 0) = false
    rw [hp, O.hl, O.ht, Nat.add_zero, Nat.zero_add]
    by_cases hk0 : j = k
    · subst hk0; exact he
    · exact .inr (by unfold isTok; rw [hw j (by omega), Bool.or_true]; rfl)
  · exact h _ ⟨O.hc, O.ht, O.hl, O.hls, O.ho, O.hi, O.hw⟩ rfl hf
theorem tok_none {k : Nat} (hlim : text.size < 4294967295) (hk : k ≤ text.size) (hw : ∀ i, i < k → Unicode.isSpace (text.getD i 0) = true) (he : k = text.size ∨ (Unicode.isSpace (text.getD k 0) = false ∧ isTok (text.getD k 0) = false)) :
    EndsIn (5 * text.size + 10) (forSearch tokCode text 1 0 text.size false) Failed := by
  by_cases hz : text.size = 0
  · refine EndsIn.mono (search_few ?_) (by omega)
    rw [hz]; decide
  rw [search_tok (by omega)]
  refine EndsIn.mono (k := (2 + ((2 + 1) * k + 1 + (2 * text.size + 2))) + 1 + 1) ?_ (by omega)
  refine exec_at0 rfl rfl (by show 5 < 42; decide) rfl rfl rfl fun sn => ?_
  (try dsimp only)
  refine exec_rep (j := k) rfl rfl (by show 7 < 42; decide) rfl rfl (acc_ws rfl rfl rfl rfl (by show 2 ≤ 42; decide)) hlim (by show 0 + k ≤ text.size; omega) (Nat.zero_le _) (fun i hi => by show Unicode.isSpace (text.getD (0 + i) 0) = true; rw [Nat.zero_add]; exact hw i hi) (by show 0 + k = text.size ∨ Unicode.isSpace (text.getD (0 + k) 0) = false; rw [Nat.zero_add]; exact he.imp id (·.1)) fun sn => ?_
  unfold M.afterRun
  rw [attempt_eq (by show 1 + 1 + 0 ≤ 16777216; decide)]
  refine tok_tail (ls := text.size) (rest := gbFrame 7 (0 + k) k true { lastmark := -1, lastindex := -1, whole := false, marks := #[] } :: [{ wait := .nextStart, pc := 5, pos := 0, outermost := true }]) hlim hk hw (he.imp id (·.2)) k (Nat.le_refl _) _ ⟨rfl, rfl, rfl, rfl, rfl, rfl, rfl⟩ rfl rfl rfl rfl _ _ fun m' O ha hf => ?_
  refine gb_fail (c := 2) (J := k) (T := 17) rfl rfl rfl rfl (by show 1 ≤ 1000; decide) (fun j' hj' m o O ha hpc hp hf k' P h => tok_tail hlim hk hw (he.imp id (·.2)) j' (by omega) m O ha hpc hp hf k' P h) k (Nat.le_refl _) m' true O ha hf _ _ fun m'' O' ha' hf' => ?_
  exact O'.dead ha' hf' rfl (by decide) rfl rfl
/-- a value without marks, behind its sign -/
theorem val_found {a b n : Nat} (hlim : text.size < 4294967295) (hn : 0 < n) (hsz : a + 1 + b + n ≤ text.size) (hw : ∀ i, i < a → Unicode.isSpace (text.getD i 0) = true) (hq : text.getD a 0 = 61)
    (hw2 : ∀ i, i < b → Unicode.isSpace (text.getD (a + 1 + i) 0) = true) (ht : ∀ i, i < n → isVal (text.getD (a + 1 + b + i) 0) = true) (he : a + 1 + b + n = text.size ∨ isVal (text.getD (a + 1 + b + n) 0) = false) :
    EndsIn 13 (forSearch valCode text 1 0 text.size false) (Found1 0 (a + 1 + b + n) (a + 1 + b) (a + 1 + b + n)) := by
  have hsp : Unicode.isSpace (text.getD (a + 1 + b) 0) = false := by
    have := ht 0 hn
    unfold isVal at this
    rw [Nat.add_zero] at this
    cases h : Unicode.isSpace (text.getD (a + 1 + b) 0) with
    | false => rfl
    | true => rw [h] at this; cases this
  rw [search_val (by omega)]
  refine exec_at0 rfl rfl (by show 5 < 49; decide) rfl rfl rfl fun sn => ?_
  dsimp only
  refine exec_repG (j := a) 7 17 rfl rfl rfl (by show 7 < 49; decide) rfl rfl (.inl rfl) rfl (acc_ws rfl rfl rfl rfl (by show 2 ≤ 49; decide)) rfl (by show 1 ≤ 1000; decide) hlim (by show 0 + a ≤ text.size; omega) (fun i hi => by show Unicode.isSpace (text.getD (0 + i) 0) = true; rw [Nat.zero_add]; exact hw i hi) (.inr (by show Unicode.isSpace (text.getD (0 + a) 0) = false; rw [Nat.zero_add, hq]; decide +kernel)) fun sn => ?_
  dsimp only
  rw [Nat.zero_add]
  refine exec_oneG 17 19 rfl rfl rfl (by show 17 < 49; decide) (.inl rfl) rfl (acc_lit (n := 61) rfl rfl) (by show a < text.size; omega) (by show (text.getD a 0 == 61) = true; rw [hq]; rfl) fun sn => ?_
  dsimp only
  refine exec_repG (j := b) 19 29 rfl rfl rfl (by show 19 < 49; decide) rfl rfl (.inl rfl) rfl (acc_ws rfl rfl rfl rfl (by show 2 ≤ 49; decide)) rfl (by show 2 ≤ 1000; decide) hlim (by show a + 1 + b ≤ text.size; omega) hw2 (.inr hsp) fun sn => ?_
  dsimp only
  refine exec_mark0 rfl rfl (by show 29 < 49; decide) rfl rfl rfl 31 rfl #[some (a + 1 + b), none] rfl fun sn => ?_
  dsimp only
  refine exec_repG (j := n) 31 46 rfl rfl rfl (by show 31 < 49; decide) rfl rfl (.inl rfl) rfl acc_val rfl (by show 3 ≤ 1000; decide) hlim hsz ht he fun sn => ?_
  dsimp only
  refine exec_mark1 rfl rfl (by show 46 < 49; decide) rfl rfl rfl 48 rfl #[some (a + 1 + b), some (a + 1 + b + n)] rfl fun sn => ?_
  dsimp only
  refine exec_success rfl rfl (by show 48 < 49; decide) rfl rfl fun sn => ?_
  dsimp only
  refine back_yes rfl rfl rfl (.inl rfl) ?_
  refine back_yes rfl rfl rfl (.inl rfl) ?_
  refine back_yes rfl rfl rfl (.inl rfl) ?_
  refine back_yes rfl rfl rfl (.inr rfl) ?_
  refine last_step rfl rfl rfl ?_
  exact ⟨⟨_, rfl, trivial⟩, rfl, rfl, rfl, rfl, rfl⟩
/-- a literal that is asked for behind blanks does not stand there -/
theorem lit_tail {T x k base : Nat} {rest : List Sre.Frame} (hT : T < code.size) (h16 : code.getD T 0 = 16) (hx : code.getD (T + 1) 0 = x) (hxs : Unicode.isSpace x = false) (hw : ∀ i, i < k → Unicode.isSpace (text.getD (base + i) 0) = true) (he : base + k = text.size ∨ text.getD (base + k) 0 ≠ x)
    (j : Nat) (hj : j ≤ k) (m : M) (O : Ok code text ls m) (ha : m.answer = none) (hpc : m.pc = T) (hp : m.pos = base + j) (hf : m.frames = rest) (n : Nat) (P : M → Prop)
    (h : ∀ m', Ok code text ls m' → m'.answer = some false → m'.frames = rest → EndsIn n m' P) : EndsIn (1 + n) m P := by
  refine EndsIn.mono (k := n + 1) ?_ (by omega)
  have hc := O.hc
  refine exec_one_no (f := fun c => c == x) O.ho ha (by rw [hpc, hc]; exact hT) (.inl (by unfold M.word; rw [hpc, hc]; exact h16)) (by rw [hpc, hc]; exact acc_lit h16 hx) ?_ fun sn => ?_
  · rw [hp, O.hl, O.ht]
    by_cases hk0 : j = k
    · subst hk0
      exact he.imp (fun h => by omega) fun h => by simpa using h
    · refine .inr ?_
      have := hw j (by omega)
      cases hb : (text.getD (base + j) 0 == x) with
      | false => rfl
      | true => rw [eq_of_beq hb, hxs] at this; cases this
  · exact h _ ⟨O.hc, O.ht, O.hl, O.hls, O.ho, O.hi, O.hw⟩ rfl hf
theorem val_none {k : Nat} (hlim : text.size < 4294967295) (hk : k ≤ text.size) (hw : ∀ i, i < k → Unicode.isSpace (text.getD i 0) = true) (he : k = text.size ∨ (Unicode.isSpace (text.getD k 0) = false ∧ text.getD k 0 ≠ 61)) :
    EndsIn (5 * text.size + 10) (forSearch valCode text 1 0 text.size false) Failed := by
  by_cases hz : text.size = 0
  · refine EndsIn.mono (search_few ?_) (by omega)
    rw [hz]; decide
  rw [search_val (by omega)]
  refine EndsIn.mono (k := (1 + ((1 + 1) * k + 1 + (2 * text.size + 2))) + 1 + 1) ?_ (by omega)
  refine exec_at0 rfl rfl (by show 5 < 49; decide) rfl rfl rfl fun sn => ?_
  (try dsimp only)
  refine exec_rep (j := k) rfl rfl (by show 7 < 49; decide) rfl rfl (acc_ws rfl rfl rfl rfl (by show 2 ≤ 49; decide)) hlim (by show 0 + k ≤ text.size; omega) (Nat.zero_le _) (fun i hi => by show Unicode.isSpace (text.getD (0 + i) 0) = true; rw [Nat.zero_add]; exact hw i hi) (by show 0 + k = text.size ∨ Unicode.isSpace (text.getD (0 + k) 0) = false; rw [Nat.zero_add]; exact he.imp id (·.1)) fun sn => ?_
  unfold M.afterRun
  rw [attempt_eq (by show 1 + 1 + 0 ≤ 16777216; decide)]
  have hw' : ∀ i, i < k → Unicode.isSpace (text.getD (0 + i) 0) = true := fun i hi => by rw [Nat.zero_add]; exact hw i hi
  have he' : 0 + k = text.size ∨ text.getD (0 + k) 0 ≠ 61 := by rw [Nat.zero_add]; exact he.imp id (·.2)
  have h61 : Unicode.isSpace 61 = false := by decide +kernel
  refine lit_tail (code := valCode) (ls := text.size) (T := 17) (x := 61) (k := k) (base := 0) (rest := gbFrame 7 (0 + k) k true { lastmark := -1, lastindex := -1, whole := false, marks := #[] } :: [{ wait := .nextStart, pc := 5, pos := 0, outermost := true }]) (by decide) rfl rfl h61 hw' he' k (Nat.le_refl _) _ ⟨rfl, rfl, rfl, rfl, rfl, rfl, rfl⟩ rfl rfl rfl rfl _ _ fun m' O ha hf => ?_
  refine gb_fail (c := 1) (J := k) (T := 17) rfl rfl rfl rfl (by show 1 ≤ 1000; decide) (fun j' hj' m o O ha hpc hp hf k' P h => lit_tail (T := 17) (x := 61) (k := k) (base := 0) (by decide) rfl rfl h61 hw' he' j' (by omega) m O ha hpc hp hf k' P h) k (Nat.le_refl _) m' true O ha hf _ _ fun m'' O' ha' hf' => ?_
  exact O'.dead ha' hf' rfl (by decide) rfl rfl
/-- no sign behind the blanks: no value between marks -/
theorem quo_none {k : Nat} (hlim : text.size < 4294967295) (hk : k ≤ text.size) (hw : ∀ i, i < k → Unicode.isSpace (text.getD i 0) = true) (he : k = text.size ∨ (Unicode.isSpace (text.getD k 0) = false ∧ text.getD k 0 ≠ 61)) :
    EndsIn (5 * text.size + 10) (forSearch quoCode text 1 0 text.size false) Failed := by
  by_cases hz : text.size < 3
  · refine EndsIn.mono (search_few ?_) (by omega)
    show text.size < 0 + 3; omega
  rw [search_quo (by omega)]
  refine EndsIn.mono (k := (1 + ((1 + 1) * k + 1 + (2 * (max 0 (text.size - 2)) + 2))) + 1 + 1) ?_ (by omega)
  refine exec_at0 rfl rfl (by show 5 < 72; decide) rfl rfl rfl fun sn => ?_
  (try dsimp only)
  refine exec_rep (j := k) rfl rfl (by show 7 < 72; decide) rfl rfl (acc_ws rfl rfl rfl rfl (by show 2 ≤ 72; decide)) hlim (by show 0 + k ≤ text.size; omega) (Nat.zero_le _) (fun i hi => by show Unicode.isSpace (text.getD (0 + i) 0) = true; rw [Nat.zero_add]; exact hw i hi) (by show 0 + k = text.size ∨ Unicode.isSpace (text.getD (0 + k) 0) = false; rw [Nat.zero_add]; exact he.imp id (·.1)) fun sn => ?_
  unfold M.afterRun
  rw [attempt_eq (by show 1 + 1 + 0 ≤ 16777216; decide)]
  have hw' : ∀ i, i < k → Unicode.isSpace (text.getD (0 + i) 0) = true := fun i hi => by rw [Nat.zero_add]; exact hw i hi
  have he' : 0 + k = text.size ∨ text.getD (0 + k) 0 ≠ 61 := by rw [Nat.zero_add]; exact he.imp id (·.2)
  have h61 : Unicode.isSpace 61 = false := by decide +kernel
  refine lit_tail (code := quoCode) (ls := max 0 (text.size - 2)) (T := 17) (x := 61) (k := k) (base := 0) (rest := gbFrame 7 (0 + k) k true { lastmark := -1, lastindex := -1, whole := false, marks := #[] } :: [{ wait := .nextStart, pc := 5, pos := 0, outermost := true }]) (by decide) rfl rfl h61 hw' he' k (Nat.le_refl _) _ ⟨rfl, rfl, rfl, rfl, rfl, rfl, rfl⟩ rfl rfl rfl rfl _ _ fun m' O ha hf => ?_
  refine gb_fail (c := 1) (J := k) (T := 17) rfl rfl rfl rfl (by show 1 ≤ 1000; decide) (fun j' hj' m o O ha hpc hp hf k' P h => lit_tail (T := 17) (x := 61) (k := k) (base := 0) (by decide) rfl rfl h61 hw' he' j' (by omega) m O ha hpc hp hf k' P h) k (Nat.le_refl _) m' true O ha hf _ _ fun m'' O' ha' hf' => ?_
  exact O'.dead ha' hf' rfl (by decide) rfl rfl
end
end Mine
-- part SreD
namespace Mine
open PySem PySem.Sre
theorem exec_repI {k : Nat} {m : M} {P : M → Prop} {f : Nat → Bool} {j : Nat} (pc T : Nat) (hpc' : m.pc = pc) (ho : m.outcome = none) (ha : m.answer = none) (hpc : pc < m.code.size) (h0 : m.code.getD pc 0 = 24) (hT : pc + 1 + m.code.getD (pc + 1) 0 = T) (h2 : m.code.getD (pc + 2) 0 = 0) (h3 : m.code.getD (pc + 3) 0 = 4294967295) (A : Accepts m.code (pc + 4) f) (hi : m.inner = some 0) (hw : m.weight ≤ 1000)
    (hlm : m.lastmark = 0) (hms : m.marks.size = 2)
    (hlim : m.lim < 4294967295) (hp : m.pos + j ≤ m.lim) (hc : ∀ i, i < j → f (m.text.getD (m.pos + i) 0) = true) (hend : m.pos + j = m.lim ∨ f (m.text.getD (m.pos + j) 0) = false)
    (h : ∀ sn, EndsIn k { m with seen := sn, frames := { wait := .giveBack, pc := pc, pos := m.pos + j, outermost := m.outermost, count := (j : Int), kept := { lastmark := 0, lastindex := m.lastindex, whole := true, marks := m.marks.extract 0 1 } } :: m.frames, weight := m.weight + 1 + 1, pc := T, pos := m.pos + j, handed := m.pos + j } P) : EndsIn (k + 1) m P := by
  subst hpc'
  refine exec_rep (j := j) ho ha hpc h0 h3 A hlim hp (by unfold M.word; rw [h2]; omega) hc hend fun sn => ?_
  unfold M.afterRun
  have e : ({ m with seen := sn, pos := m.pos + j } : M).keep m.inner.isSome = { lastmark := 0, lastindex := m.lastindex, whole := true, marks := m.marks.extract 0 1 } := by
    rw [hi]; show ({ lastmark := m.lastmark, lastindex := m.lastindex, whole := true, marks := m.marks.extract 0 (m.lastmark + 1).toNat } : Sre.Kept) = _; rw [hlm]; rfl
  have hex : (m.marks.extract 0 1).size = 1 := by simp [hms]
  rw [e, attempt_eq (by show m.weight + 1 + (m.marks.extract 0 1).size ≤ 16777216; rw [hex]; omega)]
  have e2 : ({ m with seen := sn, pos := m.pos + j } : M).pc + 1 + ({ m with seen := sn, pos := m.pos + j } : M).word 1 = T := hT
  rw [e2]
  have e3 : ({ ({ m with seen := sn, pos := m.pos + j } : M).frame Wait.giveBack with count := (j : Int), kept := { lastmark := 0, lastindex := m.lastindex, whole := true, marks := m.marks.extract 0 1 } } : Sre.Frame).kept.marks.size = 1 := hex
  rw [e3]
  exact h sn
section
variable {text : Array Nat}
theorem sp34 : Unicode.isSpace 34 = false := by decide +kernel
theorem sp61 : Unicode.isSpace 61 = false := by decide +kernel
/-- a value between marks, no stroke in it -/
theorem quo_found0 {a b n : Nat} (hlim : text.size < 4294967295) (hsz : a + 1 + b + 1 + n + 1 ≤ text.size) (hw : ∀ i, i < a → Unicode.isSpace (text.getD i 0) = true) (hq : text.getD a 0 = 61)
    (hw2 : ∀ i, i < b → Unicode.isSpace (text.getD (a + 1 + i) 0) = true) (h34 : text.getD (a + 1 + b) 0 = 34) (ht : ∀ i, i < n → isQ (text.getD (a + 1 + b + 1 + i) 0) = true) (he : text.getD (a + 1 + b + 1 + n) 0 = 34) :
    EndsIn 30 (forSearch quoCode text 1 0 text.size false) (Found1 0 (a + 1 + b + 1 + n + 1) (a + 1 + b + 1) (a + 1 + b + 1 + n)) := by
  rw [search_quo (by omega)]
  refine EndsIn.mono (k := 22) ?_ (by omega)
  refine exec_at0 rfl rfl (by show 5 < 72; decide) rfl rfl rfl fun sn => ?_
  dsimp only
  refine exec_repG (j := a) 7 17 rfl rfl rfl (by show 7 < 72; decide) rfl rfl (.inl rfl) rfl (acc_ws rfl rfl rfl rfl (by show 2 ≤ 72; decide)) rfl (by show 1 ≤ 1000; decide) hlim (by show 0 + a ≤ text.size; omega) (fun i hi => by show Unicode.isSpace (text.getD (0 + i) 0) = true; rw [Nat.zero_add]; exact hw i hi) (.inr (by show Unicode.isSpace (text.getD (0 + a) 0) = false; rw [Nat.zero_add, hq]; exact sp61)) fun sn => ?_
  dsimp only
  rw [Nat.zero_add]
  refine exec_oneG 17 19 rfl rfl rfl (by show 17 < 72; decide) (.inl rfl) rfl (acc_lit (n := 61) rfl rfl) (by show a < text.size; omega) (by show (text.getD a 0 == 61) = true; rw [hq]; rfl) fun sn => ?_
  dsimp only
  refine exec_repG (j := b) 19 29 rfl rfl rfl (by show 19 < 72; decide) rfl rfl (.inl rfl) rfl (acc_ws rfl rfl rfl rfl (by show 2 ≤ 72; decide)) rfl (by show 2 ≤ 1000; decide) hlim (by show a + 1 + b ≤ text.size; omega) hw2 (.inr (by show Unicode.isSpace (text.getD (a + 1 + b) 0) = false; rw [h34]; exact sp34)) fun sn => ?_
  dsimp only
  refine exec_oneG 29 31 rfl rfl rfl (by show 29 < 72; decide) (.inl rfl) rfl (acc_lit (n := 34) rfl rfl) (by show a + 1 + b < text.size; omega) (by show (text.getD (a + 1 + b) 0 == 34) = true; rw [h34]; rfl) fun sn => ?_
  dsimp only
  refine exec_mark0 rfl rfl (by show 31 < 72; decide) rfl rfl rfl 33 rfl #[some (a + 1 + b + 1), none] rfl fun sn => ?_
  dsimp only
  refine exec_repG (j := n) 33 46 rfl rfl rfl (by show 33 < 72; decide) rfl rfl (.inl rfl) rfl acc_q1 rfl (by show 3 ≤ 1000; decide) hlim (by show a + 1 + b + 1 + n ≤ text.size; omega) ht (.inr (by show isQ (text.getD (a + 1 + b + 1 + n) 0) = false; rw [he]; rfl)) fun sn => ?_
  dsimp only
  refine exec_repeat rfl rfl (by show 46 < 72; decide) rfl rfl rfl (by show 4 ≤ 1000; decide) fun sn => ?_
  dsimp only
  refine exec_until rfl rfl (by show 66 < 72; decide) rfl rfl rfl (by show 5 ≤ 1000; decide) rfl rfl rfl (by show (0 : Int) ≤ -1 + 1; decide) (by simp) rfl rfl fun sn => ?_
  dsimp only
  refine exec_one_no (f := fun c => c == 92) rfl rfl (by show 50 < 72; decide) (.inl rfl) (acc_lit rfl rfl) (.inr (by show (text.getD (a + 1 + b + 1 + n) 0 == 92) = false; rw [he]; rfl)) fun sn => ?_
  dsimp only
  refine back_maxMore rfl rfl rfl rfl rfl rfl rfl rfl rfl rfl (by show 7 ≤ 1000; decide) ?_
  dsimp only
  refine exec_mark1 rfl rfl (by show 67 < 72; decide) rfl rfl rfl 69 rfl #[some (a + 1 + b + 1), some (a + 1 + b + 1 + n)] rfl fun sn => ?_
  dsimp only
  refine exec_oneG 69 71 rfl rfl rfl (by show 69 < 72; decide) (.inl rfl) rfl (acc_lit (n := 34) rfl rfl) (by show a + 1 + b + 1 + n < text.size; omega) (by show (text.getD (a + 1 + b + 1 + n) 0 == 34) = true; rw [he]; rfl) fun sn => ?_
  dsimp only
  refine exec_success rfl rfl (by show 71 < 72; decide) rfl rfl fun sn => ?_
  dsimp only
  refine back_maxTail rfl rfl rfl rfl ?_
  refine back_closeLoop rfl rfl rfl rfl fun _ _ => ?_
  refine back_yes rfl rfl rfl (.inl rfl) ?_
  refine back_yes rfl rfl rfl (.inl rfl) ?_
  refine back_yes rfl rfl rfl (.inl rfl) ?_
  refine back_yes rfl rfl rfl (.inr rfl) ?_
  refine EndsIn.mono (last_step rfl rfl rfl ?_) (by omega)
  exact ⟨⟨_, rfl, trivial⟩, rfl, rfl, rfl, rfl, rfl⟩
/-- a value between marks, one sign behind a stroke in it -/
theorem quo_found1 {a b n n2 : Nat} (hlim : text.size < 4294967295) (hsz : a + 1 + b + 1 + n + 1 + 1 + n2 + 1 ≤ text.size) (hw : ∀ i, i < a → Unicode.isSpace (text.getD i 0) = true) (hq : text.getD a 0 = 61)
    (hw2 : ∀ i, i < b → Unicode.isSpace (text.getD (a + 1 + i) 0) = true) (h34 : text.getD (a + 1 + b) 0 = 34) (ht : ∀ i, i < n → isQ (text.getD (a + 1 + b + 1 + i) 0) = true) (h92 : text.getD (a + 1 + b + 1 + n) 0 = 92) (h10 : text.getD (a + 1 + b + 1 + n + 1) 0 ≠ 10)
    (ht2 : ∀ i, i < n2 → isQ (text.getD (a + 1 + b + 1 + n + 1 + 1 + i) 0) = true) (he : text.getD (a + 1 + b + 1 + n + 1 + 1 + n2) 0 = 34) :
    EndsIn 40 (forSearch quoCode text 1 0 text.size false) (Found1 0 (a + 1 + b + 1 + n + 1 + 1 + n2 + 1) (a + 1 + b + 1) (a + 1 + b + 1 + n + 1 + 1 + n2)) := by
  rw [search_quo (by omega)]
  refine EndsIn.mono (k := 30) ?_ (by omega)
  refine exec_at0 rfl rfl (by show 5 < 72; decide) rfl rfl rfl fun sn => ?_
  dsimp only
  refine exec_repG (j := a) 7 17 rfl rfl rfl (by show 7 < 72; decide) rfl rfl (.inl rfl) rfl (acc_ws rfl rfl rfl rfl (by show 2 ≤ 72; decide)) rfl (by show 1 ≤ 1000; decide) hlim (by show 0 + a ≤ text.size; omega) (fun i hi => by show Unicode.isSpace (text.getD (0 + i) 0) = true; rw [Nat.zero_add]; exact hw i hi) (.inr (by show Unicode.isSpace (text.getD (0 + a) 0) = false; rw [Nat.zero_add, hq]; exact sp61)) fun sn => ?_
  dsimp only
  rw [Nat.zero_add]
  refine exec_oneG 17 19 rfl rfl rfl (by show 17 < 72; decide) (.inl rfl) rfl (acc_lit (n := 61) rfl rfl) (by show a < text.size; omega) (by show (text.getD a 0 == 61) = true; rw [hq]; rfl) fun sn => ?_
  dsimp only
  refine exec_repG (j := b) 19 29 rfl rfl rfl (by show 19 < 72; decide) rfl rfl (.inl rfl) rfl (acc_ws rfl rfl rfl rfl (by show 2 ≤ 72; decide)) rfl (by show 2 ≤ 1000; decide) hlim (by show a + 1 + b ≤ text.size; omega) hw2 (.inr (by show Unicode.isSpace (text.getD (a + 1 + b) 0) = false; rw [h34]; exact sp34)) fun sn => ?_
  dsimp only
  refine exec_oneG 29 31 rfl rfl rfl (by show 29 < 72; decide) (.inl rfl) rfl (acc_lit (n := 34) rfl rfl) (by show a + 1 + b < text.size; omega) (by show (text.getD (a + 1 + b) 0 == 34) = true; rw [h34]; rfl) fun sn => ?_
  dsimp only
  refine exec_mark0 rfl rfl (by show 31 < 72; decide) rfl rfl rfl 33 rfl #[some (a + 1 + b + 1), none] rfl fun sn => ?_
  dsimp only
  refine exec_repG (j := n) 33 46 rfl rfl rfl (by show 33 < 72; decide) rfl rfl (.inl rfl) rfl acc_q1 rfl (by show 3 ≤ 1000; decide) hlim (by show a + 1 + b + 1 + n ≤ text.size; omega) ht (.inr (by show isQ (text.getD (a + 1 + b + 1 + n) 0) = false; rw [h92]; rfl)) fun sn => ?_
  dsimp only
  refine exec_repeat rfl rfl (by show 46 < 72; decide) rfl rfl rfl (by show 4 ≤ 1000; decide) fun sn => ?_
  dsimp only
  refine exec_until rfl rfl (by show 66 < 72; decide) rfl rfl rfl (by show 5 ≤ 1000; decide) rfl rfl rfl (by show (0 : Int) ≤ -1 + 1; decide) (by simp) rfl rfl fun sn => ?_
  dsimp only
  refine exec_oneG 50 52 rfl rfl rfl (by show 50 < 72; decide) (.inl rfl) rfl (acc_lit (n := 92) rfl rfl) (by show a + 1 + b + 1 + n < text.size; omega) (by show (text.getD (a + 1 + b + 1 + n) 0 == 92) = true; rw [h92]; rfl) fun sn => ?_
  dsimp only
  refine exec_oneG 52 53 rfl rfl rfl (by show 52 < 72; decide) (.inr (.inl rfl)) rfl (acc_any rfl) (by show a + 1 + b + 1 + n + 1 < text.size; omega) (by show (text.getD (a + 1 + b + 1 + n + 1) 0 != 10) = true; simpa using h10) fun sn => ?_
  dsimp only
  refine exec_repI (j := n2) 53 66 rfl rfl rfl (by show 53 < 72; decide) rfl rfl rfl rfl acc_q2 rfl (by show 7 ≤ 1000; decide) rfl rfl hlim (by show a + 1 + b + 1 + n + 1 + 1 + n2 ≤ text.size; omega) ht2 (.inr (by show isQ (text.getD (a + 1 + b + 1 + n + 1 + 1 + n2) 0) = false; rw [he]; rfl)) fun sn => ?_
  dsimp only
  refine exec_until rfl rfl (by show 66 < 72; decide) rfl rfl rfl (by show 9 ≤ 1000; decide) rfl rfl rfl (by show (0 : Int) ≤ -1 + 1 + 1; decide) (by simp; omega) rfl rfl fun sn => ?_
  dsimp only
  refine exec_one_no (f := fun c => c == 92) rfl rfl (by show 50 < 72; decide) (.inl rfl) (acc_lit rfl rfl) (.inr (by show (text.getD (a + 1 + b + 1 + n + 1 + 1 + n2) 0 == 92) = false; rw [he]; rfl)) fun sn => ?_
  dsimp only
  refine back_maxMore rfl rfl rfl rfl rfl rfl rfl rfl rfl rfl (by show 11 ≤ 1000; decide) ?_
  dsimp only
  refine exec_mark1 rfl rfl (by show 67 < 72; decide) rfl rfl rfl 69 rfl #[some (a + 1 + b + 1), some (a + 1 + b + 1 + n + 1 + 1 + n2)] rfl fun sn => ?_
  dsimp only
  refine exec_oneG 69 71 rfl rfl rfl (by show 69 < 72; decide) (.inl rfl) rfl (acc_lit (n := 34) rfl rfl) (by show a + 1 + b + 1 + n + 1 + 1 + n2 < text.size; omega) (by show (text.getD (a + 1 + b + 1 + n + 1 + 1 + n2) 0 == 34) = true; rw [he]; rfl) fun sn => ?_
  dsimp only
  refine exec_success rfl rfl (by show 71 < 72; decide) rfl rfl fun sn => ?_
  dsimp only
  refine back_maxTail rfl rfl rfl rfl ?_
  refine back_yes rfl rfl rfl (.inl rfl) ?_
  refine back_maxMoreYes rfl rfl rfl rfl fun _ => ?_
  refine back_closeLoop rfl rfl rfl rfl fun _ _ => ?_
  refine back_yes rfl rfl rfl (.inl rfl) ?_
  refine back_yes rfl rfl rfl (.inl rfl) ?_
  refine back_yes rfl rfl rfl (.inl rfl) ?_
  refine back_yes rfl rfl rfl (.inr rfl) ?_
  refine EndsIn.mono (last_step rfl rfl rfl ?_) (by omega)
  exact ⟨⟨_, rfl, trivial⟩, rfl, rfl, rfl, rfl, rfl⟩
/-- behind the sign stands no mark -/
theorem quo_bare {a b : Nat} (hlim : text.size < 4294967295) (hsz : a + 1 + b ≤ text.size) (hw : ∀ i, i < a → Unicode.isSpace (text.getD i 0) = true) (hq : text.getD a 0 = 61) (ha61 : a < text.size)
    (hw2 : ∀ i, i < b → Unicode.isSpace (text.getD (a + 1 + i) 0) = true) (he : a + 1 + b = text.size ∨ (Unicode.isSpace (text.getD (a + 1 + b) 0) = false ∧ text.getD (a + 1 + b) 0 ≠ 34)) :
    EndsIn (10 * text.size + 20) (forSearch quoCode text 1 0 text.size false) Failed := by
  by_cases hz : text.size < 3
  · refine EndsIn.mono (search_few ?_) (by omega)
    show text.size < 0 + 3; omega
  rw [search_quo (by omega)]
  refine EndsIn.mono (k := (1 + ((1 + 1) * b + 1 + ((1 + 1) * a + 1 + (2 * (max 0 (text.size - 2)) + 2)))) + 1 + 1 + 1 + 1) ?_ (by omega)
  refine exec_at0 rfl rfl (by show 5 < 72; decide) rfl rfl rfl fun sn => ?_
  dsimp only
  refine exec_repG (j := a) 7 17 rfl rfl rfl (by show 7 < 72; decide) rfl rfl (.inl rfl) rfl (acc_ws rfl rfl rfl rfl (by show 2 ≤ 72; decide)) rfl (by show 1 ≤ 1000; decide) hlim (by show 0 + a ≤ text.size; omega) (fun i hi => by show Unicode.isSpace (text.getD (0 + i) 0) = true; rw [Nat.zero_add]; exact hw i hi) (.inr (by show Unicode.isSpace (text.getD (0 + a) 0) = false; rw [Nat.zero_add, hq]; exact sp61)) fun sn => ?_
  dsimp only
  refine exec_oneG 17 19 rfl rfl rfl (by show 17 < 72; decide) (.inl rfl) rfl (acc_lit (n := 61) rfl rfl) (by show 0 + a < text.size; omega) (by show (text.getD (0 + a) 0 == 61) = true; rw [Nat.zero_add, hq]; rfl) fun sn => ?_
  dsimp only
  have hz' : 0 + a + 1 = a + 1 := by omega
  refine exec_repG (j := b) 19 29 rfl rfl rfl (by show 19 < 72; decide) rfl rfl (.inl rfl) rfl (acc_ws rfl rfl rfl rfl (by show 2 ≤ 72; decide)) rfl (by show 2 ≤ 1000; decide) hlim (by show 0 + a + 1 + b ≤ text.size; omega) (fun i hi => by show Unicode.isSpace (text.getD (0 + a + 1 + i) 0) = true; rw [hz']; exact hw2 i hi) (by show 0 + a + 1 + b = text.size ∨ Unicode.isSpace (text.getD (0 + a + 1 + b) 0) = false; rw [hz']; exact he.imp id (·.1)) fun sn => ?_
  dsimp only
  have hw' : ∀ i, i < a → Unicode.isSpace (text.getD (0 + i) 0) = true := fun i hi => by rw [Nat.zero_add]; exact hw i hi
  have hw2' : ∀ i, i < b → Unicode.isSpace (text.getD (0 + a + 1 + i) 0) = true := fun i hi => by rw [hz']; exact hw2 i hi
  have he' : 0 + a + 1 + b = text.size ∨ text.getD (0 + a + 1 + b) 0 ≠ 34 := by rw [hz']; exact he.imp id (·.2)
  let rest₁ : List Sre.Frame := gbFrame 7 (0 + a) a true { lastmark := -1, lastindex := -1, whole := false, marks := #[] } :: [{ wait := .nextStart, pc := 5, pos := 0, outermost := true }]
  refine lit_tail (code := quoCode) (ls := max 0 (text.size - 2)) (T := 29) (x := 34) (k := b) (base := 0 + a + 1) (rest := gbFrame 19 (0 + a + 1 + b) b true { lastmark := -1, lastindex := -1, whole := false, marks := #[] } :: rest₁) (by decide) rfl rfl sp34 hw2' he' b (Nat.le_refl _) _ ⟨rfl, rfl, rfl, rfl, rfl, rfl, rfl⟩ rfl rfl rfl rfl _ _ fun m' O ha hf => ?_
  refine gb_fail (c := 1) (J := b) (T := 29) rfl rfl rfl rfl (by show 2 ≤ 1000; decide) (fun j' hj' m o O ha hpc hp hf k' P h => lit_tail (T := 29) (x := 34) (k := b) (base := 0 + a + 1) (by decide) rfl rfl sp34 hw2' he' j' (by omega) m O ha hpc hp hf k' P h) b (Nat.le_refl _) m' true O ha hf _ _ fun m'' O' ha' hf' => ?_
  refine gb_fail (c := 1) (J := a) (T := 17) (base := 0) rfl rfl rfl rfl (by show 1 ≤ 1000; decide) (fun j' hj' m o O ha hpc hp hf k' P h => ?_) a (Nat.le_refl _) m'' true O' ha' hf' _ _ fun m₃ O₃ ha₃ hf₃ => ?_
  · refine lit_tail (T := 17) (x := 61) (k := j') (base := 0) (by decide) rfl rfl sp61 (fun i hi => hw' i (by omega)) ?_ j' (Nat.le_refl _) m O ha hpc hp hf k' P h
    refine .inr fun hx => ?_
    have := hw' j' hj'
    rw [hx, sp61] at this; cases this
  · exact O₃.dead ha₃ hf₃ rfl (by decide) rfl rfl
end
end Mine
-- part SreE
namespace Mine
open PySem PySem.W PySem.Calls PyProof.Rows
theorem slot_search : Slot "re.Pattern" "search" "re.Pattern.search" :=
  .of (owner := "re.Pattern") (n := "search") (by rw [typeLookup_type, builtinLookup_eq_fast]; kernel_rfl) (by decide +kernel) (by decide +kernel) (by decide +kernel)
    (by first | exact .inl (by decide +kernel) | exact .inr (by decide +kernel)) (by rw [isSubtype_type]; kernel_rfl)
theorem type_search : typeOf (.builtin "re.Pattern.search") = pure (.type "method_descriptor") := by show builtinType _ = _; rw [builtinType_eq_fast]; kernel_rfl
theorem entry_search : entryFor table "re.Pattern.search" = some Builtin.«re.Pattern.search» := entryFor_of_tree (by kernel_rfl)
theorem args_search (a b : Value) : argsOk "re.Pattern.search" ⟨[a, b], []⟩ := by unfold argsOk; kernel_rfl
theorem plainAttrs_pattern : PlainAttrs "re.Pattern" := ⟨⟨"object.__getattribute__", by rw [typeLookup_type, builtinLookup_eq_fast]; kernel_rfl, by decide +kernel⟩, by rw [typeLookup_type, builtinLookup_eq_fast]; kernel_rfl⟩
theorem plainAttrs_match : PlainAttrs "re.Match" := ⟨⟨"object.__getattribute__", by rw [typeLookup_type, builtinLookup_eq_fast]; kernel_rfl, by decide +kernel⟩, by rw [typeLookup_type, builtinLookup_eq_fast]; kernel_rfl⟩
end Mine
-- part SreF
namespace Mine
open PySem PySem.W PySem.Calls PyProof.Rows PySem.Sre PySem.Builtin.Re
theorem runFor_le {a b : Nat} {m : Sre.M} (h : a ≤ b) (ha : (m.runFor a).outcome.isSome = true) : m.runFor b = m.runFor a := by
  have e : b = a + (b - a) := by omega
  rw [e, runFor_add, runFor_done ha]
section
variable {M : Model} {A : Around} {E : Value → Shared → Prop} {s : Shared}
theorem drive_ends {P : Sre.M → Prop} {Q : Sre.M → Shared → Prop} (q : ∀ m', m'.outcome.isSome = true → P m' → Q m' s) : ∀ (turns k : Nat) (m : Sre.M), EndsIn k m P → k < 4 * turns → wpAny M A (reDrive turns m) Q E s
  | 0, _, _, _, h => absurd h (Nat.not_lt_zero _)
  | turns + 1, k, m, h, hk => by
    obtain ⟨j, hj, ho, hp⟩ := h
    show wpAny M A (if (m.runFor 4).outcome.isSome = true then pure (m.runFor 4) else (rule "sre.turn" >>= fun _ => reDrive turns (m.runFor 4))) Q E s
    by_cases h4 : (m.runFor 4).outcome.isSome = true
    · rw [if_pos h4]
      have e : m.runFor 4 = m.runFor j := by
        rcases Nat.le_total j 4 with hl | hl
        · exact runFor_le hl ho
        · exact (runFor_le hl h4).symm
      exact wpAny_pure (q _ h4 (e ▸ hp))
    · rw [if_neg h4]
      have hj4 : 4 < j := by
        rcases Nat.lt_or_ge 4 j with hl | hl
        · exact hl
        · rw [runFor_le hl ho] at h4; exact absurd ho h4
      refine wpAny_bind (wpAny_rule (drive_ends q turns (j - 4) _ ⟨j - 4, Nat.le_refl _, ?_⟩ (by omega)))
      rw [← runFor_add, show 4 + (j - 4) = j from by omega]
      exact ⟨ho, hp⟩
theorem ticks_end {f : Nat → Bool} {g : Nat → String} {Q : PUnit → Shared → Prop} : ∀ (l : List Nat), Q () s → wpAny M A (forIn l PUnit.unit fun i _ =>
    if f i = true then (do rule (g i); pure (ForInStep.yield PUnit.unit)) else pure (ForInStep.yield PUnit.unit)) Q E s
  | [], q => by rw [List.forIn_nil]; exact wpAny_pure q
  | i :: l, q => by
    rw [List.forIn_cons]
    refine wpAny_bind ?_
    by_cases h : f i = true
    · rw [if_pos h]; exact wpAny_bind (wpAny_rule (wpAny_pure (ticks_end l q)))
    · rw [if_neg h]; exact wpAny_pure (ticks_end l q)
def IsMatch (m : Sre.M) : Prop := ∃ x, m.outcome = some x ∧ (match x with | .matched => True | _ => False)
theorem to_end_found {k : Nat} {m : Sre.M} {P : Sre.M → Prop} {Q : Option Sre.M → Shared → Prop} (h : EndsIn k m P) (hk : k < 2 ^ 64) (hP : ∀ m', P m' → IsMatch m') (q : ∀ m', P m' → Q (some m') s) : wpAny M A (reRunToEnd m) Q E s := by
  unfold reRunToEnd
  refine wpAny_bind (drive_ends (fun m' ho hp => ?_) (2 ^ 64) k m h (by omega))
  refine wpAny_bind ?_
  refine ticks_end _ ?_
  obtain ⟨x, hx, hm⟩ := hP m' hp
  rw [hx]
  cases x with
  | matched => exact wpAny_pure (q m' hp)
  | failed => exact hm.elim
  | stuck w => exact hm.elim
theorem to_end_none {k : Nat} {m : Sre.M} {Q : Option Sre.M → Shared → Prop} (h : EndsIn k m Failed) (hk : k < 2 ^ 64) (q : Q none s) : wpAny M A (reRunToEnd m) Q E s := by
  unfold reRunToEnd
  refine wpAny_bind (drive_ends (fun m' ho hp => ?_) (2 ^ 64) k m h (by omega))
  refine wpAny_bind ?_
  refine ticks_end _ ?_
  obtain ⟨x, hx, hm⟩ := hp
  rw [hx]
  cases x with
  | failed => exact wpAny_pure q
  | matched => exact hm.elim
  | stuck w => exact hm.elim
end
end Mine
-- part SreG
namespace Mine
open PySem PySem.W PySem.Calls PyProof.Rows PySem.Builtin.Re
/-- a compiled pattern of the top -/
structure PatAt (h : Heap) (p : Addr) (code : Array Nat) (groups : Nat) : Prop where
  obj : ∃ c items a1 f t1 g t2 x3 x4 t6, h.get? p = some { cls := .type "re.Pattern", data := .fields #[a1, .int f t1, .int (groups : Int) t2, x3, x4, .ref c, .int 0 t6] } ∧ h.get? c = some { cls := .type "tuple", data := .seq items } ∧ (items.map reRawOf).map (·.toNat) = code ∧ g = groups
theorem PatAt.keeps {h h' : Heap} {p : Addr} {code : Array Nat} {groups : Nat} (x : PatAt h p code groups) (k : ∀ b o, h.get? b = some o → h'.get? b = some o) : PatAt h' p code groups :=
  let ⟨c, items, a1, f, t1, g, t2, x3, x4, t6, e1, e2, e3, e4⟩ := x.obj
  ⟨c, items, a1, f, t1, g, t2, x3, x4, t6, k _ _ e1, k _ _ e2, e3, e4⟩
theorem named_3 (v : Value) (id f : String) : reNamed id f ["string", "pos", "endpos"] 1 [v] [] = pure [some v, none, none] := rfl
abbrev spansObj (vs : List Value) : Obj := { cls := .type "tuple", data := .seq vs.toArray }
abbrev matchObj (str : Value) (p : Addr) (lim : Nat) (li : Int) (T : Addr) : Obj := { cls := .type "re.Match", data := .fields #[str, .ref p, rawInt (0 : Nat), rawInt lim, rawInt li, .ref T] }
section
variable {prog : Program} {w : World} {A : Around} {E : Value → Shared → Prop} {s : Shared}
theorem target_str {p : Addr} {code : Array Nat} {groups : Nat} {x : Str} {tk : Tok} {id f : String} {Q : ReTarget → Shared → Prop} (P : PatAt s.heap p code groups) (hx : x.cps.size < 2 ^ 62)
    (q : Q { pattern := .ref p, string := .str x tk, code, text := x.cps, kind := 0, groups, pos := 0, lim := x.cps.size } s) :
    wpAny (model prog w) A (reTarget id f ⟨[.ref p, .str x tk], []⟩) Q E s := by
  obtain ⟨c, items, a1, fl, t1, g, t2, x3, x4, t6, e1, e2, e3, e4⟩ := P.obj
  unfold reTarget
  dsimp only
  rw [named_3]
  refine wpAny_bind (wpAny_pure ?_)
  dsimp only
  refine wpAny_bind (wpAny_pure (wpAny_bind (wpAny_pure ?_)))
  refine wpAny_bind (wpAny_fieldsOf e1 rfl ?_)
  unfold reTextOf
  refine wpAny_bind (wpAny_bind (wpAny_pure ?_))
  dsimp only
  refine wpAny_pure ?_
  dsimp only
  rw [if_neg (by exact Bool.false_ne_true), if_neg (by exact Bool.false_ne_true)]
  unfold reNoCollectionInside
  rw [if_neg (by exact Bool.false_ne_true)]
  refine wpAny_bind (wpAny_pure ?_)
  unfold reRawItems
  refine wpAny_bind (wpAny_bind (wpAny_seqItems e2 rfl (wpAny_pure (wpAny_pure ?_))))
  have hlim : min ((2 : Int) ^ 63 - 1).toNat x.cps.size = x.cps.size := by
    have : ((2 : Int) ^ 63 - 1).toNat = 2 ^ 63 - 1 := by decide
    rw [this]; omega
  have hpos : min (Int.toNat 0) x.cps.size = 0 := by simp
  have e5 : reRawNat (#[a1, Value.int fl t1, Value.int (groups : Int) t2, x3, x4, Value.ref c, Value.int 0 t6].getD 2 Value.none) = groups := by
    show Int.toNat (groups : Int) = groups; simp
  rw [hlim, hpos, e5]
  show Q { pattern := .ref p, string := .str x tk, code := (items.map reRawOf).map (·.toNat), text := x.cps, kind := 0, groups, pos := 0, lim := x.cps.size } s
  rw [e3]
  exact q
variable {h₀ : Heap} {L : Addr} {m : Str → Option Value} {news : List (Addr × Obj)}
/-- the spans that a match keeps -/
theorem newMatch1 {p : Addr} {x : Str} {tk : Tok} {lim b e gb ge : Nat} {mm : Sre.M} {Q : Value → Shared → Prop} (hm : Found1 b e gb ge mm) (hle : gb ≤ ge) (F : Fr h₀ L s.heap m) (N : News h₀ L s.heap news)
    (q : ∀ T h', Fr h₀ L h' m → News h₀ L h' ((T + 1, matchObj (.str x tk) p lim 1 T) :: (T, spansObj [rawInt b, rawInt e, rawInt gb, rawInt ge]) :: news) → (∀ r ∈ news, r.1 < T) → Q (.ref (T + 1)) { s with heap := h' }) :
    wpAny (model prog w) A (reNewMatch (.ref p) (.str x tk) 1 0 lim mm) Q E s := by
  obtain ⟨_, h1, h2, h3, h4, h5⟩ := hm
  unfold reNewMatch
  rw [h1, h2, h3, h4, h5]
  have r1 : List.range 1 = [0] := rfl
  rw [r1]
  dsimp only [List.flatMap_cons, List.flatMap_nil, List.any_cons, List.any_nil]
  have c1 : (((2 * 0 + 1 : Nat) : Int) ≤ 1) = True := by simp
  simp only [c1, if_true, decide_true, Bool.true_and, Bool.or_false]
  have g0 : (#[some gb, some ge] : Array (Option Nat)).getD (2 * 0) none = some gb := rfl
  have g1 : (#[some gb, some ge] : Array (Option Nat)).getD (2 * 0 + 1) none = some ge := rfl
  simp only [g0, g1]
  rw [if_neg (by simpa using hle)]
  refine wpAny_bind (wpAny_newTuple ?_ (by show 4 ≤ sizeLine; decide))
  refine wpAny_newObj_type ?_ (by show 6 ≤ sizeLine + 2; decide)
  have l1 : ∀ r ∈ news, r.1 < s.heap.objs.size := fun r hr => Heap.lt_size (N r hr).1
  have k2 := (N.push F (spansObj [rawInt b, rawInt e, rawInt gb, rawInt ge])).push (F.push _) (matchObj (.str x tk) p lim 1 s.heap.objs.size)
  rw [Heap.size_push] at k2
  show Q (.ref (s.heap.push (spansObj [rawInt b, rawInt e, rawInt gb, rawInt ge])).objs.size) _
  rw [Heap.size_push]
  exact q s.heap.objs.size _ ((F.push _).push _) k2 l1
theorem search_some {p : Addr} {code : Array Nat} {x : Str} {tk : Tok} {k b e gb ge : Nat} {Q : Value → Shared → Prop} (P : PatAt s.heap p code 1) (hx : x.cps.size < 2 ^ 62)
    (hf : EndsIn k (Sre.forSearch code x.cps 1 0 x.cps.size false) (Found1 b e gb ge)) (hk : k < 2 ^ 64) (hle : gb ≤ ge) (F : Fr h₀ L s.heap m) (N : News h₀ L s.heap news)
    (q : ∀ T h', Fr h₀ L h' m → News h₀ L h' ((T + 1, matchObj (.str x tk) p x.cps.size 1 T) :: (T, spansObj [rawInt b, rawInt e, rawInt gb, rawInt ge]) :: news) → (∀ r ∈ news, r.1 < T) → Q (.ref (T + 1)) { s with heap := h' }) :
    wpAny (model prog w) A (call (.builtin "re.Pattern.search") [.ref p, .str x tk]) Q E s := by
  have hT : s.TypeIs (.ref p) "re.Pattern" := by
    obtain ⟨c, items, a1, fl, t1, g, t2, x3, x4, t6, e1, _⟩ := P.obj
    exact ⟨_, e1, rfl⟩
  refine wpAny_call_entry slot_search hT entry_search ?_ (args_search _ _)
  unfold Builtin.«re.Pattern.search»
  refine wpAny_bind (target_str P hx ?_)
  unfold reAnswer
  refine wpAny_bind (to_end_found hf hk (fun m' h => h.1) fun m' h => ?_)
  dsimp only
  refine wpAny_bind (newMatch1 h hle F N fun T h' F' N' l => wpAny_pure ⟨_, rfl, q T h' F' N' l⟩)
theorem search_miss {p : Addr} {code : Array Nat} {g : Nat} {x : Str} {tk : Tok} {k : Nat} {Q : Value → Shared → Prop} (P : PatAt s.heap p code g) (hx : x.cps.size < 2 ^ 62)
    (hf : EndsIn k (Sre.forSearch code x.cps g 0 x.cps.size false) Failed) (hk : k < 2 ^ 64) (q : Q .none s) :
    wpAny (model prog w) A (call (.builtin "re.Pattern.search") [.ref p, .str x tk]) Q E s := by
  have hT : s.TypeIs (.ref p) "re.Pattern" := by
    obtain ⟨c, items, a1, fl, t1, g, t2, x3, x4, t6, e1, _⟩ := P.obj
    exact ⟨_, e1, rfl⟩
  refine wpAny_call_entry slot_search hT entry_search ?_ (args_search _ _)
  unfold Builtin.«re.Pattern.search»
  refine wpAny_bind (target_str P hx ?_)
  unfold reAnswer
  refine wpAny_bind (to_end_none hf hk ?_)
  exact wpAny_pure ⟨_, rfl, q⟩
end
end Mine
-- part SreH
namespace Mine
open PySem PySem.W PySem.Calls PyProof.Rows PySem.Builtin PySem.Builtin.Re PySem.Builtin.ObjectAttr PySem.Builtin.Getset_descriptor
theorem slot_span : Slot "re.Match" "span" "re.Match.span" :=
  .of (owner := "re.Match") (n := "span") (by rw [typeLookup_type, builtinLookup_eq_fast]; kernel_rfl) (by decide +kernel) (by decide +kernel) (by decide +kernel)
    (by first | exact .inl (by decide +kernel) | exact .inr (by decide +kernel)) (by rw [isSubtype_type]; kernel_rfl)
theorem type_span : typeOf (.builtin "re.Match.span") = pure (.type "method_descriptor") := by show builtinType _ = _; rw [builtinType_eq_fast]; kernel_rfl
theorem entry_span : entryFor table "re.Match.span" = some Builtin.«re.Match.span» := entryFor_of_tree (by kernel_rfl)
theorem args_span (a b : Value) : argsOk "re.Match.span" ⟨[a, b], []⟩ := by unfold argsOk; kernel_rfl
theorem slot_group : Slot "re.Match" "group" "re.Match.group" :=
  .of (owner := "re.Match") (n := "group") (by rw [typeLookup_type, builtinLookup_eq_fast]; kernel_rfl) (by decide +kernel) (by decide +kernel) (by decide +kernel)
    (by first | exact .inl (by decide +kernel) | exact .inr (by decide +kernel)) (by rw [isSubtype_type]; kernel_rfl)
theorem type_group : typeOf (.builtin "re.Match.group") = pure (.type "method_descriptor") := by show builtinType _ = _; rw [builtinType_eq_fast]; kernel_rfl
theorem entry_group : entryFor table "re.Match.group" = some Builtin.«re.Match.group» := entryFor_of_tree (by kernel_rfl)
theorem args_group (a b : Value) : argsOk "re.Match.group" ⟨[a, b], []⟩ := by unfold argsOk; kernel_rfl
theorem groupNumber (x : ReFound) (k : Nat) (t : Tok) (h : 2 * k < x.spans.size) : reGroupNumber x (.int (k : Int) t) = pure k := by
  have h1 : ¬ ((decide ((k : Int) < 0) || decide (2 * (k : Int) ≥ ((x.spans.size : Nat) : Int))) = true) := by simp; omega
  have e1 : asInt? (.int (k : Int) t) = pure (some (k : Int)) := rfl
  have e2 : asIndex (.int (k : Int) t) = pure (k : Int) := rfl
  unfold reGroupNumber
  rw [e1]
  show (do let i ← asIndex (.int (k : Int) t); if (decide (i < 0) || decide (2 * i ≥ ((x.spans.size : Nat) : Int))) = true then _ else pure i.toNat) = _
  rw [e2]
  show (if _ then _ else pure (k : Int).toNat) = _
  rw [if_neg h1]
  simp
theorem spans_raw (b e gb ge : Nat) : Array.map reRawOf ((some #[rawInt (b : Int), rawInt (e : Int), rawInt (gb : Int), rawInt (ge : Int)]).getD #[]) = #[(b : Int), (e : Int), (gb : Int), (ge : Int)] := by simp [reRawOf, rawInt]
section
variable {prog : Program} {w : World} {A : Around} {E : Value → Shared → Prop} {s : Shared} {h₀ : Heap} {L : Addr} {m : Str → Option Value} {news : List (Addr × Obj)}
  {p x T : Addr} {t : Str} {tk tg : Tok} {lim b e gb ge : Nat} {Q : Value → Shared → Prop}
theorem span_call (F : Fr h₀ L s.heap m) (N : News h₀ L s.heap news) (hm : (x, matchObj (.str t tk) p lim 1 T) ∈ news) (ht : (T, spansObj [rawInt b, rawInt e, rawInt gb, rawInt ge]) ∈ news)
    (q : ∀ y t1 t2 h' k, Fr h₀ L h' m → News h₀ L h' ((y, spansObj [.int b t1, .int e t2]) :: news) → (∀ r ∈ news, r.1 < y) → Q (.ref y) { s with heap := h', toks := k }) :
    wpAny (model prog w) A (call (.builtin "re.Match.span") [.ref x, .int (0 : Nat) tg]) Q E s := by
  have hx := N.get hm
  have hT := N.get ht
  refine wpAny_call_entry slot_span (show s.TypeIs (.ref x) "re.Match" from ⟨_, hx, rfl⟩) entry_span ?_ (args_span _ _)
  unfold Builtin.«re.Match.span» reOneGroup
  refine wpAny_bind (wpAny_bind ?_)
  show wpAny _ _ (pure _) _ _ _
  refine wpAny_pure ?_
  dsimp only
  unfold reFound reRawItems
  refine wpAny_bind (wpAny_bind (wpAny_fieldsOf hx rfl ?_))
  refine wpAny_bind (wpAny_bind (wpAny_seqItems hT rfl (wpAny_pure (wpAny_pure ?_))))
  rw [spans_raw]
  rw [groupNumber _ _ _ (by show 2 * 0 < 4; decide)]
  refine wpAny_bind (wpAny_pure (wpAny_pure ?_))
  refine wpAny_bind (wpAny_mkInt ?_)
  refine wpAny_bind (wpAny_mkInt ?_)
  refine wpAny_bind ?_
  refine newTuple_N (news := news) (m := m) F N (fun h' F' N' => ?_) (by show 2 ≤ sizeLine; decide)
  exact wpAny_pure ⟨_, rfl, q _ _ _ h' _ F' N' fun r hr => Heap.lt_size (N r hr).1⟩
theorem group_call (N : News h₀ L s.heap news) (hm : (x, matchObj (.str t tk) p lim 1 T) ∈ news) (ht : (T, spansObj [rawInt b, rawInt e, rawInt gb, rawInt ge]) ∈ news) (hsz : t.cps.size ≤ sizeLine)
    (q : ∀ t1 k, Q (.str ⟨t.cps.extract gb ge⟩ t1) { s with toks := k }) :
    wpAny (model prog w) A (call (.builtin "re.Match.group") [.ref x, .int (1 : Nat) tg]) Q E s := by
  have hx := N.get hm
  have hT := N.get ht
  refine wpAny_call_entry slot_group (show s.TypeIs (.ref x) "re.Match" from ⟨_, hx, rfl⟩) entry_group ?_ (args_group _ _)
  unfold Builtin.«re.Match.group»
  refine wpAny_bind (show wpAny _ _ (pure _) _ _ _ from wpAny_pure ?_)
  dsimp only
  unfold reFound reRawItems
  refine wpAny_bind (wpAny_bind (wpAny_fieldsOf hx rfl ?_))
  refine wpAny_bind (wpAny_bind (wpAny_seqItems hT rfl (wpAny_pure (wpAny_pure ?_))))
  rw [spans_raw]
  rw [groupNumber _ _ _ (by show 2 * 1 < 4; decide)]
  refine wpAny_bind (wpAny_pure ?_)
  unfold reGroupText
  refine wpAny_bind ?_
  show wpAny _ _ (if (decide ((gb : Int) < 0) || decide ((ge : Int) < 0)) = true then _ else _) _ _ _
  rw [if_neg (by simp)]
  unfold reTextOf
  refine wpAny_bind (wpAny_bind (show wpAny _ _ (pure _) _ _ _ from wpAny_pure ?_))
  refine wpAny_pure ?_
  show wpAny _ _ (mkStr ⟨t.cps.extract ((gb : Int).toNat) ((ge : Int).toNat)⟩) _ _ _
  rw [Int.toNat_natCast, Int.toNat_natCast]
  refine wpAny_mkStr (wpAny_pure ⟨_, rfl, q _ _⟩) ?_
  show (t.cps.extract gb ge).size ≤ sizeLine
  rw [Array.size_extract]; omega
end
end Mine
-- part SreI
namespace Mine
open PySem PySem.W PySem.Calls PyProof.Rows PySem.Builtin PySem.Builtin.Re PySem.Builtin.ObjectAttr PySem.Builtin.Getset_descriptor
open Sem (wp)
theorem typeOf_mstring : typeOf (.builtin "re.Match.string") = pure (.type "member_descriptor") := by show builtinType _ = _; rw [builtinType_eq_fast]; kernel_rfl
theorem entry_mstring : entryFor table "re.Match.string" = some Builtin.«re.Match.string» := entryFor_of_tree (by kernel_rfl)
theorem owner_mstring : (".".intercalate ("re.Match.string".cutAt '.').dropLast) = "re.Match" := by
  have e0 : "re.Match.string".cutAt '.' = ["re", "Match", "string"] := by first | rfl | decide +kernel
  rw [e0]; decide +kernel
theorem lk_mstring : typeLookup (.type "re.Match") "string" = pure (some (.builtin "re.Match.string")) := by rw [typeLookup_type, builtinLookup_eq_fast]; kernel_rfl
theorem sub_match : isSubtype (.type "re.Match") (.type "re.Match") = pure true := by rw [isSubtype_type]; kernel_rfl
theorem slot_md_get : Slot "member_descriptor" "__get__" "member_descriptor.__get__" :=
  .of (owner := "member_descriptor") (n := "__get__") (by rw [typeLookup_type, builtinLookup_eq_fast]; kernel_rfl) (by decide +kernel) (by decide +kernel) (by decide +kernel)
    (by first | exact .inl (by decide +kernel) | exact .inr (by decide +kernel)) (by rw [isSubtype_type]; kernel_rfl)
theorem slot_md_set : Slot "member_descriptor" "__set__" "member_descriptor.__set__" :=
  .of (owner := "member_descriptor") (n := "__set__") (by rw [typeLookup_type, builtinLookup_eq_fast]; kernel_rfl) (by decide +kernel) (by decide +kernel) (by decide +kernel)
    (by first | exact .inl (by decide +kernel) | exact .inr (by decide +kernel)) (by rw [isSubtype_type]; kernel_rfl)
theorem entry_md_get : entryFor table "member_descriptor.__get__" = some Builtin.«member_descriptor.__get__» := entryFor_of_tree (by kernel_rfl)
theorem args_md_get (a b c : Value) : argsOk "member_descriptor.__get__" ⟨[a, b, c], []⟩ := by unfold argsOk; kernel_rfl
theorem slot_mga : Slot "re.Match" "__getattribute__" "object.__getattribute__" :=
  .of (owner := "object") (n := "__getattribute__") (by rw [typeLookup_type, builtinLookup_eq_fast]; kernel_rfl) (by decide +kernel) (by decide +kernel) (by decide +kernel)
    (by first | exact .inl (by decide +kernel) | exact .inr (by decide +kernel)) (by rw [isSubtype_type]; kernel_rfl)
theorem entry_oga : entryFor table "object.__getattribute__" = some Builtin.«object.__getattribute__» := entryFor_of_tree (by kernel_rfl)
theorem args_oga (a b : Value) : argsOk "object.__getattribute__" ⟨[a, b], []⟩ := by unfold argsOk; kernel_rfl
section
variable {prog : Program} {w : World} {A : Around} {E : Value → Shared → Prop} {h : Heap} {g : Array GenState} {d : Drawn} {t : Nat} {os : OsState} {a : Addr} {o : Obj} {vs : Array Value} {a0 : Value}
theorem mstring_get {R : Result → Shared → Prop} (hx : h.get? a = some o) (hc : o.cls = .type "re.Match") (hd : o.data = .fields vs) (h0 : vs[0]? = some a0) (hq : R (.ok (.ret a0)) ⟨h, g, d, t, os⟩) :
    codeAny (model prog w) A (.call (.builtin "member_descriptor.__get__") ⟨[.builtin "re.Match.string", .ref a, .type "re.Match"], []⟩) R ⟨h, g, d, t, os⟩ := by
  have hT : (⟨h, g, d, t, os⟩ : Shared).TypeIs (.ref a) "re.Match" := ⟨_, hx, hc⟩
  have hT5 : (⟨h, g, d, t, os⟩ : Shared).TypeIs (.builtin "re.Match.string") "member_descriptor" := typeOf_mstring
  have f8 : isSubtype (.type "re.Match") (.type (".".intercalate ("re.Match.string".cutAt '.').dropLast)) = pure true := by rw [owner_mstring]; exact sub_match
  refine codeAny_call_builtin slot_md_get.plain entry_md_get (slot_md_get.check _ _ _ _ _ _ _ _ hT5 (args_md_get _ _ _) ?_)
  unfold Builtin.«member_descriptor.__get__»
  repeat (any_goals (first | assumption | wp_step))
  refine ⟨Code.quiet_builtin _ (by decide +kernel), codeAny_builtin entry_mstring ?_⟩
  unfold Builtin.«re.Match.string»
  refine wpAny_bind (wpAny_field hx hd h0 ?_)
  exact wpAny_pure hq
theorem mstring_entry {tk : Tok} {Q : Fin → Shared → Prop} (hx : h.get? a = some o) (hc : o.cls = .type "re.Match") (hd : o.data = .fields vs) (h0 : vs[0]? = some a0) (hq : Q (.done (.ret a0)) ⟨h, g, d, t, os⟩) :
    wpAny (model prog w) A (Builtin.«object.__getattribute__» ⟨[.ref a, .str "string" tk], []⟩) Q E ⟨h, g, d, t, os⟩ := by
  have hT : (⟨h, g, d, t, os⟩ : Shared).TypeIs (.ref a) "re.Match" := ⟨_, hx, hc⟩
  have hT5 : (⟨h, g, d, t, os⟩ : Shared).TypeIs (.builtin "re.Match.string") "member_descriptor" := typeOf_mstring
  have f4 := lk_mstring
  have f5 := typeOf_mstring
  have f6 := slot_md_get.lookup
  have f7 := slot_md_set.lookup
  repeat (any_goals (first | assumption | wp_step))
  refine mstring_get hx hc hd h0 ?_
  repeat (any_goals (first | assumption | wp_step))
theorem mstring_call {tk : Tok} {R : Result → Shared → Prop} (hx : h.get? a = some o) (hc : o.cls = .type "re.Match") (hd : o.data = .fields vs) (h0 : vs[0]? = some a0) (hq : R (.ok (.ret a0)) ⟨h, g, d, t, os⟩) :
    codeAny (model prog w) A (.call (.builtin "object.__getattribute__") ⟨[.ref a, .str "string" tk], []⟩) R ⟨h, g, d, t, os⟩ :=
  codeAny_call_builtin slot_mga.plain entry_oga (slot_mga.check _ _ _ _ _ _ _ _ (show (⟨h, g, d, t, os⟩ : Shared).TypeIs (.ref a) "re.Match" from ⟨_, hx, hc⟩) (args_oga _ _) (mstring_entry hx hc hd h0 hq))
theorem mstring_by {tk : Tok} {fill expr : Bool} {x0 : Str} {t0 : Tok} {Q : Value → Shared → Prop} (hx : h.get? a = some o) (hc : o.cls = .type "re.Match") (hd : o.data = .fields vs) (h0 : vs[0]? = some (.str x0 t0))
    (hq : Q (.str x0 t0) ⟨h, g, d, t, os⟩) : wpAny (model prog w) A (getAttrBy (.ref a) (.str "string" tk) fill expr) Q E ⟨h, g, d, t, os⟩ := by
  have hT : (⟨h, g, d, t, os⟩ : Shared).TypeIs (.ref a) "re.Match" := ⟨_, hx, hc⟩
  have f2 := slot_mga.lookup
  have f3 := slot_mga.bind (.ref a)
  have hx0 : (expr && onTheHeap (Value.builtin "object.__getattribute__")) = false := by cases expr <;> rfl
  have hx1 : (onTheHeap (Value.type "re.Match") && (Value.builtin "object.__getattribute__") == Value.builtin "object.__getattribute__") = false := rfl
  repeat (any_goals (first | assumption | wp_step))
  refine mstring_call hx hc hd h0 ?_
  repeat (any_goals (first | assumption | wp_step))
theorem mstring_attr {expr : Bool} {x0 : Str} {t0 : Tok} {Q : Value → Shared → Prop} (hx : h.get? a = some o) (hc : o.cls = .type "re.Match") (hd : o.data = .fields vs) (h0 : vs[0]? = some (.str x0 t0))
    (hq : Q (.str x0 t0) ⟨h, g, d, t + 1, os⟩) : wpAny (model prog w) A (getAttr (.ref a) "string" expr) Q E ⟨h, g, d, t, os⟩ := by
  unfold getAttr
  repeat (any_goals (first | assumption | with_reducible apply mstring_by hx hc hd h0 | wp_step))
end
end Mine
-- part WA
namespace Mine
open PySem PySem.W PySem.Calls PyProof.Rows PySem.Builtin PySem.Builtin.Re
theorem quiet_WA : True := by
  w_top off
  trivial
section
variable {M : Model} {A : Around} {E : Value → Shared → Prop} {s : Shared}
theorem getm_match {x p T : Addr} {sv : Value} {lim : Nat} {li : Int} {name : Str} {id : String} {pl : Sem Bool} {Q : Value × List Value → Shared → Prop} (hx : s.heap.get? x = some (matchObj sv p lim li T)) (slot : Slot "re.Match" name id) (hty : typeOf (.builtin id) = pure (.type "method_descriptor"))
    (q : Q (.builtin id, [.ref x]) s) : wpAny M A (getMethod (.ref x) name pl) Q E s :=
  getMethod_builtin (show s.TypeIs (.ref x) "re.Match" from ⟨_, hx, rfl⟩) plainAttrs_match slot hty (fun a e => by cases e; exact ⟨_, hx, rfl⟩) q
theorem news_tail {h₀ h : Heap} {L : Addr} {p : Addr × Obj} {news : List (Addr × Obj)} (N : News h₀ L h (p :: news)) : News h₀ L h news := fun q hq => N q (.tail _ hq)
theorem getm_pat {p : Addr} {code : Array Nat} {g : Nat} {name : Str} {id : String} {pl : Sem Bool} {Q : Value × List Value → Shared → Prop} (P : PatAt s.heap p code g) (slot : Slot "re.Pattern" name id) (hty : typeOf (.builtin id) = pure (.type "method_descriptor"))
    (q : Q (.builtin id, [.ref p]) s) : wpAny M A (getMethod (.ref p) name pl) Q E s := by
  obtain ⟨c, items, a1, f, t1, g', t2, x3, x4, t6, e1, _⟩ := P.obj
  exact getMethod_builtin (show s.TypeIs (.ref p) "re.Pattern" from ⟨_, e1, rfl⟩) plainAttrs_pattern slot hty (fun a e => by cases e; exact ⟨_, e1, rfl⟩) q
end
section
variable {prog : Program} {w : World} {A : Around} {E : Value → Shared → Prop} {s : Shared} {h₀ : Heap} {L : Addr} {m : Str → Option Value} {news : List (Addr × Obj)}
theorem mstring_N {x p T : Addr} {t : Str} {tk : Tok} {lim : Nat} {li : Int} {expr : Bool} {Q : Value → Shared → Prop} (N : News h₀ L s.heap news) (hm : (x, matchObj (.str t tk) p lim li T) ∈ news)
    (q : Q (.str t tk) { s with toks := s.toks + 1 }) : wpAny (model prog w) A (getAttr (.ref x) "string" expr) Q E s := by
  obtain ⟨h, g, d, tk', os⟩ := s
  exact mstring_attr (N.get hm) rfl rfl rfl q
end
/-- a text as the list of its signs -/
abbrev ofL (l : List Nat) : Str := ⟨l.toArray⟩
theorem slice_to (l : List Nat) (e : Nat) (he : e ≤ l.length) : Txt.slice (ofL l) none (some (e : Int)) = ofL (l.take e) := by
  show StrLaws.sliceText (ofL l) none (some (e : Int)) = _
  have h := StrLaws.sliceText_nat (ofL l) (a := 0) (b := e) (Nat.zero_le _) (by simpa [Str.length] using he)
  unfold StrLaws.sliceText at h ⊢
  rw [StrLaws.sliceIdx_none_lo]
  rw [show ((0 : Nat) : Int) = 0 from rfl] at h
  rw [h]; simp
theorem slice_from (l : List Nat) (e : Nat) (he : e ≤ l.length) : Txt.slice (ofL l) (some (e : Int)) none = ofL (l.drop e) := by
  show StrLaws.sliceText (ofL l) (some (e : Int)) none = _
  have h := StrLaws.sliceText_nat (ofL l) (a := e) (b := l.length) he (by simp [Str.length])
  unfold StrLaws.sliceText at h ⊢
  rw [StrLaws.sliceIdx_none_hi]
  rw [show (((ofL l).length : Nat) : Int) = ((l.length : Nat) : Int) from by simp [Str.length]]
  rw [h]; simp [List.take_of_length_le]
theorem ofL_append (a b : List Nat) : ofL a ++ ofL b = ofL (a ++ b) := by
  show (⟨a.toArray ++ b.toArray⟩ : Str) = _; simp
theorem len_ofL (l : List Nat) : (ofL l).length = l.length := by simp [Str.length]
section
variable {prog : Program} {w : World} {A : Around} {E : Value → Shared → Prop} {s : Shared} {value slice : Expr} {l : List Nat} {t : Tok} {h₀ : Heap} {L : Addr} {m : Str → Option Value} {news : List (Addr × Obj)} {Q : Value → Shared → Prop}
theorem sl_to {e : Nat} {uj : Tok} (hF : Fr h₀ L s.heap m) (hN : News h₀ L s.heap news) (hsz : l.length ≤ 1048576) (he : e ≤ l.length) (h : ∀ h' t' k, Fr h₀ L h' m → News h₀ L h' news → Q (.str (ofL (l.take e)) t') { s with heap := h', toks := k })
    (hs : subscripted slice false (.str (ofL l) t) (.ref s.heap.objs.size) = operate [.ref s.heap.objs.size, .str (ofL l) t] (getItem (.str (ofL l) t) (.ref s.heap.objs.size)))
    (ht : ∀ r, letTemporaryGo value (.str (ofL l) t) r = pure ()) :
    wpAny (model prog w) A (subscriptTail value slice (.str (ofL l) t) (.ref s.heap.objs.size)) Q E { s with heap := s.heap.push { cls := .type "slice", data := .fields #[.none, .int (e : Int) uj, .none] } } :=
  slice_strN_ns hF hN (fun h' t' k F' N' => by rw [slice_to l e he]; exact h h' t' k F' N') hs ht (by rw [len_ofL]; exact Nat.le_trans hsz (by decide))
theorem sl_from {e : Nat} {uj : Tok} (hF : Fr h₀ L s.heap m) (hN : News h₀ L s.heap news) (hsz : l.length ≤ 1048576) (he : e ≤ l.length) (h : ∀ h' t' k, Fr h₀ L h' m → News h₀ L h' news → Q (.str (ofL (l.drop e)) t') { s with heap := h', toks := k })
    (hs : subscripted slice false (.str (ofL l) t) (.ref s.heap.objs.size) = operate [.ref s.heap.objs.size, .str (ofL l) t] (getItem (.str (ofL l) t) (.ref s.heap.objs.size)))
    (ht : ∀ r, letTemporaryGo value (.str (ofL l) t) r = pure ()) :
    wpAny (model prog w) A (subscriptTail value slice (.str (ofL l) t) (.ref s.heap.objs.size)) Q E { s with heap := s.heap.push { cls := .type "slice", data := .fields #[.int (e : Int) uj, .none, .none] } } :=
  slice_strN_sn hF hN (fun h' t' k F' N' => by rw [slice_from l e he]; exact h h' t' k F' N') hs ht (by rw [len_ofL]; exact Nat.le_trans hsz (by decide))
theorem add_L {a b : List Nat} {t u : Tok} (h : ∀ t' tk, Q (.str (ofL (a ++ b)) t') { s with toks := tk }) (hsz : a.length + b.length ≤ 1048576) : wpAny (model prog w) A (binaryOp .Add (.str (ofL a) t) (.str (ofL b) u)) Q E s :=
  add_str (fun t' tk => by rw [ofL_append]; exact h t' tk) (by rw [len_ofL, len_ofL]; exact Nat.le_trans hsz (by decide))
end
-- the walk's own lines
local macro_rules | `(tactic| k_mem) => `(tactic| first | assumption | exact List.Mem.head _ | (refine' List.Mem.tail _ ?_; k_mem))
local macro_rules | `(tactic| walk_at "getMethod ref") => `(tactic| (k_here; (with_reducible show wpAny _ _ (getMethod (Value.ref _) (Str.ofString "span") _) _ _ _); k_dflt (refine getm_match (News.get (by k_asm) (by k_mem)) slot_span type_span ?_)))
local macro_rules | `(tactic| walk_at "call builtin:re.Match.span") => `(tactic| (k_here; k_dflt (refine' span_call ?F ?N ?m ?t ?_; (case F => k_asm); (case N => k_asm); (case m => k_mem); (case t => k_mem); k_whole; intro y' t1' t2' h' k' F' N' l1; (try k_lt l1); (try k_sweep))))
local macro_rules | `(tactic| walk_at "getAttr ref") => `(tactic| (k_here; (with_reducible show wpAny _ _ (getAttr (Value.ref _) (Str.ofString "string") _) _ _ _); k_dflt (refine' mstring_N ?N ?m ?_; (case N => k_asm); (case m => k_mem); k_whole)))
local macro_rules | `(tactic| walk_at "subscriptTail Name Slice str ref") => `(tactic| (k_here; (with_unfolding_all first
  | (refine' sl_to ?F ?N ?z ?e ?_ ?s ?t; (case F => k_asm); (case N => k_asm); (case z => assumption); (case e => omega); (case s => exact rfl); (case t => exact fun _ => rfl); k_whole)
  | (refine' sl_from ?F ?N ?z ?e ?_ ?s ?t; (case F => k_asm); (case N => k_asm); (case z => assumption); (case e => omega); (case s => exact rfl); (case t => exact fun _ => rfl); k_whole)); intro h' t' k' F' N'; (try k_sweep)))
local macro_rules | `(tactic| walk_at "binaryOp Add str str") => `(tactic| (k_here; k_dflt (refine' add_L ?_ ?z; (case z => (simp only [List.length_take, List.length_drop]; omega)); k_whole); intro t' k'))
theorem unmatched_call {prog : Program} {w : World} {p : Program} {loose : List Str} {mean : ExcName → Option Value} {mg mb : Str → Option Value} {dp un : Nat} {gd : Option (List Code)} {cn : Str} {cs : Scope} {a : Addr} {ccd : Value} {cl : List (Str × Addr)} {outer : List Env} {A₀ : Around} {base h₀ : Heap} {L : Addr} {m : Str → Option Value} {news : List (Addr × Obj)} {s : Shared}
    {Q E : Value → Shared → Prop} {x pp Tt : Addr} {l : List Nat} {tk : Tok} {lim b e gb ge : Nat}
    (B : Below A₀ base outer h₀) (F : Fr h₀ L s.heap m) (X : (hd.heap_39 w.params).In h₀) (N : News h₀ L s.heap news) (T : Top p loose mean mg mb h₀) (hk : cs.kind = .function)
    (hm : (x, matchObj (.str (ofL l) tk) pp lim 1 Tt) ∈ news) (ht : (Tt, spansObj [rawInt b, rawInt e, rawInt gb, rawInt ge]) ∈ news) (hdp : dp + 2 < recursionLimit) (hun : un + 20 < cLine)
    (hsz : l.length ≤ 1048576) (hb : b ≤ e) (he : e ≤ l.length)
    (hret : ∀ t' h' tk', Fr h₀ L h' m → News h₀ L h' news → Q (.str (ofL (l.take b ++ l.drop e)) t') { s with heap := h', toks := tk' }) :
    wpAny (model prog w) (ktrTop dp un gd cn cs L a ccd cl outer) (call (.ref 43) [.ref x]) Q E s := by
  refine wpAny_call ?_
  k_dflt ktr_enter
  k_steps
  · exact hret _ _ _ (by k_asm) (news_tail (by k_asm))
end Mine
-- part WB
namespace Mine
open PySem PySem.W PySem.Calls PyProof.Rows PySem.Builtin PySem.Builtin.Re PySem.Builtin.Str
/-- texts put together with a sign between -/
def joinL (sep : List Nat) : List (List Nat) → List Nat
  | [] => []
  | [x] => x
  | x :: y :: r => x ++ sep ++ joinL sep (y :: r)
theorem str_join_ofL (sep : List Nat) : ∀ ls : List (List Nat), Str.join (ofL sep) (ls.map ofL) = ofL (joinL sep ls)
  | [] => rfl
  | [x] => rfl
  | x :: y :: r => by
    show ofL x ++ ofL sep ++ Str.join (ofL sep) ((y :: r).map ofL) = _
    rw [str_join_ofL sep (y :: r), ofL_append, ofL_append]; rfl
theorem txt_join_ofL (sep : List Nat) (ls : List (List Nat)) : Txt.join (ofL sep) (ls.map ofL) = ofL (joinL sep ls) := by
  rw [← str_join_ofL]
  cases ls with
  | nil => rfl
  | cons x r =>
    show glued _ _ = _
    rw [List.map_cons]
    exact StrLaws.glued_cons _ _ _
theorem joinL_nil : ∀ ls : List (List Nat), joinL [] ls = ls.flatten
  | [] => rfl
  | [x] => by simp [joinL]
  | x :: y :: r => by rw [joinL, joinL_nil (y :: r)]; simp
def textsLen (sep : List Nat) (ls : List (List Nat)) : Nat := (ls.map fun x => x.length + sep.length).sum
theorem joinOk_ofL (sep : List Nat) (ls : List (List Nat)) (h : textsLen sep ls ≤ 1048576) : JoinOk (ofL sep) (ls.map ofL) = true := by
  have e : ∀ (l : List (List Nat)) (k : Nat), (l.map ofL).foldl (fun a x => a + Str.length x + Str.length (ofL sep)) k = k + textsLen sep l := by
    intro l
    induction l with
    | nil => intro k; simp [textsLen]
    | cons x r ih => intro k; rw [List.map_cons, List.foldl_cons, ih]; simp only [len_ofL, textsLen, List.map_cons, List.sum_cons]; omega
  unfold JoinOk tooLong
  rw [List.foldl_toArray, e]
  simp [sizeLine_eq]; omega
end Mine
-- part WC
namespace Mine
open PySem PySem.W PySem.Calls PyProof.Rows PySem.Builtin PySem.Builtin.Re PySem.Builtin.Str
theorem entry_subloop : entryFor table "re.Pattern.sub.loop" = some Builtin.«re.Pattern.sub.loop» := entryFor_of_tree (by kernel_rfl)
theorem plain_subloop : plainId "re.Pattern.sub.loop" = true := by decide +kernel
abbrev pvals (l : List (List Nat × Tok)) : List Value := l.map fun p => .str (ofL p.1) p.2
theorem pvals_eq (l : List (List Nat × Tok)) : pvals l = strValues (l.map fun p => (ofL p.1, p.2)) := by simp [pvals, strValues]
abbrev listO (vs : List Value) (n : Nat) : Obj := { cls := .type "list", data := .seq vs.toArray n }
theorem push_listO (vs : List Value) (n : Nat) (v : Value) : Obj.mapSeq (·.push v) (listO vs n) = listO (vs ++ [v]) (n + 1) := by simp [listO, Obj.mapSeq]
section
variable {prog : Program} {w : World} {A : Around} {E : Value → Shared → Prop} {s : Shared} {h₀ : Heap} {L : Addr} {m : Str → Option Value} {news : List (Addr × Obj)}
theorem whole_str {p : Addr} {code : Array Nat} {groups : Nat} {x : Str} {tk : Tok} {Q : ReTarget → Shared → Prop} (P : PatAt s.heap p code groups)
    (q : Q { pattern := .ref p, string := .str x tk, code, text := x.cps, kind := 0, groups, pos := 0, lim := x.cps.size } s) :
    wpAny (model prog w) A (reWholeTarget (.ref p) (.str x tk)) Q E s := by
  obtain ⟨c, items, a1, fl, t1, g, t2, x3, x4, t6, e1, e2, e3, e4⟩ := P.obj
  unfold reWholeTarget
  refine wpAny_bind (wpAny_fieldsOf e1 rfl ?_)
  unfold reTextOf
  refine wpAny_bind (wpAny_bind (wpAny_pure ?_))
  dsimp only
  refine wpAny_pure ?_
  dsimp only
  rw [if_neg (by exact Bool.false_ne_true), if_neg (by exact Bool.false_ne_true)]
  unfold reNoCollectionInside
  rw [if_neg (by exact Bool.false_ne_true)]
  refine wpAny_bind (wpAny_pure ?_)
  unfold reRawItems
  refine wpAny_bind (wpAny_bind (wpAny_seqItems e2 rfl (wpAny_pure (wpAny_pure ?_))))
  have e5 : reRawNat (#[a1, Value.int fl t1, Value.int (groups : Int) t2, x3, x4, Value.ref c, Value.int 0 t6].getD 2 Value.none) = groups := by
    show Int.toNat (groups : Int) = groups; simp
  rw [e5]
  show Q { pattern := .ref p, string := .str x tk, code := (items.map reRawOf).map (·.toNat), text := x.cps, kind := 0, groups, pos := 0, lim := x.cps.size } s
  rw [e3]
  exact q
/-- one more piece -/
theorem piece_push {D : Addr} {vs : List Value} {n : Nat} {v : Value} {Q : Unit → Shared → Prop} (F : Fr h₀ L s.heap m) (N : News h₀ L s.heap ((D, listO vs n) :: news)) (hap : ∀ p ∈ news, p.1 ≠ D) (hsz : vs.length ≤ 1000)
    (q : ∀ h', Fr h₀ L h' m → News h₀ L h' ((D, listO (vs ++ [v]) (n + 1)) :: news) → Q () { s with heap := h' }) : wpAny (model prog w) A (updateSeq D (·.push v)) Q E s := by
  have ho := N.get (.head _)
  have hs : Heap.SameBut D s.heap (s.heap.update D (Obj.mapSeq (·.push v))) := Heap.SameBut.update ..
  have hg : (s.heap.update D (Obj.mapSeq (·.push v))).get? D = some (listO (vs ++ [v]) (n + 1)) := by
    rw [Heap.get?_update_self _ ho (by rw [push_listO]; rfl), push_listO]
  exact wpAny_updateSeq ho rfl (q _ (F.change hs (N _ (.head _)).2.1 (N _ (.head _)).2.2) (N.setHead hap hs hg)) (by rw [List.size_toArray]; exact Nat.le_trans hsz (by decide))
end
end Mine
-- part WD
namespace Mine
open PySem PySem.W PySem.Calls PyProof.Rows PySem.Builtin PySem.Builtin.Re PySem.Builtin.Str
section
variable {prog : Program} {w : World} {A : Around} {E : Value → Shared → Prop} {s : Shared} {h₀ : Heap} {L : Addr} {m : Str → Option Value} {news : List (Addr × Obj)}
abbrev loopArgs (p : Addr) (x : List Nat) (tk : Tok) (repl : Value) (way cnt done start : Nat) (must : Bool) (D : Addr) (wc : Bool) : Args :=
  ⟨[.ref p, .str (ofL x) tk, repl, rawInt (way : Int), rawInt (0 : Int), rawInt (cnt : Int), rawInt (done : Int), rawInt (start : Int), .bool must, .ref D, .bool wc], []⟩
/-- the pieces are put together -/
theorem pieces_join {D : Addr} {l : List (List Nat × Tok)} {n : Nat} {t0 : Tok} {Q : Value → Shared → Prop} (N : News h₀ L s.heap ((D, listO (pvals l) n) :: news)) (hsz : (l.map (·.1)).flatten.length ≤ 1048576)
    (q : ∀ t' k, Q (.str (ofL (l.map (·.1)).flatten) t') { s with toks := k }) : wpAny (model prog w) A (call (.builtin "str.join") [.str (ofL []) t0, .ref D]) Q E s := by
  have hl : s.heap.IsList D (strValues (l.map fun p => (ofL p.1, p.2))).toArray := by
    refine ⟨_, N.get (.head _), rfl, n, ?_⟩
    rw [← pvals_eq]
  have ht : (l.map fun p => (ofL p.1, p.2)).map (·.1) = (l.map (·.1)).map ofL := by simp
  refine SC.join hl ht (joinOk_ofL [] _ ?_) fun t' k => ?_
  · unfold textsLen
    have : (List.map (fun x => x.length + ([] : List Nat).length) (l.map (·.1))).sum = (l.map (·.1)).flatten.length := by
      rw [List.length_flatten]; congr 1
    rw [this]; exact hsz
  · rw [txt_join_ofL, joinL_nil]; exact q t' k
theorem pvals_concat (l : List (List Nat × Tok)) (v : List Nat) (t : Tok) : pvals l ++ [.str (ofL v) t] = pvals (l ++ [(v, t)]) := by simp [pvals]
theorem slice_mk {x : List Nat} {b e : Nat} {Q : Value → Shared → Prop} (hx : x.length ≤ 524288) (q : ∀ t, Q (.str (ofL ((x.take e).drop b)) t) { s with toks := s.toks + 1 }) : wpAny (model prog w) A (reSlice x.toArray 0 b e) Q E s := by
  unfold reSlice
  rw [if_pos (by exact rfl)]
  have e1 : (⟨x.toArray.extract b e⟩ : Str) = ofL ((x.take e).drop b) := by simp [List.extract_eq_take_drop, List.drop_take]
  rw [e1]
  refine wpAny_mkStr (q _) ?_
  rw [len_ofL]
  refine Nat.le_trans ?_ (Nat.le_trans hx (by decide))
  simp; omega
/-- the last pieces: what is left of the text, and the whole put together -/
theorem loop_tail {x : List Nat} {D : Addr} {l : List (List Nat × Tok)} {n done : Nat} {Q : Fin → Shared → Prop} {K : Value → Sem Fin}
    (F : Fr h₀ L s.heap m) (N : News h₀ L s.heap ((D, listO (pvals l) n) :: news)) (hap : ∀ r ∈ news, r.1 ≠ D) (hl : l.length ≤ 1000) (hx : x.length ≤ 524288) (hls : (l.map (·.1)).flatten.length ≤ 524288) (hdn : done ≤ x.length)
    (q : ∀ t' h' kk, Fr h₀ L h' m → News h₀ L h' news → wpAny (model prog w) A (K (.str (ofL ((l.map (·.1)).flatten ++ x.drop done)) t')) Q E { s with heap := h', toks := kk }) :
    wpAny (model prog w) A (if done < x.length then (do let p ← reSlice x.toArray 0 done x.length; updateSeq D (·.push p); let joiner ← reSlice x.toArray 0 0 0; let its ← seqItems? (.ref D); if (its.getD #[]).isEmpty = true then (do let text ← pure joiner; K text) else (do let text ← call (.builtin "str.join") [joiner, .ref D]; K text))
      else (do let joiner ← reSlice x.toArray 0 0 0; let its ← seqItems? (.ref D); if (its.getD #[]).isEmpty = true then (do let text ← pure joiner; K text) else (do let text ← call (.builtin "str.join") [joiner, .ref D]; K text))) Q E s := by
  by_cases hd : done < x.length
  · rw [if_pos hd]
    refine wpAny_bind (slice_mk hx fun t1 => wpAny_bind ?_)
    have e1 : (x.take x.length).drop done = x.drop done := by rw [List.take_length]
    rw [e1]
    refine piece_push (s := { s with toks := s.toks + 1 }) F N hap (by simpa using hl) fun h' F' N' => ?_
    refine wpAny_bind (slice_mk hx fun t2 => ?_)
    rw [pvals_concat] at N'
    refine wpAny_bind (wpAny_seqItems (N'.get (.head _)) rfl ?_)
    rw [if_neg (by simp)]
    refine wpAny_bind ?_
    have e2 : (x.take 0).drop 0 = [] := by simp
    rw [e2]
    refine pieces_join (s := { s with heap := h', toks := s.toks + 1 + 1 }) N' ?_ fun t' k => ?_
    · simp at hls ⊢; omega
    · have e3 : ((l ++ [(x.drop done, t1)]).map (·.1)).flatten = (l.map (·.1)).flatten ++ x.drop done := by simp
      rw [e3]
      exact q t' h' k F' (news_tail N')
  · rw [if_neg hd]
    have hde : x.drop done = [] := by rw [List.drop_eq_nil_iff]; omega
    refine wpAny_bind (slice_mk hx fun t2 => ?_)
    have e2 : (x.take 0).drop 0 = [] := by simp
    rw [e2]
    refine wpAny_bind (wpAny_seqItems (N.get (.head _)) rfl ?_)
    rw [hde] at q
    simp only [List.append_nil] at q
    cases l with
    | nil =>
      rw [if_pos (by simp)]
      exact wpAny_bind (wpAny_pure (q _ _ _ F (news_tail N)))
    | cons a r =>
      rw [if_neg (by simp)]
      refine wpAny_bind ?_
      exact pieces_join (s := { s with toks := s.toks + 1 }) N (by omega) fun t' k => q t' s.heap k F (news_tail N)
theorem subn_end {p : Addr} {code : Array Nat} {g : Nat} {x : List Nat} {tk rt : Tok} {rs : Str} {cnt done start : Nat} {must : Bool} {D : Addr} {l : List (List Nat × Tok)} {n k : Nat} {R : Result → Shared → Prop}
    (F : Fr h₀ L s.heap m) (N : News h₀ L s.heap ((D, listO (pvals l) n) :: news)) (hap : ∀ r ∈ news, r.1 ≠ D) (P : PatAt s.heap p code g) (hl : l.length ≤ 1000) (hx : x.length ≤ 524288) (hls : (l.map (·.1)).flatten.length ≤ 524288) (hdn : done ≤ x.length)
    (hmiss : EndsIn k (Sre.forSearch code x.toArray g start x.length must) Failed) (hk : k < 2 ^ 64)
    (q : ∀ y t1 t2 h' kk, Fr h₀ L h' m → News h₀ L h' ((y, spansObj [.str (ofL ((l.map (·.1)).flatten ++ x.drop done)) t1, .int (cnt : Int) t2]) :: news) → (∀ r ∈ news, r.1 < y) → R (.ok (.ret (.ref y))) { s with heap := h', toks := kk }) :
    codeAny (model prog w) A (.builtin "re.Pattern.sub.loop" (loopArgs p x tk (.str rs rt) 0 cnt done start must D true)) R s := by
  refine codeAny_builtin entry_subloop ?_
  generalize A.under _ = A'
  unfold Builtin.«re.Pattern.sub.loop»
  dsimp only [loopArgs]
  refine wpAny_bind (whole_str P ?_)
  dsimp only
  rw [if_pos (by exact rfl)]
  unfold reLiteralCannotBeTurned
  refine wpAny_bind (wpAny_bind (wpAny_pure ?_))
  rw [if_neg (by exact Bool.false_ne_true)]
  refine wpAny_pure ?_
  refine wpAny_bind ?_
  rw [if_neg (by simp)]
  unfold reNextFound
  have hsz : x.toArray.size = x.length := by simp
  simp only [hsz, Int.toNat_natCast]
  refine to_end_none hmiss hk ?_
  dsimp only
  refine loop_tail (K := fun text => (do let v ← holding [text] (do let i ← mkInt (cnt : Int); newTuple [text, i]); ret v)) F N hap hl hx hls hdn fun t' h' kk F' N' => ?_
  refine wpAny_bind (wpAny_holding (wpAny_bind (wpAny_mkInt ?_)))
  refine newTuple_N (m := m) (news := news) F' N' (fun h'' F'' N'' => wpAny_pure ?_) (by show 2 ≤ sizeLine; decide)
  exact q _ _ _ _ _ F'' N'' fun r hr => Heap.lt_size (N' r hr).1
theorem sub_end {p f : Addr} {code : Array Nat} {g : Nat} {x : List Nat} {tk : Tok} {cnt done start : Nat} {must : Bool} {D : Addr} {l : List (List Nat × Tok)} {n k : Nat} {R : Result → Shared → Prop}
    (F : Fr h₀ L s.heap m) (N : News h₀ L s.heap ((D, listO (pvals l) n) :: news)) (hap : ∀ r ∈ news, r.1 ≠ D) (P : PatAt s.heap p code g) (hl : l.length ≤ 1000) (hx : x.length ≤ 524288) (hls : (l.map (·.1)).flatten.length ≤ 524288) (hdn : done ≤ x.length)
    (hmiss : EndsIn k (Sre.forSearch code x.toArray g start x.length must) Failed) (hk : k < 2 ^ 64)
    (q : ∀ t1 h' kk, Fr h₀ L h' m → News h₀ L h' news → R (.ok (.ret (.str (ofL ((l.map (·.1)).flatten ++ x.drop done)) t1))) { s with heap := h', toks := kk }) :
    codeAny (model prog w) A (.builtin "re.Pattern.sub.loop" (loopArgs p x tk (.ref f) 1 cnt done start must D false)) R s := by
  refine codeAny_builtin entry_subloop ?_
  generalize A.under _ = A'
  unfold Builtin.«re.Pattern.sub.loop»
  dsimp only [loopArgs]
  refine wpAny_bind (whole_str P ?_)
  dsimp only
  rw [if_neg (by exact Bool.false_ne_true)]
  refine wpAny_bind ?_
  rw [if_neg (by simp)]
  unfold reNextFound
  have hsz : x.toArray.size = x.length := by simp
  simp only [hsz, Int.toNat_natCast]
  refine to_end_none hmiss hk ?_
  dsimp only
  refine loop_tail (K := fun text => ret text) F N hap hl hx hls hdn fun t' h' kk F' N' => wpAny_pure ?_
  exact q _ _ _ F' N'
/-- a match for a written replacement -/
theorem subn_found {p : Addr} {code : Array Nat} {g : Nat} {x : List Nat} {tk rt : Tok} {rs : List Nat} {cnt start e : Nat} {must : Bool} {D : Addr} {l : List (List Nat × Tok)} {n k : Nat} {R : Result → Shared → Prop}
    (F : Fr h₀ L s.heap m) (N : News h₀ L s.heap ((D, listO (pvals l) n) :: news)) (hap : ∀ r ∈ news, r.1 ≠ D) (P : PatAt s.heap p code g) (hl : l.length ≤ 900)
    (hf : EndsIn k (Sre.forSearch code x.toArray g start x.length must) (Found0 start e)) (hk : k < 2 ^ 64)
    (q : ∀ h', Fr h₀ L h' m → News h₀ L h' ((D, listO (pvals (l ++ [(rs, rt)])) (n + 1)) :: news) → codeAny (model prog w) A (.builtin "re.Pattern.sub.loop" (loopArgs p x tk (.str (ofL rs) rt) 0 (cnt + 1) e e (e == start) D true)) R { s with heap := h' }) :
    codeAny (model prog w) A (.builtin "re.Pattern.sub.loop" (loopArgs p x tk (.str (ofL rs) rt) 0 cnt start start must D true)) R s := by
  refine codeAny_builtin entry_subloop ?_
  generalize A.under _ = A'
  unfold Builtin.«re.Pattern.sub.loop»
  dsimp only [loopArgs]
  refine wpAny_bind (whole_str P ?_)
  dsimp only
  rw [if_pos (by exact rfl)]
  unfold reLiteralCannotBeTurned
  refine wpAny_bind (wpAny_bind (wpAny_pure ?_))
  rw [if_neg (by exact Bool.false_ne_true)]
  refine wpAny_pure ?_
  refine wpAny_bind ?_
  rw [if_neg (by simp)]
  unfold reNextFound
  have hsz : x.toArray.size = x.length := by simp
  simp only [hsz, Int.toNat_natCast]
  refine to_end_found hf hk (fun m' h => h.1) fun m' h => ?_
  obtain ⟨_, e1, e2, _⟩ := h
  dsimp only
  rw [e1, e2, if_neg (Nat.lt_irrefl _), if_pos (by exact rfl)]
  refine wpAny_bind (wpAny_pure ?_)
  rw [if_pos (by exact rfl)]
  refine wpAny_bind (piece_push F N hap (by simpa using (Nat.le_trans hl (by decide))) fun h' F' N' => ?_)
  rw [pvals_concat] at N'
  refine wpAny_pure ⟨Code.quiet_builtin _ (by decide +kernel), ?_⟩
  exact q h' F' N'
/-- a match for a function's answer -/
theorem sub_found {p f : Addr} {code : Array Nat} {x it : List Nat} {tk : Tok} {cnt start b e gb ge : Nat} {must : Bool} {D : Addr} {l : List (List Nat × Tok)} {n k : Nat} {R : Result → Shared → Prop}
    (F : Fr h₀ L s.heap m) (N : News h₀ L s.heap ((D, listO (pvals l) n) :: news)) (hap : ∀ r ∈ news, r.1 ≠ D) (P : PatAt s.heap p code 1) (hl : l.length ≤ 900) (hx : x.length ≤ 524288)
    (hf : EndsIn k (Sre.forSearch code x.toArray 1 start x.length must) (Found1 b e gb ge)) (hk : k < 2 ^ 64) (hge : gb ≤ ge) (hsb : start < b)
    (cb : ∀ l' n' T h' kk, Fr h₀ L h' m → News h₀ L h' ((T + 1, matchObj (.str (ofL x) tk) p x.length 1 T) :: (T, spansObj [rawInt b, rawInt e, rawInt gb, rawInt ge]) :: (D, listO (pvals l') n') :: news) → (∀ r ∈ news, r.1 < T) → D < T →
      wpAny (model prog w) A.in1 (call (.ref f) [.ref (T + 1)]) (fun v s' => ∃ t h'' k2, v = .str (ofL it) t ∧ s' = { s with heap := h'', toks := k2 } ∧ Fr h₀ L h'' m ∧ News h₀ L h'' ((D, listO (pvals l') n') :: news)) (fun e' s' => R (.error e') s') { s with heap := h', toks := kk })
    (q : ∀ t1 t2 n' h' kk, Fr h₀ L h' m → News h₀ L h' ((D, listO (pvals (l ++ [((x.take b).drop start, t1), (it, t2)])) n') :: news) →
      codeAny (model prog w) A (.builtin "re.Pattern.sub.loop" (loopArgs p x tk (.ref f) 1 (cnt + 1) e e (e == b) D false)) R { s with heap := h', toks := kk }) :
    codeAny (model prog w) A (.builtin "re.Pattern.sub.loop" (loopArgs p x tk (.ref f) 1 cnt start start must D false)) R s := by
  refine codeAny_builtin entry_subloop ?_
  rw [Around.under_plainId plain_subloop]
  unfold Builtin.«re.Pattern.sub.loop»
  dsimp only [loopArgs]
  refine wpAny_bind (whole_str P ?_)
  dsimp only
  rw [if_neg (by exact Bool.false_ne_true)]
  refine wpAny_bind ?_
  rw [if_neg (by simp)]
  unfold reNextFound
  have hsz : x.toArray.size = x.length := by simp
  simp only [hsz, Int.toNat_natCast]
  refine to_end_found hf hk (fun m' h => h.1) fun m' h => ?_
  have h' := h
  obtain ⟨_, e1, e2, _⟩ := h'
  dsimp only
  rw [e1, e2, if_pos hsb]
  refine wpAny_bind (slice_mk hx fun t1 => wpAny_bind ?_)
  refine piece_push (s := { s with toks := s.toks + 1 }) F N hap (by simpa using (Nat.le_trans hl (by decide))) fun h1 F1 N1 => ?_
  rw [if_neg (by exact Bool.false_ne_true)]
  rw [pvals_concat] at N1
  refine wpAny_bind (newMatch1 (s := { s with heap := h1, toks := s.toks + 1 }) h hge F1 N1 fun T h2 F2 N2 l2 => ?_)
  rw [if_pos (by exact rfl)]
  refine wpAny_bind (wpAny_holding (wpAny_mono (cb _ _ T h2 _ F2 N2 (fun r hr => l2 r (.tail _ hr)) (l2 _ (.head _))) (fun v s' hv => ?_) fun _ _ z => z))
  obtain ⟨t2, h3, k2, rfl, rfl, F3, N3⟩ := hv
  rw [if_pos (by exact rfl)]
  refine wpAny_bind (piece_push F3 N3 hap (by simp; omega) fun h4 F4 N4 => ?_)
  rw [pvals_concat] at N4
  refine wpAny_pure ⟨Code.quiet_builtin _ (by decide +kernel), ?_⟩
  have e5 : l ++ [((x.take b).drop start, t1)] ++ [(it, t2)] = l ++ [((x.take b).drop start, t1), (it, t2)] := by simp
  rw [e5] at N4
  exact q t1 t2 _ h4 _ F4 N4
end
end Mine
-- part WE
namespace Mine
open PySem PySem.W PySem.Calls PyProof.Rows PySem.Builtin PySem.Builtin.Re PySem.Builtin.Str
theorem slot_sub : Slot "re.Pattern" "sub" "re.Pattern.sub" :=
  .of (owner := "re.Pattern") (n := "sub") (by rw [typeLookup_type, builtinLookup_eq_fast]; kernel_rfl) (by decide +kernel) (by decide +kernel) (by decide +kernel)
    (by first | exact .inl (by decide +kernel) | exact .inr (by decide +kernel)) (by rw [isSubtype_type]; kernel_rfl)
theorem type_sub : typeOf (.builtin "re.Pattern.sub") = pure (.type "method_descriptor") := by show builtinType _ = _; rw [builtinType_eq_fast]; kernel_rfl
theorem entry_sub : entryFor table "re.Pattern.sub" = some Builtin.«re.Pattern.sub» := entryFor_of_tree (by kernel_rfl)
theorem args_sub (a b c : Value) : argsOk "re.Pattern.sub" ⟨[a, b, c], []⟩ := by unfold argsOk; kernel_rfl
theorem slot_subn : Slot "re.Pattern" "subn" "re.Pattern.subn" :=
  .of (owner := "re.Pattern") (n := "subn") (by rw [typeLookup_type, builtinLookup_eq_fast]; kernel_rfl) (by decide +kernel) (by decide +kernel) (by decide +kernel)
    (by first | exact .inl (by decide +kernel) | exact .inr (by decide +kernel)) (by rw [isSubtype_type]; kernel_rfl)
theorem type_subn : typeOf (.builtin "re.Pattern.subn") = pure (.type "method_descriptor") := by show builtinType _ = _; rw [builtinType_eq_fast]; kernel_rfl
theorem entry_subn : entryFor table "re.Pattern.subn" = some Builtin.«re.Pattern.subn» := entryFor_of_tree (by kernel_rfl)
theorem args_subn (a b c : Value) : argsOk "re.Pattern.subn" ⟨[a, b, c], []⟩ := by unfold argsOk; kernel_rfl
theorem slot_fullmatch : Slot "re.Pattern" "fullmatch" "re.Pattern.fullmatch" :=
  .of (owner := "re.Pattern") (n := "fullmatch") (by rw [typeLookup_type, builtinLookup_eq_fast]; kernel_rfl) (by decide +kernel) (by decide +kernel) (by decide +kernel)
    (by first | exact .inl (by decide +kernel) | exact .inr (by decide +kernel)) (by rw [isSubtype_type]; kernel_rfl)
theorem type_fullmatch : typeOf (.builtin "re.Pattern.fullmatch") = pure (.type "method_descriptor") := by show builtinType _ = _; rw [builtinType_eq_fast]; kernel_rfl
theorem entry_fullmatch : entryFor table "re.Pattern.fullmatch" = some Builtin.«re.Pattern.fullmatch» := entryFor_of_tree (by kernel_rfl)
theorem args_fullmatch (a b : Value) : argsOk "re.Pattern.fullmatch" ⟨[a, b], []⟩ := by unfold argsOk; kernel_rfl
theorem lk_str_call : typeLookup (.type "str") "__call__" = pure none := by rw [typeLookup_type, builtinLookup_eq_fast]; kernel_rfl
theorem lk_fn_call : ∃ v, typeLookup (.type "function") "__call__" = pure (some v) := ⟨.builtin "function.__call__", by rw [typeLookup_type, builtinLookup_eq_fast]; kernel_rfl⟩
theorem sub_str_bytearray : isSubtype (.type "str") (.type "bytearray") = pure false := by rw [isSubtype_type]; kernel_rfl
theorem named_sub (a b : Value) (id f : String) : reNamed id f ["repl", "string", "count"] 2 [a, b] [] = pure [some a, some b, none] := rfl
section
variable {prog : Program} {w : World} {A : Around} {E : Value → Shared → Prop} {s : Shared} {h₀ : Heap} {L : Addr} {m : Str → Option Value} {news : List (Addr × Obj)}
/-- «p.subn('', x)» where the junk is the first j signs -/
theorem subn_call {p : Addr} {x : List Nat} {tk rt : Tok} {j : Nat} {Q : Value → Shared → Prop} (F : Fr h₀ L s.heap m) (N : News h₀ L s.heap news) (P₀ : PatAt h₀ p junkCode 0) (hx : x.length ≤ 524288)
    (hj0 : 0 < j) (hj : j ≤ x.length) (hw : ∀ i, i < j → isJunk (x.toArray.getD i 0) = true) (he : j = x.length ∨ isJunk (x.toArray.getD j 0) = false)
    (q : ∀ y t1 t2 h' kk, Fr h₀ L h' m → News h₀ L h' ((y, spansObj [.str (ofL (x.drop j)) t1, .int (1 : Nat) t2]) :: news) → (∀ r ∈ news, r.1 < y) → Q (.ref y) { s with heap := h', toks := kk }) :
    wpAny (model prog w) A (call (.builtin "re.Pattern.subn") [.ref p, .str (ofL []) rt, .str (ofL x) tk]) Q E s := by
  have P := P₀.keeps F.keep
  have hT : s.TypeIs (.ref p) "re.Pattern" := by
    obtain ⟨c, items, a1, fl, t1, g, t2, x3, x4, t6, e1, _⟩ := P.obj
    exact ⟨_, e1, rfl⟩
  refine wpAny_call (codeAny_call_builtin slot_subn.plain entry_subn (slot_subn.check _ _ _ _ _ _ _ _ hT (args_subn _ _ _) ?_))
  unfold Builtin.«re.Pattern.subn» reSubstitute
  dsimp only
  rw [named_sub]
  refine wpAny_bind (wpAny_pure ?_)
  dsimp only
  refine wpAny_bind (wpAny_pure ?_)
  refine wpAny_bind (wpAny_specialOf (typeIs_str _ _ _) lk_str_call ?_)
  rw [if_neg (by exact Bool.false_ne_true)]
  refine wpAny_bind (wpAny_pure ?_)
  dsimp only
  refine wpAny_bind (wpAny_pure ?_)
  rw [if_neg (by exact Bool.false_ne_true), if_pos (by simp)]
  refine wpAny_bind (wpAny_pure ?_)
  refine wpAny_bind (wpAny_holding (whole_str P ?_))
  rw [if_neg (by exact Bool.false_ne_true)]
  refine wpAny_bind (newList_N F N (fun h' F' N' => wpAny_pure ⟨Code.quiet_builtin _ (by decide +kernel), ?_⟩) (by show 0 ≤ sizeLine; decide))
  have hap : ∀ r ∈ news, r.1 ≠ s.heap.objs.size := fun r hr => Nat.ne_of_lt (Heap.lt_size (N r hr).1)
  have hsz : x.toArray.size = x.length := by simp
  have f1 := junk_found (text := x.toArray) (j := j) (must := false) (by rw [hsz]; omega) (by rw [hsz]; exact hj) hw (by rw [hsz]; exact he) rfl
  rw [hsz] at f1
  have f2 := junk_over (text := x.toArray) (j := j) (must := j == 0) (by rw [hsz]; exact hj) hj0
  rw [hsz] at f2
  refine subn_found (s := { s with heap := h' }) (l := []) (start := 0) (cnt := 0) F' N' hap (P₀.keeps F'.keep) (by simp) f1 (by decide) fun h2 F2 N2 => ?_
  refine subn_end (s := { s with heap := h2 }) (cnt := 0 + 1) F2 N2 hap (P₀.keeps F2.keep) (by simp) hx (by simp) hj f2 (by omega) fun y t1 t2 h3 kk F3 N3 l3 => ?_
  have e1 : ((([] : List (List Nat × Tok)) ++ [(([] : List Nat), rt)]).map (·.1)).flatten ++ x.drop j = x.drop j := by simp
  rw [e1] at N3
  exact q y t1 t2 h3 kk F3 N3 l3
/-- what a pattern with one group, put through «sub» with «pre + m.group(1)», makes of a text: at most one match -/
inductive SubOne (code : Array Nat) (pre : List Nat) (x : List Nat) : List Nat → Prop
  | none {k : Nat} : k < 2 ^ 64 → EndsIn k (Sre.forSearch code x.toArray 1 0 x.length false) Failed → SubOne code pre x x
  | one {k k' b e gb ge : Nat} : k < 2 ^ 64 → k' < 2 ^ 64 → EndsIn k (Sre.forSearch code x.toArray 1 0 x.length false) (Found1 b e gb ge) → EndsIn k' (Sre.forSearch code x.toArray 1 e x.length (e == b)) Failed → 0 < b → b ≤ x.length → gb < ge → ge ≤ x.length → e ≤ x.length →
      SubOne code pre x (x.take b ++ (pre ++ (x.take ge).drop gb) ++ x.drop e)
theorem sub_call {p f : Addr} {code : Array Nat} {pre x out : List Nat} {tk : Tok} {of : FuncData} {Q : Value → Shared → Prop} (F : Fr h₀ L s.heap m) (N : News h₀ L s.heap news) (P₀ : PatAt h₀ p code 1) (hx : x.length ≤ 200000) (hpre : pre.length ≤ 10)
    (hf : (f, ({ cls := .type "function", data := .func of } : Obj)) ∈ news) (hS : SubOne code pre x out)
    (cb : ∀ (b₀ e₀ gb ge : Nat) lim T nw h' kk, gb < ge → ge ≤ x.length → Fr h₀ L h' m → News h₀ L h' ((T + 1, matchObj (.str (ofL x) tk) p lim 1 T) :: (T, spansObj [rawInt b₀, rawInt e₀, rawInt gb, rawInt ge]) :: nw) → (∀ r ∈ news, r ∈ nw) → (∀ r ∈ nw, r.1 < T) →
      wpAny (model prog w) A.in1 (call (.ref f) [.ref (T + 1)]) (fun v s' => ∃ t h'' k2, v = .str (ofL (pre ++ (x.take ge).drop gb)) t ∧ s' = { s with heap := h'', toks := k2 } ∧ Fr h₀ L h'' m ∧ News h₀ L h'' nw) E { s with heap := h', toks := kk })
    (q : ∀ t' h' kk, Fr h₀ L h' m → News h₀ L h' news → Q (.str (ofL out) t') { s with heap := h', toks := kk }) :
    wpAny (model prog w) A (call (.builtin "re.Pattern.sub") [.ref p, .ref f, .str (ofL x) tk]) Q E s := by
  have P := P₀.keeps F.keep
  have hT : s.TypeIs (.ref p) "re.Pattern" := by
    obtain ⟨c, items, a1, fl, t1, g, t2, x3, x4, t6, e1, _⟩ := P.obj
    exact ⟨_, e1, rfl⟩
  have hTf : s.TypeIs (.ref f) "function" := ⟨_, N.get hf, rfl⟩
  obtain ⟨cv, hcv⟩ := lk_fn_call
  refine wpAny_call (codeAny_call_builtin slot_sub.plain entry_sub (slot_sub.check _ _ _ _ _ _ _ _ hT (args_sub _ _ _) ?_))
  unfold Builtin.«re.Pattern.sub» reSubstitute
  dsimp only
  rw [named_sub]
  refine wpAny_bind (wpAny_pure ?_)
  dsimp only
  refine wpAny_bind (wpAny_pure ?_)
  refine wpAny_bind (wpAny_specialOf hTf hcv ?_)
  rw [if_pos (by exact rfl)]
  refine wpAny_bind (wpAny_pure ?_)
  rw [if_pos (by exact rfl)]
  refine wpAny_bind (wpAny_pure ?_)
  refine wpAny_bind (wpAny_holding (whole_str P ?_))
  rw [if_pos (by exact rfl)]
  unfold reNotHeld
  refine wpAny_bind (wpAny_bind (wpAny_isInstance (typeIs_str _ _ _) sub_str_bytearray ?_))
  rw [if_neg (by exact Bool.false_ne_true)]
  refine wpAny_pure ?_
  refine wpAny_bind (newList_N F N (fun h' F' N' => wpAny_pure ⟨Code.quiet_builtin _ (by decide +kernel), ?_⟩) (by show 0 ≤ sizeLine; decide))
  have hap : ∀ r ∈ news, r.1 ≠ s.heap.objs.size := fun r hr => Nat.ne_of_lt (Heap.lt_size (N r hr).1)
  cases hS with
  | none hk he =>
    refine sub_end (s := { s with heap := h' }) (cnt := 0) (start := 0) (done := 0) (l := []) F' N' hap (P₀.keeps F'.keep) (by simp) (by omega) (by simp) (by omega) he hk fun t1 h3 kk F3 N3 => ?_
    have e1 : ((([] : List (List Nat × Tok))).map (·.1)).flatten ++ x.drop 0 = x := by simp
    rw [e1]
    exact q t1 h3 kk F3 N3
  | @one k k' b e gb ge hk hk' hf1 hf2 hb hbx hg hge hex =>
    refine sub_found (s := { s with heap := h' }) (it := pre ++ (x.take ge).drop gb) (cnt := 0) (start := 0) (l := []) F' N' hap (P₀.keeps F'.keep) (by simp) (by omega) hf1 hk (Nat.le_of_lt hg) hb (fun l' n' T h2 kk F2 N2 l2 l3 => ?_) fun t1 t2 n' h2 kk F2 N2 => ?_
    · refine wpAny_mono (cb b e gb ge x.length T _ h2 kk hg hge F2 N2 (fun r hr => .tail _ hr) (fun r hr => ?_)) (fun v s' hv => hv) fun _ _ z => z
      rcases List.mem_cons.mp hr with rfl | hr
      · exact l3
      · exact l2 r hr
    · refine sub_end (s := { s with heap := h2, toks := kk }) (cnt := 0 + 1) (start := e) (done := e) F2 N2 hap (P₀.keeps F2.keep) (by simp) (by omega) (by simp; omega) hex hf2 hk' fun t3 h3 kk F3 N3 => ?_
      have e1 : ((([] : List (List Nat × Tok)) ++ [((x.take b).drop 0, t1), (pre ++ (x.take ge).drop gb, t2)]).map (·.1)).flatten ++ x.drop e = x.take b ++ (pre ++ (x.take ge).drop gb) ++ x.drop e := by simp
      rw [e1]
      exact q t3 h3 kk F3 N3
end
end Mine
-- part WF
namespace Mine
open PySem PySem.W PySem.Calls PyProof.Rows PySem.Builtin PySem.Builtin.Re PySem.Builtin.Str
theorem lk_match_bool : typeLookup (.type "re.Match") "__bool__" = pure none := by rw [typeLookup_type, builtinLookup_eq_fast]; kernel_rfl
theorem lk_match_len : typeLookup (.type "re.Match") "__len__" = pure none := by rw [typeLookup_type, builtinLookup_eq_fast]; kernel_rfl
abbrev jtCode : Array Nat := #[14, 4, 0, 1, 4294967295, 24, 16, 1, 4294967295, 13, 11, 9, 0, 67071226, 3355443198, 1476395007, 0, 0, 0, 0, 0, 1, 1]
abbrev jeCode : Array Nat := #[14, 9, 4, 1, 1, 16, 34, 16, 92, 0, 17, 0, 13, 6, 16, 34, 16, 92, 0, 17, 1, 1]
abbrev escCode : Array Nat := #[14, 8, 1, 2, 2, 1, 1, 92, 0, 16, 92, 17, 0, 2, 17, 1, 1]
section
variable {prog : Program} {w : World} {A : Around} {E : Value → Shared → Prop} {s : Shared} {h₀ : Heap} {L : Addr} {m : Str → Option Value} {news : List (Addr × Obj)}
theorem truthy_match {x p T : Addr} {sv : Value} {lim : Nat} {li : Int} {Q : Bool → Shared → Prop} (hx : s.heap.get? x = some (matchObj sv p lim li T)) (q : Q true s) : wpAny (model prog w) A (truthy (.ref x)) Q E s := by
  have hT : s.TypeIs (.ref x) "re.Match" := ⟨_, hx, rfl⟩
  unfold truthy
  refine wpAny_bind (wpAny_callSpecial?_none hT lk_match_bool ?_)
  refine wpAny_bind (wpAny_specialOf hT lk_match_len ?_)
  exact wpAny_pure q
theorem newMatch0 {p : Addr} {x : Str} {tk : Tok} {lim b e : Nat} {mm : Sre.M} {Q : Value → Shared → Prop} (hm : Found0 b e mm) (F : Fr h₀ L s.heap m) (N : News h₀ L s.heap news)
    (q : ∀ T h', Fr h₀ L h' m → News h₀ L h' ((T + 1, matchObj (.str x tk) p lim (-1) T) :: (T, spansObj [rawInt b, rawInt e]) :: news) → (∀ r ∈ news, r.1 < T) → Q (.ref (T + 1)) { s with heap := h' }) :
    wpAny (model prog w) A (reNewMatch (.ref p) (.str x tk) 0 0 lim mm) Q E s := by
  obtain ⟨_, h1, h2, h3, h4, h5⟩ := hm
  unfold reNewMatch
  rw [h1, h2, h3, h4, h5]
  have r1 : List.range 0 = [] := rfl
  rw [r1]
  rw [if_neg (by exact Bool.false_ne_true)]
  refine wpAny_bind (wpAny_newTuple ?_ (by show 2 ≤ sizeLine; decide))
  refine wpAny_newObj_type ?_ (by show 6 ≤ sizeLine + 2; decide)
  have l1 : ∀ r ∈ news, r.1 < s.heap.objs.size := fun r hr => Heap.lt_size (N r hr).1
  have k2 := (N.push F (spansObj [rawInt b, rawInt e])).push (F.push _) (matchObj (.str x tk) p lim (-1) s.heap.objs.size)
  rw [Heap.size_push] at k2
  show Q (.ref (s.heap.push (spansObj [rawInt b, rawInt e])).objs.size) _
  rw [Heap.size_push]
  exact q s.heap.objs.size _ ((F.push _).push _) k2 l1
theorem full_yes {p : Addr} {code : Array Nat} {x : List Nat} {tk : Tok} {k b e : Nat} {Q : Value → Shared → Prop} (P₀ : PatAt h₀ p code 0) (hx : x.length ≤ 1048576)
    (hf : EndsIn k (Sre.forMatch code x.toArray 0 0 x.length true false) (Found0 b e)) (hk : k < 2 ^ 64) (F : Fr h₀ L s.heap m) (N : News h₀ L s.heap news)
    (q : ∀ T h', Fr h₀ L h' m → News h₀ L h' ((T + 1, matchObj (.str (ofL x) tk) p x.length (-1) T) :: (T, spansObj [rawInt b, rawInt e]) :: news) → (∀ r ∈ news, r.1 < T) → Q (.ref (T + 1)) { s with heap := h' }) :
    wpAny (model prog w) A (call (.builtin "re.Pattern.fullmatch") [.ref p, .str (ofL x) tk]) Q E s := by
  have P := P₀.keeps F.keep
  have hT : s.TypeIs (.ref p) "re.Pattern" := by
    obtain ⟨c, items, a1, fl, t1, g, t2, x3, x4, t6, e1, _⟩ := P.obj
    exact ⟨_, e1, rfl⟩
  refine wpAny_call_entry slot_fullmatch hT entry_fullmatch ?_ (args_fullmatch _ _)
  unfold Builtin.«re.Pattern.fullmatch»
  have hsz : x.toArray.size = x.length := by simp
  refine wpAny_bind (target_str P (by rw [hsz]; omega) ?_)
  unfold reAnswer
  dsimp only
  rw [hsz]
  refine wpAny_bind (to_end_found hf hk (fun m' h => h.1) fun m' h => ?_)
  dsimp only
  refine wpAny_bind (newMatch0 h F N fun T h' F' N' l => wpAny_pure ⟨_, rfl, q T h' F' N' l⟩)
theorem full_no {p : Addr} {code : Array Nat} {x : List Nat} {tk : Tok} {k : Nat} {Q : Value → Shared → Prop} (P₀ : PatAt h₀ p code 0) (F : Fr h₀ L s.heap m) (hx : x.length ≤ 1048576)
    (hf : EndsIn k (Sre.forMatch code x.toArray 0 0 x.length true false) Failed) (hk : k < 2 ^ 64) (q : Q .none s) :
    wpAny (model prog w) A (call (.builtin "re.Pattern.fullmatch") [.ref p, .str (ofL x) tk]) Q E s := by
  have P := P₀.keeps F.keep
  have hT : s.TypeIs (.ref p) "re.Pattern" := by
    obtain ⟨c, items, a1, fl, t1, g, t2, x3, x4, t6, e1, _⟩ := P.obj
    exact ⟨_, e1, rfl⟩
  refine wpAny_call_entry slot_fullmatch hT entry_fullmatch ?_ (args_fullmatch _ _)
  unfold Builtin.«re.Pattern.fullmatch»
  have hsz : x.toArray.size = x.length := by simp
  refine wpAny_bind (target_str P (by rw [hsz]; omega) ?_)
  unfold reAnswer
  dsimp only
  rw [hsz]
  refine wpAny_bind (to_end_none hf hk ?_)
  exact wpAny_pure ⟨_, rfl, q⟩
end
/-- the patterns of the top -/
theorem pat_junk {P : Params} {h : Heap} (X : (hd.heap_39 P).In h) : PatAt h 36 junkCode 0 := ⟨⟨35, _, _, _, _, _, _, _, _, _, X 36 _ rfl, X 35 _ rfl, by simp [reRawOf], rfl⟩⟩
theorem pat_tok {P : Params} {h : Heap} (X : (hd.heap_39 P).In h) : PatAt h 48 tokCode 1 := ⟨⟨47, _, _, _, _, _, _, _, _, _, X 48 _ rfl, X 47 _ rfl, by simp [reRawOf], rfl⟩⟩
theorem pat_quo {P : Params} {h : Heap} (X : (hd.heap_39 P).In h) : PatAt h 53 quoCode 1 := ⟨⟨52, _, _, _, _, _, _, _, _, _, X 53 _ rfl, X 52 _ rfl, by simp [reRawOf], rfl⟩⟩
theorem pat_val {P : Params} {h : Heap} (X : (hd.heap_39 P).In h) : PatAt h 58 valCode 1 := ⟨⟨57, _, _, _, _, _, _, _, _, _, X 58 _ rfl, X 57 _ rfl, by simp [reRawOf], rfl⟩⟩
theorem pat_esc {P : Params} {h : Heap} (X : (hd.heap_39 P).In h) : PatAt h 63 escCode 1 := ⟨⟨62, _, _, _, _, _, _, _, _, _, X 63 _ rfl, X 62 _ rfl, by simp [reRawOf], rfl⟩⟩
theorem pat_jt {P : Params} {h : Heap} (X : (hd.heap_39 P).In h) : PatAt h 75 jtCode 0 := ⟨⟨74, _, _, _, _, _, _, _, _, _, X 75 _ rfl, X 74 _ rfl, by simp [reRawOf], rfl⟩⟩
theorem pat_je {P : Params} {h : Heap} (X : (hd.heap_39 P).In h) : PatAt h 80 jeCode 1 := ⟨⟨79, _, _, _, _, _, _, _, _, _, X 80 _ rfl, X 79 _ rfl, by simp [reRawOf], rfl⟩⟩
end Mine
-- part WG
namespace Mine
open PySem PySem.W PySem.Calls PyProof.Rows PySem.Builtin PySem.Builtin.Re
/-- the function that stands at an address of the top -/
noncomputable def fnOfTop (P : Params) (a : Addr) : FuncData := match (hd.heap_39 P).lookup a with
  | some ⟨_, _, .func fd, _⟩ => fd
  | _ => default
def stmtsOf (fd : FuncData) : List Stmt := match fd.body with
  | .stmts b => b
  | _ => []
def nthS : Nat → List Stmt → Stmt
  | 0, s :: _ => s
  | n + 1, _ :: r => nthS n r
  | _, [] => .Pass ⟨0, 0, 0, 0⟩
def forBody : Stmt → List Stmt
  | .For _ _ b _ _ => b
  | _ => []
def whileTest : Stmt → Expr
  | .While t _ _ _ => t
  | _ => .Name "" ⟨0, 0, 0, 0⟩
def whileBody : Stmt → List Stmt
  | .While _ b _ _ => b
  | _ => []
noncomputable def splitScope (P : Params) : Scope := (fnOfTop P 70).scope
noncomputable def splitFor (P : Params) : Stmt := nthS 2 (stmtsOf (fnOfTop P 70))
noncomputable def splitWhile (P : Params) : Stmt := nthS 2 (forBody (splitFor P))
def Finds (code : Array Nat) (l : List Nat) (e gb ge : Nat) : Prop := gb ≤ ge ∧ ge ≤ l.length ∧ e ≤ l.length ∧ ∃ k, k < 2 ^ 64 ∧ EndsIn k (Sre.forSearch code l.toArray 1 0 l.length false) (Found1 0 e gb ge)
def Misses (code : Array Nat) (l : List Nat) : Prop := ∃ k, k < 2 ^ 64 ∧ EndsIn k (Sre.forSearch code l.toArray 1 0 l.length false) Failed
section
variable {prog : Program} {w : World} {A : Around} {E : Value → Shared → Prop} {s : Shared} {h₀ : Heap} {L : Addr} {m : Str → Option Value} {news : List (Addr × Obj)}
theorem find_call {p : Addr} {code : Array Nat} {l : List Nat} {tk : Tok} {e gb ge : Nat} {Q : Value → Shared → Prop} (P₀ : PatAt h₀ p code 1) (hx : l.length ≤ 1048576) (hf : Finds code l e gb ge) (F : Fr h₀ L s.heap m) (N : News h₀ L s.heap news)
    (q : ∀ T h', Fr h₀ L h' m → News h₀ L h' ((T + 1, matchObj (.str (ofL l) tk) p l.length 1 T) :: (T, spansObj [rawInt (0 : Nat), rawInt e, rawInt gb, rawInt ge]) :: news) → (∀ r ∈ news, r.1 < T) → Q (.ref (T + 1)) { s with heap := h' }) :
    wpAny (model prog w) A (call (.builtin "re.Pattern.search") [.ref p, .str (ofL l) tk]) Q E s := by
  obtain ⟨h1, h2, h3, k, hk, he⟩ := hf
  have hsz : l.toArray.size = l.length := by simp
  have q' := q
  rw [← hsz] at q'
  refine search_some (P₀.keeps F.keep) (by show l.toArray.size < _; rw [hsz]; omega) (k := k) (by show EndsIn k (Sre.forSearch code l.toArray 1 0 l.toArray.size false) _; rw [hsz]; exact he) hk h1 F N q'
theorem miss_call {p : Addr} {code : Array Nat} {l : List Nat} {tk : Tok} {Q : Value → Shared → Prop} (P₀ : PatAt h₀ p code 1) (F : Fr h₀ L s.heap m) (hx : l.length ≤ 1048576) (hf : Misses code l) (q : Q .none s) :
    wpAny (model prog w) A (call (.builtin "re.Pattern.search") [.ref p, .str (ofL l) tk]) Q E s := by
  obtain ⟨k, hk, he⟩ := hf
  have hsz : l.toArray.size = l.length := by simp
  exact search_miss (P₀.keeps F.keep) (by show l.toArray.size < _; rw [hsz]; omega) (k := k) (by show EndsIn k (Sre.forSearch code l.toArray 1 0 l.toArray.size false) _; rw [hsz]; exact he) hk q
theorem group_L {x p T : Addr} {l : List Nat} {tk tg : Tok} {lim b e gb ge : Nat} {Q : Value → Shared → Prop} (N : News h₀ L s.heap news) (hm : (x, matchObj (.str (ofL l) tk) p lim 1 T) ∈ news) (ht : (T, spansObj [rawInt b, rawInt e, rawInt gb, rawInt ge]) ∈ news) (hsz : l.length ≤ 1048576)
    (q : ∀ t1 k, Q (.str (ofL ((l.take ge).drop gb)) t1) { s with toks := k }) :
    wpAny (model prog w) A (call (.builtin "re.Match.group") [.ref x, .int (1 : Nat) tg]) Q E s := by
  refine group_call N hm ht (by simp; exact Nat.le_trans hsz (by decide)) fun t1 k => ?_
  have e1 : (⟨(ofL l).cps.extract gb ge⟩ : Str) = ofL ((l.take ge).drop gb) := by simp [List.extract_eq_take_drop, List.drop_take]
  rw [e1]; exact q t1 k
theorem truthy_N {x p T : Addr} {sv : Value} {lim : Nat} {li : Int} {Q : Bool → Shared → Prop} (N : News h₀ L s.heap news) (hm : (x, matchObj sv p lim li T) ∈ news) (q : Q true s) : wpAny (model prog w) A (truthy (.ref x)) Q E s := truthy_match (N.get hm) q
end
section
variable {prog : Program} {w : World} {A : Around} {E : Value → Shared → Prop} {s : Shared} {h₀ : Heap} {L : Addr} {m : Str → Option Value} {news : List (Addr × Obj)}
theorem truthy_L {l : List Nat} {tk : Tok} {Q : Bool → Shared → Prop} (hl : l.length ≤ 1048576) (hne : l ≠ []) (q : ∀ k, Q true { s with toks := k }) : wpAny (model prog w) A (truthy (.str (ofL l) tk)) Q E s := by
  have hpos : 0 < l.length := List.length_pos_iff.mpr hne
  refine PySem.P.truthy_str (by rw [len_ofL]; omega) ?_
  have e : (((ofL l).length : Int) != 0) = true := by rw [len_ofL]; simp; exact hne
  rw [e]; exact q _
theorem truthy_L0 {l : List Nat} {tk : Tok} {Q : Bool → Shared → Prop} (hl : l = []) (q : ∀ k, Q false { s with toks := k }) : wpAny (model prog w) A (truthy (.str (ofL l) tk)) Q E s := by
  subst hl
  refine PySem.P.truthy_str (by decide) ?_
  exact q _
theorem truthy_lst {D : Addr} {vs : List Value} {n : Nat} {Q : Bool → Shared → Prop} (N : News h₀ L s.heap news) (hm : (D, listO vs n) ∈ news) (hl : vs.length ≤ 1000) (hne : vs ≠ []) (q : ∀ k, Q true { s with toks := k }) : wpAny (model prog w) A (truthy (.ref D)) Q E s := by
  have hpos : 0 < vs.length := List.length_pos_iff.mpr hne
  refine wpAny_truthy_list (items := vs.toArray) ⟨_, N.get hm, rfl, n, rfl⟩ (by rw [List.size_toArray]; omega) ?_
  have e : (!vs.toArray.isEmpty) = true := by simpa using hne
  rw [e]; exact q _
theorem truthy_lst0 {D : Addr} {vs : List Value} {n : Nat} {Q : Bool → Shared → Prop} (N : News h₀ L s.heap news) (hm : (D, listO vs n) ∈ news) (hne : vs = []) (q : ∀ k, Q false { s with toks := k }) : wpAny (model prog w) A (truthy (.ref D)) Q E s := by
  subst hne
  refine wpAny_truthy_list (items := #[]) ⟨_, N.get hm, rfl, n, rfl⟩ (by decide) ?_
  exact q _
theorem unm_call {p : Program} {loose : List Str} {mean : ExcName → Option Value} {mg mb : Str → Option Value} {dp un : Nat} {gd : Option (List Code)} {cn : Str} {cs : Scope} {a : Addr} {ccd : Value} {cl : List (Str × Addr)} {outer : List Env} {A₀ : Around} {base : Heap}
    {Q : Value → Shared → Prop} {x pp Tt : Addr} {l : List Nat} {tk : Tok} {lim e gb ge : Nat} {code : Array Nat}
    (B : Below A₀ base outer h₀) (F : Fr h₀ L s.heap m) (X : (hd.heap_39 w.params).In h₀) (N : News h₀ L s.heap news) (T : Top p loose mean mg mb h₀) (hk : cs.kind = .function)
    (hm : (x, matchObj (.str (ofL l) tk) pp lim 1 Tt) ∈ news) (ht : (Tt, spansObj [rawInt (0 : Nat), rawInt e, rawInt gb, rawInt ge]) ∈ news) (hdp : dp + 2 < recursionLimit) (hun : un + 20 < cLine)
    (hsz : l.length ≤ 1048576) (hf : Finds code l e gb ge)
    (hret : ∀ t' h' tk', Fr h₀ L h' m → News h₀ L h' news → Q (.str (ofL (l.drop e)) t') { s with heap := h', toks := tk' }) :
    wpAny (model prog w) (ktrTop dp un gd cn cs L a ccd cl outer) (call (.ref 43) [.ref x]) Q E s :=
  unmatched_call B F X N T hk hm ht hdp hun hsz (Nat.zero_le _) hf.2.2.1 hret
end
theorem whl_turnK {prog : Program} {w : World} {A : Around} {E : Value → Shared → Prop} {s : Shared} {env : Env} {test : PySem.Expr} {body orelse : List Stmt} {Q : Flow → Shared → Prop} {k : Nat} (K : Shared → Prop) (hE : PassesOwn (model prog w) A env E) (hK : ∀ s', K s' → WhlRest prog w A E env test body orelse Q k s')
    (h : wpAny (model prog w) A (isTrue test env (eval test env)) (fun b s₂ => WhlIf b (wpAny (model prog w) A (execs body env) (fun f s' => f = .next ∧ K s') E s₂) (wpAny (model prog w) A (execs orelse env) Q E s₂)) E s) : WhlRest prog w A E env test body orelse Q (k + 1) s := by
  refine whl_turn hE (wpAny_mono h (fun b s₂ h₂ => ?_) fun _ _ z => z)
  cases b with
  | true => exact WhlIf.yes rfl (wpAny_mono (by unfold WhlIf at h₂; rwa [if_pos rfl] at h₂) (fun f s' hf => by obtain ⟨rfl, hk⟩ := hf; exact hK s' hk) fun _ _ z => z)
  | false => exact WhlIf.no rfl (by unfold WhlIf at h₂; rwa [if_neg Bool.false_ne_true] at h₂)
theorem news_sub {h₀ h : Heap} {L : Addr} {l l' : List (Addr × Obj)} (N : News h₀ L h l) (hs : ∀ p ∈ l', p ∈ l) : News h₀ L h l' := fun p hp => N p (hs p hp)
theorem news_upd {h₀ h h' : Heap} {L d : Addr} {o o' : Obj} {l l' : List (Addr × Obj)} (N : News h₀ L h l) (U : Upd d o o' l l') (hs : Heap.SameBut d h h') (ho : h'.get? d = some o') : News h₀ L h' l' := by
  obtain ⟨pre, post, rfl, rfl, a, b⟩ := U.split
  intro p hp
  have keep : ∀ q : Addr × Obj, q ∈ pre ++ (d, o) :: post → q.1 ≠ d → h'.get? q.1 = some q.2 ∧ q.1 ≠ L ∧ h₀.get? q.1 = none := fun q hq hne => by
    have n := N q hq
    exact ⟨(hs.2 q.1 hne).trans n.1, n.2⟩
  rcases List.mem_append.mp hp with hp | hp
  · exact keep p (List.mem_append_left _ hp) (a p hp)
  · rcases List.mem_cons.mp hp with rfl | hp
    · have n := N (d, o) (List.mem_append_right _ (.head _))
      exact ⟨ho, n.2⟩
    · exact keep p (List.mem_append_right _ (.tail _ hp)) (b p hp)
theorem upd_mem {d : Addr} {o o' : Obj} {l l' : List (Addr × Obj)} (U : Upd d o o' l l') : (d, o) ∈ l := by
  obtain ⟨pre, post, rfl, rfl, a, b⟩ := U.split
  exact List.mem_append_right _ (.head _)
theorem apd {prog : Program} {w : World} {A : Around} {E : Value → Shared → Prop} {s : Shared} {h₀ : Heap} {L D : Addr} {m : Str → Option Value} {news news' : List (Addr × Obj)} {vs : List Value} {n : Nat} {v : Value} {Q : Value → Shared → Prop} (F : Fr h₀ L s.heap m) (N : News h₀ L s.heap news) (U : Upd D (listO vs n) (listO (vs ++ [v]) (n + 1)) news news') (hsz : vs.length ≤ 10000)
    (h : ∀ h', Fr h₀ L h' m → News h₀ L h' news' → Q .none { s with heap := h' }) : wpAny (model prog w) A (call (.builtin "list.append") [.ref D, v]) Q E s := by
  have hm := N _ (upd_mem U)
  refine append_at hm.1 (fun h' hs ho' => h h' (F.change hs hm.2.1 hm.2.2) (news_upd N U hs (by rw [ho']; simp [listO]))) (by rw [List.size_toArray]; exact Nat.le_trans hsz (by decide))
theorem fr_canon {h₀ h : Heap} {L : Addr} {m : Str → Option Value} (ps : List (Str × Value)) (F : Fr h₀ L h m) (hp : ∀ p ∈ ps, m p.1 = some p.2) : Fr h₀ L h (kstB m ps) := by
  have e : kstB m ps = m := by
    funext z
    exact kstB_eq hp fun _ => rfl
  rw [e]; exact F
theorem ne_of_allLt {d : Addr} {l : List (Addr × Obj)} (h : AllLt d l) : ∀ p ∈ l, p.1 ≠ d := by
  induction l with
  | nil => intro p hp; cases hp
  | cons q r ih =>
    intro p hp
    rcases List.mem_cons.mp hp with rfl | hp
    · exact Nat.ne_of_lt h.1
    · exact ih h.2 p hp
end Mine
-- part WH
namespace Mine
open PySem PySem.W PySem.Calls PyProof.Rows PySem.Builtin PySem.Builtin.Re PySem.Builtin.Str
/-- the blanks at a text's start -/
def LSt (l : List Nat) (k : Nat) : Prop := k ≤ l.length ∧ (∀ i, i < k → Unicode.isSpace (l.toArray.getD i 0) = true) ∧ (k = l.length ∨ Unicode.isSpace (l.toArray.getD k 0) = false)
theorem lstrip_L {l : List Nat} {k : Nat} (h : LSt l k) : Txt.lstrip (ofL l) = ofL (l.drop k) := by
  obtain ⟨h1, h2, h3⟩ := h
  obtain ⟨f1, f2, f3⟩ := lo_facts Unicode.isSpace (ofL l)
  rw [len_ofL] at f1 f3
  have e : stripLo Unicode.isSpace true (ofL l) = k := by
    rcases Nat.lt_trichotomy (stripLo Unicode.isSpace true (ofL l)) k with hl | hl | hl
    · rcases f3 with f3 | f3
      · omega
      · have := h2 _ hl; rw [show (ofL l).cps = l.toArray from rfl] at f3; rw [this] at f3; cases f3
    · exact hl
    · rcases h3 with h3 | h3
      · omega
      · have := f2 _ hl; rw [show (ofL l).cps = l.toArray from rfl] at this; rw [this] at h3; cases h3
  show Txt.stripBy Unicode.isSpace true false (ofL l) = _
  rw [PyProof.Rows.stripBy_eq, e]
  show strSub (ofL l) k (ofL l).length = _
  unfold strSub
  rw [len_ofL]
  simp [List.extract_eq_take_drop, List.take_of_length_le]
def REnd (l : List Nat) : Prop := l = [] ∨ Unicode.isSpace (l.toArray.getD (l.length - 1) 0) = false
theorem rstrip_L {l : List Nat} (h : REnd l) : Txt.rstrip (ofL l) = ofL l := by
  show Txt.stripBy Unicode.isSpace false true (ofL l) = _
  rw [PyProof.Rows.stripBy_eq]
  show strSub (ofL l) 0 (stripHi Unicode.isSpace true (ofL l) 0) = _
  obtain ⟨f0, f1, f2, f3⟩ := hi_facts Unicode.isSpace (ofL l) 0 (Nat.zero_le _)
  rw [len_ofL] at f1 f2
  have e : stripHi Unicode.isSpace true (ofL l) 0 = l.length := by
    rcases h with rfl | h
    · simp at f1; exact f1
    · by_cases hz : l.length = 0
      · omega
      · rcases Nat.lt_or_ge (stripHi Unicode.isSpace true (ofL l) 0) l.length with hl | hl
        · have := f2 (l.length - 1) (by omega) (by omega)
          rw [show (ofL l).cps = l.toArray from rfl] at this; rw [this] at h; cases h
        · omega
  rw [e]
  unfold strSub
  simp [List.extract_eq_take_drop, List.take_of_length_le]
section
variable {prog : Program} {w : World} {A : Around} {E : Value → Shared → Prop} {s : Shared} {h₀ : Heap} {L : Addr} {m : Str → Option Value} {news : List (Addr × Obj)} {l : List Nat} {t u : Tok} {Q : Value → Shared → Prop}
theorem lstrip_call {k : Nat} (hl : l.length ≤ 1048576) (h : LSt l k) (q : ∀ t' kk, Q (.str (ofL (l.drop k)) t') { s with toks := kk }) : wpAny (model prog w) A (call (.builtin "str.lstrip") [.str (ofL l) t]) Q E s :=
  SC.lstrip (fun t' kk => by rw [lstrip_L h]; exact q t' kk) (by rw [len_ofL]; exact Nat.le_trans hl (by decide))
theorem rstrip_call (hl : l.length ≤ 1048576) (h : REnd l) (q : ∀ t' kk, Q (.str (ofL l) t') { s with toks := kk }) : wpAny (model prog w) A (call (.builtin "str.rstrip") [.str (ofL l) t]) Q E s :=
  SC.rstrip (fun t' kk => by rw [rstrip_L h]; exact q t' kk) (by rw [len_ofL]; exact Nat.le_trans hl (by decide))
theorem starts_comma {b : Bool} (h : (l.head? == some 44) = b) (q : Q (.bool b) s) : wpAny (model prog w) A (call (.builtin "str.startswith") [.str (ofL l) t, .str (Str.ofString ",") u]) Q E s := by
  refine SC.startswith ?_
  have e : Txt.startswith (ofL l) (Str.ofString ",") = b := by
    rw [← h]
    unfold Txt.startswith
    rw [StrLaws.subAt_eq]
    have e1 : (Str.ofString ",").length = 1 := by decide +kernel
    have e2 : (Str.ofString ",").cps.toList = [44] := by decide +kernel
    rw [e1, e2, len_ofL]
    cases l with
    | nil => rfl
    | cons c r =>
      simp
  rw [e]; exact q
theorem sl_from1 {value slice : PySem.Expr} {uj : Tok} (hF : Fr h₀ L s.heap m) (hN : News h₀ L s.heap news) (hsz : l.length ≤ 1048576) (he : 1 ≤ l.length) (h : ∀ h' t' k, Fr h₀ L h' m → News h₀ L h' news → Q (.str (ofL (l.drop 1)) t') { s with heap := h', toks := k })
    (hs : subscripted slice false (.str (ofL l) t) (.ref s.heap.objs.size) = operate [.ref s.heap.objs.size, .str (ofL l) t] (getItem (.str (ofL l) t) (.ref s.heap.objs.size)))
    (ht : ∀ r, letTemporaryGo value (.str (ofL l) t) r = pure ()) :
    wpAny (model prog w) A (subscriptTail value slice (.str (ofL l) t) (.ref s.heap.objs.size)) Q E { s with heap := s.heap.push { cls := .type "slice", data := .fields #[.int 1 uj, .none, .none] } } :=
  sl_from (e := 1) hF hN hsz he h hs ht
theorem getm_str {name : Str} {id : String} {pl : Sem Bool} {Q : Value × List Value → Shared → Prop} (slot : Slot "str" name id) (hty : typeOf (.builtin id) = pure (.type "method_descriptor")) (pa : PlainAttrs "str")
    (q : Q (.builtin id, [.str (ofL l) t]) s) : wpAny (model prog w) A (getMethod (.str (ofL l) t) name pl) Q E s :=
  getMethod_builtin (typeIs_str _ _ _) pa slot hty (fun a e => by cases e) q
/-- «p.subn('', x)» with its number written out -/
theorem subn_call1 {p : Addr} {x : List Nat} {tk rt : Tok} {j : Nat} (F : Fr h₀ L s.heap m) (N : News h₀ L s.heap news) (P₀ : PatAt h₀ p junkCode 0) (hx : x.length ≤ 524288)
    (hj : 0 < j ∧ j ≤ x.length ∧ (∀ i, i < j → isJunk (x.toArray.getD i 0) = true) ∧ (j = x.length ∨ isJunk (x.toArray.getD j 0) = false))
    (q : ∀ y t1 t2 h' kk, Fr h₀ L h' m → News h₀ L h' ((y, spansObj [.str (ofL (x.drop j)) t1, .int 1 t2]) :: news) → (∀ r ∈ news, r.1 < y) → Q (.ref y) { s with heap := h', toks := kk }) :
    wpAny (model prog w) A (call (.builtin "re.Pattern.subn") [.ref p, .str (Str.ofString "") rt, .str (ofL x) tk]) Q E s :=
  subn_call F N P₀ hx hj.1 hj.2.1 hj.2.2.1 hj.2.2.2 q
end
end Mine
-- part T0
namespace Mine
open PySem PySem.W PySem.Calls PyProof.Rows PySem.Builtin PySem.Builtin.Re
theorem quiet_T0 : True := by
  w_top off
  trivial
local macro_rules | `(tactic| k_mem) => `(tactic| first | assumption | exact List.Mem.head _ | (refine' List.Mem.tail _ ?_; k_mem))
local macro_rules | `(tactic| k_all) => `(tactic| first | assumption | exact ne_of_allLt (by assumption) | (refine ne_of_allLt ?_; grind))
local macro_rules | `(tactic| walk_at "call builtin:list.append") => `(tactic| (k_here; k_dflt (refine' apd ?F ?N ?U ?z ?_; (case F => k_asm); (case N => k_asm); (case U => k_upd); (case z => omega); k_whole; intro h' F' N'; (try k_sweep))))
local macro_rules | `(tactic| walk_at "getMethod ref") => `(tactic| (k_here; (with_reducible show wpAny _ _ (getMethod (Value.ref _) (Str.ofString "search") _) _ _ _); k_dflt (refine getm_pat (PatAt.keeps (by first | exact pat_tok (by assumption) | exact pat_quo (by assumption) | exact pat_val (by assumption)) (Fr.keep (by k_asm))) slot_search type_search ?_)))
local macro_rules | `(tactic| walk_at "getMethod ref") => `(tactic| (k_here; (with_reducible show wpAny _ _ (getMethod (Value.ref _) (Str.ofString "group") _) _ _ _); k_dflt (refine getm_match (News.get (by k_asm) (by k_mem)) slot_group type_group ?_)))
local macro_rules | `(tactic| walk_at "call builtin:re.Pattern.search") => `(tactic| (k_here; k_dflt (first
  | (refine' find_call ?P ?z ?f ?F ?N ?_; (case P => first | exact pat_tok (by assumption) | exact pat_quo (by assumption) | exact pat_val (by assumption)); (case f => assumption); (case z => assumption); (case F => k_asm); (case N => k_asm); k_whole; intro T' h' F' N' l1; (try k_lt l1); (try k_sweep))
  | (refine' miss_call ?P ?F ?z ?f ?_; (case P => first | exact pat_tok (by assumption) | exact pat_quo (by assumption) | exact pat_val (by assumption)); (case f => assumption); (case z => assumption); (case F => k_asm); k_whole))))
local macro_rules | `(tactic| walk_at "call builtin:re.Match.group") => `(tactic| (k_here; k_dflt (refine' group_L ?N ?m ?t ?z ?_; (case N => k_asm); (case m => k_mem); (case t => k_mem); (case z => assumption); k_whole; intro t' k')))
local macro_rules | `(tactic| walk_at "truthy str") => `(tactic| (k_here; k_dflt (first | (refine' truthy_L ?z ?n ?_; (case n => assumption); (case z => assumption); k_whole; intro k') | (refine' truthy_L0 ?n ?_; (case n => assumption); k_whole; intro k'))))
local macro_rules | `(tactic| walk_at "call ref") => `(tactic| (k_here; (with_reducible show wpAny _ _ (call (Value.ref 43) _) _ _ _); k_dflt (refine' unm_call ?B ?F ?X ?N ?T ?k ?m ?t ?d ?u ?z ?f ?_; (case B => k_asm); (case F => k_asm); (case X => k_asm); (case N => k_asm); (case T => k_asm); (case k => exact rfl); (case m => k_mem); (case t => k_mem); (case d => omega); (case u => omega); (case z => assumption); (case f => assumption); k_whole; intro t' h' k' F' N'; (try k_sweep))))
local macro_rules | `(tactic| walk_at "truthy ref") => `(tactic| (k_here; k_dflt (refine' truthy_N ?N ?m ?_; (case N => k_asm); (case m => k_mem); k_whole)))
local macro_rules | `(tactic| walk_at "getMethod ref") => `(tactic| (k_here; (with_reducible show wpAny _ _ (getMethod (Value.ref _) (Str.ofString "subn") _) _ _ _); k_dflt (refine getm_pat (PatAt.keeps (pat_junk (by assumption)) (Fr.keep (by k_asm))) slot_subn type_subn ?_)))
local macro_rules | `(tactic| walk_at "call builtin:re.Pattern.subn") => `(tactic| (k_here; k_dflt (refine' subn_call1 ?F ?N ?P ?z ?j ?_; (case F => k_asm); (case N => k_asm); (case P => exact pat_junk (by assumption)); (case z => omega); (case j => assumption); k_whole; intro y' t1' t2' h' k' F' N' l1; (try k_lt l1); (try k_sweep))))
local macro_rules | `(tactic| walk_at "call builtin:str.lstrip") => `(tactic| (k_here; k_dflt (refine' lstrip_call ?z ?j ?_; (case z => assumption); (case j => assumption); k_whole; intro t' k')))
local macro_rules | `(tactic| walk_at "call builtin:str.rstrip") => `(tactic| (k_here; k_dflt (refine' rstrip_call ?z ?j ?_; (case z => assumption); (case j => assumption); k_whole; intro t' k')))
local macro_rules | `(tactic| walk_at "call builtin:str.startswith") => `(tactic| (k_here; k_dflt (refine' starts_comma ?j ?_; (case j => assumption); k_whole)))
local macro_rules | `(tactic| walk_at "subscriptTail Call") => `(tactic| (k_here; (with_unfolding_all (refine' sl_from1 ?F ?N ?z ?e ?_ ?s ?t; (case F => k_asm); (case N => k_asm); (case z => assumption); (case e => assumption); (case s => exact rfl); (case t => exact fun _ => rfl); k_whole)); intro h' t' k' F' N'; (try k_sweep)))
local macro_rules | `(tactic| walk_at "getMethod ref") => `(tactic| (k_here; (with_reducible show wpAny _ _ (getMethod (Value.ref _) (Str.ofString "sub") _) _ _ _); k_dflt (refine getm_pat (PatAt.keeps (by first | exact pat_esc (by assumption) | exact pat_je (by assumption)) (Fr.keep (by k_asm))) slot_sub type_sub ?_)))
section
variable {prog : Program} {w : World} {p : Program} {loose : List Str} {mean : ExcName → Option Value} {mg mb : Str → Option Value} {dp un : Nat} {gd : Option (List Code)} {outer : List Env} {A₀ : Around} {base h₀ : Heap} {L : Addr} {s : Shared} {u : Str → Option Value}
    {E : Value → Shared → Prop} {Qw : Flow → Shared → Prop} {n1 n2 : Nat} {Pa Ra : Addr} {rest : List (Addr × Obj)} {psV rsV : List Value} {t : List Nat} {tk : Tok} {K : Shared → Prop}
/-- nothing is left -/
theorem turn_done {Y : Shared → Prop}
    (B : Below A₀ base outer h₀) (F : Fr h₀ L s.heap (kstB u [("text", .str (ofL t) tk), ("pairs", .ref Pa), ("result", .ref Ra)])) (X : (hd.heap_39 w.params).In h₀) (N : News h₀ L s.heap ((Pa, listO psV n1) :: (Ra, listO rsV n2) :: rest)) (T : Top p loose mean mg mb h₀)
    (hP : ∀ q ∈ rest, q.1 ≠ Pa) (hR : ∀ q ∈ rest, q.1 ≠ Ra) (hPR : @Ne Nat Ra Pa) (hdp : dp + 10 < recursionLimit) (hun : un + 40 < cLine) (hlen : t.length ≤ 500000) (hne : t = []) (hps : psV.length ≤ 1000) (hrs : rsV.length ≤ 1000)
    (ret : ∀ u' tk1 h' tk', Fr h₀ L h' (kstB u' [("text", .str (ofL []) tk1), ("pairs", .ref Pa), ("result", .ref Ra)]) → News h₀ L h' ((Pa, listO psV n1) :: (Ra, listO rsV n2) :: rest) → Qw .next { s with heap := h', toks := tk' }) :
    wpAny (model prog w) (ktrTop dp un gd "split_header_words" (splitScope w.params) L 70 (.ref 69) [] outer) (isTrue (whileTest (splitWhile w.params)) (envX "split_header_words" (splitScope w.params) L 70 (.ref 69) []) (eval (whileTest (splitWhile w.params)) (envX "split_header_words" (splitScope w.params) L 70 (.ref 69) [])))
      (fun b s₂ => WhlIf b (Y s₂) (wpAny (model prog w) (ktrTop dp un gd "split_header_words" (splitScope w.params) L 70 (.ref 69) [] outer) (execs [] (envX "split_header_words" (splitScope w.params) L 70 (.ref 69) [])) Qw E s₂)) E s := by
  have ex1 : whileTest (splitWhile w.params) = whileTest (splitWhile w.params) := rfl
  conv at ex1 => rhs; whnf
  have ex3 : splitScope w.params = splitScope w.params := rfl
  conv at ex3 => rhs; whnf
  rw [ex1, ex3]
  clear ex1 ex3
  have hlen1 : t.length ≤ 1048576 := by omega
  k_steps
  all_goals (try k_data)
  subst hne
  refine ret _ ?tk1 _ _ (fr_canon _ (by assumption) ?hp) (news_sub (by assumption) ?hs)
  case hs => exact List.forall_mem_cons.mpr ⟨by k_mem, List.forall_mem_cons.mpr ⟨by k_mem, fun q hq => by k_mem⟩⟩
  case hp => exact List.forall_mem_cons.mpr ⟨by with_unfolding_all rfl, List.forall_mem_cons.mpr ⟨by with_unfolding_all rfl, List.forall_mem_cons.mpr ⟨by with_unfolding_all rfl, List.forall_mem_nil _⟩⟩⟩
end
end Mine
-- part T1
namespace Mine
open PySem PySem.W PySem.Calls PyProof.Rows PySem.Builtin PySem.Builtin.Re
local macro_rules | `(tactic| walk_at "nothing so called") => `(tactic| skip)
theorem quiet_T1 : True := by
  w_top off
  trivial
local macro_rules | `(tactic| k_mem) => `(tactic| first | assumption | exact List.Mem.head _ | (refine' List.Mem.tail _ ?_; k_mem))
local macro_rules | `(tactic| k_all) => `(tactic| first | assumption | exact ne_of_allLt (by assumption) | (refine ne_of_allLt ?_; grind))
local macro_rules | `(tactic| walk_at "call builtin:list.append") => `(tactic| (k_here; k_dflt (refine' apd ?F ?N ?U ?z ?_; (case F => k_asm); (case N => k_asm); (case U => k_upd); (case z => omega); k_whole; intro h' F' N'; (try k_sweep))))
local macro_rules | `(tactic| walk_at "getMethod ref") => `(tactic| (k_here; (with_reducible show wpAny _ _ (getMethod (Value.ref _) (Str.ofString "search") _) _ _ _); k_dflt (refine getm_pat (PatAt.keeps (by first | exact pat_tok (by assumption) | exact pat_quo (by assumption) | exact pat_val (by assumption)) (Fr.keep (by k_asm))) slot_search type_search ?_)))
local macro_rules | `(tactic| walk_at "getMethod ref") => `(tactic| (k_here; (with_reducible show wpAny _ _ (getMethod (Value.ref _) (Str.ofString "group") _) _ _ _); k_dflt (refine getm_match (News.get (by k_asm) (by k_mem)) slot_group type_group ?_)))
local macro_rules | `(tactic| walk_at "call builtin:re.Pattern.search") => `(tactic| (k_here; k_dflt (first
  | (refine' find_call ?P ?z ?f ?F ?N ?_; (case P => first | exact pat_tok (by assumption) | exact pat_quo (by assumption) | exact pat_val (by assumption)); (case f => assumption); (case z => assumption); (case F => k_asm); (case N => k_asm); k_whole; intro T' h' F' N' l1; (try k_lt l1); (try k_sweep))
  | (refine' miss_call ?P ?F ?z ?f ?_; (case P => first | exact pat_tok (by assumption) | exact pat_quo (by assumption) | exact pat_val (by assumption)); (case f => assumption); (case z => assumption); (case F => k_asm); k_whole))))
local macro_rules | `(tactic| walk_at "call builtin:re.Match.group") => `(tactic| (k_here; k_dflt (refine' group_L ?N ?m ?t ?z ?_; (case N => k_asm); (case m => k_mem); (case t => k_mem); (case z => assumption); k_whole; intro t' k')))
local macro_rules | `(tactic| walk_at "truthy str") => `(tactic| (k_here; k_dflt (first | (refine' truthy_L ?z ?n ?_; (case n => assumption); (case z => assumption); k_whole; intro k') | (refine' truthy_L0 ?n ?_; (case n => assumption); k_whole; intro k'))))
local macro_rules | `(tactic| walk_at "call ref") => `(tactic| (k_here; (with_reducible show wpAny _ _ (call (Value.ref 43) _) _ _ _); k_dflt (refine' unm_call ?B ?F ?X ?N ?T ?k ?m ?t ?d ?u ?z ?f ?_; (case B => k_asm); (case F => k_asm); (case X => k_asm); (case N => k_asm); (case T => k_asm); (case k => exact rfl); (case m => k_mem); (case t => k_mem); (case d => omega); (case u => omega); (case z => assumption); (case f => assumption); k_whole; intro t' h' k' F' N'; (try k_sweep))))
local macro_rules | `(tactic| walk_at "truthy ref") => `(tactic| (k_here; k_dflt (refine' truthy_N ?N ?m ?_; (case N => k_asm); (case m => k_mem); k_whole)))
local macro_rules | `(tactic| walk_at "getMethod ref") => `(tactic| (k_here; (with_reducible show wpAny _ _ (getMethod (Value.ref _) (Str.ofString "subn") _) _ _ _); k_dflt (refine getm_pat (PatAt.keeps (pat_junk (by assumption)) (Fr.keep (by k_asm))) slot_subn type_subn ?_)))
local macro_rules | `(tactic| walk_at "call builtin:re.Pattern.subn") => `(tactic| (k_here; k_dflt (refine' subn_call1 ?F ?N ?P ?z ?j ?_; (case F => k_asm); (case N => k_asm); (case P => exact pat_junk (by assumption)); (case z => omega); (case j => assumption); k_whole; intro y' t1' t2' h' k' F' N' l1; (try k_lt l1); (try k_sweep))))
local macro_rules | `(tactic| walk_at "call builtin:str.lstrip") => `(tactic| (k_here; k_dflt (refine' lstrip_call ?z ?j ?_; (case z => assumption); (case j => assumption); k_whole; intro t' k')))
local macro_rules | `(tactic| walk_at "call builtin:str.rstrip") => `(tactic| (k_here; k_dflt (refine' rstrip_call ?z ?j ?_; (case z => assumption); (case j => assumption); k_whole; intro t' k')))
local macro_rules | `(tactic| walk_at "call builtin:str.startswith") => `(tactic| (k_here; k_dflt (refine' starts_comma ?j ?_; (case j => assumption); k_whole)))
local macro_rules | `(tactic| walk_at "subscriptTail Call") => `(tactic| (k_here; (with_unfolding_all (refine' sl_from1 ?F ?N ?z ?e ?_ ?s ?t; (case F => k_asm); (case N => k_asm); (case z => assumption); (case e => assumption); (case s => exact rfl); (case t => exact fun _ => rfl); k_whole)); intro h' t' k' F' N'; (try k_sweep)))
local macro_rules | `(tactic| walk_at "getMethod ref") => `(tactic| (k_here; (with_reducible show wpAny _ _ (getMethod (Value.ref _) (Str.ofString "sub") _) _ _ _); k_dflt (refine getm_pat (PatAt.keeps (by first | exact pat_esc (by assumption) | exact pat_je (by assumption)) (Fr.keep (by k_asm))) slot_sub type_sub ?_)))
section
variable {prog : Program} {w : World} {p : Program} {loose : List Str} {mean : ExcName → Option Value} {mg mb : Str → Option Value} {dp un : Nat} {gd : Option (List Code)} {outer : List Env} {A₀ : Around} {base h₀ : Heap} {L : Addr} {s : Shared} {u : Str → Option Value}
    {E : Value → Shared → Prop} {Qw : Flow → Shared → Prop} {n1 n2 : Nat} {Pa Ra : Addr} {rest : List (Addr × Obj)} {psV rsV : List Value} {t : List Nat} {tk : Tok} {K : Shared → Prop}
/-- a lone token -/
theorem turn_bare {e gb ge : Nat}
    (B : Below A₀ base outer h₀) (F : Fr h₀ L s.heap (kstB u [("text", .str (ofL t) tk), ("pairs", .ref Pa), ("result", .ref Ra)])) (X : (hd.heap_39 w.params).In h₀) (N : News h₀ L s.heap ((Pa, listO psV n1) :: (Ra, listO rsV n2) :: rest)) (T : Top p loose mean mg mb h₀)
    (hP : ∀ q ∈ rest, q.1 ≠ Pa) (hR : ∀ q ∈ rest, q.1 ≠ Ra) (hPR : @Ne Nat Ra Pa) (hdp : dp + 10 < recursionLimit) (hun : un + 40 < cLine) (hlen : t.length ≤ 500000) (hne : t ≠ []) (hps : psV.length ≤ 1000) (hrs : rsV.length ≤ 1000)
    (h1 : Finds tokCode t e gb ge) (h2 : Misses quoCode (t.drop e)) (h3 : Misses valCode (t.drop e))
    (ret : ∀ u' x t1 tk1 h' tk', Fr h₀ L h' (kstB u' [("text", .str (ofL (t.drop e)) tk1), ("pairs", .ref Pa), ("result", .ref Ra)]) → News h₀ L h' ((Pa, listO (psV ++ [.ref x]) (n1 + 1)) :: (Ra, listO rsV n2) :: (x, spansObj [.str (ofL ((t.take ge).drop gb)) t1, .none]) :: rest) →
      (∀ q ∈ rest, q.1 ≠ x) → x ≠ Pa → x ≠ Ra → K { s with heap := h', toks := tk' }) :
    wpAny (model prog w) (ktrTop dp un gd "split_header_words" (splitScope w.params) L 70 (.ref 69) [] outer) (isTrue (whileTest (splitWhile w.params)) (envX "split_header_words" (splitScope w.params) L 70 (.ref 69) []) (eval (whileTest (splitWhile w.params)) (envX "split_header_words" (splitScope w.params) L 70 (.ref 69) [])))
      (fun b s₂ => WhlIf b (wpAny (model prog w) (ktrTop dp un gd "split_header_words" (splitScope w.params) L 70 (.ref 69) [] outer) (execs (whileBody (splitWhile w.params)) (envX "split_header_words" (splitScope w.params) L 70 (.ref 69) [])) (fun f s' => f = .next ∧ K s') E s₂) (wpAny (model prog w) (ktrTop dp un gd "split_header_words" (splitScope w.params) L 70 (.ref 69) [] outer) (execs [] (envX "split_header_words" (splitScope w.params) L 70 (.ref 69) [])) Qw E s₂)) E s := by
  have ex1 : whileTest (splitWhile w.params) = whileTest (splitWhile w.params) := rfl
  conv at ex1 => rhs; whnf
  have ex2 : whileBody (splitWhile w.params) = whileBody (splitWhile w.params) := rfl
  conv at ex2 => rhs; whnf
  have ex3 : splitScope w.params = splitScope w.params := rfl
  conv at ex3 => rhs; whnf
  rw [ex1, ex2, ex3]
  clear ex1 ex2 ex3
  have hlen1 : t.length ≤ 1048576 := by omega
  have hlen2 : (t.drop e).length ≤ 1048576 := by rw [List.length_drop]; omega
  k_steps
  all_goals (try k_data)
  refine ret _ ?x ?t1 ?tk1 _ _ (fr_canon _ (by assumption) ?hp) (news_sub (by assumption) ?hs) ?a ?b ?c
  case hs => exact List.forall_mem_cons.mpr ⟨by k_mem, List.forall_mem_cons.mpr ⟨by k_mem, List.forall_mem_cons.mpr ⟨by k_mem, fun q hq => by k_mem⟩⟩⟩
  case hp => exact List.forall_mem_cons.mpr ⟨by with_unfolding_all rfl, List.forall_mem_cons.mpr ⟨by with_unfolding_all rfl, List.forall_mem_cons.mpr ⟨by with_unfolding_all rfl, List.forall_mem_nil _⟩⟩⟩
  case a => k_all
  all_goals k_ne
end
end Mine
-- part T2
namespace Mine
open PySem PySem.W PySem.Calls PyProof.Rows PySem.Builtin PySem.Builtin.Re
theorem quiet_T2 : True := by
  w_top off
  trivial
local macro_rules | `(tactic| k_mem) => `(tactic| first | assumption | exact List.Mem.head _ | (refine' List.Mem.tail _ ?_; k_mem))
local macro_rules | `(tactic| k_all) => `(tactic| first | assumption | exact ne_of_allLt (by assumption) | (refine ne_of_allLt ?_; grind))
local macro_rules | `(tactic| walk_at "call builtin:list.append") => `(tactic| (k_here; k_dflt (refine' apd ?F ?N ?U ?z ?_; (case F => k_asm); (case N => k_asm); (case U => k_upd); (case z => omega); k_whole; intro h' F' N'; (try k_sweep))))
local macro_rules | `(tactic| walk_at "getMethod ref") => `(tactic| (k_here; (with_reducible show wpAny _ _ (getMethod (Value.ref _) (Str.ofString "search") _) _ _ _); k_dflt (refine getm_pat (PatAt.keeps (by first | exact pat_tok (by assumption) | exact pat_quo (by assumption) | exact pat_val (by assumption)) (Fr.keep (by k_asm))) slot_search type_search ?_)))
local macro_rules | `(tactic| walk_at "getMethod ref") => `(tactic| (k_here; (with_reducible show wpAny _ _ (getMethod (Value.ref _) (Str.ofString "group") _) _ _ _); k_dflt (refine getm_match (News.get (by k_asm) (by k_mem)) slot_group type_group ?_)))
local macro_rules | `(tactic| walk_at "call builtin:re.Pattern.search") => `(tactic| (k_here; k_dflt (first
  | (refine' find_call ?P ?z ?f ?F ?N ?_; (case P => first | exact pat_tok (by assumption) | exact pat_quo (by assumption) | exact pat_val (by assumption)); (case f => assumption); (case z => assumption); (case F => k_asm); (case N => k_asm); k_whole; intro T' h' F' N' l1; (try k_lt l1); (try k_sweep))
  | (refine' miss_call ?P ?F ?z ?f ?_; (case P => first | exact pat_tok (by assumption) | exact pat_quo (by assumption) | exact pat_val (by assumption)); (case f => assumption); (case z => assumption); (case F => k_asm); k_whole))))
local macro_rules | `(tactic| walk_at "call builtin:re.Match.group") => `(tactic| (k_here; k_dflt (refine' group_L ?N ?m ?t ?z ?_; (case N => k_asm); (case m => k_mem); (case t => k_mem); (case z => assumption); k_whole; intro t' k')))
local macro_rules | `(tactic| walk_at "truthy str") => `(tactic| (k_here; k_dflt (first | (refine' truthy_L ?z ?n ?_; (case n => assumption); (case z => assumption); k_whole; intro k') | (refine' truthy_L0 ?n ?_; (case n => assumption); k_whole; intro k'))))
local macro_rules | `(tactic| walk_at "call ref") => `(tactic| (k_here; (with_reducible show wpAny _ _ (call (Value.ref 43) _) _ _ _); k_dflt (refine' unm_call ?B ?F ?X ?N ?T ?k ?m ?t ?d ?u ?z ?f ?_; (case B => k_asm); (case F => k_asm); (case X => k_asm); (case N => k_asm); (case T => k_asm); (case k => exact rfl); (case m => k_mem); (case t => k_mem); (case d => omega); (case u => omega); (case z => assumption); (case f => assumption); k_whole; intro t' h' k' F' N'; (try k_sweep))))
local macro_rules | `(tactic| walk_at "truthy ref") => `(tactic| (k_here; k_dflt (refine' truthy_N ?N ?m ?_; (case N => k_asm); (case m => k_mem); k_whole)))
local macro_rules | `(tactic| walk_at "getMethod ref") => `(tactic| (k_here; (with_reducible show wpAny _ _ (getMethod (Value.ref _) (Str.ofString "subn") _) _ _ _); k_dflt (refine getm_pat (PatAt.keeps (pat_junk (by assumption)) (Fr.keep (by k_asm))) slot_subn type_subn ?_)))
local macro_rules | `(tactic| walk_at "call builtin:re.Pattern.subn") => `(tactic| (k_here; k_dflt (refine' subn_call1 ?F ?N ?P ?z ?j ?_; (case F => k_asm); (case N => k_asm); (case P => exact pat_junk (by assumption)); (case z => omega); (case j => assumption); k_whole; intro y' t1' t2' h' k' F' N' l1; (try k_lt l1); (try k_sweep))))
local macro_rules | `(tactic| walk_at "call builtin:str.lstrip") => `(tactic| (k_here; k_dflt (refine' lstrip_call ?z ?j ?_; (case z => assumption); (case j => assumption); k_whole; intro t' k')))
local macro_rules | `(tactic| walk_at "call builtin:str.rstrip") => `(tactic| (k_here; k_dflt (refine' rstrip_call ?z ?j ?_; (case z => assumption); (case j => assumption); k_whole; intro t' k')))
local macro_rules | `(tactic| walk_at "call builtin:str.startswith") => `(tactic| (k_here; k_dflt (refine' starts_comma ?j ?_; (case j => assumption); k_whole)))
local macro_rules | `(tactic| walk_at "subscriptTail Call") => `(tactic| (k_here; (with_unfolding_all (refine' sl_from1 ?F ?N ?z ?e ?_ ?s ?t; (case F => k_asm); (case N => k_asm); (case z => assumption); (case e => assumption); (case s => exact rfl); (case t => exact fun _ => rfl); k_whole)); intro h' t' k' F' N'; (try k_sweep)))
local macro_rules | `(tactic| walk_at "getMethod ref") => `(tactic| (k_here; (with_reducible show wpAny _ _ (getMethod (Value.ref _) (Str.ofString "sub") _) _ _ _); k_dflt (refine getm_pat (PatAt.keeps (by first | exact pat_esc (by assumption) | exact pat_je (by assumption)) (Fr.keep (by k_asm))) slot_sub type_sub ?_)))
section
variable {prog : Program} {w : World} {p : Program} {loose : List Str} {mean : ExcName → Option Value} {mg mb : Str → Option Value} {dp un : Nat} {gd : Option (List Code)} {outer : List Env} {A₀ : Around} {base h₀ : Heap} {L : Addr} {s : Shared} {u : Str → Option Value}
    {E : Value → Shared → Prop} {Qw : Flow → Shared → Prop} {n1 n2 : Nat} {Pa Ra : Addr} {rest : List (Addr × Obj)} {psV rsV : List Value} {t : List Nat} {tk : Tok} {K : Shared → Prop}
/-- a value without marks -/
theorem turn_val {e gb ge e2 gb2 ge2 : Nat}
    (B : Below A₀ base outer h₀) (F : Fr h₀ L s.heap (kstB u [("text", .str (ofL t) tk), ("pairs", .ref Pa), ("result", .ref Ra)])) (X : (hd.heap_39 w.params).In h₀) (N : News h₀ L s.heap ((Pa, listO psV n1) :: (Ra, listO rsV n2) :: rest)) (T : Top p loose mean mg mb h₀)
    (hP : ∀ q ∈ rest, q.1 ≠ Pa) (hR : ∀ q ∈ rest, q.1 ≠ Ra) (hPR : @Ne Nat Ra Pa) (hdp : dp + 10 < recursionLimit) (hun : un + 40 < cLine) (hlen : t.length ≤ 500000) (hne : t ≠ []) (hps : psV.length ≤ 1000) (hrs : rsV.length ≤ 1000)
    (h1 : Finds tokCode t e gb ge) (h2 : Misses quoCode (t.drop e)) (h3 : Finds valCode (t.drop e) e2 gb2 ge2) (h4 : REnd (((t.drop e).take ge2).drop gb2))
    (ret : ∀ u' x t1 t2 tk1 h' tk', Fr h₀ L h' (kstB u' [("text", .str (ofL ((t.drop e).drop e2)) tk1), ("pairs", .ref Pa), ("result", .ref Ra)]) → News h₀ L h' ((Pa, listO (psV ++ [.ref x]) (n1 + 1)) :: (Ra, listO rsV n2) :: (x, spansObj [.str (ofL ((t.take ge).drop gb)) t1, .str (ofL (((t.drop e).take ge2).drop gb2)) t2]) :: rest) →
      (∀ q ∈ rest, q.1 ≠ x) → x ≠ Pa → x ≠ Ra → K { s with heap := h', toks := tk' }) :
    wpAny (model prog w) (ktrTop dp un gd "split_header_words" (splitScope w.params) L 70 (.ref 69) [] outer) (isTrue (whileTest (splitWhile w.params)) (envX "split_header_words" (splitScope w.params) L 70 (.ref 69) []) (eval (whileTest (splitWhile w.params)) (envX "split_header_words" (splitScope w.params) L 70 (.ref 69) [])))
      (fun b s₂ => WhlIf b (wpAny (model prog w) (ktrTop dp un gd "split_header_words" (splitScope w.params) L 70 (.ref 69) [] outer) (execs (whileBody (splitWhile w.params)) (envX "split_header_words" (splitScope w.params) L 70 (.ref 69) [])) (fun f s' => f = .next ∧ K s') E s₂) (wpAny (model prog w) (ktrTop dp un gd "split_header_words" (splitScope w.params) L 70 (.ref 69) [] outer) (execs [] (envX "split_header_words" (splitScope w.params) L 70 (.ref 69) [])) Qw E s₂)) E s := by
  have ex1 : whileTest (splitWhile w.params) = whileTest (splitWhile w.params) := rfl
  conv at ex1 => rhs; whnf
  have ex2 : whileBody (splitWhile w.params) = whileBody (splitWhile w.params) := rfl
  conv at ex2 => rhs; whnf
  have ex3 : splitScope w.params = splitScope w.params := rfl
  conv at ex3 => rhs; whnf
  rw [ex1, ex2, ex3]
  clear ex1 ex2 ex3
  have hlen1 : t.length ≤ 1048576 := by omega
  have hlen2 : (t.drop e).length ≤ 1048576 := by rw [List.length_drop]; omega
  have hlen3 : (((t.drop e).take ge2).drop gb2).length ≤ 1048576 := by rw [List.length_drop, List.length_take, List.length_drop]; omega
  k_steps
  all_goals (try k_data)
  refine ret _ ?x ?t1 ?t2 ?tk1 _ _ (fr_canon _ (by assumption) ?hp) (news_sub (by assumption) ?hs) ?a ?b ?c
  case hs => exact List.forall_mem_cons.mpr ⟨by k_mem, List.forall_mem_cons.mpr ⟨by k_mem, List.forall_mem_cons.mpr ⟨by k_mem, fun q hq => by k_mem⟩⟩⟩
  case hp => exact List.forall_mem_cons.mpr ⟨by with_unfolding_all rfl, List.forall_mem_cons.mpr ⟨by with_unfolding_all rfl, List.forall_mem_cons.mpr ⟨by with_unfolding_all rfl, List.forall_mem_nil _⟩⟩⟩
  case a => k_all
  all_goals k_ne
end
end Mine
-- part WI
namespace Mine
open PySem PySem.W PySem.Calls PyProof.Rows PySem.Builtin PySem.Builtin.Re
theorem quiet_WI : True := by
  w_top off
  trivial
local macro_rules | `(tactic| k_mem) => `(tactic| first | assumption | exact List.Mem.head _ | (refine' List.Mem.tail _ ?_; k_mem))
local macro_rules | `(tactic| k_all) => `(tactic| first | assumption | exact ne_of_allLt (by assumption) | (refine ne_of_allLt ?_; grind))
local macro_rules | `(tactic| walk_at "call builtin:list.append") => `(tactic| (k_here; k_dflt (refine' apd ?F ?N ?U ?z ?_; (case F => k_asm); (case N => k_asm); (case U => k_upd); (case z => omega); k_whole; intro h' F' N'; (try k_sweep))))
local macro_rules | `(tactic| walk_at "getMethod ref") => `(tactic| (k_here; (with_reducible show wpAny _ _ (getMethod (Value.ref _) (Str.ofString "search") _) _ _ _); k_dflt (refine getm_pat (PatAt.keeps (by first | exact pat_tok (by assumption) | exact pat_quo (by assumption) | exact pat_val (by assumption)) (Fr.keep (by k_asm))) slot_search type_search ?_)))
local macro_rules | `(tactic| walk_at "getMethod ref") => `(tactic| (k_here; (with_reducible show wpAny _ _ (getMethod (Value.ref _) (Str.ofString "group") _) _ _ _); k_dflt (refine getm_match (News.get (by k_asm) (by k_mem)) slot_group type_group ?_)))
local macro_rules | `(tactic| walk_at "call builtin:re.Pattern.search") => `(tactic| (k_here; k_dflt (first
  | (refine' find_call ?P ?z ?f ?F ?N ?_; (case P => first | exact pat_tok (by assumption) | exact pat_quo (by assumption) | exact pat_val (by assumption)); (case f => assumption); (case z => assumption); (case F => k_asm); (case N => k_asm); k_whole; intro T' h' F' N' l1; (try k_lt l1); (try k_sweep))
  | (refine' miss_call ?P ?F ?z ?f ?_; (case P => first | exact pat_tok (by assumption) | exact pat_quo (by assumption) | exact pat_val (by assumption)); (case f => assumption); (case z => assumption); (case F => k_asm); k_whole))))
local macro_rules | `(tactic| walk_at "call builtin:re.Match.group") => `(tactic| (k_here; k_dflt (refine' group_L ?N ?m ?t ?z ?_; (case N => k_asm); (case m => k_mem); (case t => k_mem); (case z => assumption); k_whole; intro t' k')))
local macro_rules | `(tactic| walk_at "truthy str") => `(tactic| (k_here; k_dflt (first | (refine' truthy_L ?z ?n ?_; (case n => assumption); (case z => assumption); k_whole; intro k') | (refine' truthy_L0 ?n ?_; (case n => assumption); k_whole; intro k'))))
local macro_rules | `(tactic| walk_at "call ref") => `(tactic| (k_here; (with_reducible show wpAny _ _ (call (Value.ref 43) _) _ _ _); k_dflt (refine' unm_call ?B ?F ?X ?N ?T ?k ?m ?t ?d ?u ?z ?f ?_; (case B => k_asm); (case F => k_asm); (case X => k_asm); (case N => k_asm); (case T => k_asm); (case k => exact rfl); (case m => k_mem); (case t => k_mem); (case d => omega); (case u => omega); (case z => assumption); (case f => assumption); k_whole; intro t' h' k' F' N'; (try k_sweep))))
local macro_rules | `(tactic| walk_at "truthy ref") => `(tactic| (k_here; k_dflt (refine' truthy_N ?N ?m ?_; (case N => k_asm); (case m => k_mem); k_whole)))
local macro_rules | `(tactic| walk_at "getMethod ref") => `(tactic| (k_here; (with_reducible show wpAny _ _ (getMethod (Value.ref _) (Str.ofString "subn") _) _ _ _); k_dflt (refine getm_pat (PatAt.keeps (pat_junk (by assumption)) (Fr.keep (by k_asm))) slot_subn type_subn ?_)))
local macro_rules | `(tactic| walk_at "call builtin:re.Pattern.subn") => `(tactic| (k_here; k_dflt (refine' subn_call1 ?F ?N ?P ?z ?j ?_; (case F => k_asm); (case N => k_asm); (case P => exact pat_junk (by assumption)); (case z => omega); (case j => assumption); k_whole; intro y' t1' t2' h' k' F' N' l1; (try k_lt l1); (try k_sweep))))
local macro_rules | `(tactic| walk_at "call builtin:str.lstrip") => `(tactic| (k_here; k_dflt (refine' lstrip_call ?z ?j ?_; (case z => assumption); (case j => assumption); k_whole; intro t' k')))
local macro_rules | `(tactic| walk_at "call builtin:str.rstrip") => `(tactic| (k_here; k_dflt (refine' rstrip_call ?z ?j ?_; (case z => assumption); (case j => assumption); k_whole; intro t' k')))
local macro_rules | `(tactic| walk_at "call builtin:str.startswith") => `(tactic| (k_here; k_dflt (refine' starts_comma ?j ?_; (case j => assumption); k_whole)))
local macro_rules | `(tactic| walk_at "subscriptTail Call") => `(tactic| (k_here; (with_unfolding_all (refine' sl_from1 ?F ?N ?z ?e ?_ ?s ?t; (case F => k_asm); (case N => k_asm); (case z => assumption); (case e => assumption); (case s => exact rfl); (case t => exact fun _ => rfl); k_whole)); intro h' t' k' F' N'; (try k_sweep)))
local macro_rules | `(tactic| walk_at "getMethod ref") => `(tactic| (k_here; (with_reducible show wpAny _ _ (getMethod (Value.ref _) (Str.ofString "sub") _) _ _ _); k_dflt (refine getm_pat (PatAt.keeps (by first | exact pat_esc (by assumption) | exact pat_je (by assumption)) (Fr.keep (by k_asm))) slot_sub type_sub ?_)))
noncomputable section
def ifThen : Stmt → List Stmt
  | .If _ b _ _ => b
  | _ => []
def asgVal : Stmt → Expr
  | .Assign _ v _ => v
  | _ => .Name "" ⟨0, 0, 0, 0⟩
def arg0 : Expr → Expr
  | .Call _ (x :: _) _ _ => x
  | e => e
def lamParams : Expr → Arguments
  | .Lambda p _ _ _ => p
  | _ => { posonlyargs := [], args := [], vararg := none, kwonlyargs := [], kw_defaults := [], kwarg := none, defaults := [] }
def lamBody : Expr → Expr
  | .Lambda _ b _ _ => b
  | e => e
def lamScope : Expr → Scope
  | .Lambda _ _ s _ => s
  | _ => default
def lamPos : Expr → Pos
  | .Lambda _ _ _ p => p
  | _ => ⟨0, 0, 0, 0⟩
def splitLam (P : Params) : Expr := arg0 (asgVal (nthS 2 (ifThen (nthS 3 (ifThen (nthS 1 (whileBody (splitWhile P))))))))
end
abbrev splitQual : Str := (Str.ofString "split_header_words" ++ Str.ofString ".<locals>.") ++ Str.ofString "<lambda>"
section
variable {prog : Program} {w : World} {A : Around} {E : Value → Shared → Prop} {s : Shared} {Q : Value → Shared → Prop}
theorem add_e {g : List Nat} {t u : Tok} (h : ∀ t' tk, Q (.str (ofL ([] ++ g)) t') { s with toks := tk }) (hsz : g.length ≤ 1048576) : wpAny (model prog w) A (binaryOp .Add (.str (Str.ofString "") t) (.str (ofL g) u)) Q E s :=
  add_L (a := []) (b := g) h (by simpa using hsz)
end
local macro_rules | `(tactic| walk_at "binaryOp Add str str") => `(tactic| (k_here; k_dflt (refine' add_e ?_ ?z; (case z => assumption); k_whole); intro t' k'))
theorem lam_split {prog : Program} {w : World} {p : Program} {loose : List Str} {mean : ExcName → Option Value} {mg mb : Str → Option Value} {dp un : Nat} {gd : Option (List Code)} {cn : Str} {cs : Scope} {a : Addr} {ccd : Value} {cl : List (Str × Addr)} {outer : List Env} {A₀ : Around} {base h₀ : Heap} {L : Addr} {m : Str → Option Value} {news : List (Addr × Obj)} {s : Shared}
    {Q E : Value → Shared → Prop} {x f c' pp Tt : Addr} {l : List Nat} {tk t9 : Tok} {lim b e gb ge : Nat} {qual : Str} {pm ctv : Value} {oc : Obj} {vs : Array Value}
    (B : Below A₀ base outer h₀) (F : Fr h₀ L s.heap m) (X : (hd.heap_39 w.params).In h₀) (N : News h₀ L s.heap news) (T : Top p loose mean mg mb h₀) (hk : cs.kind = .function)
    (hf : (f, kla_obj "<lambda>" qual (lamParams (splitLam w.params)) (lamBody (splitLam w.params)) (lamScope (splitLam w.params)) [] pm c' ctv) ∈ news) (hc : (c', oc) ∈ news) (hod : oc.data = .fields vs) (hov : vs[1]? = some (.str qual t9))
    (hm : (x, matchObj (.str (ofL l) tk) pp lim 1 Tt) ∈ news) (ht : (Tt, spansObj [rawInt b, rawInt e, rawInt gb, rawInt ge]) ∈ news) (hdp : dp + 2 < recursionLimit) (hun : un + 20 < cLine)
    (hsz : l.length ≤ 1048576) (hg : (l.take ge).drop gb ≠ []) (hgl : ((l.take ge).drop gb).length ≤ 1048576)
    (hret : ∀ t' h' tk', Fr h₀ L h' m → News h₀ L h' news → Q (.str (ofL ([] ++ (l.take ge).drop gb)) t') { s with heap := h', toks := tk' }) :
    wpAny (model prog w) (ktrTop dp un gd cn cs L a ccd cl outer) (call (.ref f) [.ref x]) Q E s := by
  have ex1 : lamParams (splitLam w.params) = lamParams (splitLam w.params) := rfl
  conv at ex1 => rhs; whnf
  have ex2 : lamBody (splitLam w.params) = lamBody (splitLam w.params) := rfl
  conv at ex2 => rhs; whnf
  have ex3 : lamScope (splitLam w.params) = lamScope (splitLam w.params) := rfl
  conv at ex3 => rhs; whnf
  rw [ex1, ex2, ex3] at hf
  clear ex1 ex2 ex3
  refine wpAny_call ?_
  k_dflt (refine' kla_code B F X N T ?kA ?kF ?kK hf ?k7 ?k8 ?k9 ?kB ?_ ?c2 ?c3 ?c4 ?c5; (case kA => exact rfl); (case kF => exact rfl); (case kK => exact hk); (case k7 => exact codeRec_news N hc hod hov); (case k8 => (show dp < recursionLimit; omega)); (case k9 => exact rfl); (case c5 => decide); (case kB => exact locs rfl); (case c2 => exact rfl); (case c3 => exact rfl); (case c4 => exact rfl); k_whole; intro g' L' h' FG' F' N' B' X' T'; (try dsimp only); (try k_fold))
  k_steps
  all_goals (try k_data)
  exact hret _ _ _ (by assumption) (by assumption)
theorem sub_split {prog : Program} {w : World} {p : Program} {loose : List Str} {mean : ExcName → Option Value} {mg mb : Str → Option Value} {dp un : Nat} {gd : Option (List Code)} {cn : Str} {cs : Scope} {a : Addr} {ccd : Value} {cl : List (Str × Addr)} {outer : List Env} {A₀ : Around} {base h₀ : Heap} {L : Addr} {m : Str → Option Value} {news : List (Addr × Obj)} {s : Shared}
    {Q E : Value → Shared → Prop} {f c' : Addr} {l out : List Nat} {tk t9 : Tok} {qual : Str} {pm ctv : Value} {oc : Obj} {vs : Array Value} {params : Arguments} {body : Expr} {scope : Scope}
    (B : Below A₀ base outer h₀) (F : Fr h₀ L s.heap m) (X : (hd.heap_39 w.params).In h₀) (N : News h₀ L s.heap news) (T : Top p loose mean mg mb h₀) (hk : cs.kind = .function)
    (hf : (f, kla_obj "<lambda>" qual params body scope [] pm c' ctv) ∈ news) (e1 : lamParams (splitLam w.params) = params) (e2 : lamBody (splitLam w.params) = body) (e3 : lamScope (splitLam w.params) = scope)
    (hc : (c', oc) ∈ news) (hod : oc.data = .fields vs) (hov : vs[1]? = some (.str qual t9)) (hdp : dp + 2 < recursionLimit) (hun : un + 21 < cLine)
    (hsz : l.length ≤ 200000) (hS : SubOne escCode [] l out)
    (hret : ∀ t' h' tk', Fr h₀ L h' m → News h₀ L h' news → Q (.str (ofL out) t') { s with heap := h', toks := tk' }) :
    wpAny (model prog w) (ktrTop dp un gd cn cs L a ccd cl outer) (call (.builtin "re.Pattern.sub") [.ref 63, .ref f, .str (ofL l) tk]) Q E s := by
  subst e1 e2 e3
  refine sub_call F N (pat_esc X) hsz (by decide) hf hS (fun b₀ e₀ gb ge lim T' nw h' kk hg hge F' N' hsub hlt => ?_) hret
  refine lam_split (un := un + 1) (s := { s with heap := h', toks := kk }) (news := (T' + 1, matchObj (.str (ofL l) tk) 63 lim 1 T') :: (T', spansObj [rawInt b₀, rawInt e₀, rawInt gb, rawInt ge]) :: nw) B F' X N' T hk (.tail _ (.tail _ (hsub _ hf))) (.tail _ (.tail _ (hsub _ hc))) hod hov (.head _) (.tail _ (.head _)) hdp (by omega) (by omega) ?_ ?_ fun t' h2 tk' F2 N2 => ?_
  · intro e; have e' := congrArg List.length e; rw [List.length_drop, List.length_take] at e'; simp at e'; omega
  · rw [List.length_drop, List.length_take]; omega
  · exact ⟨t', h2, tk', rfl, rfl, F2, news_tail (news_tail N2)⟩
end Mine
-- part T3a
namespace Mine
open PySem PySem.W PySem.Calls PyProof.Rows PySem.Builtin PySem.Builtin.Re
local macro_rules | `(tactic| walk_at "nothing so called") => `(tactic| skip)
theorem quiet_T3a : True := by
  w_top off
  trivial
local macro_rules | `(tactic| k_mem) => `(tactic| first | assumption | exact List.Mem.head _ | (refine' List.Mem.tail _ ?_; k_mem))
local macro_rules | `(tactic| k_all) => `(tactic| first | assumption | exact ne_of_allLt (by assumption) | (refine ne_of_allLt ?_; grind))
local macro_rules | `(tactic| walk_at "call builtin:list.append") => `(tactic| (k_here; k_dflt (refine' apd ?F ?N ?U ?z ?_; (case F => k_asm); (case N => k_asm); (case U => k_upd); (case z => omega); k_whole; intro h' F' N'; (try k_sweep))))
local macro_rules | `(tactic| walk_at "getMethod ref") => `(tactic| (k_here; (with_reducible show wpAny _ _ (getMethod (Value.ref _) (Str.ofString "search") _) _ _ _); k_dflt (refine getm_pat (PatAt.keeps (by first | exact pat_tok (by assumption) | exact pat_quo (by assumption) | exact pat_val (by assumption)) (Fr.keep (by k_asm))) slot_search type_search ?_)))
local macro_rules | `(tactic| walk_at "getMethod ref") => `(tactic| (k_here; (with_reducible show wpAny _ _ (getMethod (Value.ref _) (Str.ofString "group") _) _ _ _); k_dflt (refine getm_match (News.get (by k_asm) (by k_mem)) slot_group type_group ?_)))
local macro_rules | `(tactic| walk_at "call builtin:re.Pattern.search") => `(tactic| (k_here; k_dflt (first
  | (refine' find_call ?P ?z ?f ?F ?N ?_; (case P => first | exact pat_tok (by assumption) | exact pat_quo (by assumption) | exact pat_val (by assumption)); (case f => assumption); (case z => assumption); (case F => k_asm); (case N => k_asm); k_whole; intro T' h' F' N' l1; (try k_lt l1); (try k_sweep))
  | (refine' miss_call ?P ?F ?z ?f ?_; (case P => first | exact pat_tok (by assumption) | exact pat_quo (by assumption) | exact pat_val (by assumption)); (case f => assumption); (case z => assumption); (case F => k_asm); k_whole))))
local macro_rules | `(tactic| walk_at "call builtin:re.Match.group") => `(tactic| (k_here; k_dflt (refine' group_L ?N ?m ?t ?z ?_; (case N => k_asm); (case m => k_mem); (case t => k_mem); (case z => assumption); k_whole; intro t' k')))
local macro_rules | `(tactic| walk_at "truthy str") => `(tactic| (k_here; k_dflt (first | (refine' truthy_L ?z ?n ?_; (case n => assumption); (case z => assumption); k_whole; intro k') | (refine' truthy_L0 ?n ?_; (case n => assumption); k_whole; intro k'))))
local macro_rules | `(tactic| walk_at "call ref") => `(tactic| (k_here; (with_reducible show wpAny _ _ (call (Value.ref 43) _) _ _ _); k_dflt (refine' unm_call ?B ?F ?X ?N ?T ?k ?m ?t ?d ?u ?z ?f ?_; (case B => k_asm); (case F => k_asm); (case X => k_asm); (case N => k_asm); (case T => k_asm); (case k => exact rfl); (case m => k_mem); (case t => k_mem); (case d => omega); (case u => omega); (case z => assumption); (case f => assumption); k_whole; intro t' h' k' F' N'; (try k_sweep))))
local macro_rules | `(tactic| walk_at "truthy ref") => `(tactic| (k_here; k_dflt (refine' truthy_N ?N ?m ?_; (case N => k_asm); (case m => k_mem); k_whole)))
local macro_rules | `(tactic| walk_at "getMethod ref") => `(tactic| (k_here; (with_reducible show wpAny _ _ (getMethod (Value.ref _) (Str.ofString "subn") _) _ _ _); k_dflt (refine getm_pat (PatAt.keeps (pat_junk (by assumption)) (Fr.keep (by k_asm))) slot_subn type_subn ?_)))
local macro_rules | `(tactic| walk_at "call builtin:re.Pattern.subn") => `(tactic| (k_here; k_dflt (refine' subn_call1 ?F ?N ?P ?z ?j ?_; (case F => k_asm); (case N => k_asm); (case P => exact pat_junk (by assumption)); (case z => omega); (case j => assumption); k_whole; intro y' t1' t2' h' k' F' N' l1; (try k_lt l1); (try k_sweep))))
local macro_rules | `(tactic| walk_at "call builtin:str.lstrip") => `(tactic| (k_here; k_dflt (refine' lstrip_call ?z ?j ?_; (case z => assumption); (case j => assumption); k_whole; intro t' k')))
local macro_rules | `(tactic| walk_at "call builtin:str.rstrip") => `(tactic| (k_here; k_dflt (refine' rstrip_call ?z ?j ?_; (case z => assumption); (case j => assumption); k_whole; intro t' k')))
local macro_rules | `(tactic| walk_at "call builtin:str.startswith") => `(tactic| (k_here; k_dflt (refine' starts_comma ?j ?_; (case j => assumption); k_whole)))
local macro_rules | `(tactic| walk_at "subscriptTail Call") => `(tactic| (k_here; (with_unfolding_all (refine' sl_from1 ?F ?N ?z ?e ?_ ?s ?t; (case F => k_asm); (case N => k_asm); (case z => assumption); (case e => assumption); (case s => exact rfl); (case t => exact fun _ => rfl); k_whole)); intro h' t' k' F' N'; (try k_sweep)))
local macro_rules | `(tactic| walk_at "getMethod ref") => `(tactic| (k_here; (with_reducible show wpAny _ _ (getMethod (Value.ref _) (Str.ofString "sub") _) _ _ _); k_dflt (refine getm_pat (PatAt.keeps (by first | exact pat_esc (by assumption) | exact pat_je (by assumption)) (Fr.keep (by k_asm))) slot_sub type_sub ?_)))
local macro_rules | `(tactic| walk_at "call builtin:re.Pattern.sub") => `(tactic| (k_here; k_dflt (refine' sub_split ?B ?F ?X ?N ?T ?k ?hf ?e1 ?e2 ?e3 ?hc ?hod ?hov ?d ?u ?z ?S ?_; (case B => k_asm); (case F => k_asm); (case X => k_asm); (case N => k_asm); (case T => k_asm); (case k => exact rfl); (case hf => k_mem); (case e1 => exact rfl); (case e2 => exact rfl); (case e3 => exact rfl); (case hod => assumption); (case hov => assumption); (case hc => k_mem); (case d => omega); (case u => omega); (case z => assumption); (case S => assumption); k_whole; intro t' h' k' F' N'; (try k_sweep))))
section
variable {prog : Program} {w : World} {p : Program} {loose : List Str} {mean : ExcName → Option Value} {mg mb : Str → Option Value} {dp un : Nat} {gd : Option (List Code)} {outer : List Env} {A₀ : Around} {base h₀ : Heap} {L : Addr} {s : Shared} {u : Str → Option Value}
    {E : Value → Shared → Prop} {Qw : Flow → Shared → Prop} {n1 n2 : Nat} {Pa Ra : Addr} {rest : List (Addr × Obj)} {psV rsV : List Value} {t : List Nat} {tk : Tok} {K : Shared → Prop}
/-- a value between marks -/
theorem turn_quoa {e gb ge e2 gb2 ge2 : Nat} {out : List Nat}
    (B : Below A₀ base outer h₀) (F : Fr h₀ L s.heap (kstB u [("text", .str (ofL t) tk), ("pairs", .ref Pa), ("result", .ref Ra)])) (X : (hd.heap_39 w.params).In h₀) (N : News h₀ L s.heap ((Pa, listO psV n1) :: (Ra, listO rsV n2) :: (65, tabObj #[]) :: rest)) (T : Top p loose mean mg mb h₀)
    (hP : ∀ q ∈ rest, q.1 ≠ Pa) (hR : ∀ q ∈ rest, q.1 ≠ Ra) (hPR : @Ne Nat Ra Pa) (hdp : dp + 10 < recursionLimit) (hun : un + 40 < cLine) (hlen : t.length ≤ 200000) (hne : t ≠ []) (hps : psV.length ≤ 1000) (hrs : rsV.length ≤ 1000)
    (hP65 : @Ne Nat Pa 65) (hR65 : @Ne Nat Ra 65) (h65 : ∀ q ∈ rest, q.1 ≠ 65)
    (h1 : Finds tokCode t e gb ge) (h2 : Finds quoCode (t.drop e) e2 gb2 ge2) (h3 : SubOne escCode [] (((t.drop e).take ge2).drop gb2) out)
    (ret : ∀ u' x t1 t2 tk1 h' tk' c0 oc0 vs0 t9, Fr h₀ L h' (kstB u' [("text", .str (ofL ((t.drop e).take 0 ++ (t.drop e).drop e2)) tk1), ("pairs", .ref Pa), ("result", .ref Ra)]) → News h₀ L h' ((Pa, listO (psV ++ [.ref x]) (n1 + 1)) :: (Ra, listO rsV n2) :: (65, tabObj #[rawInt ((lamPos (splitLam w.params)).line : Int), rawInt ((lamPos (splitLam w.params)).col : Int), .ref c0]) :: (c0, oc0) :: (x, spansObj [.str (ofL ((t.take ge).drop gb)) t1, .str (ofL out) t2]) :: rest) →
      oc0.data = .fields vs0 → vs0[1]? = some (.str splitQual t9) → c0 ≠ Pa → c0 ≠ Ra → c0 ≠ 65 → (∀ q ∈ rest, q.1 ≠ x) → x ≠ Pa → x ≠ Ra → x ≠ 65 → K { s with heap := h', toks := tk' }) :
    wpAny (model prog w) (ktrTop dp un gd "split_header_words" (splitScope w.params) L 70 (.ref 69) [] outer) (isTrue (whileTest (splitWhile w.params)) (envX "split_header_words" (splitScope w.params) L 70 (.ref 69) []) (eval (whileTest (splitWhile w.params)) (envX "split_header_words" (splitScope w.params) L 70 (.ref 69) [])))
      (fun b s₂ => WhlIf b (wpAny (model prog w) (ktrTop dp un gd "split_header_words" (splitScope w.params) L 70 (.ref 69) [] outer) (execs (whileBody (splitWhile w.params)) (envX "split_header_words" (splitScope w.params) L 70 (.ref 69) [])) (fun f s' => f = .next ∧ K s') E s₂) (wpAny (model prog w) (ktrTop dp un gd "split_header_words" (splitScope w.params) L 70 (.ref 69) [] outer) (execs [] (envX "split_header_words" (splitScope w.params) L 70 (.ref 69) [])) Qw E s₂)) E s := by
  have ex1 : whileTest (splitWhile w.params) = whileTest (splitWhile w.params) := rfl
  conv at ex1 => rhs; whnf
  have ex2 : whileBody (splitWhile w.params) = whileBody (splitWhile w.params) := rfl
  conv at ex2 => rhs; whnf
  have ex3 : splitScope w.params = splitScope w.params := rfl
  conv at ex3 => rhs; whnf
  rw [ex1, ex2, ex3]
  clear ex1 ex2 ex3
  have hlen1 : t.length ≤ 1048576 := by omega
  have hlen2 : (t.drop e).length ≤ 1048576 := by rw [List.length_drop]; omega
  have hlen3 : (((t.drop e).take ge2).drop gb2).length ≤ 1048576 := by rw [List.length_drop, List.length_take, List.length_drop]; omega
  have hlen4 : (((t.drop e).take ge2).drop gb2).length ≤ 200000 := by rw [List.length_drop, List.length_take, List.length_drop]; omega
  have C : CodeHd h₀ 69 65 := codeHd_of_K X (by kernel_rfl)
  have ex4 : lamPos (splitLam w.params) = lamPos (splitLam w.params) := rfl
  conv at ex4 => rhs; whnf
  rw [ex4] at ret
  clear ex4
  dsimp only at ret
  k_steps
  all_goals (try k_data)
  refine ret _ ?x ?t1 ?t2 ?tk1 _ _ ?c0 ?o0 ?v0 ?t0 (fr_canon _ (by assumption) ?hp) (news_sub (by assumption) ?hs) (by assumption) (by assumption) ?d ?e ?f ?a ?b ?c ?g
  case hs => exact List.forall_mem_cons.mpr ⟨by k_mem, List.forall_mem_cons.mpr ⟨by k_mem, List.forall_mem_cons.mpr ⟨by k_mem, List.forall_mem_cons.mpr ⟨by k_mem, List.forall_mem_cons.mpr ⟨by k_mem, fun q hq => by k_mem⟩⟩⟩⟩⟩
  case hp => exact List.forall_mem_cons.mpr ⟨by with_unfolding_all rfl, List.forall_mem_cons.mpr ⟨by with_unfolding_all rfl, List.forall_mem_cons.mpr ⟨by with_unfolding_all rfl, List.forall_mem_nil _⟩⟩⟩
  case a => k_all
  all_goals k_ne
end
end Mine
-- part T3b
namespace Mine
open PySem PySem.W PySem.Calls PyProof.Rows PySem.Builtin PySem.Builtin.Re
theorem quiet_T3b : True := by
  w_top off
  trivial
local macro_rules | `(tactic| k_mem) => `(tactic| first | assumption | exact List.Mem.head _ | (refine' List.Mem.tail _ ?_; k_mem))
local macro_rules | `(tactic| k_all) => `(tactic| first | assumption | exact ne_of_allLt (by assumption) | (refine ne_of_allLt ?_; grind))
local macro_rules | `(tactic| walk_at "call builtin:list.append") => `(tactic| (k_here; k_dflt (refine' apd ?F ?N ?U ?z ?_; (case F => k_asm); (case N => k_asm); (case U => k_upd); (case z => omega); k_whole; intro h' F' N'; (try k_sweep))))
local macro_rules | `(tactic| walk_at "getMethod ref") => `(tactic| (k_here; (with_reducible show wpAny _ _ (getMethod (Value.ref _) (Str.ofString "search") _) _ _ _); k_dflt (refine getm_pat (PatAt.keeps (by first | exact pat_tok (by assumption) | exact pat_quo (by assumption) | exact pat_val (by assumption)) (Fr.keep (by k_asm))) slot_search type_search ?_)))
local macro_rules | `(tactic| walk_at "getMethod ref") => `(tactic| (k_here; (with_reducible show wpAny _ _ (getMethod (Value.ref _) (Str.ofString "group") _) _ _ _); k_dflt (refine getm_match (News.get (by k_asm) (by k_mem)) slot_group type_group ?_)))
local macro_rules | `(tactic| walk_at "call builtin:re.Pattern.search") => `(tactic| (k_here; k_dflt (first
  | (refine' find_call ?P ?z ?f ?F ?N ?_; (case P => first | exact pat_tok (by assumption) | exact pat_quo (by assumption) | exact pat_val (by assumption)); (case f => assumption); (case z => assumption); (case F => k_asm); (case N => k_asm); k_whole; intro T' h' F' N' l1; (try k_lt l1); (try k_sweep))
  | (refine' miss_call ?P ?F ?z ?f ?_; (case P => first | exact pat_tok (by assumption) | exact pat_quo (by assumption) | exact pat_val (by assumption)); (case f => assumption); (case z => assumption); (case F => k_asm); k_whole))))
local macro_rules | `(tactic| walk_at "call builtin:re.Match.group") => `(tactic| (k_here; k_dflt (refine' group_L ?N ?m ?t ?z ?_; (case N => k_asm); (case m => k_mem); (case t => k_mem); (case z => assumption); k_whole; intro t' k')))
local macro_rules | `(tactic| walk_at "truthy str") => `(tactic| (k_here; k_dflt (first | (refine' truthy_L ?z ?n ?_; (case n => assumption); (case z => assumption); k_whole; intro k') | (refine' truthy_L0 ?n ?_; (case n => assumption); k_whole; intro k'))))
local macro_rules | `(tactic| walk_at "call ref") => `(tactic| (k_here; (with_reducible show wpAny _ _ (call (Value.ref 43) _) _ _ _); k_dflt (refine' unm_call ?B ?F ?X ?N ?T ?k ?m ?t ?d ?u ?z ?f ?_; (case B => k_asm); (case F => k_asm); (case X => k_asm); (case N => k_asm); (case T => k_asm); (case k => exact rfl); (case m => k_mem); (case t => k_mem); (case d => omega); (case u => omega); (case z => assumption); (case f => assumption); k_whole; intro t' h' k' F' N'; (try k_sweep))))
local macro_rules | `(tactic| walk_at "truthy ref") => `(tactic| (k_here; k_dflt (refine' truthy_N ?N ?m ?_; (case N => k_asm); (case m => k_mem); k_whole)))
local macro_rules | `(tactic| walk_at "getMethod ref") => `(tactic| (k_here; (with_reducible show wpAny _ _ (getMethod (Value.ref _) (Str.ofString "subn") _) _ _ _); k_dflt (refine getm_pat (PatAt.keeps (pat_junk (by assumption)) (Fr.keep (by k_asm))) slot_subn type_subn ?_)))
local macro_rules | `(tactic| walk_at "call builtin:re.Pattern.subn") => `(tactic| (k_here; k_dflt (refine' subn_call1 ?F ?N ?P ?z ?j ?_; (case F => k_asm); (case N => k_asm); (case P => exact pat_junk (by assumption)); (case z => omega); (case j => assumption); k_whole; intro y' t1' t2' h' k' F' N' l1; (try k_lt l1); (try k_sweep))))
local macro_rules | `(tactic| walk_at "call builtin:str.lstrip") => `(tactic| (k_here; k_dflt (refine' lstrip_call ?z ?j ?_; (case z => assumption); (case j => assumption); k_whole; intro t' k')))
local macro_rules | `(tactic| walk_at "call builtin:str.rstrip") => `(tactic| (k_here; k_dflt (refine' rstrip_call ?z ?j ?_; (case z => assumption); (case j => assumption); k_whole; intro t' k')))
local macro_rules | `(tactic| walk_at "call builtin:str.startswith") => `(tactic| (k_here; k_dflt (refine' starts_comma ?j ?_; (case j => assumption); k_whole)))
local macro_rules | `(tactic| walk_at "subscriptTail Call") => `(tactic| (k_here; (with_unfolding_all (refine' sl_from1 ?F ?N ?z ?e ?_ ?s ?t; (case F => k_asm); (case N => k_asm); (case z => assumption); (case e => assumption); (case s => exact rfl); (case t => exact fun _ => rfl); k_whole)); intro h' t' k' F' N'; (try k_sweep)))
local macro_rules | `(tactic| walk_at "getMethod ref") => `(tactic| (k_here; (with_reducible show wpAny _ _ (getMethod (Value.ref _) (Str.ofString "sub") _) _ _ _); k_dflt (refine getm_pat (PatAt.keeps (by first | exact pat_esc (by assumption) | exact pat_je (by assumption)) (Fr.keep (by k_asm))) slot_sub type_sub ?_)))
local macro_rules | `(tactic| walk_at "call builtin:re.Pattern.sub") => `(tactic| (k_here; k_dflt (refine' sub_split ?B ?F ?X ?N ?T ?k ?hf ?e1 ?e2 ?e3 ?hc ?hod ?hov ?d ?u ?z ?S ?_; (case B => k_asm); (case F => k_asm); (case X => k_asm); (case N => k_asm); (case T => k_asm); (case k => exact rfl); (case hf => k_mem); (case e1 => exact rfl); (case e2 => exact rfl); (case e3 => exact rfl); (case hod => assumption); (case hov => assumption); (case hc => k_mem); (case d => omega); (case u => omega); (case z => assumption); (case S => assumption); k_whole; intro t' h' k' F' N'; (try k_sweep))))
section
variable {prog : Program} {w : World} {p : Program} {loose : List Str} {mean : ExcName → Option Value} {mg mb : Str → Option Value} {dp un : Nat} {gd : Option (List Code)} {outer : List Env} {A₀ : Around} {base h₀ : Heap} {L : Addr} {s : Shared} {u : Str → Option Value}
    {E : Value → Shared → Prop} {Qw : Flow → Shared → Prop} {n1 n2 : Nat} {Pa Ra : Addr} {rest : List (Addr × Obj)} {psV rsV : List Value} {t : List Nat} {tk : Tok} {K : Shared → Prop}
/-- a value between marks -/
theorem turn_quob {e gb ge e2 gb2 ge2 : Nat} {out : List Nat} {c0 : Addr} {oc0 : Obj} {vs0 : Array Value} {t9 : Tok}
    (B : Below A₀ base outer h₀) (F : Fr h₀ L s.heap (kstB u [("text", .str (ofL t) tk), ("pairs", .ref Pa), ("result", .ref Ra)])) (X : (hd.heap_39 w.params).In h₀) (N : News h₀ L s.heap ((Pa, listO psV n1) :: (Ra, listO rsV n2) :: (65, tabObj #[rawInt ((lamPos (splitLam w.params)).line : Int), rawInt ((lamPos (splitLam w.params)).col : Int), .ref c0]) :: (c0, oc0) :: rest)) (T : Top p loose mean mg mb h₀)
    (hP : ∀ q ∈ rest, q.1 ≠ Pa) (hR : ∀ q ∈ rest, q.1 ≠ Ra) (hPR : @Ne Nat Ra Pa) (hdp : dp + 10 < recursionLimit) (hun : un + 40 < cLine) (hlen : t.length ≤ 200000) (hne : t ≠ []) (hps : psV.length ≤ 1000) (hrs : rsV.length ≤ 1000)
    (hP65 : @Ne Nat Pa 65) (hR65 : @Ne Nat Ra 65) (h65 : ∀ q ∈ rest, q.1 ≠ 65) (ho1 : oc0.data = .fields vs0) (ho2 : vs0[1]? = some (.str splitQual t9)) (hc0P : @Ne Nat c0 Pa) (hc0R : @Ne Nat c0 Ra) (hc0t : @Ne Nat c0 65)
    (h1 : Finds tokCode t e gb ge) (h2 : Finds quoCode (t.drop e) e2 gb2 ge2) (h3 : SubOne escCode [] (((t.drop e).take ge2).drop gb2) out)
    (ret : ∀ u' x t1 t2 tk1 h' tk', Fr h₀ L h' (kstB u' [("text", .str (ofL ((t.drop e).take 0 ++ (t.drop e).drop e2)) tk1), ("pairs", .ref Pa), ("result", .ref Ra)]) → News h₀ L h' ((Pa, listO (psV ++ [.ref x]) (n1 + 1)) :: (Ra, listO rsV n2) :: (65, tabObj #[rawInt ((lamPos (splitLam w.params)).line : Int), rawInt ((lamPos (splitLam w.params)).col : Int), .ref c0]) :: (c0, oc0) :: (x, spansObj [.str (ofL ((t.take ge).drop gb)) t1, .str (ofL out) t2]) :: rest) →
      (∀ q ∈ rest, q.1 ≠ x) → x ≠ Pa → x ≠ Ra → x ≠ 65 → K { s with heap := h', toks := tk' }) :
    wpAny (model prog w) (ktrTop dp un gd "split_header_words" (splitScope w.params) L 70 (.ref 69) [] outer) (isTrue (whileTest (splitWhile w.params)) (envX "split_header_words" (splitScope w.params) L 70 (.ref 69) []) (eval (whileTest (splitWhile w.params)) (envX "split_header_words" (splitScope w.params) L 70 (.ref 69) [])))
      (fun b s₂ => WhlIf b (wpAny (model prog w) (ktrTop dp un gd "split_header_words" (splitScope w.params) L 70 (.ref 69) [] outer) (execs (whileBody (splitWhile w.params)) (envX "split_header_words" (splitScope w.params) L 70 (.ref 69) [])) (fun f s' => f = .next ∧ K s') E s₂) (wpAny (model prog w) (ktrTop dp un gd "split_header_words" (splitScope w.params) L 70 (.ref 69) [] outer) (execs [] (envX "split_header_words" (splitScope w.params) L 70 (.ref 69) [])) Qw E s₂)) E s := by
  have ex1 : whileTest (splitWhile w.params) = whileTest (splitWhile w.params) := rfl
  conv at ex1 => rhs; whnf
  have ex2 : whileBody (splitWhile w.params) = whileBody (splitWhile w.params) := rfl
  conv at ex2 => rhs; whnf
  have ex3 : splitScope w.params = splitScope w.params := rfl
  conv at ex3 => rhs; whnf
  rw [ex1, ex2, ex3]
  clear ex1 ex2 ex3
  have hlen1 : t.length ≤ 1048576 := by omega
  have hlen2 : (t.drop e).length ≤ 1048576 := by rw [List.length_drop]; omega
  have hlen3 : (((t.drop e).take ge2).drop gb2).length ≤ 1048576 := by rw [List.length_drop, List.length_take, List.length_drop]; omega
  have hlen4 : (((t.drop e).take ge2).drop gb2).length ≤ 200000 := by rw [List.length_drop, List.length_take, List.length_drop]; omega
  have C : CodeHd h₀ 69 65 := codeHd_of_K X (by kernel_rfl)
  have ex4 : lamPos (splitLam w.params) = lamPos (splitLam w.params) := rfl
  conv at ex4 => rhs; whnf
  rw [ex4] at N ret
  clear ex4
  dsimp only at N ret
  k_steps
  all_goals (try k_data)
  refine ret _ ?x ?t1 ?t2 ?tk1 _ _ (fr_canon _ (by assumption) ?hp) (news_sub (by assumption) ?hs) ?a ?b ?c ?g
  case hs => exact List.forall_mem_cons.mpr ⟨by k_mem, List.forall_mem_cons.mpr ⟨by k_mem, List.forall_mem_cons.mpr ⟨by k_mem, List.forall_mem_cons.mpr ⟨by k_mem, List.forall_mem_cons.mpr ⟨by k_mem, fun q hq => by k_mem⟩⟩⟩⟩⟩
  case hp => exact List.forall_mem_cons.mpr ⟨by with_unfolding_all rfl, List.forall_mem_cons.mpr ⟨by with_unfolding_all rfl, List.forall_mem_cons.mpr ⟨by with_unfolding_all rfl, List.forall_mem_nil _⟩⟩⟩
  case a => k_all
  all_goals k_ne
end
end Mine
-- part T4
namespace Mine
open PySem PySem.W PySem.Calls PyProof.Rows PySem.Builtin PySem.Builtin.Re
theorem quiet_T4 : True := by
  w_top off
  trivial
local macro_rules | `(tactic| k_mem) => `(tactic| first | assumption | exact List.Mem.head _ | (refine' List.Mem.tail _ ?_; k_mem))
local macro_rules | `(tactic| k_all) => `(tactic| first | assumption | exact ne_of_allLt (by assumption) | (refine ne_of_allLt ?_; grind))
local macro_rules | `(tactic| walk_at "call builtin:list.append") => `(tactic| (k_here; k_dflt (refine' apd ?F ?N ?U ?z ?_; (case F => k_asm); (case N => k_asm); (case U => k_upd); (case z => omega); k_whole; intro h' F' N'; (try k_sweep))))
local macro_rules | `(tactic| walk_at "getMethod ref") => `(tactic| (k_here; (with_reducible show wpAny _ _ (getMethod (Value.ref _) (Str.ofString "search") _) _ _ _); k_dflt (refine getm_pat (PatAt.keeps (by first | exact pat_tok (by assumption) | exact pat_quo (by assumption) | exact pat_val (by assumption)) (Fr.keep (by k_asm))) slot_search type_search ?_)))
local macro_rules | `(tactic| walk_at "getMethod ref") => `(tactic| (k_here; (with_reducible show wpAny _ _ (getMethod (Value.ref _) (Str.ofString "group") _) _ _ _); k_dflt (refine getm_match (News.get (by k_asm) (by k_mem)) slot_group type_group ?_)))
local macro_rules | `(tactic| walk_at "call builtin:re.Pattern.search") => `(tactic| (k_here; k_dflt (first
  | (refine' find_call ?P ?z ?f ?F ?N ?_; (case P => first | exact pat_tok (by assumption) | exact pat_quo (by assumption) | exact pat_val (by assumption)); (case f => assumption); (case z => assumption); (case F => k_asm); (case N => k_asm); k_whole; intro T' h' F' N' l1; (try k_lt l1); (try k_sweep))
  | (refine' miss_call ?P ?F ?z ?f ?_; (case P => first | exact pat_tok (by assumption) | exact pat_quo (by assumption) | exact pat_val (by assumption)); (case f => assumption); (case z => assumption); (case F => k_asm); k_whole))))
local macro_rules | `(tactic| walk_at "call builtin:re.Match.group") => `(tactic| (k_here; k_dflt (refine' group_L ?N ?m ?t ?z ?_; (case N => k_asm); (case m => k_mem); (case t => k_mem); (case z => assumption); k_whole; intro t' k')))
local macro_rules | `(tactic| walk_at "truthy str") => `(tactic| (k_here; k_dflt (first | (refine' truthy_L ?z ?n ?_; (case n => assumption); (case z => assumption); k_whole; intro k') | (refine' truthy_L0 ?n ?_; (case n => assumption); k_whole; intro k'))))
local macro_rules | `(tactic| walk_at "call ref") => `(tactic| (k_here; (with_reducible show wpAny _ _ (call (Value.ref 43) _) _ _ _); k_dflt (refine' unm_call ?B ?F ?X ?N ?T ?k ?m ?t ?d ?u ?z ?f ?_; (case B => k_asm); (case F => k_asm); (case X => k_asm); (case N => k_asm); (case T => k_asm); (case k => exact rfl); (case m => k_mem); (case t => k_mem); (case d => omega); (case u => omega); (case z => assumption); (case f => assumption); k_whole; intro t' h' k' F' N'; (try k_sweep))))
local macro_rules | `(tactic| walk_at "truthy ref") => `(tactic| (k_here; k_dflt (refine' truthy_N ?N ?m ?_; (case N => k_asm); (case m => k_mem); k_whole)))
local macro_rules | `(tactic| walk_at "getMethod ref") => `(tactic| (k_here; (with_reducible show wpAny _ _ (getMethod (Value.ref _) (Str.ofString "subn") _) _ _ _); k_dflt (refine getm_pat (PatAt.keeps (pat_junk (by assumption)) (Fr.keep (by k_asm))) slot_subn type_subn ?_)))
local macro_rules | `(tactic| walk_at "call builtin:re.Pattern.subn") => `(tactic| (k_here; k_dflt (refine' subn_call1 ?F ?N ?P ?z ?j ?_; (case F => k_asm); (case N => k_asm); (case P => exact pat_junk (by assumption)); (case z => omega); (case j => assumption); k_whole; intro y' t1' t2' h' k' F' N' l1; (try k_lt l1); (try k_sweep))))
local macro_rules | `(tactic| walk_at "call builtin:str.lstrip") => `(tactic| (k_here; k_dflt (refine' lstrip_call ?z ?j ?_; (case z => assumption); (case j => assumption); k_whole; intro t' k')))
local macro_rules | `(tactic| walk_at "call builtin:str.rstrip") => `(tactic| (k_here; k_dflt (refine' rstrip_call ?z ?j ?_; (case z => assumption); (case j => assumption); k_whole; intro t' k')))
local macro_rules | `(tactic| walk_at "call builtin:str.startswith") => `(tactic| (k_here; k_dflt (refine' starts_comma ?j ?_; (case j => assumption); k_whole)))
local macro_rules | `(tactic| walk_at "subscriptTail Call") => `(tactic| (k_here; (with_unfolding_all (refine' sl_from1 ?F ?N ?z ?e ?_ ?s ?t; (case F => k_asm); (case N => k_asm); (case z => assumption); (case e => assumption); (case s => exact rfl); (case t => exact fun _ => rfl); k_whole)); intro h' t' k' F' N'; (try k_sweep)))
local macro_rules | `(tactic| walk_at "getMethod ref") => `(tactic| (k_here; (with_reducible show wpAny _ _ (getMethod (Value.ref _) (Str.ofString "sub") _) _ _ _); k_dflt (refine getm_pat (PatAt.keeps (by first | exact pat_esc (by assumption) | exact pat_je (by assumption)) (Fr.keep (by k_asm))) slot_sub type_sub ?_)))
section
variable {prog : Program} {w : World} {p : Program} {loose : List Str} {mean : ExcName → Option Value} {mg mb : Str → Option Value} {dp un : Nat} {gd : Option (List Code)} {outer : List Env} {A₀ : Around} {base h₀ : Heap} {L : Addr} {s : Shared} {u : Str → Option Value}
    {E : Value → Shared → Prop} {Qw : Flow → Shared → Prop} {n1 n2 : Nat} {Pa Ra : Addr} {rest : List (Addr × Obj)} {psV rsV : List Value} {t : List Nat} {tk : Tok} {K : Shared → Prop}
/-- a comma behind pairs -/
theorem turn_comma {k : Nat}
    (B : Below A₀ base outer h₀) (F : Fr h₀ L s.heap (kstB u [("text", .str (ofL t) tk), ("pairs", .ref Pa), ("result", .ref Ra)])) (X : (hd.heap_39 w.params).In h₀) (N : News h₀ L s.heap ((Pa, listO psV n1) :: (Ra, listO rsV n2) :: rest)) (T : Top p loose mean mg mb h₀)
    (hP : ∀ q ∈ rest, q.1 ≠ Pa) (hR : ∀ q ∈ rest, q.1 ≠ Ra) (hPR : @Ne Nat Ra Pa) (hdp : dp + 10 < recursionLimit) (hun : un + 40 < cLine) (hlen : t.length ≤ 500000) (hne : t ≠ []) (hps : psV.length ≤ 1000) (hrs : rsV.length ≤ 1000)
    (hps0 : psV ≠ []) (h1 : Misses tokCode t) (h2 : LSt t k) (h3 : ((t.drop k).head? == some 44) = true)
    (ret : ∀ u' x tk1 h' tk', Fr h₀ L h' (kstB u' [("text", .str (ofL ((t.drop k).drop 1)) tk1), ("pairs", .ref x), ("result", .ref Ra)]) → News h₀ L h' ((x, listO [] 0) :: (Ra, listO (rsV ++ [.ref Pa]) (n2 + 1)) :: (Pa, listO psV n1) :: rest) →
      (∀ q ∈ rest, q.1 ≠ x) → x ≠ Pa → x ≠ Ra → K { s with heap := h', toks := tk' }) :
    wpAny (model prog w) (ktrTop dp un gd "split_header_words" (splitScope w.params) L 70 (.ref 69) [] outer) (isTrue (whileTest (splitWhile w.params)) (envX "split_header_words" (splitScope w.params) L 70 (.ref 69) []) (eval (whileTest (splitWhile w.params)) (envX "split_header_words" (splitScope w.params) L 70 (.ref 69) [])))
      (fun b s₂ => WhlIf b (wpAny (model prog w) (ktrTop dp un gd "split_header_words" (splitScope w.params) L 70 (.ref 69) [] outer) (execs (whileBody (splitWhile w.params)) (envX "split_header_words" (splitScope w.params) L 70 (.ref 69) [])) (fun f s' => f = .next ∧ K s') E s₂) (wpAny (model prog w) (ktrTop dp un gd "split_header_words" (splitScope w.params) L 70 (.ref 69) [] outer) (execs [] (envX "split_header_words" (splitScope w.params) L 70 (.ref 69) [])) Qw E s₂)) E s := by
  have ex1 : whileTest (splitWhile w.params) = whileTest (splitWhile w.params) := rfl
  conv at ex1 => rhs; whnf
  have ex2 : whileBody (splitWhile w.params) = whileBody (splitWhile w.params) := rfl
  conv at ex2 => rhs; whnf
  have ex3 : splitScope w.params = splitScope w.params := rfl
  conv at ex3 => rhs; whnf
  rw [ex1, ex2, ex3]
  clear ex1 ex2 ex3
  have hlen1 : t.length ≤ 1048576 := by omega
  have hlen2 : (t.drop k).length ≤ 1048576 := by rw [List.length_drop]; omega
  have h4 : 1 ≤ (t.drop k).length := by
    cases hd : t.drop k with
    | nil => rw [hd] at h3; cases h3
    | cons c r => simp
  k_steps
  all_goals (try k_data)
  refine ret _ ?x ?tk1 _ _ (fr_canon _ (by assumption) ?hp) (news_sub (by assumption) ?hs) ?a ?b ?c
  case hs => exact List.forall_mem_cons.mpr ⟨by k_mem, List.forall_mem_cons.mpr ⟨by k_mem, List.forall_mem_cons.mpr ⟨by k_mem, fun q hq => by k_mem⟩⟩⟩
  case hp => exact List.forall_mem_cons.mpr ⟨by with_unfolding_all rfl, List.forall_mem_cons.mpr ⟨by with_unfolding_all rfl, List.forall_mem_cons.mpr ⟨by with_unfolding_all rfl, List.forall_mem_nil _⟩⟩⟩
  case a => k_all
  all_goals k_ne
end
end Mine
-- part T5
namespace Mine
open PySem PySem.W PySem.Calls PyProof.Rows PySem.Builtin PySem.Builtin.Re
local macro_rules | `(tactic| walk_at "nothing so called") => `(tactic| skip)
theorem quiet_T5 : True := by
  w_top off
  trivial
local macro_rules | `(tactic| k_mem) => `(tactic| first | assumption | exact List.Mem.head _ | (refine' List.Mem.tail _ ?_; k_mem))
local macro_rules | `(tactic| k_all) => `(tactic| first | assumption | exact ne_of_allLt (by assumption) | (refine ne_of_allLt ?_; grind))
local macro_rules | `(tactic| walk_at "call builtin:list.append") => `(tactic| (k_here; k_dflt (refine' apd ?F ?N ?U ?z ?_; (case F => k_asm); (case N => k_asm); (case U => k_upd); (case z => omega); k_whole; intro h' F' N'; (try k_sweep))))
local macro_rules | `(tactic| walk_at "getMethod ref") => `(tactic| (k_here; (with_reducible show wpAny _ _ (getMethod (Value.ref _) (Str.ofString "search") _) _ _ _); k_dflt (refine getm_pat (PatAt.keeps (by first | exact pat_tok (by assumption) | exact pat_quo (by assumption) | exact pat_val (by assumption)) (Fr.keep (by k_asm))) slot_search type_search ?_)))
local macro_rules | `(tactic| walk_at "getMethod ref") => `(tactic| (k_here; (with_reducible show wpAny _ _ (getMethod (Value.ref _) (Str.ofString "group") _) _ _ _); k_dflt (refine getm_match (News.get (by k_asm) (by k_mem)) slot_group type_group ?_)))
local macro_rules | `(tactic| walk_at "call builtin:re.Pattern.search") => `(tactic| (k_here; k_dflt (first
  | (refine' find_call ?P ?z ?f ?F ?N ?_; (case P => first | exact pat_tok (by assumption) | exact pat_quo (by assumption) | exact pat_val (by assumption)); (case f => assumption); (case z => assumption); (case F => k_asm); (case N => k_asm); k_whole; intro T' h' F' N' l1; (try k_lt l1); (try k_sweep))
  | (refine' miss_call ?P ?F ?z ?f ?_; (case P => first | exact pat_tok (by assumption) | exact pat_quo (by assumption) | exact pat_val (by assumption)); (case f => assumption); (case z => assumption); (case F => k_asm); k_whole))))
local macro_rules | `(tactic| walk_at "call builtin:re.Match.group") => `(tactic| (k_here; k_dflt (refine' group_L ?N ?m ?t ?z ?_; (case N => k_asm); (case m => k_mem); (case t => k_mem); (case z => assumption); k_whole; intro t' k')))
local macro_rules | `(tactic| walk_at "truthy str") => `(tactic| (k_here; k_dflt (first | (refine' truthy_L ?z ?n ?_; (case n => assumption); (case z => assumption); k_whole; intro k') | (refine' truthy_L0 ?n ?_; (case n => assumption); k_whole; intro k'))))
local macro_rules | `(tactic| walk_at "call ref") => `(tactic| (k_here; (with_reducible show wpAny _ _ (call (Value.ref 43) _) _ _ _); k_dflt (refine' unm_call ?B ?F ?X ?N ?T ?k ?m ?t ?d ?u ?z ?f ?_; (case B => k_asm); (case F => k_asm); (case X => k_asm); (case N => k_asm); (case T => k_asm); (case k => exact rfl); (case m => k_mem); (case t => k_mem); (case d => omega); (case u => omega); (case z => assumption); (case f => assumption); k_whole; intro t' h' k' F' N'; (try k_sweep))))
local macro_rules | `(tactic| walk_at "truthy ref") => `(tactic| (k_here; k_dflt (refine' truthy_N ?N ?m ?_; (case N => k_asm); (case m => k_mem); k_whole)))
local macro_rules | `(tactic| walk_at "getMethod ref") => `(tactic| (k_here; (with_reducible show wpAny _ _ (getMethod (Value.ref _) (Str.ofString "subn") _) _ _ _); k_dflt (refine getm_pat (PatAt.keeps (pat_junk (by assumption)) (Fr.keep (by k_asm))) slot_subn type_subn ?_)))
local macro_rules | `(tactic| walk_at "call builtin:re.Pattern.subn") => `(tactic| (k_here; k_dflt (refine' subn_call1 ?F ?N ?P ?z ?j ?_; (case F => k_asm); (case N => k_asm); (case P => exact pat_junk (by assumption)); (case z => omega); (case j => assumption); k_whole; intro y' t1' t2' h' k' F' N' l1; (try k_lt l1); (try k_sweep))))
local macro_rules | `(tactic| walk_at "call builtin:str.lstrip") => `(tactic| (k_here; k_dflt (refine' lstrip_call ?z ?j ?_; (case z => assumption); (case j => assumption); k_whole; intro t' k')))
local macro_rules | `(tactic| walk_at "call builtin:str.rstrip") => `(tactic| (k_here; k_dflt (refine' rstrip_call ?z ?j ?_; (case z => assumption); (case j => assumption); k_whole; intro t' k')))
local macro_rules | `(tactic| walk_at "call builtin:str.startswith") => `(tactic| (k_here; k_dflt (refine' starts_comma ?j ?_; (case j => assumption); k_whole)))
local macro_rules | `(tactic| walk_at "subscriptTail Call") => `(tactic| (k_here; (with_unfolding_all (refine' sl_from1 ?F ?N ?z ?e ?_ ?s ?t; (case F => k_asm); (case N => k_asm); (case z => assumption); (case e => assumption); (case s => exact rfl); (case t => exact fun _ => rfl); k_whole)); intro h' t' k' F' N'; (try k_sweep)))
local macro_rules | `(tactic| walk_at "getMethod ref") => `(tactic| (k_here; (with_reducible show wpAny _ _ (getMethod (Value.ref _) (Str.ofString "sub") _) _ _ _); k_dflt (refine getm_pat (PatAt.keeps (by first | exact pat_esc (by assumption) | exact pat_je (by assumption)) (Fr.keep (by k_asm))) slot_sub type_sub ?_)))
section
variable {prog : Program} {w : World} {p : Program} {loose : List Str} {mean : ExcName → Option Value} {mg mb : Str → Option Value} {dp un : Nat} {gd : Option (List Code)} {outer : List Env} {A₀ : Around} {base h₀ : Heap} {L : Addr} {s : Shared} {u : Str → Option Value}
    {E : Value → Shared → Prop} {Qw : Flow → Shared → Prop} {n1 n2 : Nat} {Pa Ra : Addr} {rest : List (Addr × Obj)} {psV rsV : List Value} {t : List Nat} {tk : Tok} {K : Shared → Prop}
/-- junk -/
theorem turn_junk {k j : Nat}
    (B : Below A₀ base outer h₀) (F : Fr h₀ L s.heap (kstB u [("text", .str (ofL t) tk), ("pairs", .ref Pa), ("result", .ref Ra)])) (X : (hd.heap_39 w.params).In h₀) (N : News h₀ L s.heap ((Pa, listO psV n1) :: (Ra, listO rsV n2) :: rest)) (T : Top p loose mean mg mb h₀)
    (hP : ∀ q ∈ rest, q.1 ≠ Pa) (hR : ∀ q ∈ rest, q.1 ≠ Ra) (hPR : @Ne Nat Ra Pa) (hdp : dp + 10 < recursionLimit) (hun : un + 40 < cLine) (hlen : t.length ≤ 500000) (hne : t ≠ []) (hps : psV.length ≤ 1000) (hrs : rsV.length ≤ 1000)
    (h1 : Misses tokCode t) (h2 : LSt t k) (h3 : ((t.drop k).head? == some 44) = false) (h4 : 0 < j ∧ j ≤ t.length ∧ (∀ i, i < j → isJunk (t.toArray.getD i 0) = true) ∧ (j = t.length ∨ isJunk (t.toArray.getD j 0) = false))
    (ret : ∀ u' tk1 h' tk', Fr h₀ L h' (kstB u' [("text", .str (ofL (t.drop j)) tk1), ("pairs", .ref Pa), ("result", .ref Ra)]) → News h₀ L h' ((Pa, listO psV n1) :: (Ra, listO rsV n2) :: rest) → K { s with heap := h', toks := tk' }) :
    wpAny (model prog w) (ktrTop dp un gd "split_header_words" (splitScope w.params) L 70 (.ref 69) [] outer) (isTrue (whileTest (splitWhile w.params)) (envX "split_header_words" (splitScope w.params) L 70 (.ref 69) []) (eval (whileTest (splitWhile w.params)) (envX "split_header_words" (splitScope w.params) L 70 (.ref 69) [])))
      (fun b s₂ => WhlIf b (wpAny (model prog w) (ktrTop dp un gd "split_header_words" (splitScope w.params) L 70 (.ref 69) [] outer) (execs (whileBody (splitWhile w.params)) (envX "split_header_words" (splitScope w.params) L 70 (.ref 69) [])) (fun f s' => f = .next ∧ K s') E s₂) (wpAny (model prog w) (ktrTop dp un gd "split_header_words" (splitScope w.params) L 70 (.ref 69) [] outer) (execs [] (envX "split_header_words" (splitScope w.params) L 70 (.ref 69) [])) Qw E s₂)) E s := by
  have ex1 : whileTest (splitWhile w.params) = whileTest (splitWhile w.params) := rfl
  conv at ex1 => rhs; whnf
  have ex2 : whileBody (splitWhile w.params) = whileBody (splitWhile w.params) := rfl
  conv at ex2 => rhs; whnf
  have ex3 : splitScope w.params = splitScope w.params := rfl
  conv at ex3 => rhs; whnf
  rw [ex1, ex2, ex3]
  clear ex1 ex2 ex3
  have hlen1 : t.length ≤ 1048576 := by omega
  have hlen2 : (t.drop k).length ≤ 1048576 := by rw [List.length_drop]; omega
  k_steps
  all_goals (try k_data)
  refine ret _ ?tk1 _ _ (fr_canon _ (by assumption) ?hp) (news_sub (by assumption) ?hs)
  case hs => exact List.forall_mem_cons.mpr ⟨by k_mem, List.forall_mem_cons.mpr ⟨by k_mem, fun q hq => by k_mem⟩⟩
  case hp => exact List.forall_mem_cons.mpr ⟨by with_unfolding_all rfl, List.forall_mem_cons.mpr ⟨by with_unfolding_all rfl, List.forall_mem_cons.mpr ⟨by with_unfolding_all rfl, List.forall_mem_nil _⟩⟩⟩
end
end Mine
-- part WJ
namespace Mine
open PySem PySem.W PySem.Calls PyProof.Rows PySem.Builtin PySem.Builtin.Re
abbrev Pr := List Nat × Option (List Nat)
def ValIs (v : Value) : Option (List Nat) → Prop
  | none => v = .none
  | some l => ∃ t, v = .str (ofL l) t
def PairIn (led : List (Addr × Obj)) (v : Value) (p : Pr) : Prop := ∃ x t v2, v = .ref x ∧ (x, spansObj [.str (ofL p.1) t, v2]) ∈ led ∧ ValIs v2 p.2
def Each {α : Type} (R : Value → α → Prop) : List Value → List α → Prop
  | [], [] => True
  | v :: vs, a :: as => R v a ∧ Each R vs as
  | [], _ :: _ => False
  | _ :: _, [] => False
theorem Each.mono {α : Type} {R R' : Value → α → Prop} (h : ∀ v a, R v a → R' v a) : ∀ {vs : List Value} {as : List α}, Each R vs as → Each R' vs as
  | [], [], _ => trivial
  | _ :: _, _ :: _, ⟨a, b⟩ => ⟨h _ _ a, Each.mono h b⟩
theorem Each.len {α : Type} {R : Value → α → Prop} : ∀ {vs : List Value} {as : List α}, Each R vs as → vs.length = as.length
  | [], [], _ => rfl
  | _ :: _, _ :: _, ⟨_, b⟩ => by simp [Each.len b]
theorem Each.snoc {α : Type} {R : Value → α → Prop} {v : Value} {a : α} (hv : R v a) : ∀ {vs : List Value} {as : List α}, Each R vs as → Each R (vs ++ [v]) (as ++ [a])
  | [], [], _ => ⟨hv, trivial⟩
  | _ :: _, _ :: _, ⟨x, b⟩ => ⟨x, Each.snoc hv b⟩
def RowIn (led : List (Addr × Obj)) (v : Value) (ps : List Pr) : Prop := ∃ a vs n, v = .ref a ∧ (a, listO vs n) ∈ led ∧ Each (PairIn led) vs ps
theorem PairIn.mono {led led' : List (Addr × Obj)} (h : ∀ q ∈ led, q ∈ led') {v : Value} {p : Pr} : PairIn led v p → PairIn led' v p
  | ⟨x, t, v2, a, b, c⟩ => ⟨x, t, v2, a, h _ b, c⟩
theorem RowIn.mono {led led' : List (Addr × Obj)} (h : ∀ q ∈ led, q ∈ led') {v : Value} {p : List Pr} : RowIn led v p → RowIn led' v p
  | ⟨x, t, v2, a, b, c⟩ => ⟨x, t, v2, a, h _ b, Each.mono (fun _ _ => PairIn.mono h) c⟩
def TabOk (pos : Pos) (tb : List (Addr × Obj)) : Prop := tb = [(65, tabObj #[])] ∨ ∃ c oc vs t9, tb = [(65, tabObj #[rawInt (pos.line : Int), rawInt (pos.col : Int), .ref c]), (c, oc)] ∧ oc.data = .fields vs ∧ vs[1]? = some (.str splitQual t9) ∧ @Ne Nat c 65
theorem TabOk.has {pos : Pos} {tb : List (Addr × Obj)} : TabOk pos tb → ∃ o, ((65 : Addr), o) ∈ tb
  | .inl h => by subst h; exact ⟨_, .head _⟩
  | .inr ⟨_, _, _, _, h, _⟩ => by subst h; exact ⟨_, .head _⟩
/-- what the while loop makes of a text: the pairs and the rows so far, and at the end -/
inductive Parses : List Nat → List Pr → List (List Pr) → List Pr → List (List Pr) → Prop
  | done {ps : List Pr} {rs : List (List Pr)} : ps.length ≤ 1000 → rs.length ≤ 1000 → Parses [] ps rs ps rs
  | bare {t : List Nat} {ps ps' : List Pr} {rs rs' : List (List Pr)} {e gb ge : Nat} : t ≠ [] → t.length ≤ 200000 → ps.length ≤ 1000 → rs.length ≤ 1000 →
      Finds tokCode t e gb ge → Misses quoCode (t.drop e) → Misses valCode (t.drop e) → Parses (t.drop e) (ps ++ [((t.take ge).drop gb, none)]) rs ps' rs' → Parses t ps rs ps' rs'
  | val {t : List Nat} {ps ps' : List Pr} {rs rs' : List (List Pr)} {e gb ge e2 gb2 ge2 : Nat} : t ≠ [] → t.length ≤ 200000 → ps.length ≤ 1000 → rs.length ≤ 1000 →
      Finds tokCode t e gb ge → Misses quoCode (t.drop e) → Finds valCode (t.drop e) e2 gb2 ge2 → REnd (((t.drop e).take ge2).drop gb2) →
      Parses ((t.drop e).drop e2) (ps ++ [((t.take ge).drop gb, some (((t.drop e).take ge2).drop gb2))]) rs ps' rs' → Parses t ps rs ps' rs'
  | quo {t out : List Nat} {ps ps' : List Pr} {rs rs' : List (List Pr)} {e gb ge e2 gb2 ge2 : Nat} : t ≠ [] → t.length ≤ 200000 → ps.length ≤ 1000 → rs.length ≤ 1000 →
      Finds tokCode t e gb ge → Finds quoCode (t.drop e) e2 gb2 ge2 → SubOne escCode [] (((t.drop e).take ge2).drop gb2) out →
      Parses ((t.drop e).drop e2) (ps ++ [((t.take ge).drop gb, some out)]) rs ps' rs' → Parses t ps rs ps' rs'
  | comma {t : List Nat} {ps ps' : List Pr} {rs rs' : List (List Pr)} {k : Nat} : t ≠ [] → t.length ≤ 200000 → ps.length ≤ 1000 → rs.length ≤ 1000 → ps ≠ [] →
      Misses tokCode t → LSt t k → ((t.drop k).head? == some 44) = true → Parses ((t.drop k).drop 1) [] (rs ++ [ps]) ps' rs' → Parses t ps rs ps' rs'
  | junk {t : List Nat} {ps ps' : List Pr} {rs rs' : List (List Pr)} {k j : Nat} : t ≠ [] → t.length ≤ 200000 → ps.length ≤ 1000 → rs.length ≤ 1000 →
      Misses tokCode t → LSt t k → ((t.drop k).head? == some 44) = false → (0 < j ∧ j ≤ t.length ∧ (∀ i, i < j → isJunk (t.toArray.getD i 0) = true) ∧ (j = t.length ∨ isJunk (t.toArray.getD j 0) = false)) →
      Parses (t.drop j) ps rs ps' rs' → Parses t ps rs ps' rs'
section
variable {prog : Program} {w : World} {p : Program} {loose : List Str} {mean : ExcName → Option Value} {mg mb : Str → Option Value} {dp un : Nat} {gd : Option (List Code)} {outer : List Env} {A₀ : Around} {base h₀ : Heap} {L : Addr}
    {E : Value → Shared → Prop} {Qw : Flow → Shared → Prop}
theorem split_loop {t : List Nat} {ps ps' : List Pr} {rs rs' : List (List Pr)} (H : Parses t ps rs ps' rs') (B : Below A₀ base outer h₀) (X : (hd.heap_39 w.params).In h₀) (T : Top p loose mean mg mb h₀) (hdp : dp + 10 < recursionLimit) (hun : un + 40 < cLine)
    (hE : PassesOwn (model prog w) (ktrTop dp un gd "split_header_words" (splitScope w.params) L 70 (.ref 69) [] outer) (envX "split_header_words" (splitScope w.params) L 70 (.ref 69) []) E) :
    ∀ {s : Shared} {u : Str → Option Value} {tk : Tok} {n1 n2 : Nat} {Pa Ra : Addr} {tb rest : List (Addr × Obj)} {psV rsV : List Value}
      (_ : Fr h₀ L s.heap (kstB u [("text", .str (ofL t) tk), ("pairs", .ref Pa), ("result", .ref Ra)])) (_ : News h₀ L s.heap ((Pa, listO psV n1) :: (Ra, listO rsV n2) :: (tb ++ rest))) (_ : TabOk (lamPos (splitLam w.params)) tb)
      (_ : ∀ q ∈ tb ++ rest, q.1 ≠ Pa) (_ : ∀ q ∈ tb ++ rest, q.1 ≠ Ra) (_ : @Ne Nat Ra Pa) (_ : ∀ q ∈ rest, q.1 ≠ 65) (_ : Each (PairIn rest) psV ps) (_ : Each (RowIn rest) rsV rs)
      (_ : ∀ u' tk1 n1 n2 Pa tb' rest' psV rsV h' tk', Fr h₀ L h' (kstB u' [("text", .str (ofL []) tk1), ("pairs", .ref Pa), ("result", .ref Ra)]) → News h₀ L h' ((Pa, listO psV n1) :: (Ra, listO rsV n2) :: (tb' ++ rest')) → TabOk (lamPos (splitLam w.params)) tb' →
        (∀ q ∈ tb' ++ rest', q.1 ≠ Pa) → (∀ q ∈ tb' ++ rest', q.1 ≠ Ra) → @Ne Nat Ra Pa → (∀ q ∈ rest', q.1 ≠ 65) → Each (PairIn rest') psV ps' → Each (RowIn rest') rsV rs' → (∀ q ∈ rest, q ∈ rest') → psV.length ≤ 1000 → rsV.length ≤ 1000 → Qw .next { s with heap := h', toks := tk' }),
      WhlRest prog w (ktrTop dp un gd "split_header_words" (splitScope w.params) L 70 (.ref 69) [] outer) E (envX "split_header_words" (splitScope w.params) L 70 (.ref 69) []) (whileTest (splitWhile w.params)) (whileBody (splitWhile w.params)) [] Qw 1 s := by
  induction H with
  | done hp hr =>
    intro s u tk n1 n2 Pa Ra tb rest psV rsV F N TB hPa hRa hPR h65 EP ER ret
    refine whl_turn hE (turn_done (rest := tb ++ rest) B F X N T hPa hRa hPR hdp hun (by simp) rfl (by rw [EP.len]; exact hp) (by rw [ER.len]; exact hr) fun u' tk1 h' tk' F' N' => ?_)
    exact ret u' tk1 n1 n2 Pa tb rest psV rsV h' tk' F' N' TB hPa hRa hPR h65 EP ER (fun q hq => hq) (by rw [EP.len]; exact hp) (by rw [ER.len]; exact hr)
  | @bare t ps ps' rs rs' e gb ge hne hlen hp hr h1 h2 h3 _ ih =>
    intro s u tk n1 n2 Pa Ra tb rest psV rsV F N TB hPa hRa hPR h65 EP ER ret
    refine whl_turnK (fun s' => WhlRest prog w _ E _ _ _ [] Qw 1 s') hE (fun _ h => h) (turn_bare (rest := tb ++ rest) B F X N T hPa hRa hPR hdp hun (by omega) hne (by rw [EP.len]; exact hp) (by rw [ER.len]; exact hr) h1 h2 h3 fun u' x t1 tk1 h' tk' F' N' x1 x2 x3 => ?_)
    obtain ⟨o, ho⟩ := TB.has
    refine ih (n1 := n1 + 1) (n2 := n2) (tb := tb) (rest := (x, spansObj [.str (ofL ((t.take ge).drop gb)) t1, .none]) :: rest) F' (news_sub N' ?_) TB ?_ ?_ hPR ?_ (Each.snoc ⟨x, t1, .none, rfl, .head _, rfl⟩ (Each.mono (fun _ _ => PairIn.mono fun q hq => .tail _ hq) EP)) (Each.mono (fun _ _ => RowIn.mono fun q hq => .tail _ hq) ER) ?_
    · intro q hq; simp only [List.mem_cons, List.mem_append] at hq ⊢; grind
    · intro q hq; simp only [List.mem_cons, List.mem_append] at hq hPa; grind
    · intro q hq; simp only [List.mem_cons, List.mem_append] at hq hRa; grind
    · intro q hq
      rcases List.mem_cons.mp hq with rfl | hq
      · exact fun e => x1 _ (List.mem_append_left _ ho) e.symm
      · exact h65 q hq
    · intro u'' tk2 n1 n2 Pa' tb' rest' psV' rsV' h'' tk'' a1 a2 a3 a4 a5 a6 a7 a8 a9 a10 a11 a12
      exact ret u'' tk2 n1 n2 Pa' tb' rest' psV' rsV' h'' tk'' a1 a2 a3 a4 a5 a6 a7 a8 a9 (fun q hq => a10 q (.tail _ hq)) a11 a12
  | @val t ps ps' rs rs' e gb ge e2 gb2 ge2 hne hlen hp hr h1 h2 h3 h4 _ ih =>
    intro s u tk n1 n2 Pa Ra tb rest psV rsV F N TB hPa hRa hPR h65 EP ER ret
    refine whl_turnK (fun s' => WhlRest prog w _ E _ _ _ [] Qw 1 s') hE (fun _ h => h) (turn_val (rest := tb ++ rest) B F X N T hPa hRa hPR hdp hun (by omega) hne (by rw [EP.len]; exact hp) (by rw [ER.len]; exact hr) h1 h2 h3 h4 fun u' x t1 t2 tk1 h' tk' F' N' x1 x2 x3 => ?_)
    obtain ⟨o, ho⟩ := TB.has
    refine ih (n1 := n1 + 1) (n2 := n2) (tb := tb) (rest := (x, spansObj [.str (ofL ((t.take ge).drop gb)) t1, .str (ofL (((t.drop e).take ge2).drop gb2)) t2]) :: rest) F' (news_sub N' ?_) TB ?_ ?_ hPR ?_ (Each.snoc ⟨x, t1, _, rfl, .head _, t2, rfl⟩ (Each.mono (fun _ _ => PairIn.mono fun q hq => .tail _ hq) EP)) (Each.mono (fun _ _ => RowIn.mono fun q hq => .tail _ hq) ER) ?_
    · intro q hq; simp only [List.mem_cons, List.mem_append] at hq ⊢; grind
    · intro q hq; simp only [List.mem_cons, List.mem_append] at hq hPa; grind
    · intro q hq; simp only [List.mem_cons, List.mem_append] at hq hRa; grind
    · intro q hq
      rcases List.mem_cons.mp hq with rfl | hq
      · exact fun e => x1 _ (List.mem_append_left _ ho) e.symm
      · exact h65 q hq
    · intro u'' tk2 n1 n2 Pa' tb' rest' psV' rsV' h'' tk'' a1 a2 a3 a4 a5 a6 a7 a8 a9 a10 a11 a12
      exact ret u'' tk2 n1 n2 Pa' tb' rest' psV' rsV' h'' tk'' a1 a2 a3 a4 a5 a6 a7 a8 a9 (fun q hq => a10 q (.tail _ hq)) a11 a12
  | @quo t out ps ps' rs rs' e gb ge e2 gb2 ge2 hne hlen hp hr h1 h2 h3 _ ih =>
    intro s u tk n1 n2 Pa Ra tb rest psV rsV F N TB hPa hRa hPR h65 EP ER ret
    obtain ⟨o, ho⟩ := TB.has
    have p65 : @Ne Nat Pa 65 := fun e => hPa _ (List.mem_append_left _ ho) e.symm
    have r65 : @Ne Nat Ra 65 := fun e => hRa _ (List.mem_append_left _ ho) e.symm
    refine whl_turnK (fun s' => WhlRest prog w _ E _ _ _ [] Qw 1 s') hE (fun _ h => h) ?_
    have hP' : ∀ q ∈ rest, q.1 ≠ Pa := fun q hq => hPa q (List.mem_append_right _ hq)
    have hR' : ∀ q ∈ rest, q.1 ≠ Ra := fun q hq => hRa q (List.mem_append_right _ hq)
    have z : (t.drop e).take 0 ++ (t.drop e).drop e2 = (t.drop e).drop e2 := by rw [List.take_zero, List.nil_append]
    rcases id TB with rfl | ⟨c0, oc0, vs0, t9, rfl, o1, o2, o3⟩
    · refine turn_quoa B F X N T hP' hR' hPR hdp hun hlen hne (by rw [EP.len]; exact hp) (by rw [ER.len]; exact hr) p65 r65 h65 h1 h2 h3 fun u' x t1 t2 tk1 h' tk' c0 oc0 vs0 t9 F' N' o1 o2 o3 o4 o5 x1 x2 x3 x4 => ?_
      rw [z] at F'
      refine ih (n1 := n1 + 1) (n2 := n2) (tb := [(65, tabObj #[rawInt ((lamPos (splitLam w.params)).line : Int), rawInt ((lamPos (splitLam w.params)).col : Int), .ref c0]), (c0, oc0)]) (rest := (x, spansObj [.str (ofL ((t.take ge).drop gb)) t1, .str (ofL out) t2]) :: rest) F' (news_sub N' ?_) (.inr ⟨c0, oc0, vs0, t9, rfl, o1, o2, o5⟩) ?_ ?_ hPR ?_ (Each.snoc ⟨x, t1, _, rfl, .head _, t2, rfl⟩ (Each.mono (fun _ _ => PairIn.mono fun q hq => .tail _ hq) EP)) (Each.mono (fun _ _ => RowIn.mono fun q hq => .tail _ hq) ER) ?_
      · intro q hq; exact hq
      · intro q hq; simp only [List.cons_append, List.nil_append, List.mem_cons] at hq; rcases hq with rfl | rfl | rfl | hq
        · exact fun e => p65 e.symm
        · exact o3
        · exact x2
        · exact hP' q hq
      · intro q hq; simp only [List.cons_append, List.nil_append, List.mem_cons] at hq; rcases hq with rfl | rfl | rfl | hq
        · exact fun e => r65 e.symm
        · exact o4
        · exact x3
        · exact hR' q hq
      · intro q hq
        rcases List.mem_cons.mp hq with rfl | hq
        · exact x4
        · exact h65 q hq
      · intro u'' tk2 n1 n2 Pa' tb' rest' psV' rsV' h'' tk'' a1 a2 a3 a4 a5 a6 a7 a8 a9 a10 a11 a12
        exact ret u'' tk2 n1 n2 Pa' tb' rest' psV' rsV' h'' tk'' a1 a2 a3 a4 a5 a6 a7 a8 a9 (fun q hq => a10 q (.tail _ hq)) a11 a12
    · have o3' : @Ne Nat c0 Pa := hPa (c0, oc0) (.tail _ (.head _))
      have o4' : @Ne Nat c0 Ra := hRa (c0, oc0) (.tail _ (.head _))
      refine turn_quob B F X N T hP' hR' hPR hdp hun hlen hne (by rw [EP.len]; exact hp) (by rw [ER.len]; exact hr) p65 r65 h65 o1 o2 o3' o4' o3 h1 h2 h3 fun u' x t1 t2 tk1 h' tk' F' N' x1 x2 x3 x4 => ?_
      rw [z] at F'
      refine ih (n1 := n1 + 1) (n2 := n2) (tb := [(65, tabObj #[rawInt ((lamPos (splitLam w.params)).line : Int), rawInt ((lamPos (splitLam w.params)).col : Int), .ref c0]), (c0, oc0)]) (rest := (x, spansObj [.str (ofL ((t.take ge).drop gb)) t1, .str (ofL out) t2]) :: rest) F' (news_sub N' ?_) TB ?_ ?_ hPR ?_ (Each.snoc ⟨x, t1, _, rfl, .head _, t2, rfl⟩ (Each.mono (fun _ _ => PairIn.mono fun q hq => .tail _ hq) EP)) (Each.mono (fun _ _ => RowIn.mono fun q hq => .tail _ hq) ER) ?_
      · intro q hq; exact hq
      · intro q hq; simp only [List.cons_append, List.nil_append, List.mem_cons] at hq; rcases hq with rfl | rfl | rfl | hq
        · exact fun e => p65 e.symm
        · exact o3'
        · exact x2
        · exact hP' q hq
      · intro q hq; simp only [List.cons_append, List.nil_append, List.mem_cons] at hq; rcases hq with rfl | rfl | rfl | hq
        · exact fun e => r65 e.symm
        · exact o4'
        · exact x3
        · exact hR' q hq
      · intro q hq
        rcases List.mem_cons.mp hq with rfl | hq
        · exact x4
        · exact h65 q hq
      · intro u'' tk2 n1 n2 Pa' tb' rest' psV' rsV' h'' tk'' a1 a2 a3 a4 a5 a6 a7 a8 a9 a10 a11 a12
        exact ret u'' tk2 n1 n2 Pa' tb' rest' psV' rsV' h'' tk'' a1 a2 a3 a4 a5 a6 a7 a8 a9 (fun q hq => a10 q (.tail _ hq)) a11 a12
  | @comma t ps ps' rs rs' k hne hlen hp hr hps h1 h2 h3 _ ih =>
    intro s u tk n1 n2 Pa Ra tb rest psV rsV F N TB hPa hRa hPR h65 EP ER ret
    obtain ⟨o, ho⟩ := TB.has
    have p65 : @Ne Nat Pa 65 := fun e => hPa _ (List.mem_append_left _ ho) e.symm
    have hpsV : psV ≠ [] := by
      intro e; subst e; cases ps with
      | nil => exact hps rfl
      | cons _ _ => exact EP
    refine whl_turnK (fun s' => WhlRest prog w _ E _ _ _ [] Qw 1 s') hE (fun _ h => h) (turn_comma (rest := tb ++ rest) B F X N T hPa hRa hPR hdp hun (by omega) hne (by rw [EP.len]; exact hp) (by rw [ER.len]; exact hr) hpsV h1 h2 h3 fun u' x tk1 h' tk' F' N' x1 x2 x3 => ?_)
    refine ih (n1 := 0) (n2 := n2 + 1) (tb := tb) (rest := (Pa, listO psV n1) :: rest) (psV := []) F' (news_sub N' ?_) TB ?_ ?_ (Ne.symm x3) ?_ trivial (Each.snoc ⟨Pa, psV, n1, rfl, .head _, Each.mono (fun _ _ => PairIn.mono fun q hq => .tail _ hq) EP⟩ (Each.mono (fun _ _ => RowIn.mono fun q hq => .tail _ hq) ER)) ?_
    · intro q hq; simp only [List.mem_cons, List.mem_append] at hq ⊢; grind
    · intro q hq; simp only [List.mem_cons, List.mem_append] at hq x1; grind
    · intro q hq; simp only [List.mem_cons, List.mem_append] at hq hRa; grind
    · intro q hq
      rcases List.mem_cons.mp hq with rfl | hq
      · exact p65
      · exact h65 q hq
    · intro u'' tk2 n1 n2 Pa' tb' rest' psV' rsV' h'' tk'' a1 a2 a3 a4 a5 a6 a7 a8 a9 a10 a11 a12
      exact ret u'' tk2 n1 n2 Pa' tb' rest' psV' rsV' h'' tk'' a1 a2 a3 a4 a5 a6 a7 a8 a9 (fun q hq => a10 q (.tail _ hq)) a11 a12
  | @junk t ps ps' rs rs' k j hne hlen hp hr h1 h2 h3 h4 _ ih =>
    intro s u tk n1 n2 Pa Ra tb rest psV rsV F N TB hPa hRa hPR h65 EP ER ret
    refine whl_turnK (fun s' => WhlRest prog w _ E _ _ _ [] Qw 1 s') hE (fun _ h => h) (turn_junk (rest := tb ++ rest) B F X N T hPa hRa hPR hdp hun (by omega) hne (by rw [EP.len]; exact hp) (by rw [ER.len]; exact hr) h1 h2 h3 h4 fun u' tk1 h' tk' F' N' => ?_)
    refine ih (n1 := n1) (n2 := n2) (tb := tb) (rest := rest) F' N' TB hPa hRa hPR h65 EP ER ?_
    intro u'' tk2 n1 n2 Pa' tb' rest' psV' rsV' h'' tk'' a1 a2 a3 a4 a5 a6 a7 a8 a9 a10 a11 a12
    exact ret u'' tk2 n1 n2 Pa' tb' rest' psV' rsV' h'' tk'' a1 a2 a3 a4 a5 a6 a7 a8 a9 a10 a11 a12
end
end Mine
-- part WK
namespace Mine
open PySem PySem.W PySem.Calls PyProof.Rows PySem.Builtin
def ForRest (prog : Program) (w : World) (A : Around) (E : Value → Shared → Prop) (env : Env) (target : PySem.Expr) (body : List Stmt) (Q : Flow → Shared → Prop) (it : Value) (s : Shared) : Prop :=
  codeAny (model prog w) A (.forLoop target it body [] env) (fun r s' => match r with | .ok f => Q f s' | .error e => cameBackBy (model prog w) A env E e s') s
def ItO (o : Obj) (ax : Addr) (i : Nat) : Prop := o.cls = .type "list_iterator" ∧ o.data = .fields #[.ref ax, .int i 0]
/-- a target that a value goes into without a look at the iterator -/
def Plainly (target : PySem.Expr) (v : Value) : Prop := (∃ x pos, target = .Name x pos) ∨ ∃ elts k pos a, target = .Tuple elts k pos ∧ v = .ref a
section
variable {prog : Program} {w : World} {A : Around} {E : Value → Shared → Prop} {s : Shared} {env : Env} {target : PySem.Expr} {body : List Stmt} {Q : Flow → Shared → Prop} {it : Value}
theorem for_one (hE : PassesOwn (model prog w) A env E)
    (h : wpAny (model prog w) A (pyNext it) (fun r s₁ => match r with
      | none => Q .next s₁
      | some v => wpAny (model prog w) A (letOwnedTupleGo target it v) (fun _ s₁' =>
          wpAny (model prog w) A (assign target env v) (fun _ s₂ => wpAny (model prog w) A (execs body env) (fun f s₃ => f = .next ∧ ForRest prog w A E env target body Q it s₃) E s₂) E s₁') E s₁) E s) :
    ForRest prog w A E env target body Q it s := by
  refine codeAny_of_tree ?_
  show wpAny _ A ((forTurn target it body [] env).onRaise (fun x => do noteFrame x env; theTreesLotGoes x)) _ _ s
  refine wpAny_noted ?_
  simp only [forTurn]
  refine wpAny_bind (wpAny_standAt (wpAny_bind (wpAny_onRaise (wpAny_mono h (fun r s₁ h₁ => ?_) fun e s' h' => wpAny_standAt (hE e s' h')))))
  cases r with
  | none => exact wpAny_pure ⟨rfl, codeAny_block (wpAny_execs_nil h₁)⟩
  | some v =>
    refine wpAny_bind (wpAny_mono h₁ (fun _ s₁' h₁' => ?_) hE)
    refine wpAny_bind (wpAny_mono h₁' (fun _ s₂ h₂ => wpAny_bind (wpAny_mono h₂ (fun f s₃ h₃ => ?_) hE)) hE)
    obtain ⟨rfl, h₃⟩ := h₃
    exact wpAny_pure ⟨rfl, h₃⟩
theorem for_start {iter : PySem.Expr} {pos : Pos} (hs : ∀ x, foldedSetIterable iter env x = pure x)
    (h : wpAny (model prog w) A (eval iter env) (fun x s₁ => wpAny (model prog w) A (pyIter x) (fun it s₂ => ForRest prog w A E env target body Q it s₂) E s₁) E s) :
    wpAny (model prog w) A (exec (.For target iter body [] pos) env) Q E s := wpAny_For h hs
variable {h₀ : Heap} {L : Addr} {m : Str → Option Value} {news : List (Addr × Obj)}
theorem iter_own {ax : Addr} {vs : List Value} {n : Nat} {R : Value → Shared → Prop} (F : Fr h₀ L s.heap m) (N : News h₀ L s.heap news) (hm : (ax, listO vs n) ∈ news)
    (h : ∀ I o h', Fr h₀ L h' m → News h₀ L h' ((I, o) :: news) → ItO o ax 0 → (∀ p ∈ news, p.1 < I) → R (.ref I) { s with heap := h' }) : wpAny (model prog w) A (pyIter (.ref ax)) R E s := by
  have hl : s.heap.IsList ax vs.toArray := ⟨_, (N _ hm).1, rfl, n, rfl⟩
  refine wpAny_pyIter_list hl ?_
  exact h s.heap.objs.size _ _ (F.push _) (N.push F _) ⟨rfl, rfl⟩ fun p hp => Heap.lt_size (N p hp).1
theorem for_item {I ax : Addr} {vs : List Value} {n i : Nat} {v : Value} {o : Obj} (hE : PassesOwn (model prog w) A env E) (F : Fr h₀ L s.heap m) (N : News h₀ L s.heap ((I, o) :: news)) (ho : ItO o ax i) (hm : (ax, listO vs n) ∈ news)
    (hne : ∀ p ∈ news, p.1 ≠ I) (hv : vs[i]? = some v) (hk : Plainly target v)
    (h : ∀ h' o', Fr h₀ L h' m → News h₀ L h' ((I, o') :: news) → ItO o' ax (i + 1) →
      wpAny (model prog w) A (assign target env v) (fun _ s₂ => wpAny (model prog w) A (execs body env) (fun f s₃ => f = .next ∧ ForRest prog w A E env target body Q (.ref I) s₃) E s₂) E { s with heap := h' }) :
    ForRest prog w A E env target body Q (.ref I) s := by
  have hl : s.heap.IsList ax vs.toArray := ⟨_, (N _ (.tail _ hm)).1, rfl, n, rfl⟩
  have hI : s.heap.IsListIter I ax i := ⟨o, (N _ (.head _)).1, ho.1, ho.2⟩
  refine for_one hE (wpAny_pyNext_list_item hI hl (by simpa using hv) fun h' hI' hs => ?_)
  obtain ⟨o', ho', c1, c2⟩ := id hI'
  have F' : Fr h₀ L h' m := F.change hs (N _ (.head _)).2.1 (N _ (.head _)).2.2
  have N' : News h₀ L h' ((I, o') :: news) := N.setHead hne hs ho'
  have g := h h' o' F' N' ⟨c1, c2⟩
  rcases hk with ⟨x, pos, rfl⟩ | ⟨elts, k, pos, a, rfl, rfl⟩
  · exact wpAny_pure g
  · exact wpAny_letOwnedTupleGo_listiter hI' g
theorem for_end {I ax : Addr} {vs : List Value} {n i : Nat} {o : Obj} (hE : PassesOwn (model prog w) A env E) (hh : A.handled = none) (F : Fr h₀ L s.heap m) (N : News h₀ L s.heap ((I, o) :: news)) (ho : ItO o ax i) (hm : (ax, listO vs n) ∈ news)
    (hne : ∀ p ∈ news, p.1 ≠ I) (hv : vs[i]? = none) (h : ∀ h', Fr h₀ L h' m → News h₀ L h' news → Q .next { s with heap := h' }) : ForRest prog w A E env target body Q (.ref I) s := by
  have hl : s.heap.IsList ax vs.toArray := ⟨_, (N _ (.tail _ hm)).1, rfl, n, rfl⟩
  have hI : s.heap.IsListIter I ax i := ⟨o, (N _ (.head _)).1, ho.1, ho.2⟩
  refine for_one hE (wpAny_pyNext_list_end hh hI hl (by simpa using hv) fun h' hx => ?_)
  have hn := N _ (.head _)
  exact h h' ⟨F.ns.extBut hx hn.2.1.symm, fun b o e => hx b o (fun q => by rw [q, hn.2.2] at e; cases e) (F.keep b o e), F.above⟩ fun p hp => ⟨hx _ _ (hne p hp) (N p (.tail _ hp)).1, (N p (.tail _ hp)).2⟩
end
end Mine
-- part WL
namespace Mine
open PySem PySem.W PySem.Calls PyProof.Rows PySem.Builtin PySem.Builtin.Re
local macro_rules | `(tactic| walk_at "nothing so called") => `(tactic| skip)
theorem quiet_WL : True := by
  w_top off
  trivial
local macro_rules | `(tactic| k_mem) => `(tactic| first | assumption | exact List.Mem.head _ | (refine' List.Mem.tail _ ?_; k_mem))
local macro_rules | `(tactic| k_all) => `(tactic| first | assumption | exact ne_of_allLt (by assumption) | (refine ne_of_allLt ?_; grind))
local macro_rules | `(tactic| walk_at "call builtin:list.append") => `(tactic| (k_here; k_dflt (refine' apd ?F ?N ?U ?z ?_; (case F => k_asm); (case N => k_asm); (case U => k_upd); (case z => omega); k_whole; intro h' F' N'; (try k_sweep))))
local macro_rules | `(tactic| walk_at "getMethod ref") => `(tactic| (k_here; (with_reducible show wpAny _ _ (getMethod (Value.ref _) (Str.ofString "search") _) _ _ _); k_dflt (refine getm_pat (PatAt.keeps (by first | exact pat_tok (by assumption) | exact pat_quo (by assumption) | exact pat_val (by assumption)) (Fr.keep (by k_asm))) slot_search type_search ?_)))
local macro_rules | `(tactic| walk_at "getMethod ref") => `(tactic| (k_here; (with_reducible show wpAny _ _ (getMethod (Value.ref _) (Str.ofString "group") _) _ _ _); k_dflt (refine getm_match (News.get (by k_asm) (by k_mem)) slot_group type_group ?_)))
local macro_rules | `(tactic| walk_at "call builtin:re.Pattern.search") => `(tactic| (k_here; k_dflt (first
  | (refine' find_call ?P ?z ?f ?F ?N ?_; (case P => first | exact pat_tok (by assumption) | exact pat_quo (by assumption) | exact pat_val (by assumption)); (case f => assumption); (case z => assumption); (case F => k_asm); (case N => k_asm); k_whole; intro T' h' F' N' l1; (try k_lt l1); (try k_sweep))
  | (refine' miss_call ?P ?F ?z ?f ?_; (case P => first | exact pat_tok (by assumption) | exact pat_quo (by assumption) | exact pat_val (by assumption)); (case f => assumption); (case z => assumption); (case F => k_asm); k_whole))))
local macro_rules | `(tactic| walk_at "call builtin:re.Match.group") => `(tactic| (k_here; k_dflt (refine' group_L ?N ?m ?t ?z ?_; (case N => k_asm); (case m => k_mem); (case t => k_mem); (case z => assumption); k_whole; intro t' k')))
local macro_rules | `(tactic| walk_at "truthy str") => `(tactic| (k_here; k_dflt (first | (refine' truthy_L ?z ?n ?_; (case n => assumption); (case z => assumption); k_whole; intro k') | (refine' truthy_L0 ?n ?_; (case n => assumption); k_whole; intro k'))))
local macro_rules | `(tactic| walk_at "call ref") => `(tactic| (k_here; (with_reducible show wpAny _ _ (call (Value.ref 43) _) _ _ _); k_dflt (refine' unm_call ?B ?F ?X ?N ?T ?k ?m ?t ?d ?u ?z ?f ?_; (case B => k_asm); (case F => k_asm); (case X => k_asm); (case N => k_asm); (case T => k_asm); (case k => exact rfl); (case m => k_mem); (case t => k_mem); (case d => omega); (case u => omega); (case z => assumption); (case f => assumption); k_whole; intro t' h' k' F' N'; (try k_sweep))))
local macro_rules | `(tactic| walk_at "truthy ref") => `(tactic| (k_here; k_dflt (refine' truthy_N ?N ?m ?_; (case N => k_asm); (case m => k_mem); k_whole)))
local macro_rules | `(tactic| walk_at "getMethod ref") => `(tactic| (k_here; (with_reducible show wpAny _ _ (getMethod (Value.ref _) (Str.ofString "subn") _) _ _ _); k_dflt (refine getm_pat (PatAt.keeps (pat_junk (by assumption)) (Fr.keep (by k_asm))) slot_subn type_subn ?_)))
local macro_rules | `(tactic| walk_at "call builtin:re.Pattern.subn") => `(tactic| (k_here; k_dflt (refine' subn_call1 ?F ?N ?P ?z ?j ?_; (case F => k_asm); (case N => k_asm); (case P => exact pat_junk (by assumption)); (case z => omega); (case j => assumption); k_whole; intro y' t1' t2' h' k' F' N' l1; (try k_lt l1); (try k_sweep))))
local macro_rules | `(tactic| walk_at "call builtin:str.lstrip") => `(tactic| (k_here; k_dflt (refine' lstrip_call ?z ?j ?_; (case z => assumption); (case j => assumption); k_whole; intro t' k')))
local macro_rules | `(tactic| walk_at "call builtin:str.rstrip") => `(tactic| (k_here; k_dflt (refine' rstrip_call ?z ?j ?_; (case z => assumption); (case j => assumption); k_whole; intro t' k')))
local macro_rules | `(tactic| walk_at "call builtin:str.startswith") => `(tactic| (k_here; k_dflt (refine' starts_comma ?j ?_; (case j => assumption); k_whole)))
local macro_rules | `(tactic| walk_at "subscriptTail Call") => `(tactic| (k_here; (with_unfolding_all (refine' sl_from1 ?F ?N ?z ?e ?_ ?s ?t; (case F => k_asm); (case N => k_asm); (case z => assumption); (case e => assumption); (case s => exact rfl); (case t => exact fun _ => rfl); k_whole)); intro h' t' k' F' N'; (try k_sweep)))
local macro_rules | `(tactic| walk_at "getMethod ref") => `(tactic| (k_here; (with_reducible show wpAny _ _ (getMethod (Value.ref _) (Str.ofString "sub") _) _ _ _); k_dflt (refine getm_pat (PatAt.keeps (by first | exact pat_esc (by assumption) | exact pat_je (by assumption)) (Fr.keep (by k_asm))) slot_sub type_sub ?_)))
section
variable {prog : Program} {w : World} {p : Program} {loose : List Str} {mean : ExcName → Option Value} {mg mb : Str → Option Value} {dp un : Nat} {gd : Option (List Code)} {outer : List Env} {A₀ : Around} {base h₀ : Heap} {L : Addr} {s : Shared} {u : Str → Option Value}
    {E : Value → Shared → Prop} {Qw : Flow → Shared → Prop} {n1 n2 : Nat} {Pa Ra : Addr} {tb rest : List (Addr × Obj)} {psV rsV : List Value} {t : List Nat} {tk : Tok} {ps ps' : List Pr} {rs rs' : List (List Pr)}
theorem split_while (H : Parses t ps rs ps' rs') (B : Below A₀ base outer h₀) (X : (hd.heap_39 w.params).In h₀) (T : Top p loose mean mg mb h₀) (hdp : dp + 10 < recursionLimit) (hun : un + 40 < cLine)
    (hE : PassesOwn (model prog w) (ktrTop dp un gd "split_header_words" (splitScope w.params) L 70 (.ref 69) [] outer) (envX "split_header_words" (splitScope w.params) L 70 (.ref 69) []) E)
    (F : Fr h₀ L s.heap (kstB u [("text", .str (ofL t) tk), ("pairs", .ref Pa), ("result", .ref Ra)])) (N : News h₀ L s.heap ((Pa, listO psV n1) :: (Ra, listO rsV n2) :: (tb ++ rest))) (TB : TabOk (lamPos (splitLam w.params)) tb)
    (hPa : ∀ q ∈ tb ++ rest, q.1 ≠ Pa) (hRa : ∀ q ∈ tb ++ rest, q.1 ≠ Ra) (hPR : @Ne Nat Ra Pa) (h65 : ∀ q ∈ rest, q.1 ≠ 65) (EP : Each (PairIn rest) psV ps) (ER : Each (RowIn rest) rsV rs)
    (ret : ∀ u' tk1 n1 n2 Pa tb' rest' psV rsV h' tk', Fr h₀ L h' (kstB u' [("text", .str (ofL []) tk1), ("pairs", .ref Pa), ("result", .ref Ra)]) → News h₀ L h' ((Pa, listO psV n1) :: (Ra, listO rsV n2) :: (tb' ++ rest')) → TabOk (lamPos (splitLam w.params)) tb' →
        (∀ q ∈ tb' ++ rest', q.1 ≠ Pa) → (∀ q ∈ tb' ++ rest', q.1 ≠ Ra) → @Ne Nat Ra Pa → (∀ q ∈ rest', q.1 ≠ 65) → Each (PairIn rest') psV ps' → Each (RowIn rest') rsV rs' → (∀ q ∈ rest, q ∈ rest') → psV.length ≤ 1000 → rsV.length ≤ 1000 → (ps' = [] → psV = []) → (ps' ≠ [] → psV ≠ []) → Qw .next { s with heap := h', toks := tk' }) :
    wpAny (model prog w) (ktrTop dp un gd "split_header_words" (splitScope w.params) L 70 (.ref 69) [] outer) (exec (splitWhile w.params) (envX "split_header_words" (splitScope w.params) L 70 (.ref 69) [])) Qw E s := by
  show wpAny _ _ (exec (.While (whileTest (splitWhile w.params)) (whileBody (splitWhile w.params)) [] _) _) _ _ _
  refine whl_start 1 (split_loop H B X T hdp hun hE F N TB hPa hRa hPR h65 EP ER fun u' tk1 n1 n2 Pa tb' rest' psV rsV h' tk' F' N' b1 b2 b3 b4 b5 b6 b7 b8 b9 b10 => ret u' tk1 n1 n2 Pa tb' rest' psV rsV h' tk' F' N' b1 b2 b3 b4 b5 b6 b7 b8 b9 b10 ?_ ?_)
  · intro e; rw [e] at b6; cases psV with
    | nil => rfl
    | cons _ _ => exact b6.elim
  · intro e e'; rw [e'] at b6; cases ps' with
    | nil => exact e rfl
    | cons _ _ => exact b6.elim
end
local macro_rules | `(tactic| walk_at "exec While") => `(tactic| (k_here; k_dflt (refine' split_while ?H ?B ?X ?T ?d ?u ?hE ?F ?N ?TB ?a ?b ?c ?e ?EP ?ER ?_; (case H => assumption); (case B => k_asm); (case X => k_asm); (case T => k_asm); (case d => omega); (case u => omega); (case F => exact fr_canon _ (by assumption) (List.forall_mem_cons.mpr ⟨by with_unfolding_all rfl, List.forall_mem_cons.mpr ⟨by with_unfolding_all rfl, List.forall_mem_cons.mpr ⟨by with_unfolding_all rfl, List.forall_mem_nil _⟩⟩⟩)); (case N => k_asm); (case TB => assumption); (case a => k_all); (case b => assumption); (case c => k_ne); (case e => assumption); (case EP => exact trivial); (case ER => assumption); (case hE => assumption); k_whole); intro u' tk1' n1' n2' Pa' tb' rest' psV' rsV' h' tk' F' N' b1' b2' b3' b4' b5' b6' b7' b8' b9' b10' b11' b12'; (first | (have hz' := b12' (by assumption)) | (have hz' := b11' (by assumption))); clear b11' b12'))
section
variable {prog : Program} {w : World} {p : Program} {loose : List Str} {mean : ExcName → Option Value} {mg mb : Str → Option Value} {dp un : Nat} {gd : Option (List Code)} {outer : List Env} {A₀ : Around} {base h₀ : Heap} {L : Addr} {s : Shared} {u : Str → Option Value}
    {E : Value → Shared → Prop} {Qw : Flow → Shared → Prop} {n2 : Nat} {Ra : Addr} {tb rest : List (Addr × Obj)} {rsV : List Value} {t : List Nat} {tk : Tok} {K : Shared → Prop} {ps' : List Pr} {rs rs' : List (List Pr)} {pos : Pos}
/-- one text of the list: with pairs left at its end -/
theorem split_texta (H : Parses t [] rs ps' rs') (hps : ps' ≠ []) (B : Below A₀ base outer h₀) (X : (hd.heap_39 w.params).In h₀) (T : Top p loose mean mg mb h₀) (hdp : dp + 10 < recursionLimit) (hun : un + 40 < cLine)
    (hE : PassesOwn (model prog w) (ktrTop dp un gd "split_header_words" (splitScope w.params) L 70 (.ref 69) [] outer) (envX "split_header_words" (splitScope w.params) L 70 (.ref 69) []) E)
    (F : Fr h₀ L s.heap (kstB u [("result", .ref Ra)])) (N : News h₀ L s.heap ((Ra, listO rsV n2) :: (tb ++ rest))) (TB : TabOk (lamPos (splitLam w.params)) tb) (hRa : ∀ q ∈ tb ++ rest, q.1 ≠ Ra) (h65 : ∀ q ∈ rest, q.1 ≠ 65) (ER : Each (RowIn rest) rsV rs)
    (ret : ∀ u' n2 tb' rest' rsV h' tk', Fr h₀ L h' (kstB u' [("result", .ref Ra)]) → News h₀ L h' ((Ra, listO rsV n2) :: (tb' ++ rest')) → TabOk (lamPos (splitLam w.params)) tb' →
        (∀ q ∈ tb' ++ rest', q.1 ≠ Ra) → (∀ q ∈ rest', q.1 ≠ 65) → Each (RowIn rest') rsV (rs' ++ [ps']) → (∀ q ∈ rest, q ∈ rest') → K { s with heap := h', toks := tk' }) :
    wpAny (model prog w) (ktrTop dp un gd "split_header_words" (splitScope w.params) L 70 (.ref 69) [] outer) (assign (.Name "text" pos) (envX "split_header_words" (splitScope w.params) L 70 (.ref 69) []) (.str (ofL t) tk)) (fun _ s₂ => wpAny (model prog w) (ktrTop dp un gd "split_header_words" (splitScope w.params) L 70 (.ref 69) [] outer) (execs (forBody (splitFor w.params)) (envX "split_header_words" (splitScope w.params) L 70 (.ref 69) [])) (fun f s' => f = .next ∧ K s') E s₂) E s := by
  have ex1 : forBody (splitFor w.params) = forBody (splitFor w.params) := rfl
  conv at ex1 => rhs; whnf
  have ex3 : splitScope w.params = splitScope w.params := rfl
  conv at ex3 => rhs; whnf
  rw [ex1, ex3]
  rw [ex3] at hE
  clear ex1 ex3
  have hps0 := hps
  k_steps
  all_goals (try k_data)
  rename_i tk1 n1' n2' Pa2 tb2 rest2 psV2 rsV2 h2 tk2 b1 b2 b3 b4 b5 b6 b7 b8 b9 b10 hz tkx hx F2 N2
  have p65 : @Ne Nat Pa2 65 := by
    obtain ⟨o, ho⟩ := b1.has
    exact fun e => b2 _ (List.mem_append_left _ ho) e.symm
  refine ret _ (n2' + 1) tb2 ((Pa2, listO psV2 n1') :: rest2) (rsV2 ++ [.ref Pa2]) _ _ (fr_canon _ F2 (List.forall_mem_cons.mpr ⟨by with_unfolding_all rfl, List.forall_mem_nil _⟩)) (news_sub N2 ?_) b1 ?_ ?_ (Each.snoc ⟨Pa2, psV2, n1', rfl, .head _, Each.mono (fun _ _ => PairIn.mono fun q hq => .tail _ hq) b6⟩ (Each.mono (fun _ _ => RowIn.mono fun q hq => .tail _ hq) b7)) (fun q hq => .tail _ (b8 q hq))
  · intro q hq; simp only [List.mem_cons, List.mem_append] at hq ⊢; grind
  · intro q hq; simp only [List.mem_cons, List.mem_append] at hq b3; grind
  · intro q hq
    rcases List.mem_cons.mp hq with rfl | hq
    · exact p65
    · exact b5 q hq
end
section
variable {prog : Program} {w : World} {p : Program} {loose : List Str} {mean : ExcName → Option Value} {mg mb : Str → Option Value} {dp un : Nat} {gd : Option (List Code)} {outer : List Env} {A₀ : Around} {base h₀ : Heap} {L : Addr} {s : Shared} {u : Str → Option Value}
    {E : Value → Shared → Prop} {Qw : Flow → Shared → Prop} {n2 : Nat} {Ra : Addr} {tb rest : List (Addr × Obj)} {rsV : List Value} {t : List Nat} {tk : Tok} {K : Shared → Prop} {ps' : List Pr} {rs rs' : List (List Pr)} {pos : Pos}
/-- one text of the list: with nothing left at its end -/
theorem split_textb (H : Parses t [] rs ps' rs') (hps : ps' = []) (B : Below A₀ base outer h₀) (X : (hd.heap_39 w.params).In h₀) (T : Top p loose mean mg mb h₀) (hdp : dp + 10 < recursionLimit) (hun : un + 40 < cLine)
    (hE : PassesOwn (model prog w) (ktrTop dp un gd "split_header_words" (splitScope w.params) L 70 (.ref 69) [] outer) (envX "split_header_words" (splitScope w.params) L 70 (.ref 69) []) E)
    (F : Fr h₀ L s.heap (kstB u [("result", .ref Ra)])) (N : News h₀ L s.heap ((Ra, listO rsV n2) :: (tb ++ rest))) (TB : TabOk (lamPos (splitLam w.params)) tb) (hRa : ∀ q ∈ tb ++ rest, q.1 ≠ Ra) (h65 : ∀ q ∈ rest, q.1 ≠ 65) (ER : Each (RowIn rest) rsV rs)
    (ret : ∀ u' n2 tb' rest' rsV h' tk', Fr h₀ L h' (kstB u' [("result", .ref Ra)]) → News h₀ L h' ((Ra, listO rsV n2) :: (tb' ++ rest')) → TabOk (lamPos (splitLam w.params)) tb' →
        (∀ q ∈ tb' ++ rest', q.1 ≠ Ra) → (∀ q ∈ rest', q.1 ≠ 65) → Each (RowIn rest') rsV rs' → (∀ q ∈ rest, q ∈ rest') → K { s with heap := h', toks := tk' }) :
    wpAny (model prog w) (ktrTop dp un gd "split_header_words" (splitScope w.params) L 70 (.ref 69) [] outer) (assign (.Name "text" pos) (envX "split_header_words" (splitScope w.params) L 70 (.ref 69) []) (.str (ofL t) tk)) (fun _ s₂ => wpAny (model prog w) (ktrTop dp un gd "split_header_words" (splitScope w.params) L 70 (.ref 69) [] outer) (execs (forBody (splitFor w.params)) (envX "split_header_words" (splitScope w.params) L 70 (.ref 69) [])) (fun f s' => f = .next ∧ K s') E s₂) E s := by
  have ex1 : forBody (splitFor w.params) = forBody (splitFor w.params) := rfl
  conv at ex1 => rhs; whnf
  have ex3 : splitScope w.params = splitScope w.params := rfl
  conv at ex3 => rhs; whnf
  rw [ex1, ex3]
  rw [ex3] at hE
  clear ex1 ex3
  have hps0 := hps
  k_steps
  all_goals (try k_data)
  rename_i tk1 n1' n2' Pa2 tb2 rest2 psV2 rsV2 h2 tk2 F2 N2 b1 b2 b3 b4 b5 b6 b7 b8 b9 b10 hz
  exact ret _ n2' tb2 rest2 rsV2 _ _ (fr_canon _ F2 (List.forall_mem_cons.mpr ⟨by with_unfolding_all rfl, List.forall_mem_nil _⟩)) (news_tail N2) b1 b3 b5 b7 b8
end
end Mine
-- part WM
namespace Mine
open PySem PySem.W PySem.Calls PyProof.Rows PySem.Builtin
def off (I : Addr) (l : List (Addr × Obj)) : List (Addr × Obj) := l.filter fun q => !(Nat.beq q.1 I)
theorem mem_off {I : Addr} {l : List (Addr × Obj)} {q : Addr × Obj} : q ∈ off I l ↔ q ∈ l ∧ q.1 ≠ I := by
  unfold off
  rw [List.mem_filter]
  refine and_congr_right fun _ => ?_
  rw [Bool.not_eq_true', Bool.eq_false_iff]
  exact not_congr (Iff.of_eq Nat.beq_eq)
theorem off_append {I : Addr} {l l' : List (Addr × Obj)} : off I (l ++ l') = off I l ++ off I l' := by unfold off; rw [List.filter_append]
theorem off_eq {I : Addr} {l : List (Addr × Obj)} (h : ∀ q ∈ l, q.1 ≠ I) : off I l = l := by
  unfold off; rw [List.filter_eq_self]
  intro q hq
  rw [Bool.not_eq_true', Bool.eq_false_iff]
  exact fun e => h q hq ((Iff.of_eq Nat.beq_eq).mp e)
section
variable {h₀ h : Heap} {L I : Addr} {l l' : List (Addr × Obj)} {o : Obj}
theorem news_uniq (N : News h₀ L h l) {a : Addr} {o o' : Obj} (h1 : (a, o) ∈ l) (h2 : (a, o') ∈ l) : o = o' := Option.some.inj ((N _ h1).1.symm.trans (N _ h2).1)
theorem mem_off_of {x : Addr} {ob : Obj} (N : News h₀ L h l) (hI : (I, o) ∈ l) (hs : ∀ q ∈ l', q ∈ l) (hx : (x, ob) ∈ l') (hc : ob.cls ≠ o.cls) : (x, ob) ∈ off I l' :=
  mem_off.mpr ⟨hx, fun e => hc (by rw [show x = I from e] at hx; rw [news_uniq N (hs _ hx) hI])⟩
theorem ItO.ne_tup {ax : Addr} {i : Nat} (ho : ItO o ax i) (vs : List Value) : (spansObj vs).cls ≠ o.cls := by rw [ho.1]; intro e; injection e with e; revert e; decide
theorem ItO.ne_lst {ax : Addr} {i : Nat} (ho : ItO o ax i) (vs : List Value) (n : Nat) : (listO vs n).cls ≠ o.cls := by rw [ho.1]; intro e; injection e with e; revert e; decide
theorem PairIn.off {v : Value} {p : Pr} {ax : Addr} {i : Nat} (N : News h₀ L h l) (hI : (I, o) ∈ l) (ho : ItO o ax i) (hs : ∀ q ∈ l', q ∈ l) : PairIn l' v p → PairIn (off I l') v p
  | ⟨x, t, v2, a, b, c⟩ => ⟨x, t, v2, a, mem_off_of N hI hs b (ho.ne_tup _), c⟩
theorem RowIn.off {v : Value} {p : List Pr} {ax : Addr} {i : Nat} (N : News h₀ L h l) (hI : (I, o) ∈ l) (ho : ItO o ax i) (hs : ∀ q ∈ l', q ∈ l) : RowIn l' v p → RowIn (off I l') v p
  | ⟨x, vs, n, a, b, c⟩ => ⟨x, vs, n, a, mem_off_of N hI hs b (ho.ne_lst _ _), Each.mono (fun _ _ => PairIn.off N hI ho hs) c⟩
theorem TabOk.off {pos : Pos} {tb : List (Addr × Obj)} {ax : Addr} {i : Nat} (N : News h₀ L h l) (hI : (I, o) ∈ l) (ho : ItO o ax i) (hs : ∀ q ∈ tb, q ∈ l) (h65 : @Ne Nat I 65) : TabOk pos tb → off I tb = tb
  | .inl e => by
    refine off_eq fun q hq => ?_
    rw [e] at hq
    rcases List.mem_singleton.mp hq with rfl
    exact fun e => h65 e.symm
  | .inr ⟨c, oc, vs, t9, e, e1, e2, e3⟩ => by
    refine off_eq fun q hq => ?_
    have hq' := hq
    rw [e] at hq'
    rcases List.mem_cons.mp hq' with rfl | hq'
    · exact fun e => h65 e.symm
    · rcases List.mem_singleton.mp hq' with rfl
      intro e'
      have e' : c = I := e'
      subst e'
      have := news_uniq N (hs _ hq) hI
      subst this
      rw [ho.2] at e1
      injection e1 with e1
      rw [← e1] at e2
      simp at e2
end
section
variable {prog : Program} {w : World} {A : Around} {E : Value → Shared → Prop} {s : Shared} {env : Env} {target : PySem.Expr} {body : List Stmt} {Q : Flow → Shared → Prop} {h₀ : Heap} {L : Addr} {m : Str → Option Value} {news : List (Addr × Obj)}
theorem for_itemO {I ax : Addr} {vs : List Value} {n i : Nat} {v : Value} {o : Obj} (hE : PassesOwn (model prog w) A env E) (F : Fr h₀ L s.heap m) (N : News h₀ L s.heap news) (hI : (I, o) ∈ news) (ho : ItO o ax i) (hm : (ax, listO vs n) ∈ news)
    (hv : vs[i]? = some v) (hk : Plainly target v)
    (h : ∀ h' o', Fr h₀ L h' m → News h₀ L h' ((I, o') :: off I news) → ItO o' ax (i + 1) →
      wpAny (model prog w) A (assign target env v) (fun _ s₂ => wpAny (model prog w) A (execs body env) (fun f s₃ => f = .next ∧ ForRest prog w A E env target body Q (.ref I) s₃) E s₂) E { s with heap := h' }) :
    ForRest prog w A E env target body Q (.ref I) s := by
  refine for_item (news := off I news) hE F (fun q hq => ?_) ho (mem_off_of N hI (fun _ x => x) hm (ho.ne_lst _ _)) (fun q hq => (mem_off.mp hq).2) hv hk h
  rcases List.mem_cons.mp hq with rfl | hq
  · exact N _ hI
  · exact N _ (mem_off.mp hq).1
theorem for_endO {I ax : Addr} {vs : List Value} {n i : Nat} {o : Obj} (hE : PassesOwn (model prog w) A env E) (hh : A.handled = none) (F : Fr h₀ L s.heap m) (N : News h₀ L s.heap news) (hI : (I, o) ∈ news) (ho : ItO o ax i) (hm : (ax, listO vs n) ∈ news)
    (hv : vs[i]? = none) (h : ∀ h', Fr h₀ L h' m → News h₀ L h' (off I news) → Q .next { s with heap := h' }) : ForRest prog w A E env target body Q (.ref I) s := by
  refine for_end (news := off I news) hE hh F (fun q hq => ?_) ho (mem_off_of N hI (fun _ x => x) hm (ho.ne_lst _ _)) (fun q hq => (mem_off.mp hq).2) hv h
  rcases List.mem_cons.mp hq with rfl | hq
  · exact N _ hI
  · exact N _ (mem_off.mp hq).1
end
def rowsOf (ps : List Pr) (rs : List (List Pr)) : List (List Pr) := match ps with
  | [] => rs
  | p :: r => rs ++ [p :: r]
/-- what the for loop makes of the texts -/
inductive SplitAll : List (List Nat) → List (List Pr) → List (List Pr) → Prop
  | nil {rs : List (List Pr)} : SplitAll [] rs rs
  | cons {t : List Nat} {ts : List (List Nat)} {ps : List Pr} {rs rs' rs'' : List (List Pr)} : Parses t [] rs ps rs' → SplitAll ts (rowsOf ps rs') rs'' → SplitAll (t :: ts) rs rs''
def TextIs (v : Value) (t : List Nat) : Prop := ∃ tk, v = .str (ofL t) tk
section
variable {prog : Program} {w : World} {p : Program} {loose : List Str} {mean : ExcName → Option Value} {mg mb : Str → Option Value} {dp un : Nat} {gd : Option (List Code)} {outer : List Env} {A₀ : Around} {base h₀ : Heap} {L : Addr}
    {E : Value → Shared → Prop} {Qw : Flow → Shared → Prop} {ax I : Addr} {vs : List Value} {n : Nat} {pos : Pos} {Ra : Addr} {kp : List (Addr × Obj)} {rs'' : List (List Pr)}
theorem split_rest (B : Below A₀ base outer h₀) (X : (hd.heap_39 w.params).In h₀) (T : Top p loose mean mg mb h₀) (hdp : dp + 10 < recursionLimit) (hun : un + 40 < cLine)
    (hE : PassesOwn (model prog w) (ktrTop dp un gd "split_header_words" (splitScope w.params) L 70 (.ref 69) [] outer) (envX "split_header_words" (splitScope w.params) L 70 (.ref 69) []) E)
    (hh : (ktrTop dp un gd "split_header_words" (splitScope w.params) L 70 (.ref 69) [] outer).handled = none) :
    ∀ {ts : List (List Nat)} {i : Nat} {s : Shared} {u : Str → Option Value} {n2 : Nat} {tb rest : List (Addr × Obj)} {rsV : List Value} {rs : List (List Pr)} {o : Obj}
      (_ : Each TextIs (vs.drop i) ts) (_ : SplitAll ts rs rs'')
      (_ : Fr h₀ L s.heap (kstB u [("result", .ref Ra)])) (_ : News h₀ L s.heap ((Ra, listO rsV n2) :: (tb ++ rest))) (_ : TabOk (lamPos (splitLam w.params)) tb) (_ : ∀ q ∈ tb ++ rest, q.1 ≠ Ra) (_ : ∀ q ∈ rest, q.1 ≠ 65) (_ : Each (RowIn rest) rsV rs)
      (_ : (I, o) ∈ rest) (_ : ItO o ax i) (_ : (ax, listO vs n) ∈ rest) (_ : ∀ q ∈ kp, q ∈ rest ∧ q.1 ≠ I)
      (_ : ∀ u' n2 tb' rest' rsV h' tk', Fr h₀ L h' (kstB u' [("result", .ref Ra)]) → News h₀ L h' ((Ra, listO rsV n2) :: (tb' ++ rest')) → TabOk (lamPos (splitLam w.params)) tb' →
        (∀ q ∈ tb' ++ rest', q.1 ≠ Ra) → (∀ q ∈ rest', q.1 ≠ 65) → Each (RowIn rest') rsV rs'' → (∀ q ∈ kp, q ∈ rest') → Qw .next { s with heap := h', toks := tk' }),
      ForRest prog w (ktrTop dp un gd "split_header_words" (splitScope w.params) L 70 (.ref 69) [] outer) E (envX "split_header_words" (splitScope w.params) L 70 (.ref 69) []) (.Name "text" pos) (forBody (splitFor w.params)) Qw (.ref I) s := by
  intro ts
  induction ts with
  | nil =>
    intro i s u n2 tb rest rsV rs o hvs hS F N TB hRa h65 ER hI ho hm hk ret
    cases hS
    have hv : vs[i]? = none := by
      cases hd : vs.drop i with
      | nil => rw [List.drop_eq_nil_iff] at hd; simpa using hd
      | cons a b => rw [hd] at hvs; exact hvs.elim
    have hIn : (I, o) ∈ (Ra, listO rsV n2) :: (tb ++ rest) := .tail _ (List.mem_append_right _ hI)
    have i65 : @Ne Nat I 65 := h65 _ hI
    have hs1 : ∀ q ∈ rest, q ∈ (Ra, listO rsV n2) :: (tb ++ rest) := fun q hq => .tail _ (List.mem_append_right _ hq)
    refine for_endO hE hh F N hIn ho (hs1 _ hm) hv fun h' F' N' => ?_
    have tbo := TB.off N hIn ho (fun q hq => .tail _ (List.mem_append_left _ hq)) i65
    refine ret u n2 tb (off I rest) rsV h' s.toks F' (news_sub N' fun q hq => ?_) TB (fun q hq => ?_) (fun q hq => h65 q (mem_off.mp hq).1) (Each.mono (fun _ _ => RowIn.off N hIn ho hs1) ER) (fun q hq => mem_off.mpr (hk q hq))
    · rcases List.mem_cons.mp hq with rfl | hq
      · exact mem_off.mpr ⟨.head _, fun e => hRa _ (List.mem_append_right _ hI) e.symm⟩
      · rcases List.mem_append.mp hq with hq | hq
        · rw [← tbo] at hq; exact mem_off.mpr ⟨.tail _ (List.mem_append_left _ (mem_off.mp hq).1), (mem_off.mp hq).2⟩
        · exact mem_off.mpr ⟨.tail _ (List.mem_append_right _ (mem_off.mp hq).1), (mem_off.mp hq).2⟩
    · rcases List.mem_append.mp hq with hq | hq
      · exact hRa q (List.mem_append_left _ hq)
      · exact hRa q (List.mem_append_right _ (mem_off.mp hq).1)
  | cons t ts ih =>
    intro i s u n2 tb rest rsV rs o hvs hS F N TB hRa h65 ER hI ho hm hk ret
    cases hS with
    | @cons _ _ ps' _ rs' _ HP HS =>
    obtain ⟨v, hv, hvs', tk, rfl⟩ : ∃ v, vs[i]? = some v ∧ Each TextIs (vs.drop (i + 1)) ts ∧ TextIs v t := by
      cases hd : vs.drop i with
      | nil => rw [hd] at hvs; exact hvs.elim
      | cons a b =>
        rw [hd] at hvs
        have e1 : vs[i]? = some a := by
          have : (vs.drop i)[0]? = some a := by rw [hd]; rfl
          rwa [List.getElem?_drop, Nat.add_zero] at this
        have e2 : vs.drop (i + 1) = b := by rw [← List.drop_drop, hd]; rfl
        exact ⟨a, e1, by rw [e2]; exact hvs.2, hvs.1⟩
    have hIn : (I, o) ∈ (Ra, listO rsV n2) :: (tb ++ rest) := .tail _ (List.mem_append_right _ hI)
    have i65 : @Ne Nat I 65 := h65 _ hI
    have hs1 : ∀ q ∈ rest, q ∈ (Ra, listO rsV n2) :: (tb ++ rest) := fun q hq => .tail _ (List.mem_append_right _ hq)
    have tbo := TB.off N hIn ho (fun q hq => .tail _ (List.mem_append_left _ hq)) i65
    refine for_itemO hE F N hIn ho (hs1 _ hm) hv (.inl ⟨_, _, rfl⟩) fun h' o' F' N' ho' => ?_
    have N2 : News h₀ L h' ((Ra, listO rsV n2) :: (tb ++ (I, o') :: off I rest)) := by
      refine news_sub N' fun q hq => ?_
      rcases List.mem_cons.mp hq with rfl | hq
      · exact .tail _ (mem_off.mpr ⟨.head _, fun e => hRa _ (List.mem_append_right _ hI) e.symm⟩)
      · rcases List.mem_append.mp hq with hq | hq
        · rw [← tbo] at hq; exact .tail _ (mem_off.mpr ⟨.tail _ (List.mem_append_left _ (mem_off.mp hq).1), (mem_off.mp hq).2⟩)
        · rcases List.mem_cons.mp hq with rfl | hq
          · exact .head _
          · exact .tail _ (mem_off.mpr ⟨.tail _ (List.mem_append_right _ (mem_off.mp hq).1), (mem_off.mp hq).2⟩)
    have R2 : ∀ q ∈ tb ++ (I, o') :: off I rest, q.1 ≠ Ra := fun q hq => by
      rcases List.mem_append.mp hq with hq | hq
      · exact hRa q (List.mem_append_left _ hq)
      · rcases List.mem_cons.mp hq with rfl | hq
        · exact hRa (I, o) (List.mem_append_right _ hI)
        · exact hRa q (List.mem_append_right _ (mem_off.mp hq).1)
    have T2 : ∀ q ∈ (I, o') :: off I rest, q.1 ≠ 65 := fun q hq => by
      rcases List.mem_cons.mp hq with rfl | hq
      · exact i65
      · exact h65 q (mem_off.mp hq).1
    have E2 : Each (RowIn ((I, o') :: off I rest)) rsV rs := Each.mono (fun _ _ z => RowIn.mono (fun q hq => .tail _ hq) (RowIn.off N hIn ho hs1 z)) ER
    have m2 : (ax, listO vs n) ∈ off I rest := mem_off_of N hIn hs1 hm (ho.ne_lst _ _)
    have fin : ∀ u' n2 tb' rest' rsV h'' tk', Fr h₀ L h'' (kstB u' [("result", .ref Ra)]) → News h₀ L h'' ((Ra, listO rsV n2) :: (tb' ++ rest')) → TabOk (lamPos (splitLam w.params)) tb' →
        (∀ q ∈ tb' ++ rest', q.1 ≠ Ra) → (∀ q ∈ rest', q.1 ≠ 65) → Each (RowIn rest') rsV (rowsOf ps' rs') → (∀ q ∈ (I, o') :: off I rest, q ∈ rest') →
        ForRest prog w (ktrTop dp un gd "split_header_words" (splitScope w.params) L 70 (.ref 69) [] outer) E (envX "split_header_words" (splitScope w.params) L 70 (.ref 69) []) (.Name "text" pos) (forBody (splitFor w.params)) Qw (.ref I) { s with heap := h'', toks := tk' } := by
      intro u' n2 tb' rest' rsV h'' tk' a1 a2 a3 a4 a5 a6 a7
      refine ih hvs' HS a1 a2 a3 a4 a5 a6 (a7 _ (.head _)) ho' (a7 _ (.tail _ m2)) (fun q hq => ⟨a7 _ (.tail _ (mem_off.mpr (hk q hq))), (hk q hq).2⟩) ret
    cases ps' with
    | nil => exact split_textb (K := fun s' => ForRest prog w _ E _ _ _ Qw (.ref I) s') HP rfl B X T hdp hun hE F' N2 TB R2 T2 E2 fin
    | cons p0 r0 => exact split_texta (K := fun s' => ForRest prog w _ E _ _ _ Qw (.ref I) s') HP (by simp) B X T hdp hun hE F' N2 TB R2 T2 E2 fin
end
end Mine
-- part WN
namespace Mine
open PySem PySem.W PySem.Calls PyProof.Rows PySem.Builtin PySem.Builtin.Re
local macro_rules | `(tactic| walk_at "nothing so called") => `(tactic| skip)
theorem quiet_WN : True := by
  w_top off
  trivial
local macro_rules | `(tactic| k_mem) => `(tactic| first | assumption | exact List.Mem.head _ | (refine' List.Mem.tail _ ?_; k_mem))
local macro_rules | `(tactic| k_all) => `(tactic| first | assumption | exact ne_of_allLt (by assumption) | (refine ne_of_allLt ?_; grind))
local macro_rules | `(tactic| walk_at "call builtin:list.append") => `(tactic| (k_here; k_dflt (refine' apd ?F ?N ?U ?z ?_; (case F => k_asm); (case N => k_asm); (case U => k_upd); (case z => omega); k_whole; intro h' F' N'; (try k_sweep))))
local macro_rules | `(tactic| walk_at "getMethod ref") => `(tactic| (k_here; (with_reducible show wpAny _ _ (getMethod (Value.ref _) (Str.ofString "search") _) _ _ _); k_dflt (refine getm_pat (PatAt.keeps (by first | exact pat_tok (by assumption) | exact pat_quo (by assumption) | exact pat_val (by assumption)) (Fr.keep (by k_asm))) slot_search type_search ?_)))
local macro_rules | `(tactic| walk_at "getMethod ref") => `(tactic| (k_here; (with_reducible show wpAny _ _ (getMethod (Value.ref _) (Str.ofString "group") _) _ _ _); k_dflt (refine getm_match (News.get (by k_asm) (by k_mem)) slot_group type_group ?_)))
local macro_rules | `(tactic| walk_at "call builtin:re.Pattern.search") => `(tactic| (k_here; k_dflt (first
  | (refine' find_call ?P ?z ?f ?F ?N ?_; (case P => first | exact pat_tok (by assumption) | exact pat_quo (by assumption) | exact pat_val (by assumption)); (case f => assumption); (case z => assumption); (case F => k_asm); (case N => k_asm); k_whole; intro T' h' F' N' l1; (try k_lt l1); (try k_sweep))
  | (refine' miss_call ?P ?F ?z ?f ?_; (case P => first | exact pat_tok (by assumption) | exact pat_quo (by assumption) | exact pat_val (by assumption)); (case f => assumption); (case z => assumption); (case F => k_asm); k_whole))))
local macro_rules | `(tactic| walk_at "call builtin:re.Match.group") => `(tactic| (k_here; k_dflt (refine' group_L ?N ?m ?t ?z ?_; (case N => k_asm); (case m => k_mem); (case t => k_mem); (case z => assumption); k_whole; intro t' k')))
local macro_rules | `(tactic| walk_at "truthy str") => `(tactic| (k_here; k_dflt (first | (refine' truthy_L ?z ?n ?_; (case n => assumption); (case z => assumption); k_whole; intro k') | (refine' truthy_L0 ?n ?_; (case n => assumption); k_whole; intro k'))))
local macro_rules | `(tactic| walk_at "call ref") => `(tactic| (k_here; (with_reducible show wpAny _ _ (call (Value.ref 43) _) _ _ _); k_dflt (refine' unm_call ?B ?F ?X ?N ?T ?k ?m ?t ?d ?u ?z ?f ?_; (case B => k_asm); (case F => k_asm); (case X => k_asm); (case N => k_asm); (case T => k_asm); (case k => exact rfl); (case m => k_mem); (case t => k_mem); (case d => omega); (case u => omega); (case z => assumption); (case f => assumption); k_whole; intro t' h' k' F' N'; (try k_sweep))))
local macro_rules | `(tactic| walk_at "truthy ref") => `(tactic| (k_here; k_dflt (refine' truthy_N ?N ?m ?_; (case N => k_asm); (case m => k_mem); k_whole)))
local macro_rules | `(tactic| walk_at "getMethod ref") => `(tactic| (k_here; (with_reducible show wpAny _ _ (getMethod (Value.ref _) (Str.ofString "subn") _) _ _ _); k_dflt (refine getm_pat (PatAt.keeps (pat_junk (by assumption)) (Fr.keep (by k_asm))) slot_subn type_subn ?_)))
local macro_rules | `(tactic| walk_at "call builtin:re.Pattern.subn") => `(tactic| (k_here; k_dflt (refine' subn_call1 ?F ?N ?P ?z ?j ?_; (case F => k_asm); (case N => k_asm); (case P => exact pat_junk (by assumption)); (case z => omega); (case j => assumption); k_whole; intro y' t1' t2' h' k' F' N' l1; (try k_lt l1); (try k_sweep))))
local macro_rules | `(tactic| walk_at "call builtin:str.lstrip") => `(tactic| (k_here; k_dflt (refine' lstrip_call ?z ?j ?_; (case z => assumption); (case j => assumption); k_whole; intro t' k')))
local macro_rules | `(tactic| walk_at "call builtin:str.rstrip") => `(tactic| (k_here; k_dflt (refine' rstrip_call ?z ?j ?_; (case z => assumption); (case j => assumption); k_whole; intro t' k')))
local macro_rules | `(tactic| walk_at "call builtin:str.startswith") => `(tactic| (k_here; k_dflt (refine' starts_comma ?j ?_; (case j => assumption); k_whole)))
local macro_rules | `(tactic| walk_at "subscriptTail Call") => `(tactic| (k_here; (with_unfolding_all (refine' sl_from1 ?F ?N ?z ?e ?_ ?s ?t; (case F => k_asm); (case N => k_asm); (case z => assumption); (case e => assumption); (case s => exact rfl); (case t => exact fun _ => rfl); k_whole)); intro h' t' k' F' N'; (try k_sweep)))
local macro_rules | `(tactic| walk_at "getMethod ref") => `(tactic| (k_here; (with_reducible show wpAny _ _ (getMethod (Value.ref _) (Str.ofString "sub") _) _ _ _); k_dflt (refine getm_pat (PatAt.keeps (by first | exact pat_esc (by assumption) | exact pat_je (by assumption)) (Fr.keep (by k_asm))) slot_sub type_sub ?_)))
local macro_rules | `(tactic| walk_at "exec For Name Name cons nil") => `(tactic| (k_here; k_dflt (refine' for_start ?a ?_; (case a => exact fun _ => rfl); k_whole)))
local macro_rules | `(tactic| walk_at "pyIter ref") => `(tactic| (k_here; k_dflt (refine' iter_own ?F ?N ?m ?_; (case F => k_asm); (case N => k_asm); (case m => k_mem); k_whole); intro I' o' h' F' N' d' l1; (try k_lt l1)))
section
variable {prog : Program} {w : World} {p : Program} {loose : List Str} {mean : ExcName → Option Value} {mg mb : Str → Option Value} {dp un : Nat} {gd : Option (List Code)} {cn : Str} {cs : Scope} {a : Addr} {ccd : Value} {cl : List (Str × Addr)} {outer : List Env} {A₀ : Around} {base h₀ : Heap} {L : Addr} {m : Str → Option Value} {s : Shared}
    {Q E : Value → Shared → Prop} {ax : Addr} {vs : List Value} {n : Nat} {tb rest : List (Addr × Obj)} {ts : List (List Nat)} {rs : List (List Pr)}
theorem split_call (B : Below A₀ base outer h₀) (F : Fr h₀ L s.heap m) (X : (hd.heap_39 w.params).In h₀) (N : News h₀ L s.heap (tb ++ rest)) (T : Top p loose mean mg mb h₀) (hk : cs.kind = .function)
    (TB : TabOk (lamPos (splitLam w.params)) tb) (h65 : ∀ q ∈ rest, q.1 ≠ 65) (hm : (ax, listO vs n) ∈ rest) (hts : Each TextIs vs ts) (hS : SplitAll ts [] rs) (hdp : dp + 20 < recursionLimit) (hun : un + 60 < cLine)
    (hret : ∀ Ra n2 tb' rest' rsV h' tk', Fr h₀ L h' m → News h₀ L h' ((Ra, listO rsV n2) :: (tb' ++ rest')) → TabOk (lamPos (splitLam w.params)) tb' →
        (∀ q ∈ tb' ++ rest', q.1 ≠ Ra) → (∀ q ∈ rest', q.1 ≠ 65) → Each (RowIn rest') rsV rs → (∀ q ∈ rest, q ∈ rest') → Q (.ref Ra) { s with heap := h', toks := tk' }) :
    wpAny (model prog w) (ktrTop dp un gd cn cs L a ccd cl outer) (call (.ref 70) [.ref ax]) Q E s := by
  have hm2 : (ax, listO vs n) ∈ tb ++ rest := List.mem_append_right _ hm
  refine wpAny_call ?_
  k_dflt ktr_enter
  k_steps
  rename_i tkA tkB Ra h2 l0 h1 F1 N1 I' o' h' F' N' d' l1
  have r0 : ∀ q ∈ tb ++ rest, q.1 ≠ Ra := fun q hq => Nat.ne_of_lt (l0 q hq)
  have i0 : ∀ q ∈ tb ++ rest, q.1 ≠ I' := ne_of_allLt l1.2
  obtain ⟨ot, hot⟩ := TB.has
  have ra65 : @Ne Nat I' 65 := fun e => i0 _ (List.mem_append_left _ hot) e.symm
  refine split_rest (rs := []) (rsV := []) (n2 := 0) (kp := rest) (tb := tb) (rest := (I', o') :: rest) (vs := vs) (n := n) (ts := ts) (i := 0) (by assumption) (by assumption) (by assumption) ?hd ?hu ?hE rfl hts hS (fr_canon _ F' (List.forall_mem_cons.mpr ⟨by with_unfolding_all rfl, List.forall_mem_nil _⟩)) (news_sub N' ?hs) TB ?hR ?h65 trivial (.head _) d' (.tail _ hm) ?hk ?_
  case hd => ktr_room
  case hu => ktr_room
  case hE => first | passes_own | with_unfolding_all passes_own
  case hs =>
    intro q hq
    simp only [List.mem_cons, List.mem_append] at hq ⊢
    grind
  case hR =>
    intro q hq
    simp only [List.mem_cons, List.mem_append] at hq r0
    rcases hq with hq | rfl | hq
    · exact r0 q (.inl hq)
    · exact Nat.ne_of_gt l1.1
    · exact r0 q (.inr hq)
  case h65 =>
    intro q hq
    rcases List.mem_cons.mp hq with rfl | hq
    · exact ra65
    · exact h65 q hq
  case hk => exact fun q hq => ⟨.tail _ hq, i0 q (List.mem_append_right _ hq)⟩
  intro u' n2 tb' rest' rsV h'' tk' F2 N2 b1 b2 b3 b4 b5
  clear N' F' N1 F1
  k_steps
  exact hret Ra n2 tb' rest' rsV _ _ (by assumption) (by assumption) b1 b2 b3 b4 b5
end
end Mine
-- part WO
namespace Mine
open PySem PySem.W PySem.Calls PyProof.Rows PySem.Builtin PySem.Builtin.Re
theorem quiet_WO : True := by
  w_top off
  trivial
local macro_rules | `(tactic| k_mem) => `(tactic| first | assumption | exact List.Mem.head _ | (refine' List.Mem.tail _ ?_; k_mem))
local macro_rules | `(tactic| k_all) => `(tactic| first | assumption | exact ne_of_allLt (by assumption) | (refine ne_of_allLt ?_; grind))
local macro_rules | `(tactic| walk_at "call builtin:list.append") => `(tactic| (k_here; k_dflt (refine' apd ?F ?N ?U ?z ?_; (case F => k_asm); (case N => k_asm); (case U => k_upd); (case z => omega); k_whole; intro h' F' N'; (try k_sweep))))
local macro_rules | `(tactic| walk_at "getMethod ref") => `(tactic| (k_here; (with_reducible show wpAny _ _ (getMethod (Value.ref _) (Str.ofString "search") _) _ _ _); k_dflt (refine getm_pat (PatAt.keeps (by first | exact pat_tok (by assumption) | exact pat_quo (by assumption) | exact pat_val (by assumption)) (Fr.keep (by k_asm))) slot_search type_search ?_)))
local macro_rules | `(tactic| walk_at "getMethod ref") => `(tactic| (k_here; (with_reducible show wpAny _ _ (getMethod (Value.ref _) (Str.ofString "group") _) _ _ _); k_dflt (refine getm_match (News.get (by k_asm) (by k_mem)) slot_group type_group ?_)))
local macro_rules | `(tactic| walk_at "call builtin:re.Pattern.search") => `(tactic| (k_here; k_dflt (first
  | (refine' find_call ?P ?z ?f ?F ?N ?_; (case P => first | exact pat_tok (by assumption) | exact pat_quo (by assumption) | exact pat_val (by assumption)); (case f => assumption); (case z => assumption); (case F => k_asm); (case N => k_asm); k_whole; intro T' h' F' N' l1; (try k_lt l1); (try k_sweep))
  | (refine' miss_call ?P ?F ?z ?f ?_; (case P => first | exact pat_tok (by assumption) | exact pat_quo (by assumption) | exact pat_val (by assumption)); (case f => assumption); (case z => assumption); (case F => k_asm); k_whole))))
local macro_rules | `(tactic| walk_at "call builtin:re.Match.group") => `(tactic| (k_here; k_dflt (refine' group_L ?N ?m ?t ?z ?_; (case N => k_asm); (case m => k_mem); (case t => k_mem); (case z => assumption); k_whole; intro t' k')))
local macro_rules | `(tactic| walk_at "truthy str") => `(tactic| (k_here; k_dflt (first | (refine' truthy_L ?z ?n ?_; (case n => assumption); (case z => assumption); k_whole; intro k') | (refine' truthy_L0 ?n ?_; (case n => assumption); k_whole; intro k'))))
local macro_rules | `(tactic| walk_at "call ref") => `(tactic| (k_here; (with_reducible show wpAny _ _ (call (Value.ref 43) _) _ _ _); k_dflt (refine' unm_call ?B ?F ?X ?N ?T ?k ?m ?t ?d ?u ?z ?f ?_; (case B => k_asm); (case F => k_asm); (case X => k_asm); (case N => k_asm); (case T => k_asm); (case k => exact rfl); (case m => k_mem); (case t => k_mem); (case d => omega); (case u => omega); (case z => assumption); (case f => assumption); k_whole; intro t' h' k' F' N'; (try k_sweep))))
local macro_rules | `(tactic| walk_at "truthy ref") => `(tactic| (k_here; k_dflt (refine' truthy_N ?N ?m ?_; (case N => k_asm); (case m => k_mem); k_whole)))
local macro_rules | `(tactic| walk_at "getMethod ref") => `(tactic| (k_here; (with_reducible show wpAny _ _ (getMethod (Value.ref _) (Str.ofString "subn") _) _ _ _); k_dflt (refine getm_pat (PatAt.keeps (pat_junk (by assumption)) (Fr.keep (by k_asm))) slot_subn type_subn ?_)))
local macro_rules | `(tactic| walk_at "call builtin:re.Pattern.subn") => `(tactic| (k_here; k_dflt (refine' subn_call1 ?F ?N ?P ?z ?j ?_; (case F => k_asm); (case N => k_asm); (case P => exact pat_junk (by assumption)); (case z => omega); (case j => assumption); k_whole; intro y' t1' t2' h' k' F' N' l1; (try k_lt l1); (try k_sweep))))
local macro_rules | `(tactic| walk_at "call builtin:str.lstrip") => `(tactic| (k_here; k_dflt (refine' lstrip_call ?z ?j ?_; (case z => assumption); (case j => assumption); k_whole; intro t' k')))
local macro_rules | `(tactic| walk_at "call builtin:str.rstrip") => `(tactic| (k_here; k_dflt (refine' rstrip_call ?z ?j ?_; (case z => assumption); (case j => assumption); k_whole; intro t' k')))
local macro_rules | `(tactic| walk_at "call builtin:str.startswith") => `(tactic| (k_here; k_dflt (refine' starts_comma ?j ?_; (case j => assumption); k_whole)))
local macro_rules | `(tactic| walk_at "subscriptTail Call") => `(tactic| (k_here; (with_unfolding_all (refine' sl_from1 ?F ?N ?z ?e ?_ ?s ?t; (case F => k_asm); (case N => k_asm); (case z => assumption); (case e => assumption); (case s => exact rfl); (case t => exact fun _ => rfl); k_whole)); intro h' t' k' F' N'; (try k_sweep)))
local macro_rules | `(tactic| walk_at "getMethod ref") => `(tactic| (k_here; (with_reducible show wpAny _ _ (getMethod (Value.ref _) (Str.ofString "sub") _) _ _ _); k_dflt (refine getm_pat (PatAt.keeps (by first | exact pat_esc (by assumption) | exact pat_je (by assumption)) (Fr.keep (by k_asm))) slot_sub type_sub ?_)))
local macro_rules | `(tactic| walk_at "call builtin:re.Pattern.sub") => `(tactic| (k_here; k_dflt (refine' sub_split ?B ?F ?X ?N ?T ?k ?hf ?e1 ?e2 ?e3 ?hc ?hod ?hov ?d ?u ?z ?S ?_; (case B => k_asm); (case F => k_asm); (case X => k_asm); (case N => k_asm); (case T => k_asm); (case k => exact rfl); (case hf => k_mem); (case e1 => exact rfl); (case e2 => exact rfl); (case e3 => exact rfl); (case hod => assumption); (case hov => assumption); (case hc => k_mem); (case d => omega); (case u => omega); (case z => assumption); (case S => assumption); k_whole; intro t' h' k' F' N'; (try k_sweep))))
noncomputable section
noncomputable def joinScope (P : Params) : Scope := (fnOfTop P 87).scope
noncomputable def joinFor (P : Params) : Stmt := nthS 1 (stmtsOf (fnOfTop P 87))
noncomputable def joinFor2 (P : Params) : Stmt := nthS 1 (forBody (joinFor P))
def joinLam (P : Params) : Expr := arg0 (asgVal (nthS 0 (ifThen (nthS 0 (ifThen (nthS 0 (forBody (joinFor2 P))))))))
end
abbrev joinQual : Str := (Str.ofString "join_header_words" ++ Str.ofString ".<locals>.") ++ Str.ofString "<lambda>"
section
variable {prog : Program} {w : World} {A : Around} {E : Value → Shared → Prop} {s : Shared} {Q : Value → Shared → Prop}
theorem add_b {g : List Nat} {t u : Tok} (h : ∀ t' tk, Q (.str (ofL ([92] ++ g)) t') { s with toks := tk }) (hsz : g.length ≤ 1000000) : wpAny (model prog w) A (binaryOp .Add (.str (Str.ofString "\\") t) (.str (ofL g) u)) Q E s :=
  add_L (a := [92]) (b := g) h (by simp; omega)
end
local macro_rules | `(tactic| walk_at "binaryOp Add str str") => `(tactic| (k_here; k_dflt (refine' add_b ?_ ?z; (case z => assumption); k_whole); intro t' k'))
theorem lam_join {prog : Program} {w : World} {p : Program} {loose : List Str} {mean : ExcName → Option Value} {mg mb : Str → Option Value} {dp un : Nat} {gd : Option (List Code)} {cn : Str} {cs : Scope} {a : Addr} {ccd : Value} {cl : List (Str × Addr)} {outer : List Env} {A₀ : Around} {base h₀ : Heap} {L : Addr} {m : Str → Option Value} {news : List (Addr × Obj)} {s : Shared}
    {Q E : Value → Shared → Prop} {x f c' pp Tt : Addr} {l : List Nat} {tk t9 : Tok} {lim b e gb ge : Nat} {qual : Str} {pm ctv : Value} {oc : Obj} {vs : Array Value}
    (B : Below A₀ base outer h₀) (F : Fr h₀ L s.heap m) (X : (hd.heap_39 w.params).In h₀) (N : News h₀ L s.heap news) (T : Top p loose mean mg mb h₀) (hk : cs.kind = .function)
    (hf : (f, kla_obj "<lambda>" qual (lamParams (joinLam w.params)) (lamBody (joinLam w.params)) (lamScope (joinLam w.params)) [] pm c' ctv) ∈ news) (hc : (c', oc) ∈ news) (hod : oc.data = .fields vs) (hov : vs[1]? = some (.str qual t9))
    (hm : (x, matchObj (.str (ofL l) tk) pp lim 1 Tt) ∈ news) (ht : (Tt, spansObj [rawInt b, rawInt e, rawInt gb, rawInt ge]) ∈ news) (hdp : dp + 2 < recursionLimit) (hun : un + 20 < cLine)
    (hsz : l.length ≤ 1048576) (hg : (l.take ge).drop gb ≠ []) (hgl : ((l.take ge).drop gb).length ≤ 1048576) (hgl2 : ((l.take ge).drop gb).length ≤ 1000000)
    (hret : ∀ t' h' tk', Fr h₀ L h' m → News h₀ L h' news → Q (.str (ofL ([92] ++ (l.take ge).drop gb)) t') { s with heap := h', toks := tk' }) :
    wpAny (model prog w) (ktrTop dp un gd cn cs L a ccd cl outer) (call (.ref f) [.ref x]) Q E s := by
  have ex1 : lamParams (joinLam w.params) = lamParams (joinLam w.params) := rfl
  conv at ex1 => rhs; whnf
  have ex2 : lamBody (joinLam w.params) = lamBody (joinLam w.params) := rfl
  conv at ex2 => rhs; whnf
  have ex3 : lamScope (joinLam w.params) = lamScope (joinLam w.params) := rfl
  conv at ex3 => rhs; whnf
  rw [ex1, ex2, ex3] at hf
  clear ex1 ex2 ex3
  refine wpAny_call ?_
  k_dflt (refine' kla_code B F X N T ?kA ?kF ?kK hf ?k7 ?k8 ?k9 ?kB ?_ ?c2 ?c3 ?c4 ?c5; (case kA => exact rfl); (case kF => exact rfl); (case kK => exact hk); (case k7 => exact codeRec_news N hc hod hov); (case k8 => (show dp < recursionLimit; omega)); (case k9 => exact rfl); (case c5 => decide); (case kB => exact locs rfl); (case c2 => exact rfl); (case c3 => exact rfl); (case c4 => exact rfl); k_whole; intro g' L' h' FG' F' N' B' X' T'; (try dsimp only); (try k_fold))
  k_steps
  all_goals (try k_data)
  exact hret _ _ _ (by assumption) (by assumption)
theorem sub_join {prog : Program} {w : World} {p : Program} {loose : List Str} {mean : ExcName → Option Value} {mg mb : Str → Option Value} {dp un : Nat} {gd : Option (List Code)} {cn : Str} {cs : Scope} {a : Addr} {ccd : Value} {cl : List (Str × Addr)} {outer : List Env} {A₀ : Around} {base h₀ : Heap} {L : Addr} {m : Str → Option Value} {news : List (Addr × Obj)} {s : Shared}
    {Q E : Value → Shared → Prop} {f c' : Addr} {l out : List Nat} {tk t9 : Tok} {qual : Str} {pm ctv : Value} {oc : Obj} {vs : Array Value} {params : Arguments} {body : Expr} {scope : Scope}
    (B : Below A₀ base outer h₀) (F : Fr h₀ L s.heap m) (X : (hd.heap_39 w.params).In h₀) (N : News h₀ L s.heap news) (T : Top p loose mean mg mb h₀) (hk : cs.kind = .function)
    (hf : (f, kla_obj "<lambda>" qual params body scope [] pm c' ctv) ∈ news) (e1 : lamParams (joinLam w.params) = params) (e2 : lamBody (joinLam w.params) = body) (e3 : lamScope (joinLam w.params) = scope)
    (hc : (c', oc) ∈ news) (hod : oc.data = .fields vs) (hov : vs[1]? = some (.str qual t9)) (hdp : dp + 2 < recursionLimit) (hun : un + 21 < cLine)
    (hsz : l.length ≤ 200000) (hS : SubOne jeCode [92] l out)
    (hret : ∀ t' h' tk', Fr h₀ L h' m → News h₀ L h' news → Q (.str (ofL out) t') { s with heap := h', toks := tk' }) :
    wpAny (model prog w) (ktrTop dp un gd cn cs L a ccd cl outer) (call (.builtin "re.Pattern.sub") [.ref 80, .ref f, .str (ofL l) tk]) Q E s := by
  subst e1 e2 e3
  refine sub_call F N (pat_je X) hsz (by decide) hf hS (fun b₀ e₀ gb ge lim T' nw h' kk hg hge F' N' hsub hlt => ?_) hret
  refine lam_join (un := un + 1) (s := { s with heap := h', toks := kk }) (news := (T' + 1, matchObj (.str (ofL l) tk) 80 lim 1 T') :: (T', spansObj [rawInt b₀, rawInt e₀, rawInt gb, rawInt ge]) :: nw) B F' X N' T hk (.tail _ (.tail _ (hsub _ hf))) (.tail _ (.tail _ (hsub _ hc))) hod hov (.head _) (.tail _ (.head _)) hdp (by omega) (by omega) ?_ ?_ ?_ fun t' h2 tk' F2 N2 => ?_
  · intro e; have e' := congrArg List.length e; rw [List.length_drop, List.length_take] at e'; simp at e'; omega
  · rw [List.length_drop, List.length_take]; omega
  · rw [List.length_drop, List.length_take]; omega
  · exact ⟨t', h2, tk', rfl, rfl, F2, news_tail (news_tail N2)⟩
end Mine
-- part WP
namespace Mine
open PySem PySem.W PySem.Calls PyProof.Rows PySem.Builtin PySem.Builtin.Re
theorem quiet_WP : True := by
  w_top off
  trivial
local macro_rules | `(tactic| k_mem) => `(tactic| first | assumption | exact List.Mem.head _ | (refine' List.Mem.tail _ ?_; k_mem))
local macro_rules | `(tactic| k_all) => `(tactic| first | assumption | exact ne_of_allLt (by assumption) | (refine ne_of_allLt ?_; grind))
local macro_rules | `(tactic| walk_at "call builtin:list.append") => `(tactic| (k_here; k_dflt (refine' apd ?F ?N ?U ?z ?_; (case F => k_asm); (case N => k_asm); (case U => k_upd); (case z => omega); k_whole; intro h' F' N'; (try k_sweep))))
local macro_rules | `(tactic| walk_at "getMethod ref") => `(tactic| (k_here; (with_reducible show wpAny _ _ (getMethod (Value.ref _) (Str.ofString "search") _) _ _ _); k_dflt (refine getm_pat (PatAt.keeps (by first | exact pat_tok (by assumption) | exact pat_quo (by assumption) | exact pat_val (by assumption)) (Fr.keep (by k_asm))) slot_search type_search ?_)))
local macro_rules | `(tactic| walk_at "getMethod ref") => `(tactic| (k_here; (with_reducible show wpAny _ _ (getMethod (Value.ref _) (Str.ofString "group") _) _ _ _); k_dflt (refine getm_match (News.get (by k_asm) (by k_mem)) slot_group type_group ?_)))
local macro_rules | `(tactic| walk_at "call builtin:re.Pattern.search") => `(tactic| (k_here; k_dflt (first
  | (refine' find_call ?P ?z ?f ?F ?N ?_; (case P => first | exact pat_tok (by assumption) | exact pat_quo (by assumption) | exact pat_val (by assumption)); (case f => assumption); (case z => assumption); (case F => k_asm); (case N => k_asm); k_whole; intro T' h' F' N' l1; (try k_lt l1); (try k_sweep))
  | (refine' miss_call ?P ?F ?z ?f ?_; (case P => first | exact pat_tok (by assumption) | exact pat_quo (by assumption) | exact pat_val (by assumption)); (case f => assumption); (case z => assumption); (case F => k_asm); k_whole))))
local macro_rules | `(tactic| walk_at "call builtin:re.Match.group") => `(tactic| (k_here; k_dflt (refine' group_L ?N ?m ?t ?z ?_; (case N => k_asm); (case m => k_mem); (case t => k_mem); (case z => assumption); k_whole; intro t' k')))
local macro_rules | `(tactic| walk_at "truthy str") => `(tactic| (k_here; k_dflt (first | (refine' truthy_L ?z ?n ?_; (case n => assumption); (case z => assumption); k_whole; intro k') | (refine' truthy_L0 ?n ?_; (case n => assumption); k_whole; intro k'))))
local macro_rules | `(tactic| walk_at "call ref") => `(tactic| (k_here; (with_reducible show wpAny _ _ (call (Value.ref 43) _) _ _ _); k_dflt (refine' unm_call ?B ?F ?X ?N ?T ?k ?m ?t ?d ?u ?z ?f ?_; (case B => k_asm); (case F => k_asm); (case X => k_asm); (case N => k_asm); (case T => k_asm); (case k => exact rfl); (case m => k_mem); (case t => k_mem); (case d => omega); (case u => omega); (case z => assumption); (case f => assumption); k_whole; intro t' h' k' F' N'; (try k_sweep))))
local macro_rules | `(tactic| walk_at "truthy ref") => `(tactic| (k_here; k_dflt (refine' truthy_N ?N ?m ?_; (case N => k_asm); (case m => k_mem); k_whole)))
local macro_rules | `(tactic| walk_at "getMethod ref") => `(tactic| (k_here; (with_reducible show wpAny _ _ (getMethod (Value.ref _) (Str.ofString "subn") _) _ _ _); k_dflt (refine getm_pat (PatAt.keeps (pat_junk (by assumption)) (Fr.keep (by k_asm))) slot_subn type_subn ?_)))
local macro_rules | `(tactic| walk_at "call builtin:re.Pattern.subn") => `(tactic| (k_here; k_dflt (refine' subn_call1 ?F ?N ?P ?z ?j ?_; (case F => k_asm); (case N => k_asm); (case P => exact pat_junk (by assumption)); (case z => omega); (case j => assumption); k_whole; intro y' t1' t2' h' k' F' N' l1; (try k_lt l1); (try k_sweep))))
local macro_rules | `(tactic| walk_at "call builtin:str.lstrip") => `(tactic| (k_here; k_dflt (refine' lstrip_call ?z ?j ?_; (case z => assumption); (case j => assumption); k_whole; intro t' k')))
local macro_rules | `(tactic| walk_at "call builtin:str.rstrip") => `(tactic| (k_here; k_dflt (refine' rstrip_call ?z ?j ?_; (case z => assumption); (case j => assumption); k_whole; intro t' k')))
local macro_rules | `(tactic| walk_at "call builtin:str.startswith") => `(tactic| (k_here; k_dflt (refine' starts_comma ?j ?_; (case j => assumption); k_whole)))
local macro_rules | `(tactic| walk_at "subscriptTail Call") => `(tactic| (k_here; (with_unfolding_all (refine' sl_from1 ?F ?N ?z ?e ?_ ?s ?t; (case F => k_asm); (case N => k_asm); (case z => assumption); (case e => assumption); (case s => exact rfl); (case t => exact fun _ => rfl); k_whole)); intro h' t' k' F' N'; (try k_sweep)))
local macro_rules | `(tactic| walk_at "getMethod ref") => `(tactic| (k_here; (with_reducible show wpAny _ _ (getMethod (Value.ref _) (Str.ofString "sub") _) _ _ _); k_dflt (refine getm_pat (PatAt.keeps (by first | exact pat_esc (by assumption) | exact pat_je (by assumption)) (Fr.keep (by k_asm))) slot_sub type_sub ?_)))
def FullYes (l : List Nat) : Prop := ∃ k b e, k < 2 ^ 64 ∧ EndsIn k (Sre.forMatch jtCode l.toArray 0 0 l.length true false) (Found0 b e)
def FullNo (l : List Nat) : Prop := ∃ k, k < 2 ^ 64 ∧ EndsIn k (Sre.forMatch jtCode l.toArray 0 0 l.length true false) Failed
section
variable {prog : Program} {w : World} {A : Around} {E : Value → Shared → Prop} {s : Shared} {h₀ : Heap} {L : Addr} {m : Str → Option Value} {news : List (Addr × Obj)} {p : Addr} {x : List Nat} {tk : Tok} {Q : Value → Shared → Prop}
theorem fully_call (P₀ : PatAt h₀ p jtCode 0) (hx : x.length ≤ 1048576) (hf : FullYes x) (F : Fr h₀ L s.heap m) (N : News h₀ L s.heap news)
    (q : ∀ T h', Fr h₀ L h' m → News h₀ L h' ((T + 1, matchObj (.str (ofL x) tk) p x.length (-1) T) :: news) → (∀ r ∈ news, r.1 < T) → Q (.ref (T + 1)) { s with heap := h' }) :
    wpAny (model prog w) A (call (.builtin "re.Pattern.fullmatch") [.ref p, .str (ofL x) tk]) Q E s := by
  obtain ⟨k, b, e, hk, he⟩ := hf
  exact full_yes P₀ hx he hk F N fun T h' F' N' l => q T h' F' (fun r hr => (List.mem_cons.mp hr).elim (fun z => N' r (z ▸ .head _)) fun z => N' r (.tail _ (.tail _ z))) l
theorem fulln_call (P₀ : PatAt h₀ p jtCode 0) (F : Fr h₀ L s.heap m) (hx : x.length ≤ 1048576) (hf : FullNo x) (q : Q .none s) :
    wpAny (model prog w) A (call (.builtin "re.Pattern.fullmatch") [.ref p, .str (ofL x) tk]) Q E s := by
  obtain ⟨k, hk, he⟩ := hf
  exact full_no P₀ F hx he hk q
end
theorem emp_ofL : Str.empty = ofL [] := rfl
theorem eq_ofL : Str.ofString "=" = ofL [61] := by decide +kernel
section
variable {prog : Program} {w : World} {A : Around} {E : Value → Shared → Prop} {s : Shared} {Q : Value → Shared → Prop}
theorem mod_quo {y : List Nat} {t u : Tok} (hy : y.length ≤ 3000) (h : ∀ z t' k, z = 34 :: (y ++ [34]) → z.length ≤ 4000 → Q (.str (ofL z) t') { s with toks := k }) : wpAny (model prog w) A (binaryOp .Mod (.str (Str.ofString "\"%s\"") t) (.str (ofL y) u)) Q E s := by
  refine' KPc.mod_str (y := ofL y) ?kpcF ?kpcl ?kpcm ?_
  case kpcF => kpc_eq
  case kpcl => rw [len_ofL]; omega
  case kpcm => k_dflt kpc_run_s
  intro t' k
  have e : Str.ofString "\"" = ofL [34] := by decide +kernel
  rw [e, ofL_append, ofL_append]
  exact h _ t' k rfl (by simp; omega)
theorem join_nilL {env : Env} {out : Str} {l : List Nat} (e : out = ofL l) (hl : l.length ≤ 1000000) (h : ∀ t k, Q (.str (ofL l) t) { s with toks := k }) : wpAny (model prog w) A (joinParts out (evalEach [] env)) Q E s := by
  subst e
  refine joinParts_nilE (joinParts_nil (h _ _) ?_)
  rw [len_ofL, sizeLine_eq]; omega
end
end Mine
-- part JT1
namespace Mine
open PySem PySem.W PySem.Calls PyProof.Rows PySem.Builtin PySem.Builtin.Re
theorem quiet_JT1 : True := by
  w_top off
  trivial
local macro_rules | `(tactic| k_mem) => `(tactic| first | assumption | exact List.Mem.head _ | (refine' List.Mem.tail _ ?_; k_mem))
local macro_rules | `(tactic| k_all) => `(tactic| first | assumption | exact ne_of_allLt (by assumption) | (refine ne_of_allLt ?_; grind))
local macro_rules | `(tactic| walk_at "call builtin:list.append") => `(tactic| (k_here; k_dflt (refine' apd ?F ?N ?U ?z ?_; (case F => k_asm); (case N => k_asm); (case U => k_upd); (case z => omega); k_whole; intro h' F' N'; (try k_sweep))))
local macro_rules | `(tactic| walk_at "getMethod ref") => `(tactic| (k_here; (with_reducible show wpAny _ _ (getMethod (Value.ref _) (Str.ofString "search") _) _ _ _); k_dflt (refine getm_pat (PatAt.keeps (by first | exact pat_tok (by assumption) | exact pat_quo (by assumption) | exact pat_val (by assumption)) (Fr.keep (by k_asm))) slot_search type_search ?_)))
local macro_rules | `(tactic| walk_at "getMethod ref") => `(tactic| (k_here; (with_reducible show wpAny _ _ (getMethod (Value.ref _) (Str.ofString "group") _) _ _ _); k_dflt (refine getm_match (News.get (by k_asm) (by k_mem)) slot_group type_group ?_)))
local macro_rules | `(tactic| walk_at "call builtin:re.Pattern.search") => `(tactic| (k_here; k_dflt (first
  | (refine' find_call ?P ?z ?f ?F ?N ?_; (case P => first | exact pat_tok (by assumption) | exact pat_quo (by assumption) | exact pat_val (by assumption)); (case f => assumption); (case z => assumption); (case F => k_asm); (case N => k_asm); k_whole; intro T' h' F' N' l1; (try k_lt l1); (try k_sweep))
  | (refine' miss_call ?P ?F ?z ?f ?_; (case P => first | exact pat_tok (by assumption) | exact pat_quo (by assumption) | exact pat_val (by assumption)); (case f => assumption); (case z => assumption); (case F => k_asm); k_whole))))
local macro_rules | `(tactic| walk_at "call builtin:re.Match.group") => `(tactic| (k_here; k_dflt (refine' group_L ?N ?m ?t ?z ?_; (case N => k_asm); (case m => k_mem); (case t => k_mem); (case z => assumption); k_whole; intro t' k')))
local macro_rules | `(tactic| walk_at "truthy str") => `(tactic| (k_here; k_dflt (first | (refine' truthy_L ?z ?n ?_; (case n => assumption); (case z => assumption); k_whole; intro k') | (refine' truthy_L0 ?n ?_; (case n => assumption); k_whole; intro k'))))
local macro_rules | `(tactic| walk_at "call ref") => `(tactic| (k_here; (with_reducible show wpAny _ _ (call (Value.ref 43) _) _ _ _); k_dflt (refine' unm_call ?B ?F ?X ?N ?T ?k ?m ?t ?d ?u ?z ?f ?_; (case B => k_asm); (case F => k_asm); (case X => k_asm); (case N => k_asm); (case T => k_asm); (case k => exact rfl); (case m => k_mem); (case t => k_mem); (case d => omega); (case u => omega); (case z => assumption); (case f => assumption); k_whole; intro t' h' k' F' N'; (try k_sweep))))
local macro_rules | `(tactic| walk_at "truthy ref") => `(tactic| (k_here; k_dflt (refine' truthy_N ?N ?m ?_; (case N => k_asm); (case m => k_mem); k_whole)))
local macro_rules | `(tactic| walk_at "getMethod ref") => `(tactic| (k_here; (with_reducible show wpAny _ _ (getMethod (Value.ref _) (Str.ofString "subn") _) _ _ _); k_dflt (refine getm_pat (PatAt.keeps (pat_junk (by assumption)) (Fr.keep (by k_asm))) slot_subn type_subn ?_)))
local macro_rules | `(tactic| walk_at "call builtin:re.Pattern.subn") => `(tactic| (k_here; k_dflt (refine' subn_call1 ?F ?N ?P ?z ?j ?_; (case F => k_asm); (case N => k_asm); (case P => exact pat_junk (by assumption)); (case z => omega); (case j => assumption); k_whole; intro y' t1' t2' h' k' F' N' l1; (try k_lt l1); (try k_sweep))))
local macro_rules | `(tactic| walk_at "call builtin:str.lstrip") => `(tactic| (k_here; k_dflt (refine' lstrip_call ?z ?j ?_; (case z => assumption); (case j => assumption); k_whole; intro t' k')))
local macro_rules | `(tactic| walk_at "call builtin:str.rstrip") => `(tactic| (k_here; k_dflt (refine' rstrip_call ?z ?j ?_; (case z => assumption); (case j => assumption); k_whole; intro t' k')))
local macro_rules | `(tactic| walk_at "call builtin:str.startswith") => `(tactic| (k_here; k_dflt (refine' starts_comma ?j ?_; (case j => assumption); k_whole)))
local macro_rules | `(tactic| walk_at "subscriptTail Call") => `(tactic| (k_here; (with_unfolding_all (refine' sl_from1 ?F ?N ?z ?e ?_ ?s ?t; (case F => k_asm); (case N => k_asm); (case z => assumption); (case e => assumption); (case s => exact rfl); (case t => exact fun _ => rfl); k_whole)); intro h' t' k' F' N'; (try k_sweep)))
local macro_rules | `(tactic| walk_at "getMethod ref") => `(tactic| (k_here; (with_reducible show wpAny _ _ (getMethod (Value.ref _) (Str.ofString "sub") _) _ _ _); k_dflt (refine getm_pat (PatAt.keeps (by first | exact pat_esc (by assumption) | exact pat_je (by assumption)) (Fr.keep (by k_asm))) slot_sub type_sub ?_)))
local macro_rules | `(tactic| walk_at "exec For Name Name cons nil") => `(tactic| (k_here; k_dflt (refine' for_start ?a ?_; (case a => exact fun _ => rfl); k_whole)))
local macro_rules | `(tactic| walk_at "pyIter ref") => `(tactic| (k_here; k_dflt (refine' iter_own ?F ?N ?m ?_; (case F => k_asm); (case N => k_asm); (case m => k_mem); k_whole); intro I' o' h' F' N' d' l1; (try k_lt l1)))
local macro_rules | `(tactic| walk_at "call builtin:re.Pattern.sub") => `(tactic| (k_here; k_dflt (refine' sub_split ?B ?F ?X ?N ?T ?k ?hf ?e1 ?e2 ?e3 ?hc ?hod ?hov ?d ?u ?z ?S ?_; (case B => k_asm); (case F => k_asm); (case X => k_asm); (case N => k_asm); (case T => k_asm); (case k => exact rfl); (case hf => k_mem); (case e1 => exact rfl); (case e2 => exact rfl); (case e3 => exact rfl); (case hod => assumption); (case hov => assumption); (case hc => k_mem); (case d => omega); (case u => omega); (case z => assumption); (case S => assumption); k_whole; intro t' h' k' F' N'; (try k_sweep))))
local macro_rules | `(tactic| walk_at "getMethod ref") => `(tactic| (k_here; (with_reducible show wpAny _ _ (getMethod (Value.ref _) (Str.ofString "fullmatch") _) _ _ _); k_dflt (refine getm_pat (PatAt.keeps (pat_jt (by assumption)) (Fr.keep (by k_asm))) slot_fullmatch type_fullmatch ?_)))
local macro_rules | `(tactic| walk_at "call builtin:re.Pattern.fullmatch") => `(tactic| (k_here; k_dflt (first
  | (refine' fully_call ?P ?z ?f ?F ?N ?_; (case P => exact pat_jt (by assumption)); (case f => assumption); (case z => assumption); (case F => k_asm); (case N => k_asm); k_whole; intro T' h' F' N' l1; (try k_lt l1); (try k_sweep))
  | (refine' fulln_call ?P ?F ?z ?f ?_; (case P => exact pat_jt (by assumption)); (case f => assumption); (case z => assumption); (case F => k_asm); k_whole))))
local macro_rules | `(tactic| walk_at "call builtin:re.Pattern.sub") => `(tactic| (k_here; k_dflt (refine' sub_join ?B ?F ?X ?N ?T ?k ?hf ?e1 ?e2 ?e3 ?hc ?hod ?hov ?d ?u ?z ?S ?_; (case B => k_asm); (case F => k_asm); (case X => k_asm); (case N => k_asm); (case T => k_asm); (case k => exact rfl); (case hf => k_mem); (case e1 => exact rfl); (case e2 => exact rfl); (case e3 => exact rfl); (case hod => assumption); (case hov => assumption); (case hc => k_mem); (case d => omega); (case u => omega); (case z => assumption); (case S => assumption); k_whole; intro t' h' k' F' N'; (try k_sweep))))
local macro_rules | `(tactic| walk_at "And") => `(tactic| ((with_reducible show PySem.Str.length (_ ++ _) ≤ sizeLine ∧ wpAny _ _ (joinParts _ _) _ _ _); refine ⟨by (simp only [emp_ofL, eq_ofL, ofL_append, len_ofL, List.length_append, List.length_cons, List.length_nil, sizeLine_eq]; omega), ?_⟩))
local macro_rules | `(tactic| walk_at "joinParts") => `(tactic| ((with_reducible refine' join_nilL ?je ?jl ?_); (case je => (simp only [emp_ofL, eq_ofL, ofL_append]; exact rfl)); (case jl => (simp only [List.length_append, List.length_cons, List.length_nil]; omega)); intro t' k'))
local macro_rules | `(tactic| walk_at "binaryOp Mod str str") => `(tactic| (k_here; k_dflt (refine' mod_quo ?z ?_; (case z => assumption); k_whole); intro z' t' k' e' l'))
section
variable {prog : Program} {w : World} {p : Program} {loose : List Str} {mean : ExcName → Option Value} {mg mb : Str → Option Value} {dp un : Nat} {gd : Option (List Code)} {outer : List Env} {A₀ : Around} {base h₀ : Heap} {L : Addr} {s : Shared} {u : Str → Option Value}
    {E : Value → Shared → Prop} {Qw : Flow → Shared → Prop} {n1 : Nat} {At x : Addr} {rest : List (Addr × Obj)} {asV : List Value} {nm val out : List Nat} {tn tv : Tok} {K : Shared → Prop} {k1 : Nat} {pt pk pv : Pos}
/-- a pair without a value -/
theorem jturn_none {Ha : Addr}
    (B : Below A₀ base outer h₀) (F : Fr h₀ L s.heap (kstB u [("attr", .ref At), ("headers", .ref Ha)])) (X : (hd.heap_39 w.params).In h₀) (N : News h₀ L s.heap ((At, listO asV n1) :: rest)) (T : Top p loose mean mg mb h₀)
    (hA : ∀ q ∈ rest, q.1 ≠ At) (hx : (x, spansObj [.str (ofL nm) tn, .none]) ∈ rest) (hdp : dp + 10 < recursionLimit) (hun : un + 40 < cLine) (hnm : nm.length ≤ 1000) (has : asV.length ≤ 1000)
    (ret : ∀ u' t1 h' tk', Fr h₀ L h' (kstB u' [("attr", .ref At), ("headers", .ref Ha)]) → News h₀ L h' ((At, listO (asV ++ [.str (ofL nm) t1]) (n1 + 1)) :: rest) → K { s with heap := h', toks := tk' }) :
    wpAny (model prog w) (ktrTop dp un gd "join_header_words" (joinScope w.params) L 87 (.ref 86) [] outer) (assign (.Tuple [.Name "k" pk, .Name "v" pv] k1 pt) (envX "join_header_words" (joinScope w.params) L 87 (.ref 86) []) (.ref x)) (fun _ s₂ => wpAny (model prog w) (ktrTop dp un gd "join_header_words" (joinScope w.params) L 87 (.ref 86) [] outer) (execs (forBody (joinFor2 w.params)) (envX "join_header_words" (joinScope w.params) L 87 (.ref 86) [])) (fun f s' => f = .next ∧ K s') E s₂) E s := by
  have ex1 : forBody (joinFor2 w.params) = forBody (joinFor2 w.params) := rfl
  conv at ex1 => rhs; whnf
  have ex3 : joinScope w.params = joinScope w.params := rfl
  conv at ex3 => rhs; whnf
  rw [ex1, ex3]
  clear ex1 ex3
  k_steps
  all_goals (try k_data)
  refine ret _ ?t1 _ _ (fr_canon _ (by assumption) ?hp) (news_sub (by assumption) ?hs)
  case hs => exact List.forall_mem_cons.mpr ⟨by k_mem, fun q hq => by k_mem⟩
  case hp => exact List.forall_mem_cons.mpr ⟨by with_unfolding_all rfl, List.forall_mem_cons.mpr ⟨by with_unfolding_all rfl, List.forall_mem_nil _⟩⟩
end
end Mine
-- part JT2
namespace Mine
open PySem PySem.W PySem.Calls PyProof.Rows PySem.Builtin PySem.Builtin.Re
local macro_rules | `(tactic| walk_at "nothing so called") => `(tactic| skip)
theorem quiet_JT2 : True := by
  w_top off
  trivial
local macro_rules | `(tactic| k_mem) => `(tactic| first | assumption | exact List.Mem.head _ | (refine' List.Mem.tail _ ?_; k_mem))
local macro_rules | `(tactic| k_all) => `(tactic| first | assumption | exact ne_of_allLt (by assumption) | (refine ne_of_allLt ?_; grind))
local macro_rules | `(tactic| walk_at "call builtin:list.append") => `(tactic| (k_here; k_dflt (refine' apd ?F ?N ?U ?z ?_; (case F => k_asm); (case N => k_asm); (case U => k_upd); (case z => omega); k_whole; intro h' F' N'; (try k_sweep))))
local macro_rules | `(tactic| walk_at "getMethod ref") => `(tactic| (k_here; (with_reducible show wpAny _ _ (getMethod (Value.ref _) (Str.ofString "search") _) _ _ _); k_dflt (refine getm_pat (PatAt.keeps (by first | exact pat_tok (by assumption) | exact pat_quo (by assumption) | exact pat_val (by assumption)) (Fr.keep (by k_asm))) slot_search type_search ?_)))
local macro_rules | `(tactic| walk_at "getMethod ref") => `(tactic| (k_here; (with_reducible show wpAny _ _ (getMethod (Value.ref _) (Str.ofString "group") _) _ _ _); k_dflt (refine getm_match (News.get (by k_asm) (by k_mem)) slot_group type_group ?_)))
local macro_rules | `(tactic| walk_at "call builtin:re.Pattern.search") => `(tactic| (k_here; k_dflt (first
  | (refine' find_call ?P ?z ?f ?F ?N ?_; (case P => first | exact pat_tok (by assumption) | exact pat_quo (by assumption) | exact pat_val (by assumption)); (case f => assumption); (case z => assumption); (case F => k_asm); (case N => k_asm); k_whole; intro T' h' F' N' l1; (try k_lt l1); (try k_sweep))
  | (refine' miss_call ?P ?F ?z ?f ?_; (case P => first | exact pat_tok (by assumption) | exact pat_quo (by assumption) | exact pat_val (by assumption)); (case f => assumption); (case z => assumption); (case F => k_asm); k_whole))))
local macro_rules | `(tactic| walk_at "call builtin:re.Match.group") => `(tactic| (k_here; k_dflt (refine' group_L ?N ?m ?t ?z ?_; (case N => k_asm); (case m => k_mem); (case t => k_mem); (case z => assumption); k_whole; intro t' k')))
local macro_rules | `(tactic| walk_at "truthy str") => `(tactic| (k_here; k_dflt (first | (refine' truthy_L ?z ?n ?_; (case n => assumption); (case z => assumption); k_whole; intro k') | (refine' truthy_L0 ?n ?_; (case n => assumption); k_whole; intro k'))))
local macro_rules | `(tactic| walk_at "call ref") => `(tactic| (k_here; (with_reducible show wpAny _ _ (call (Value.ref 43) _) _ _ _); k_dflt (refine' unm_call ?B ?F ?X ?N ?T ?k ?m ?t ?d ?u ?z ?f ?_; (case B => k_asm); (case F => k_asm); (case X => k_asm); (case N => k_asm); (case T => k_asm); (case k => exact rfl); (case m => k_mem); (case t => k_mem); (case d => omega); (case u => omega); (case z => assumption); (case f => assumption); k_whole; intro t' h' k' F' N'; (try k_sweep))))
local macro_rules | `(tactic| walk_at "truthy ref") => `(tactic| (k_here; k_dflt (refine' truthy_N ?N ?m ?_; (case N => k_asm); (case m => k_mem); k_whole)))
local macro_rules | `(tactic| walk_at "getMethod ref") => `(tactic| (k_here; (with_reducible show wpAny _ _ (getMethod (Value.ref _) (Str.ofString "subn") _) _ _ _); k_dflt (refine getm_pat (PatAt.keeps (pat_junk (by assumption)) (Fr.keep (by k_asm))) slot_subn type_subn ?_)))
local macro_rules | `(tactic| walk_at "call builtin:re.Pattern.subn") => `(tactic| (k_here; k_dflt (refine' subn_call1 ?F ?N ?P ?z ?j ?_; (case F => k_asm); (case N => k_asm); (case P => exact pat_junk (by assumption)); (case z => omega); (case j => assumption); k_whole; intro y' t1' t2' h' k' F' N' l1; (try k_lt l1); (try k_sweep))))
local macro_rules | `(tactic| walk_at "call builtin:str.lstrip") => `(tactic| (k_here; k_dflt (refine' lstrip_call ?z ?j ?_; (case z => assumption); (case j => assumption); k_whole; intro t' k')))
local macro_rules | `(tactic| walk_at "call builtin:str.rstrip") => `(tactic| (k_here; k_dflt (refine' rstrip_call ?z ?j ?_; (case z => assumption); (case j => assumption); k_whole; intro t' k')))
local macro_rules | `(tactic| walk_at "call builtin:str.startswith") => `(tactic| (k_here; k_dflt (refine' starts_comma ?j ?_; (case j => assumption); k_whole)))
local macro_rules | `(tactic| walk_at "subscriptTail Call") => `(tactic| (k_here; (with_unfolding_all (refine' sl_from1 ?F ?N ?z ?e ?_ ?s ?t; (case F => k_asm); (case N => k_asm); (case z => assumption); (case e => assumption); (case s => exact rfl); (case t => exact fun _ => rfl); k_whole)); intro h' t' k' F' N'; (try k_sweep)))
local macro_rules | `(tactic| walk_at "getMethod ref") => `(tactic| (k_here; (with_reducible show wpAny _ _ (getMethod (Value.ref _) (Str.ofString "sub") _) _ _ _); k_dflt (refine getm_pat (PatAt.keeps (by first | exact pat_esc (by assumption) | exact pat_je (by assumption)) (Fr.keep (by k_asm))) slot_sub type_sub ?_)))
local macro_rules | `(tactic| walk_at "exec For Name Name cons nil") => `(tactic| (k_here; k_dflt (refine' for_start ?a ?_; (case a => exact fun _ => rfl); k_whole)))
local macro_rules | `(tactic| walk_at "pyIter ref") => `(tactic| (k_here; k_dflt (refine' iter_own ?F ?N ?m ?_; (case F => k_asm); (case N => k_asm); (case m => k_mem); k_whole); intro I' o' h' F' N' d' l1; (try k_lt l1)))
local macro_rules | `(tactic| walk_at "call builtin:re.Pattern.sub") => `(tactic| (k_here; k_dflt (refine' sub_split ?B ?F ?X ?N ?T ?k ?hf ?e1 ?e2 ?e3 ?hc ?hod ?hov ?d ?u ?z ?S ?_; (case B => k_asm); (case F => k_asm); (case X => k_asm); (case N => k_asm); (case T => k_asm); (case k => exact rfl); (case hf => k_mem); (case e1 => exact rfl); (case e2 => exact rfl); (case e3 => exact rfl); (case hod => assumption); (case hov => assumption); (case hc => k_mem); (case d => omega); (case u => omega); (case z => assumption); (case S => assumption); k_whole; intro t' h' k' F' N'; (try k_sweep))))
local macro_rules | `(tactic| walk_at "getMethod ref") => `(tactic| (k_here; (with_reducible show wpAny _ _ (getMethod (Value.ref _) (Str.ofString "fullmatch") _) _ _ _); k_dflt (refine getm_pat (PatAt.keeps (pat_jt (by assumption)) (Fr.keep (by k_asm))) slot_fullmatch type_fullmatch ?_)))
local macro_rules | `(tactic| walk_at "call builtin:re.Pattern.fullmatch") => `(tactic| (k_here; k_dflt (first
  | (refine' fully_call ?P ?z ?f ?F ?N ?_; (case P => exact pat_jt (by assumption)); (case f => assumption); (case z => assumption); (case F => k_asm); (case N => k_asm); k_whole; intro T' h' F' N' l1; (try k_lt l1); (try k_sweep))
  | (refine' fulln_call ?P ?F ?z ?f ?_; (case P => exact pat_jt (by assumption)); (case f => assumption); (case z => assumption); (case F => k_asm); k_whole))))
local macro_rules | `(tactic| walk_at "call builtin:re.Pattern.sub") => `(tactic| (k_here; k_dflt (refine' sub_join ?B ?F ?X ?N ?T ?k ?hf ?e1 ?e2 ?e3 ?hc ?hod ?hov ?d ?u ?z ?S ?_; (case B => k_asm); (case F => k_asm); (case X => k_asm); (case N => k_asm); (case T => k_asm); (case k => exact rfl); (case hf => k_mem); (case e1 => exact rfl); (case e2 => exact rfl); (case e3 => exact rfl); (case hod => assumption); (case hov => assumption); (case hc => k_mem); (case d => omega); (case u => omega); (case z => assumption); (case S => assumption); k_whole; intro t' h' k' F' N'; (try k_sweep))))
local macro_rules | `(tactic| walk_at "And") => `(tactic| ((with_reducible show PySem.Str.length (_ ++ _) ≤ sizeLine ∧ wpAny _ _ (joinParts _ _) _ _ _); refine ⟨by (simp only [emp_ofL, eq_ofL, ofL_append, len_ofL, List.length_append, List.length_cons, List.length_nil, sizeLine_eq]; omega), ?_⟩))
local macro_rules | `(tactic| walk_at "joinParts") => `(tactic| ((with_reducible refine' join_nilL ?je ?jl ?_); (case je => (simp only [emp_ofL, eq_ofL, ofL_append]; exact rfl)); (case jl => (simp only [List.length_append, List.length_cons, List.length_nil]; omega)); intro t' k'))
local macro_rules | `(tactic| walk_at "binaryOp Mod str str") => `(tactic| (k_here; k_dflt (refine' mod_quo ?z ?_; (case z => assumption); k_whole); intro z' t' k' e' l'))
section
variable {prog : Program} {w : World} {p : Program} {loose : List Str} {mean : ExcName → Option Value} {mg mb : Str → Option Value} {dp un : Nat} {gd : Option (List Code)} {outer : List Env} {A₀ : Around} {base h₀ : Heap} {L : Addr} {s : Shared} {u : Str → Option Value}
    {E : Value → Shared → Prop} {Qw : Flow → Shared → Prop} {n1 : Nat} {At x : Addr} {rest : List (Addr × Obj)} {asV : List Value} {nm val out : List Nat} {tn tv : Tok} {K : Shared → Prop} {k1 : Nat} {pt pk pv : Pos}
/-- a value that needs no marks -/
theorem jturn_full {Ha : Addr}
    (B : Below A₀ base outer h₀) (F : Fr h₀ L s.heap (kstB u [("attr", .ref At), ("headers", .ref Ha)])) (X : (hd.heap_39 w.params).In h₀) (N : News h₀ L s.heap ((At, listO asV n1) :: rest)) (T : Top p loose mean mg mb h₀)
    (hA : ∀ q ∈ rest, q.1 ≠ At) (hx : (x, spansObj [.str (ofL nm) tn, .str (ofL val) tv]) ∈ rest) (hdp : dp + 10 < recursionLimit) (hun : un + 40 < cLine) (hnm : nm.length ≤ 1000) (has : asV.length ≤ 1000) (hval : val.length ≤ 1000) (hf : FullYes val)
    (ret : ∀ u' t1 h' tk', Fr h₀ L h' (kstB u' [("attr", .ref At), ("headers", .ref Ha)]) → News h₀ L h' ((At, listO (asV ++ [.str (ofL ([] ++ nm ++ [61] ++ val)) t1]) (n1 + 1)) :: rest) → K { s with heap := h', toks := tk' }) :
    wpAny (model prog w) (ktrTop dp un gd "join_header_words" (joinScope w.params) L 87 (.ref 86) [] outer) (assign (.Tuple [.Name "k" pk, .Name "v" pv] k1 pt) (envX "join_header_words" (joinScope w.params) L 87 (.ref 86) []) (.ref x)) (fun _ s₂ => wpAny (model prog w) (ktrTop dp un gd "join_header_words" (joinScope w.params) L 87 (.ref 86) [] outer) (execs (forBody (joinFor2 w.params)) (envX "join_header_words" (joinScope w.params) L 87 (.ref 86) [])) (fun f s' => f = .next ∧ K s') E s₂) E s := by
  have ex1 : forBody (joinFor2 w.params) = forBody (joinFor2 w.params) := rfl
  conv at ex1 => rhs; whnf
  have ex3 : joinScope w.params = joinScope w.params := rfl
  conv at ex3 => rhs; whnf
  rw [ex1, ex3]
  clear ex1 ex3
  have hv1 : val.length ≤ 1048576 := by omega
  k_steps
  all_goals (try k_data)
  refine ret _ ?t1 _ _ (fr_canon _ (by assumption) ?hp) (news_sub (by assumption) ?hs)
  case hs => exact List.forall_mem_cons.mpr ⟨by k_mem, fun q hq => by k_mem⟩
  case hp => exact List.forall_mem_cons.mpr ⟨by with_unfolding_all rfl, List.forall_mem_cons.mpr ⟨by with_unfolding_all rfl, List.forall_mem_nil _⟩⟩
end
end Mine
-- part JT3a
namespace Mine
open PySem PySem.W PySem.Calls PyProof.Rows PySem.Builtin PySem.Builtin.Re
theorem quiet_JT3a : True := by
  w_top off
  trivial
local macro_rules | `(tactic| k_mem) => `(tactic| first | assumption | exact List.Mem.head _ | (refine' List.Mem.tail _ ?_; k_mem))
local macro_rules | `(tactic| k_all) => `(tactic| first | assumption | exact ne_of_allLt (by assumption) | (refine ne_of_allLt ?_; grind))
local macro_rules | `(tactic| walk_at "call builtin:list.append") => `(tactic| (k_here; k_dflt (refine' apd ?F ?N ?U ?z ?_; (case F => k_asm); (case N => k_asm); (case U => k_upd); (case z => omega); k_whole; intro h' F' N'; (try k_sweep))))
local macro_rules | `(tactic| walk_at "getMethod ref") => `(tactic| (k_here; (with_reducible show wpAny _ _ (getMethod (Value.ref _) (Str.ofString "search") _) _ _ _); k_dflt (refine getm_pat (PatAt.keeps (by first | exact pat_tok (by assumption) | exact pat_quo (by assumption) | exact pat_val (by assumption)) (Fr.keep (by k_asm))) slot_search type_search ?_)))
local macro_rules | `(tactic| walk_at "getMethod ref") => `(tactic| (k_here; (with_reducible show wpAny _ _ (getMethod (Value.ref _) (Str.ofString "group") _) _ _ _); k_dflt (refine getm_match (News.get (by k_asm) (by k_mem)) slot_group type_group ?_)))
local macro_rules | `(tactic| walk_at "call builtin:re.Pattern.search") => `(tactic| (k_here; k_dflt (first
  | (refine' find_call ?P ?z ?f ?F ?N ?_; (case P => first | exact pat_tok (by assumption) | exact pat_quo (by assumption) | exact pat_val (by assumption)); (case f => assumption); (case z => assumption); (case F => k_asm); (case N => k_asm); k_whole; intro T' h' F' N' l1; (try k_lt l1); (try k_sweep))
  | (refine' miss_call ?P ?F ?z ?f ?_; (case P => first | exact pat_tok (by assumption) | exact pat_quo (by assumption) | exact pat_val (by assumption)); (case f => assumption); (case z => assumption); (case F => k_asm); k_whole))))
local macro_rules | `(tactic| walk_at "call builtin:re.Match.group") => `(tactic| (k_here; k_dflt (refine' group_L ?N ?m ?t ?z ?_; (case N => k_asm); (case m => k_mem); (case t => k_mem); (case z => assumption); k_whole; intro t' k')))
local macro_rules | `(tactic| walk_at "truthy str") => `(tactic| (k_here; k_dflt (first | (refine' truthy_L ?z ?n ?_; (case n => assumption); (case z => assumption); k_whole; intro k') | (refine' truthy_L0 ?n ?_; (case n => assumption); k_whole; intro k'))))
local macro_rules | `(tactic| walk_at "call ref") => `(tactic| (k_here; (with_reducible show wpAny _ _ (call (Value.ref 43) _) _ _ _); k_dflt (refine' unm_call ?B ?F ?X ?N ?T ?k ?m ?t ?d ?u ?z ?f ?_; (case B => k_asm); (case F => k_asm); (case X => k_asm); (case N => k_asm); (case T => k_asm); (case k => exact rfl); (case m => k_mem); (case t => k_mem); (case d => omega); (case u => omega); (case z => assumption); (case f => assumption); k_whole; intro t' h' k' F' N'; (try k_sweep))))
local macro_rules | `(tactic| walk_at "truthy ref") => `(tactic| (k_here; k_dflt (refine' truthy_N ?N ?m ?_; (case N => k_asm); (case m => k_mem); k_whole)))
local macro_rules | `(tactic| walk_at "getMethod ref") => `(tactic| (k_here; (with_reducible show wpAny _ _ (getMethod (Value.ref _) (Str.ofString "subn") _) _ _ _); k_dflt (refine getm_pat (PatAt.keeps (pat_junk (by assumption)) (Fr.keep (by k_asm))) slot_subn type_subn ?_)))
local macro_rules | `(tactic| walk_at "call builtin:re.Pattern.subn") => `(tactic| (k_here; k_dflt (refine' subn_call1 ?F ?N ?P ?z ?j ?_; (case F => k_asm); (case N => k_asm); (case P => exact pat_junk (by assumption)); (case z => omega); (case j => assumption); k_whole; intro y' t1' t2' h' k' F' N' l1; (try k_lt l1); (try k_sweep))))
local macro_rules | `(tactic| walk_at "call builtin:str.lstrip") => `(tactic| (k_here; k_dflt (refine' lstrip_call ?z ?j ?_; (case z => assumption); (case j => assumption); k_whole; intro t' k')))
local macro_rules | `(tactic| walk_at "call builtin:str.rstrip") => `(tactic| (k_here; k_dflt (refine' rstrip_call ?z ?j ?_; (case z => assumption); (case j => assumption); k_whole; intro t' k')))
local macro_rules | `(tactic| walk_at "call builtin:str.startswith") => `(tactic| (k_here; k_dflt (refine' starts_comma ?j ?_; (case j => assumption); k_whole)))
local macro_rules | `(tactic| walk_at "subscriptTail Call") => `(tactic| (k_here; (with_unfolding_all (refine' sl_from1 ?F ?N ?z ?e ?_ ?s ?t; (case F => k_asm); (case N => k_asm); (case z => assumption); (case e => assumption); (case s => exact rfl); (case t => exact fun _ => rfl); k_whole)); intro h' t' k' F' N'; (try k_sweep)))
local macro_rules | `(tactic| walk_at "getMethod ref") => `(tactic| (k_here; (with_reducible show wpAny _ _ (getMethod (Value.ref _) (Str.ofString "sub") _) _ _ _); k_dflt (refine getm_pat (PatAt.keeps (by first | exact pat_esc (by assumption) | exact pat_je (by assumption)) (Fr.keep (by k_asm))) slot_sub type_sub ?_)))
local macro_rules | `(tactic| walk_at "exec For Name Name cons nil") => `(tactic| (k_here; k_dflt (refine' for_start ?a ?_; (case a => exact fun _ => rfl); k_whole)))
local macro_rules | `(tactic| walk_at "pyIter ref") => `(tactic| (k_here; k_dflt (refine' iter_own ?F ?N ?m ?_; (case F => k_asm); (case N => k_asm); (case m => k_mem); k_whole); intro I' o' h' F' N' d' l1; (try k_lt l1)))
local macro_rules | `(tactic| walk_at "call builtin:re.Pattern.sub") => `(tactic| (k_here; k_dflt (refine' sub_split ?B ?F ?X ?N ?T ?k ?hf ?e1 ?e2 ?e3 ?hc ?hod ?hov ?d ?u ?z ?S ?_; (case B => k_asm); (case F => k_asm); (case X => k_asm); (case N => k_asm); (case T => k_asm); (case k => exact rfl); (case hf => k_mem); (case e1 => exact rfl); (case e2 => exact rfl); (case e3 => exact rfl); (case hod => assumption); (case hov => assumption); (case hc => k_mem); (case d => omega); (case u => omega); (case z => assumption); (case S => assumption); k_whole; intro t' h' k' F' N'; (try k_sweep))))
local macro_rules | `(tactic| walk_at "getMethod ref") => `(tactic| (k_here; (with_reducible show wpAny _ _ (getMethod (Value.ref _) (Str.ofString "fullmatch") _) _ _ _); k_dflt (refine getm_pat (PatAt.keeps (pat_jt (by assumption)) (Fr.keep (by k_asm))) slot_fullmatch type_fullmatch ?_)))
local macro_rules | `(tactic| walk_at "call builtin:re.Pattern.fullmatch") => `(tactic| (k_here; k_dflt (first
  | (refine' fully_call ?P ?z ?f ?F ?N ?_; (case P => exact pat_jt (by assumption)); (case f => assumption); (case z => assumption); (case F => k_asm); (case N => k_asm); k_whole; intro T' h' F' N' l1; (try k_lt l1); (try k_sweep))
  | (refine' fulln_call ?P ?F ?z ?f ?_; (case P => exact pat_jt (by assumption)); (case f => assumption); (case z => assumption); (case F => k_asm); k_whole))))
local macro_rules | `(tactic| walk_at "call builtin:re.Pattern.sub") => `(tactic| (k_here; k_dflt (refine' sub_join ?B ?F ?X ?N ?T ?k ?hf ?e1 ?e2 ?e3 ?hc ?hod ?hov ?d ?u ?z ?S ?_; (case B => k_asm); (case F => k_asm); (case X => k_asm); (case N => k_asm); (case T => k_asm); (case k => exact rfl); (case hf => k_mem); (case e1 => exact rfl); (case e2 => exact rfl); (case e3 => exact rfl); (case hod => assumption); (case hov => assumption); (case hc => k_mem); (case d => omega); (case u => omega); (case z => assumption); (case S => assumption); k_whole; intro t' h' k' F' N'; (try k_sweep))))
local macro_rules | `(tactic| walk_at "And") => `(tactic| ((with_reducible show PySem.Str.length (_ ++ _) ≤ sizeLine ∧ wpAny _ _ (joinParts _ _) _ _ _); refine ⟨by (simp only [emp_ofL, eq_ofL, ofL_append, len_ofL, List.length_append, List.length_cons, List.length_nil, sizeLine_eq]; omega), ?_⟩))
local macro_rules | `(tactic| walk_at "joinParts") => `(tactic| ((with_reducible refine' join_nilL ?je ?jl ?_); (case je => (simp only [emp_ofL, eq_ofL, ofL_append]; exact rfl)); (case jl => (simp only [List.length_append, List.length_cons, List.length_nil]; omega)); intro t' k'))
local macro_rules | `(tactic| walk_at "binaryOp Mod str str") => `(tactic| (k_here; k_dflt (refine' mod_quo ?z ?_; (case z => assumption); k_whole); intro z' t' k' e' l'))
section
variable {prog : Program} {w : World} {p : Program} {loose : List Str} {mean : ExcName → Option Value} {mg mb : Str → Option Value} {dp un : Nat} {gd : Option (List Code)} {outer : List Env} {A₀ : Around} {base h₀ : Heap} {L : Addr} {s : Shared} {u : Str → Option Value}
    {E : Value → Shared → Prop} {Qw : Flow → Shared → Prop} {n1 : Nat} {At x : Addr} {rest : List (Addr × Obj)} {asV : List Value} {nm val out : List Nat} {tn tv : Tok} {K : Shared → Prop} {k1 : Nat} {pt pk pv : Pos}
/-- a value between marks -/
theorem jturn_quoa {Ha : Addr}
    (B : Below A₀ base outer h₀) (F : Fr h₀ L s.heap (kstB u [("attr", .ref At), ("headers", .ref Ha)])) (X : (hd.heap_39 w.params).In h₀) (N : News h₀ L s.heap ((At, listO asV n1) :: (82, tabObj #[]) :: rest)) (T : Top p loose mean mg mb h₀)
    (hA : ∀ q ∈ rest, q.1 ≠ At) (hA82 : @Ne Nat At 82) (h82 : ∀ q ∈ rest, q.1 ≠ 82) (hx : (x, spansObj [.str (ofL nm) tn, .str (ofL val) tv]) ∈ rest) (hdp : dp + 10 < recursionLimit) (hun : un + 40 < cLine) (hnm : nm.length ≤ 1000) (has : asV.length ≤ 1000) (hval : val.length ≤ 1000) (hout : out.length ≤ 3000) (hf : FullNo val) (hS : SubOne jeCode [92] val out)
    (ret : ∀ u' t1 h' tk' c0 oc0 vs0 t9, Fr h₀ L h' (kstB u' [("attr", .ref At), ("headers", .ref Ha)]) → News h₀ L h' ((At, listO (asV ++ [.str (ofL ([] ++ nm ++ [61] ++ (34 :: (out ++ [34])))) t1]) (n1 + 1)) :: (82, tabObj #[rawInt ((lamPos (joinLam w.params)).line : Int), rawInt ((lamPos (joinLam w.params)).col : Int), .ref c0]) :: (c0, oc0) :: rest) → oc0.data = .fields vs0 → vs0[1]? = some (.str joinQual t9) → c0 ≠ At → c0 ≠ 82 → K { s with heap := h', toks := tk' }) :
    wpAny (model prog w) (ktrTop dp un gd "join_header_words" (joinScope w.params) L 87 (.ref 86) [] outer) (assign (.Tuple [.Name "k" pk, .Name "v" pv] k1 pt) (envX "join_header_words" (joinScope w.params) L 87 (.ref 86) []) (.ref x)) (fun _ s₂ => wpAny (model prog w) (ktrTop dp un gd "join_header_words" (joinScope w.params) L 87 (.ref 86) [] outer) (execs (forBody (joinFor2 w.params)) (envX "join_header_words" (joinScope w.params) L 87 (.ref 86) [])) (fun f s' => f = .next ∧ K s') E s₂) E s := by
  have ex1 : forBody (joinFor2 w.params) = forBody (joinFor2 w.params) := rfl
  conv at ex1 => rhs; whnf
  have ex3 : joinScope w.params = joinScope w.params := rfl
  conv at ex3 => rhs; whnf
  rw [ex1, ex3]
  clear ex1 ex3
  have hv1 : val.length ≤ 1048576 := by omega
  have hv2 : val.length ≤ 200000 := by omega
  have C : CodeHd h₀ 86 82 := codeHd_of_K X (by kernel_rfl)
  have ex4 : lamPos (joinLam w.params) = lamPos (joinLam w.params) := rfl
  conv at ex4 => rhs; whnf
  rw [ex4] at ret
  clear ex4
  dsimp only at ret
  k_steps
  all_goals (try k_data)
  rename (_ = 34 :: (out ++ [34])) => e9
  subst e9
  refine ret _ ?t1 _ _ ?c0 ?o0 ?v0 ?t0 (fr_canon _ (by assumption) ?hp) (news_sub (by assumption) ?hs) (by assumption) (by assumption) ?a ?b
  case hs => exact List.forall_mem_cons.mpr ⟨by k_mem, List.forall_mem_cons.mpr ⟨by k_mem, List.forall_mem_cons.mpr ⟨by k_mem, fun q hq => by k_mem⟩⟩⟩
  case hp => exact List.forall_mem_cons.mpr ⟨by with_unfolding_all rfl, List.forall_mem_cons.mpr ⟨by with_unfolding_all rfl, List.forall_mem_nil _⟩⟩
  all_goals k_ne
end
end Mine
-- part JT3b
namespace Mine
open PySem PySem.W PySem.Calls PyProof.Rows PySem.Builtin PySem.Builtin.Re
local macro_rules | `(tactic| walk_at "nothing so called") => `(tactic| skip)
theorem quiet_JT3b : True := by
  w_top off
  trivial
local macro_rules | `(tactic| k_mem) => `(tactic| first | assumption | exact List.Mem.head _ | (refine' List.Mem.tail _ ?_; k_mem))
local macro_rules | `(tactic| k_all) => `(tactic| first | assumption | exact ne_of_allLt (by assumption) | (refine ne_of_allLt ?_; grind))
local macro_rules | `(tactic| walk_at "call builtin:list.append") => `(tactic| (k_here; k_dflt (refine' apd ?F ?N ?U ?z ?_; (case F => k_asm); (case N => k_asm); (case U => k_upd); (case z => omega); k_whole; intro h' F' N'; (try k_sweep))))
local macro_rules | `(tactic| walk_at "getMethod ref") => `(tactic| (k_here; (with_reducible show wpAny _ _ (getMethod (Value.ref _) (Str.ofString "search") _) _ _ _); k_dflt (refine getm_pat (PatAt.keeps (by first | exact pat_tok (by assumption) | exact pat_quo (by assumption) | exact pat_val (by assumption)) (Fr.keep (by k_asm))) slot_search type_search ?_)))
local macro_rules | `(tactic| walk_at "getMethod ref") => `(tactic| (k_here; (with_reducible show wpAny _ _ (getMethod (Value.ref _) (Str.ofString "group") _) _ _ _); k_dflt (refine getm_match (News.get (by k_asm) (by k_mem)) slot_group type_group ?_)))
local macro_rules | `(tactic| walk_at "call builtin:re.Pattern.search") => `(tactic| (k_here; k_dflt (first
  | (refine' find_call ?P ?z ?f ?F ?N ?_; (case P => first | exact pat_tok (by assumption) | exact pat_quo (by assumption) | exact pat_val (by assumption)); (case f => assumption); (case z => assumption); (case F => k_asm); (case N => k_asm); k_whole; intro T' h' F' N' l1; (try k_lt l1); (try k_sweep))
  | (refine' miss_call ?P ?F ?z ?f ?_; (case P => first | exact pat_tok (by assumption) | exact pat_quo (by assumption) | exact pat_val (by assumption)); (case f => assumption); (case z => assumption); (case F => k_asm); k_whole))))
local macro_rules | `(tactic| walk_at "call builtin:re.Match.group") => `(tactic| (k_here; k_dflt (refine' group_L ?N ?m ?t ?z ?_; (case N => k_asm); (case m => k_mem); (case t => k_mem); (case z => assumption); k_whole; intro t' k')))
local macro_rules | `(tactic| walk_at "truthy str") => `(tactic| (k_here; k_dflt (first | (refine' truthy_L ?z ?n ?_; (case n => assumption); (case z => assumption); k_whole; intro k') | (refine' truthy_L0 ?n ?_; (case n => assumption); k_whole; intro k'))))
local macro_rules | `(tactic| walk_at "call ref") => `(tactic| (k_here; (with_reducible show wpAny _ _ (call (Value.ref 43) _) _ _ _); k_dflt (refine' unm_call ?B ?F ?X ?N ?T ?k ?m ?t ?d ?u ?z ?f ?_; (case B => k_asm); (case F => k_asm); (case X => k_asm); (case N => k_asm); (case T => k_asm); (case k => exact rfl); (case m => k_mem); (case t => k_mem); (case d => omega); (case u => omega); (case z => assumption); (case f => assumption); k_whole; intro t' h' k' F' N'; (try k_sweep))))
local macro_rules | `(tactic| walk_at "truthy ref") => `(tactic| (k_here; k_dflt (refine' truthy_N ?N ?m ?_; (case N => k_asm); (case m => k_mem); k_whole)))
local macro_rules | `(tactic| walk_at "getMethod ref") => `(tactic| (k_here; (with_reducible show wpAny _ _ (getMethod (Value.ref _) (Str.ofString "subn") _) _ _ _); k_dflt (refine getm_pat (PatAt.keeps (pat_junk (by assumption)) (Fr.keep (by k_asm))) slot_subn type_subn ?_)))
local macro_rules | `(tactic| walk_at "call builtin:re.Pattern.subn") => `(tactic| (k_here; k_dflt (refine' subn_call1 ?F ?N ?P ?z ?j ?_; (case F => k_asm); (case N => k_asm); (case P => exact pat_junk (by assumption)); (case z => omega); (case j => assumption); k_whole; intro y' t1' t2' h' k' F' N' l1; (try k_lt l1); (try k_sweep))))
local macro_rules | `(tactic| walk_at "call builtin:str.lstrip") => `(tactic| (k_here; k_dflt (refine' lstrip_call ?z ?j ?_; (case z => assumption); (case j => assumption); k_whole; intro t' k')))
local macro_rules | `(tactic| walk_at "call builtin:str.rstrip") => `(tactic| (k_here; k_dflt (refine' rstrip_call ?z ?j ?_; (case z => assumption); (case j => assumption); k_whole; intro t' k')))
local macro_rules | `(tactic| walk_at "call builtin:str.startswith") => `(tactic| (k_here; k_dflt (refine' starts_comma ?j ?_; (case j => assumption); k_whole)))
local macro_rules | `(tactic| walk_at "subscriptTail Call") => `(tactic| (k_here; (with_unfolding_all (refine' sl_from1 ?F ?N ?z ?e ?_ ?s ?t; (case F => k_asm); (case N => k_asm); (case z => assumption); (case e => assumption); (case s => exact rfl); (case t => exact fun _ => rfl); k_whole)); intro h' t' k' F' N'; (try k_sweep)))
local macro_rules | `(tactic| walk_at "getMethod ref") => `(tactic| (k_here; (with_reducible show wpAny _ _ (getMethod (Value.ref _) (Str.ofString "sub") _) _ _ _); k_dflt (refine getm_pat (PatAt.keeps (by first | exact pat_esc (by assumption) | exact pat_je (by assumption)) (Fr.keep (by k_asm))) slot_sub type_sub ?_)))
local macro_rules | `(tactic| walk_at "exec For Name Name cons nil") => `(tactic| (k_here; k_dflt (refine' for_start ?a ?_; (case a => exact fun _ => rfl); k_whole)))
local macro_rules | `(tactic| walk_at "pyIter ref") => `(tactic| (k_here; k_dflt (refine' iter_own ?F ?N ?m ?_; (case F => k_asm); (case N => k_asm); (case m => k_mem); k_whole); intro I' o' h' F' N' d' l1; (try k_lt l1)))
local macro_rules | `(tactic| walk_at "call builtin:re.Pattern.sub") => `(tactic| (k_here; k_dflt (refine' sub_split ?B ?F ?X ?N ?T ?k ?hf ?e1 ?e2 ?e3 ?hc ?hod ?hov ?d ?u ?z ?S ?_; (case B => k_asm); (case F => k_asm); (case X => k_asm); (case N => k_asm); (case T => k_asm); (case k => exact rfl); (case hf => k_mem); (case e1 => exact rfl); (case e2 => exact rfl); (case e3 => exact rfl); (case hod => assumption); (case hov => assumption); (case hc => k_mem); (case d => omega); (case u => omega); (case z => assumption); (case S => assumption); k_whole; intro t' h' k' F' N'; (try k_sweep))))
local macro_rules | `(tactic| walk_at "getMethod ref") => `(tactic| (k_here; (with_reducible show wpAny _ _ (getMethod (Value.ref _) (Str.ofString "fullmatch") _) _ _ _); k_dflt (refine getm_pat (PatAt.keeps (pat_jt (by assumption)) (Fr.keep (by k_asm))) slot_fullmatch type_fullmatch ?_)))
local macro_rules | `(tactic| walk_at "call builtin:re.Pattern.fullmatch") => `(tactic| (k_here; k_dflt (first
  | (refine' fully_call ?P ?z ?f ?F ?N ?_; (case P => exact pat_jt (by assumption)); (case f => assumption); (case z => assumption); (case F => k_asm); (case N => k_asm); k_whole; intro T' h' F' N' l1; (try k_lt l1); (try k_sweep))
  | (refine' fulln_call ?P ?F ?z ?f ?_; (case P => exact pat_jt (by assumption)); (case f => assumption); (case z => assumption); (case F => k_asm); k_whole))))
local macro_rules | `(tactic| walk_at "call builtin:re.Pattern.sub") => `(tactic| (k_here; k_dflt (refine' sub_join ?B ?F ?X ?N ?T ?k ?hf ?e1 ?e2 ?e3 ?hc ?hod ?hov ?d ?u ?z ?S ?_; (case B => k_asm); (case F => k_asm); (case X => k_asm); (case N => k_asm); (case T => k_asm); (case k => exact rfl); (case hf => k_mem); (case e1 => exact rfl); (case e2 => exact rfl); (case e3 => exact rfl); (case hod => assumption); (case hov => assumption); (case hc => k_mem); (case d => omega); (case u => omega); (case z => assumption); (case S => assumption); k_whole; intro t' h' k' F' N'; (try k_sweep))))
local macro_rules | `(tactic| walk_at "And") => `(tactic| ((with_reducible show PySem.Str.length (_ ++ _) ≤ sizeLine ∧ wpAny _ _ (joinParts _ _) _ _ _); refine ⟨by (simp only [emp_ofL, eq_ofL, ofL_append, len_ofL, List.length_append, List.length_cons, List.length_nil, sizeLine_eq]; omega), ?_⟩))
local macro_rules | `(tactic| walk_at "joinParts") => `(tactic| ((with_reducible refine' join_nilL ?je ?jl ?_); (case je => (simp only [emp_ofL, eq_ofL, ofL_append]; exact rfl)); (case jl => (simp only [List.length_append, List.length_cons, List.length_nil]; omega)); intro t' k'))
local macro_rules | `(tactic| walk_at "binaryOp Mod str str") => `(tactic| (k_here; k_dflt (refine' mod_quo ?z ?_; (case z => assumption); k_whole); intro z' t' k' e' l'))
section
variable {prog : Program} {w : World} {p : Program} {loose : List Str} {mean : ExcName → Option Value} {mg mb : Str → Option Value} {dp un : Nat} {gd : Option (List Code)} {outer : List Env} {A₀ : Around} {base h₀ : Heap} {L : Addr} {s : Shared} {u : Str → Option Value}
    {E : Value → Shared → Prop} {Qw : Flow → Shared → Prop} {n1 : Nat} {At x : Addr} {rest : List (Addr × Obj)} {asV : List Value} {nm val out : List Nat} {tn tv : Tok} {K : Shared → Prop} {k1 : Nat} {pt pk pv : Pos}
/-- a value between marks -/
theorem jturn_quob {Ha : Addr} {c0 : Addr} {oc0 : Obj} {vs0 : Array Value} {t9 : Tok}
    (B : Below A₀ base outer h₀) (F : Fr h₀ L s.heap (kstB u [("attr", .ref At), ("headers", .ref Ha)])) (X : (hd.heap_39 w.params).In h₀) (N : News h₀ L s.heap ((At, listO asV n1) :: (82, tabObj #[rawInt ((lamPos (joinLam w.params)).line : Int), rawInt ((lamPos (joinLam w.params)).col : Int), .ref c0]) :: (c0, oc0) :: rest)) (T : Top p loose mean mg mb h₀)
    (hA : ∀ q ∈ rest, q.1 ≠ At) (hA82 : @Ne Nat At 82) (h82 : ∀ q ∈ rest, q.1 ≠ 82) (ho1 : oc0.data = .fields vs0) (ho2 : vs0[1]? = some (.str joinQual t9)) (hc0A : @Ne Nat c0 At) (hc0t : @Ne Nat c0 82) (hx : (x, spansObj [.str (ofL nm) tn, .str (ofL val) tv]) ∈ rest) (hdp : dp + 10 < recursionLimit) (hun : un + 40 < cLine) (hnm : nm.length ≤ 1000) (has : asV.length ≤ 1000) (hval : val.length ≤ 1000) (hout : out.length ≤ 3000) (hf : FullNo val) (hS : SubOne jeCode [92] val out)
    (ret : ∀ u' t1 h' tk', Fr h₀ L h' (kstB u' [("attr", .ref At), ("headers", .ref Ha)]) → News h₀ L h' ((At, listO (asV ++ [.str (ofL ([] ++ nm ++ [61] ++ (34 :: (out ++ [34])))) t1]) (n1 + 1)) :: (82, tabObj #[rawInt ((lamPos (joinLam w.params)).line : Int), rawInt ((lamPos (joinLam w.params)).col : Int), .ref c0]) :: (c0, oc0) :: rest) → K { s with heap := h', toks := tk' }) :
    wpAny (model prog w) (ktrTop dp un gd "join_header_words" (joinScope w.params) L 87 (.ref 86) [] outer) (assign (.Tuple [.Name "k" pk, .Name "v" pv] k1 pt) (envX "join_header_words" (joinScope w.params) L 87 (.ref 86) []) (.ref x)) (fun _ s₂ => wpAny (model prog w) (ktrTop dp un gd "join_header_words" (joinScope w.params) L 87 (.ref 86) [] outer) (execs (forBody (joinFor2 w.params)) (envX "join_header_words" (joinScope w.params) L 87 (.ref 86) [])) (fun f s' => f = .next ∧ K s') E s₂) E s := by
  have ex1 : forBody (joinFor2 w.params) = forBody (joinFor2 w.params) := rfl
  conv at ex1 => rhs; whnf
  have ex3 : joinScope w.params = joinScope w.params := rfl
  conv at ex3 => rhs; whnf
  rw [ex1, ex3]
  clear ex1 ex3
  have hv1 : val.length ≤ 1048576 := by omega
  have hv2 : val.length ≤ 200000 := by omega
  have C : CodeHd h₀ 86 82 := codeHd_of_K X (by kernel_rfl)
  have ex4 : lamPos (joinLam w.params) = lamPos (joinLam w.params) := rfl
  conv at ex4 => rhs; whnf
  rw [ex4] at N ret
  clear ex4
  dsimp only at N ret
  k_steps
  all_goals (try k_data)
  rename (_ = 34 :: (out ++ [34])) => e9
  subst e9
  refine ret _ ?t1 _ _ (fr_canon _ (by assumption) ?hp) (news_sub (by assumption) ?hs)
  case hs => exact List.forall_mem_cons.mpr ⟨by k_mem, List.forall_mem_cons.mpr ⟨by k_mem, List.forall_mem_cons.mpr ⟨by k_mem, fun q hq => by k_mem⟩⟩⟩
  case hp => exact List.forall_mem_cons.mpr ⟨by with_unfolding_all rfl, List.forall_mem_cons.mpr ⟨by with_unfolding_all rfl, List.forall_mem_nil _⟩⟩
end
end Mine
-- part WQ
namespace Mine
open PySem PySem.W PySem.Calls PyProof.Rows PySem.Builtin PySem.Builtin.Str
theorem texts_vals : ∀ {vs : List Value} {ls : List (List Nat)}, Each TextIs vs ls → ∃ l : List (List Nat × Tok), vs = pvals l ∧ l.map (·.1) = ls
  | [], [], _ => ⟨[], rfl, rfl⟩
  | _ :: _, x :: _, ⟨⟨tk, e⟩, b⟩ => by
    obtain ⟨l, e1, e2⟩ := texts_vals b
    exact ⟨(x, tk) :: l, by simp [pvals, e, e1], by simp [e2]⟩
section
variable {prog : Program} {w : World} {A : Around} {E : Value → Shared → Prop} {s : Shared} {h₀ : Heap} {L : Addr} {m : Str → Option Value} {news : List (Addr × Obj)}
theorem join_texts {D : Addr} {vs : List Value} {n : Nat} {sep : List Nat} {ls : List (List Nat)} {t0 : Tok} {Q : Value → Shared → Prop} (N : News h₀ L s.heap news) (hm : (D, listO vs n) ∈ news) (hts : Each TextIs vs ls) (hsz : textsLen sep ls ≤ 1048576)
    (q : ∀ t' k, Q (.str (ofL (joinL sep ls)) t') { s with toks := k }) : wpAny (model prog w) A (call (.builtin "str.join") [.str (ofL sep) t0, .ref D]) Q E s := by
  obtain ⟨l, e1, e2⟩ := texts_vals hts
  have hl : s.heap.IsList D (strValues (l.map fun p => (ofL p.1, p.2))).toArray := by
    refine ⟨_, N.get hm, rfl, n, ?_⟩
    rw [← pvals_eq, e1]
  have ht : (l.map fun p => (ofL p.1, p.2)).map (·.1) = (l.map (·.1)).map ofL := by simp
  refine SC.join hl ht (joinOk_ofL sep _ (by rw [e2]; exact hsz)) fun t' k => ?_
  rw [txt_join_ofL, e2]; exact q t' k
end
/-- what join writes for a pair -/
inductive JoinOne : Pr → List Nat → Prop
  | none {nm : List Nat} : nm.length ≤ 1000 → JoinOne (nm, .none) nm
  | full {nm val : List Nat} : nm.length ≤ 1000 → val.length ≤ 1000 → FullYes val → JoinOne (nm, some val) ([] ++ nm ++ [61] ++ val)
  | quo {nm val out : List Nat} : nm.length ≤ 1000 → val.length ≤ 1000 → FullNo val → SubOne jeCode [92] val out → out.length ≤ 3000 → JoinOne (nm, some val) ([] ++ nm ++ [61] ++ (34 :: (out ++ [34])))
def All2 {α β : Type} (R : α → β → Prop) : List α → List β → Prop
  | [], [] => True
  | a :: as, b :: bs => R a b ∧ All2 R as bs
  | [], _ :: _ => False
  | _ :: _, [] => False
theorem All2.len {α β : Type} {R : α → β → Prop} : ∀ {as : List α} {bs : List β}, All2 R as bs → as.length = bs.length
  | [], [], _ => rfl
  | _ :: _, _ :: _, ⟨_, b⟩ => by simp [All2.len b]
def TabJ (pos : Pos) (tb : List (Addr × Obj)) : Prop := tb = [(82, tabObj #[])] ∨ ∃ c oc vs t9, tb = [(82, tabObj #[rawInt (pos.line : Int), rawInt (pos.col : Int), .ref c]), (c, oc)] ∧ oc.data = .fields vs ∧ vs[1]? = some (.str joinQual t9) ∧ @Ne Nat c 82
theorem TabJ.has {pos : Pos} {tb : List (Addr × Obj)} : TabJ pos tb → ∃ o, ((82 : Addr), o) ∈ tb
  | .inl h => by subst h; exact ⟨_, .head _⟩
  | .inr ⟨_, _, _, _, h, _⟩ => by subst h; exact ⟨_, .head _⟩
theorem TabJ.off {h₀ h : Heap} {L I : Addr} {l : List (Addr × Obj)} {o : Obj} {pos : Pos} {tb : List (Addr × Obj)} {ax : Addr} {i : Nat} (N : News h₀ L h l) (hI : (I, o) ∈ l) (ho : ItO o ax i) (hs : ∀ q ∈ tb, q ∈ l) (h65 : @Ne Nat I 82) : TabJ pos tb → off I tb = tb
  | .inl e => by
    refine off_eq fun q hq => ?_
    rw [e] at hq
    rcases List.mem_singleton.mp hq with rfl
    exact fun e => h65 e.symm
  | .inr ⟨c, oc, vs, t9, e, e1, e2, e3⟩ => by
    refine off_eq fun q hq => ?_
    have hq' := hq
    rw [e] at hq'
    rcases List.mem_cons.mp hq' with rfl | hq'
    · exact fun e => h65 e.symm
    · rcases List.mem_singleton.mp hq' with rfl
      intro e'
      have e' : c = I := e'
      subst e'
      have := news_uniq N (hs _ hq) hI
      subst this
      rw [ho.2] at e1
      injection e1 with e1
      rw [← e1] at e2
      simp at e2
theorem drop_step {α β : Type} {vs : List α} {i : Nat} {R : α → β → Prop} {a : β} {as : List β} {E : List α → List β → Prop} (hE : ∀ v r, E (v :: r) (a :: as) → R v a ∧ E r as) (hN : ¬ E [] (a :: as)) (h : E (vs.drop i) (a :: as)) : ∃ v, vs[i]? = some v ∧ E (vs.drop (i + 1)) as ∧ R v a := by
  cases hd : vs.drop i with
  | nil => rw [hd] at h; exact (hN h).elim
  | cons x b =>
    rw [hd] at h
    have e1 : vs[i]? = some x := by
      have : (vs.drop i)[0]? = some x := by rw [hd]; rfl
      rwa [List.getElem?_drop, Nat.add_zero] at this
    have e2 : vs.drop (i + 1) = b := by rw [← List.drop_drop, hd]; rfl
    exact ⟨x, e1, by rw [e2]; exact (hE _ _ h).2, (hE _ _ h).1⟩
theorem drop_end {α : Type} {vs : List Value} {i : Nat} {R : Value → α → Prop} (h : Each R (vs.drop i) []) : vs[i]? = none := by
  cases hd : vs.drop i with
  | nil => rw [List.drop_eq_nil_iff] at hd; simpa using hd
  | cons a b => rw [hd] at h; exact h.elim
section
variable {prog : Program} {w : World} {p : Program} {loose : List Str} {mean : ExcName → Option Value} {mg mb : Str → Option Value} {dp un : Nat} {gd : Option (List Code)} {outer : List Env} {A₀ : Around} {base h₀ : Heap} {L : Addr}
    {E : Value → Shared → Prop} {Qw : Flow → Shared → Prop} {ax I : Addr} {vs : List Value} {n : Nat} {pt pk pv : Pos} {k1 : Nat} {At Ha : Addr} {kp : List (Addr × Obj)} {all : List (List Nat)}
theorem join_rest (B : Below A₀ base outer h₀) (X : (hd.heap_39 w.params).In h₀) (T : Top p loose mean mg mb h₀) (hdp : dp + 10 < recursionLimit) (hun : un + 40 < cLine)
    (hE : PassesOwn (model prog w) (ktrTop dp un gd "join_header_words" (joinScope w.params) L 87 (.ref 86) [] outer) (envX "join_header_words" (joinScope w.params) L 87 (.ref 86) []) E)
    (hh : (ktrTop dp un gd "join_header_words" (joinScope w.params) L 87 (.ref 86) [] outer).handled = none) (hall : all.length ≤ 1000) :
    ∀ {ps : List Pr} {os : List (List Nat)} {i : Nat} {s : Shared} {u : Str → Option Value} {n1 : Nat} {tb rest : List (Addr × Obj)} {asV : List Value} {dn : List (List Nat)} {o : Obj}
      (_ : Each (PairIn rest) (vs.drop i) ps) (_ : All2 JoinOne ps os) (_ : dn ++ os = all)
      (_ : Fr h₀ L s.heap (kstB u [("attr", .ref At), ("headers", .ref Ha)])) (_ : News h₀ L s.heap ((At, listO asV n1) :: (tb ++ rest))) (_ : TabJ (lamPos (joinLam w.params)) tb) (_ : ∀ q ∈ tb ++ rest, q.1 ≠ At) (_ : ∀ q ∈ rest, q.1 ≠ 82) (_ : Each TextIs asV dn)
      (_ : (I, o) ∈ rest) (_ : ItO o ax i) (_ : (ax, listO vs n) ∈ rest) (_ : ∀ q ∈ kp, q ∈ rest ∧ q.1 ≠ I)
      (_ : ∀ u' n1 tb' rest' asV h' tk', Fr h₀ L h' (kstB u' [("attr", .ref At), ("headers", .ref Ha)]) → News h₀ L h' ((At, listO asV n1) :: (tb' ++ rest')) → TabJ (lamPos (joinLam w.params)) tb' →
        (∀ q ∈ tb' ++ rest', q.1 ≠ At) → (∀ q ∈ rest', q.1 ≠ 82) → Each TextIs asV all → (∀ q ∈ kp, q ∈ rest') → Qw .next { s with heap := h', toks := tk' }),
      ForRest prog w (ktrTop dp un gd "join_header_words" (joinScope w.params) L 87 (.ref 86) [] outer) E (envX "join_header_words" (joinScope w.params) L 87 (.ref 86) []) (.Tuple [.Name "k" pk, .Name "v" pv] k1 pt) (forBody (joinFor2 w.params)) Qw (.ref I) s := by
  intro ps
  induction ps with
  | nil =>
    intro os i s u n1 tb rest asV dn o hvs hJ hdn F N TB hA h82 ET hI ho hm hk ret
    have hos : os = [] := by cases os with
      | nil => rfl
      | cons _ _ => exact hJ.elim
    subst hos
    rw [List.append_nil] at hdn
    subst hdn
    have hIn : (I, o) ∈ (At, listO asV n1) :: (tb ++ rest) := .tail _ (List.mem_append_right _ hI)
    have i82 : @Ne Nat I 82 := h82 _ hI
    have hs1 : ∀ q ∈ rest, q ∈ (At, listO asV n1) :: (tb ++ rest) := fun q hq => .tail _ (List.mem_append_right _ hq)
    refine for_endO hE hh F N hIn ho (hs1 _ hm) (drop_end hvs) fun h' F' N' => ?_
    have tbo := TB.off N hIn ho (fun q hq => .tail _ (List.mem_append_left _ hq)) i82
    refine ret u n1 tb (off I rest) asV h' s.toks F' (news_sub N' fun q hq => ?_) TB (fun q hq => ?_) (fun q hq => h82 q (mem_off.mp hq).1) ET (fun q hq => mem_off.mpr (hk q hq))
    · rcases List.mem_cons.mp hq with rfl | hq
      · exact mem_off.mpr ⟨.head _, fun e => hA _ (List.mem_append_right _ hI) e.symm⟩
      · rcases List.mem_append.mp hq with hq | hq
        · rw [← tbo] at hq; exact mem_off.mpr ⟨.tail _ (List.mem_append_left _ (mem_off.mp hq).1), (mem_off.mp hq).2⟩
        · exact mem_off.mpr ⟨.tail _ (List.mem_append_right _ (mem_off.mp hq).1), (mem_off.mp hq).2⟩
    · rcases List.mem_append.mp hq with hq | hq
      · exact hA q (List.mem_append_left _ hq)
      · exact hA q (List.mem_append_right _ (mem_off.mp hq).1)
  | cons pr ps ih =>
    intro os i s u n1 tb rest asV dn o hvs hJ hdn F N TB hA h82 ET hI ho hm hk ret
    obtain ⟨o1, os, rfl⟩ : ∃ a b, os = a :: b := by cases os with
      | nil => exact hJ.elim
      | cons a b => exact ⟨a, b, rfl⟩
    obtain ⟨hJ1, hJ⟩ := hJ
    obtain ⟨v, hv, hvs', hpr⟩ := drop_step (E := Each (PairIn rest)) (R := PairIn rest) (fun _ _ h => h) (fun h => h) hvs
    have hIn : (I, o) ∈ (At, listO asV n1) :: (tb ++ rest) := .tail _ (List.mem_append_right _ hI)
    have i82 : @Ne Nat I 82 := h82 _ hI
    have hs1 : ∀ q ∈ rest, q ∈ (At, listO asV n1) :: (tb ++ rest) := fun q hq => .tail _ (List.mem_append_right _ hq)
    have tbo := TB.off N hIn ho (fun q hq => .tail _ (List.mem_append_left _ hq)) i82
    obtain ⟨x, tn, v2, rfl, hx, hv2⟩ := PairIn.off N hIn ho hs1 hpr
    have hvs2 : Each (PairIn (off I rest)) (vs.drop (i + 1)) ps := Each.mono (fun _ _ => PairIn.off N hIn ho hs1) hvs'
    refine for_itemO hE F N hIn ho (hs1 _ hm) hv (.inr ⟨_, _, _, _, rfl, rfl⟩) fun h' o' F' N' ho' => ?_
    have hasl : asV.length ≤ 1000 := by rw [ET.len]; have := hall; rw [← hdn, List.length_append] at this; omega
    have N2 : News h₀ L h' ((At, listO asV n1) :: (tb ++ (I, o') :: off I rest)) := by
      refine news_sub N' fun q hq => ?_
      rcases List.mem_cons.mp hq with rfl | hq
      · exact .tail _ (mem_off.mpr ⟨.head _, fun e => hA _ (List.mem_append_right _ hI) e.symm⟩)
      · rcases List.mem_append.mp hq with hq | hq
        · rw [← tbo] at hq; exact .tail _ (mem_off.mpr ⟨.tail _ (List.mem_append_left _ (mem_off.mp hq).1), (mem_off.mp hq).2⟩)
        · rcases List.mem_cons.mp hq with rfl | hq
          · exact .head _
          · exact .tail _ (mem_off.mpr ⟨.tail _ (List.mem_append_right _ (mem_off.mp hq).1), (mem_off.mp hq).2⟩)
    have R2 : ∀ q ∈ tb ++ (I, o') :: off I rest, q.1 ≠ At := fun q hq => by
      rcases List.mem_append.mp hq with hq | hq
      · exact hA q (List.mem_append_left _ hq)
      · rcases List.mem_cons.mp hq with rfl | hq
        · exact hA (I, o) (List.mem_append_right _ hI)
        · exact hA q (List.mem_append_right _ (mem_off.mp hq).1)
    have R2' : ∀ q ∈ (I, o') :: off I rest, q.1 ≠ At := fun q hq => R2 q (List.mem_append_right _ hq)
    have T2 : ∀ q ∈ (I, o') :: off I rest, q.1 ≠ 82 := fun q hq => by
      rcases List.mem_cons.mp hq with rfl | hq
      · exact i82
      · exact h82 q (mem_off.mp hq).1
    have m2 : (ax, listO vs n) ∈ off I rest := mem_off_of N hIn hs1 hm (ho.ne_lst _ _)
    obtain ⟨ot, hot⟩ := TB.has
    have a82 : @Ne Nat At 82 := fun e => hA _ (List.mem_append_left _ hot) e.symm
    have fin : ∀ u' t1 h'' tk' tb', Fr h₀ L h'' (kstB u' [("attr", .ref At), ("headers", .ref Ha)]) → News h₀ L h'' ((At, listO (asV ++ [.str (ofL o1) t1]) (n1 + 1)) :: (tb' ++ (I, o') :: off I rest)) → TabJ (lamPos (joinLam w.params)) tb' → (∀ q ∈ tb', q.1 ≠ At) →
        ForRest prog w (ktrTop dp un gd "join_header_words" (joinScope w.params) L 87 (.ref 86) [] outer) E (envX "join_header_words" (joinScope w.params) L 87 (.ref 86) []) (.Tuple [.Name "k" pk, .Name "v" pv] k1 pt) (forBody (joinFor2 w.params)) Qw (.ref I) { s with heap := h'', toks := tk' } := by
      intro u' t1 h'' tk' tb' a1 a2 a3 a4
      refine ih (rest := (I, o') :: off I rest) (Each.mono (fun _ _ => PairIn.mono fun q hq => .tail _ hq) hvs2) hJ (dn := dn ++ [o1]) (by rw [← hdn]; simp) a1 a2 a3 (fun q hq => ?_) T2 (Each.snoc ⟨t1, rfl⟩ ET) (.head _) ho' (.tail _ m2) (fun q hq => ⟨.tail _ (mem_off.mpr (hk q hq)), (hk q hq).2⟩) ret
      rcases List.mem_append.mp hq with hq | hq
      · exact a4 q hq
      · exact R2' q hq
    have tA : ∀ q ∈ tb, q.1 ≠ At := fun q hq => hA q (List.mem_append_left _ hq)
    cases hJ1 with
    | none hnm =>
      have hv2 : v2 = .none := hv2
      subst hv2
      exact jturn_none (K := fun s' => ForRest prog w _ E _ _ _ Qw (.ref I) s') (rest := tb ++ (I, o') :: off I rest) B F' X N2 T R2 (List.mem_append_right _ (.tail _ hx)) hdp hun hnm hasl fun u' t1 h'' tk' F2 N3 => fin u' t1 h'' tk' tb F2 N3 TB tA
    | @full _ val hnm hval hf =>
      obtain ⟨tv, rfl⟩ : ∃ t, v2 = .str (ofL val) t := hv2
      exact jturn_full (K := fun s' => ForRest prog w _ E _ _ _ Qw (.ref I) s') (rest := tb ++ (I, o') :: off I rest) B F' X N2 T R2 (List.mem_append_right _ (.tail _ hx)) hdp hun hnm hasl hval hf fun u' t1 h'' tk' F2 N3 => fin u' t1 h'' tk' tb F2 N3 TB tA
    | @quo _ val out hnm hval hf hS hout =>
      obtain ⟨tv, rfl⟩ : ∃ t, v2 = .str (ofL val) t := hv2
      rcases id TB with rfl | ⟨c0, oc0, vs0, t9, rfl, q1, q2, q3⟩
      · refine jturn_quoa (K := fun s' => ForRest prog w _ E _ _ _ Qw (.ref I) s') (rest := (I, o') :: off I rest) B F' X N2 T R2' a82 T2 (.tail _ hx) hdp hun hnm hasl hval hout hf hS fun u' t1 h'' tk' c0 oc0 vs0 t9 F2 N3 q1 q2 q3 q4 => ?_
        refine fin u' t1 h'' tk' [(82, tabObj #[rawInt ((lamPos (joinLam w.params)).line : Int), rawInt ((lamPos (joinLam w.params)).col : Int), .ref c0]), (c0, oc0)] F2 N3 (.inr ⟨c0, oc0, vs0, t9, rfl, q1, q2, q4⟩) fun q hq => ?_
        rcases List.mem_cons.mp hq with rfl | hq
        · exact fun e => a82 e.symm
        · rcases List.mem_singleton.mp hq with rfl
          exact q3
      · exact jturn_quob (K := fun s' => ForRest prog w _ E _ _ _ Qw (.ref I) s') (rest := (I, o') :: off I rest) B F' X N2 T R2' a82 T2 q1 q2 (tA (c0, oc0) (.tail _ (.head _))) q3 (.tail _ hx) hdp hun hnm hasl hval hout hf hS fun u' t1 h'' tk' F2 N3 => fin u' t1 h'' tk' _ F2 N3 TB tA
end
end Mine
-- part WR
namespace Mine
open PySem PySem.W PySem.Calls PyProof.Rows PySem.Builtin PySem.Builtin.Re
theorem quiet_WR : True := by
  w_top off
  trivial
local macro_rules | `(tactic| k_mem) => `(tactic| first | assumption | exact List.Mem.head _ | (refine' List.Mem.tail _ ?_; k_mem))
local macro_rules | `(tactic| k_all) => `(tactic| first | assumption | exact ne_of_allLt (by assumption) | (refine ne_of_allLt ?_; grind))
local macro_rules | `(tactic| walk_at "call builtin:list.append") => `(tactic| (k_here; k_dflt (refine' apd ?F ?N ?U ?z ?_; (case F => k_asm); (case N => k_asm); (case U => k_upd); (case z => omega); k_whole; intro h' F' N'; (try k_sweep))))
local macro_rules | `(tactic| walk_at "getMethod ref") => `(tactic| (k_here; (with_reducible show wpAny _ _ (getMethod (Value.ref _) (Str.ofString "search") _) _ _ _); k_dflt (refine getm_pat (PatAt.keeps (by first | exact pat_tok (by assumption) | exact pat_quo (by assumption) | exact pat_val (by assumption)) (Fr.keep (by k_asm))) slot_search type_search ?_)))
local macro_rules | `(tactic| walk_at "getMethod ref") => `(tactic| (k_here; (with_reducible show wpAny _ _ (getMethod (Value.ref _) (Str.ofString "group") _) _ _ _); k_dflt (refine getm_match (News.get (by k_asm) (by k_mem)) slot_group type_group ?_)))
local macro_rules | `(tactic| walk_at "call builtin:re.Pattern.search") => `(tactic| (k_here; k_dflt (first
  | (refine' find_call ?P ?z ?f ?F ?N ?_; (case P => first | exact pat_tok (by assumption) | exact pat_quo (by assumption) | exact pat_val (by assumption)); (case f => assumption); (case z => assumption); (case F => k_asm); (case N => k_asm); k_whole; intro T' h' F' N' l1; (try k_lt l1); (try k_sweep))
  | (refine' miss_call ?P ?F ?z ?f ?_; (case P => first | exact pat_tok (by assumption) | exact pat_quo (by assumption) | exact pat_val (by assumption)); (case f => assumption); (case z => assumption); (case F => k_asm); k_whole))))
local macro_rules | `(tactic| walk_at "call builtin:re.Match.group") => `(tactic| (k_here; k_dflt (refine' group_L ?N ?m ?t ?z ?_; (case N => k_asm); (case m => k_mem); (case t => k_mem); (case z => assumption); k_whole; intro t' k')))
local macro_rules | `(tactic| walk_at "truthy str") => `(tactic| (k_here; k_dflt (first | (refine' truthy_L ?z ?n ?_; (case n => assumption); (case z => assumption); k_whole; intro k') | (refine' truthy_L0 ?n ?_; (case n => assumption); k_whole; intro k'))))
local macro_rules | `(tactic| walk_at "call ref") => `(tactic| (k_here; (with_reducible show wpAny _ _ (call (Value.ref 43) _) _ _ _); k_dflt (refine' unm_call ?B ?F ?X ?N ?T ?k ?m ?t ?d ?u ?z ?f ?_; (case B => k_asm); (case F => k_asm); (case X => k_asm); (case N => k_asm); (case T => k_asm); (case k => exact rfl); (case m => k_mem); (case t => k_mem); (case d => omega); (case u => omega); (case z => assumption); (case f => assumption); k_whole; intro t' h' k' F' N'; (try k_sweep))))
local macro_rules | `(tactic| walk_at "truthy ref") => `(tactic| (k_here; k_dflt (refine' truthy_N ?N ?m ?_; (case N => k_asm); (case m => k_mem); k_whole)))
local macro_rules | `(tactic| walk_at "getMethod ref") => `(tactic| (k_here; (with_reducible show wpAny _ _ (getMethod (Value.ref _) (Str.ofString "subn") _) _ _ _); k_dflt (refine getm_pat (PatAt.keeps (pat_junk (by assumption)) (Fr.keep (by k_asm))) slot_subn type_subn ?_)))
local macro_rules | `(tactic| walk_at "call builtin:re.Pattern.subn") => `(tactic| (k_here; k_dflt (refine' subn_call1 ?F ?N ?P ?z ?j ?_; (case F => k_asm); (case N => k_asm); (case P => exact pat_junk (by assumption)); (case z => omega); (case j => assumption); k_whole; intro y' t1' t2' h' k' F' N' l1; (try k_lt l1); (try k_sweep))))
local macro_rules | `(tactic| walk_at "call builtin:str.lstrip") => `(tactic| (k_here; k_dflt (refine' lstrip_call ?z ?j ?_; (case z => assumption); (case j => assumption); k_whole; intro t' k')))
local macro_rules | `(tactic| walk_at "call builtin:str.rstrip") => `(tactic| (k_here; k_dflt (refine' rstrip_call ?z ?j ?_; (case z => assumption); (case j => assumption); k_whole; intro t' k')))
local macro_rules | `(tactic| walk_at "call builtin:str.startswith") => `(tactic| (k_here; k_dflt (refine' starts_comma ?j ?_; (case j => assumption); k_whole)))
local macro_rules | `(tactic| walk_at "subscriptTail Call") => `(tactic| (k_here; (with_unfolding_all (refine' sl_from1 ?F ?N ?z ?e ?_ ?s ?t; (case F => k_asm); (case N => k_asm); (case z => assumption); (case e => assumption); (case s => exact rfl); (case t => exact fun _ => rfl); k_whole)); intro h' t' k' F' N'; (try k_sweep)))
local macro_rules | `(tactic| walk_at "getMethod ref") => `(tactic| (k_here; (with_reducible show wpAny _ _ (getMethod (Value.ref _) (Str.ofString "sub") _) _ _ _); k_dflt (refine getm_pat (PatAt.keeps (by first | exact pat_esc (by assumption) | exact pat_je (by assumption)) (Fr.keep (by k_asm))) slot_sub type_sub ?_)))
section
variable {prog : Program} {w : World} {A : Around} {E : Value → Shared → Prop} {s : Shared} {h₀ : Heap} {L : Addr} {m : Str → Option Value} {news : List (Addr × Obj)} {D : Addr} {vs : List Value} {n : Nat} {ls : List (List Nat)} {t0 : Tok} {Q : Value → Shared → Prop}
theorem semi_ofL : Str.ofString "; " = ofL [59, 32] := by decide +kernel
theorem comma_ofL : Str.ofString ", " = ofL [44, 32] := by decide +kernel
theorem join_semi (N : News h₀ L s.heap news) (hm : (D, listO vs n) ∈ news) (hts : Each TextIs vs ls) (hsz : textsLen [59, 32] ls ≤ 1048576)
    (q : ∀ t' k, Q (.str (ofL (joinL [59, 32] ls)) t') { s with toks := k }) : wpAny (model prog w) A (call (.builtin "str.join") [.str (Str.ofString "; ") t0, .ref D]) Q E s := by
  rw [semi_ofL]; exact join_texts N hm hts hsz q
theorem join_comma (N : News h₀ L s.heap news) (hm : (D, listO vs n) ∈ news) (hts : Each TextIs vs ls) (hsz : textsLen [44, 32] ls ≤ 1048576)
    (q : ∀ t' k, Q (.str (ofL (joinL [44, 32] ls)) t') { s with toks := k }) : wpAny (model prog w) A (call (.builtin "str.join") [.str (Str.ofString ", ") t0, .ref D]) Q E s := by
  rw [comma_ofL]; exact join_texts N hm hts hsz q
end
theorem tabJ_ne {h₀ h : Heap} {L Ha : Addr} {l : List (Addr × Obj)} {hv : List Value} {hn : Nat} {pos : Pos} {tb : List (Addr × Obj)} (N : News h₀ L h l) (hI : (Ha, listO hv hn) ∈ l) (hs : ∀ q ∈ tb, q ∈ l) (h65 : @Ne Nat Ha 82) : TabJ pos tb → ∀ q ∈ tb, q.1 ≠ Ha
  | .inl e => fun q hq => by
    rw [e] at hq
    rcases List.mem_singleton.mp hq with rfl
    exact fun e => h65 e.symm
  | .inr ⟨c, oc, vs, t9, e, e1, e2, e3⟩ => fun q hq => by
    have hq' := hq
    rw [e] at hq'
    rcases List.mem_cons.mp hq' with rfl | hq'
    · exact fun e => h65 e.symm
    · rcases List.mem_singleton.mp hq' with rfl
      intro e'
      have e' : c = Ha := e'
      subst e'
      have := news_uniq N (hs _ hq) hI
      subst this
      cases e1
local macro_rules | `(tactic| walk_at "exec For Name Name cons nil") => `(tactic| (k_here; k_dflt (refine' for_start ?a ?_; (case a => exact fun _ => rfl); k_whole)))
local macro_rules | `(tactic| walk_at "pyIter ref") => `(tactic| (k_here; k_dflt (refine' iter_own ?F ?N ?m ?_; (case F => k_asm); (case N => k_asm); (case m => k_mem); k_whole); intro I' o' h' F' N' d' l1; (try k_lt l1)))
local macro_rules | `(tactic| walk_at "exec For Tuple Name cons nil") => `(tactic| (k_here; k_dflt (refine' for_start ?a ?_; (case a => exact fun _ => rfl); k_whole)))
local macro_rules | `(tactic| walk_at "call builtin:str.join") => `(tactic| (k_here; k_dflt (first
  | (refine' join_semi ?N ?m ?t ?z ?_; (case N => k_asm); (case m => k_mem); (case t => assumption); (case z => assumption); k_whole; intro t' k')
  | (refine' join_comma ?N ?m ?t ?z ?_; (case N => k_asm); (case m => k_mem); (case t => assumption); (case z => assumption); k_whole; intro t' k'))))
section
variable {prog : Program} {w : World} {p : Program} {loose : List Str} {mean : ExcName → Option Value} {mg mb : Str → Option Value} {dp un : Nat} {gd : Option (List Code)} {outer : List Env} {A₀ : Around} {base h₀ : Heap} {L : Addr} {s : Shared} {u : Str → Option Value}
    {E : Value → Shared → Prop} {Qw : Flow → Shared → Prop} {n2 rn : Nat} {Ha ra : Addr} {tb rest : List (Addr × Obj)} {hsV rvs : List Value} {ps : List Pr} {os : List (List Nat)} {K : Shared → Prop} {pos : Pos}
/-- one row -/
theorem jrowa (hrow : (ra, listO rvs rn) ∈ rest) (hps : Each (PairIn rest) rvs ps) (hJ : All2 JoinOne ps os) (hos : os ≠ []) (hlen : os.length ≤ 1000) (htl : textsLen [59, 32] os ≤ 1048576) (hhs : hsV.length ≤ 1000)
    (B : Below A₀ base outer h₀) (X : (hd.heap_39 w.params).In h₀) (T : Top p loose mean mg mb h₀) (hdp : dp + 10 < recursionLimit) (hun : un + 40 < cLine)
    (hE : PassesOwn (model prog w) (ktrTop dp un gd "join_header_words" (joinScope w.params) L 87 (.ref 86) [] outer) (envX "join_header_words" (joinScope w.params) L 87 (.ref 86) []) E)
    (F : Fr h₀ L s.heap (kstB u [("headers", .ref Ha)])) (N : News h₀ L s.heap ((Ha, listO hsV n2) :: (tb ++ rest))) (TB : TabJ (lamPos (joinLam w.params)) tb) (hH : ∀ q ∈ tb ++ rest, q.1 ≠ Ha) (h82 : ∀ q ∈ rest, q.1 ≠ 82)
    (ret : ∀ u' (t1 : Tok) tb' rest' h' tk', Fr h₀ L h' (kstB u' [("headers", .ref Ha)]) → News h₀ L h' ((Ha, listO (hsV ++ [.str (ofL (joinL [59, 32] os)) t1]) (n2 + 1)) :: (tb' ++ rest')) → TabJ (lamPos (joinLam w.params)) tb' →
        (∀ q ∈ tb' ++ rest', q.1 ≠ Ha) → (∀ q ∈ rest', q.1 ≠ 82) → (∀ q ∈ rest, q ∈ rest') → K { s with heap := h', toks := tk' }) :
    wpAny (model prog w) (ktrTop dp un gd "join_header_words" (joinScope w.params) L 87 (.ref 86) [] outer) (assign (.Name "pairs" pos) (envX "join_header_words" (joinScope w.params) L 87 (.ref 86) []) (.ref ra)) (fun _ s₂ => wpAny (model prog w) (ktrTop dp un gd "join_header_words" (joinScope w.params) L 87 (.ref 86) [] outer) (execs (forBody (joinFor w.params)) (envX "join_header_words" (joinScope w.params) L 87 (.ref 86) [])) (fun f s' => f = .next ∧ K s') E s₂) E s := by
  have JR := @join_rest prog w
  have ex1 : forBody (joinFor w.params) = forBody (joinFor w.params) := rfl
  conv at ex1 => rhs; whnf
  have ex2 : forBody (joinFor2 w.params) = forBody (joinFor2 w.params) := rfl
  conv at ex2 => rhs; whnf
  have ex3 : joinScope w.params = joinScope w.params := rfl
  conv at ex3 => rhs; whnf
  rw [ex1, ex3]
  rw [ex3] at hE
  rw [ex2, ex3] at JR
  clear ex1 ex2 ex3
  have hm2 : (ra, listO rvs rn) ∈ tb ++ rest := List.mem_append_right _ hrow
  obtain ⟨ot, hot⟩ := TB.has
  have ha82 : @Ne Nat Ha 82 := fun e => hH _ (List.mem_append_left _ hot) e.symm
  k_steps
  rename_i h3 At h2 l0 h1 F1 N1 I' o' h' F' N' d' l1
  have r0 : ∀ q ∈ tb ++ rest, q.1 ≠ At := ne_of_allLt l0.2
  have i0 : ∀ q ∈ tb ++ rest, q.1 ≠ I' := ne_of_allLt l1.2.2
  have ia82 : @Ne Nat I' 82 := fun e => i0 _ (List.mem_append_left _ hot) e.symm
  have iHa : @Ne Nat Ha I' := Nat.ne_of_lt l1.2.1
  have aHa : @Ne Nat Ha At := Nat.ne_of_lt l0.1
  have sub0 : ∀ q ∈ rest, q ∈ (I', o') :: (Ha, listO hsV n2) :: rest := fun q hq => .tail _ (.tail _ hq)
  refine JR (E := E) (At := At) (Ha := Ha) (I := I') (vs := rvs) (n := rn) (ax := ra) (all := os) (dn := []) (os := os) (ps := ps) (i := 0) (o := o') (asV := []) (n1 := 0) (kp := (Ha, listO hsV n2) :: rest) (tb := tb) (rest := (I', o') :: (Ha, listO hsV n2) :: rest) B X T hdp hun hE rfl hlen (Each.mono (fun _ _ => PairIn.mono sub0) hps) hJ rfl (fr_canon _ F' (List.forall_mem_cons.mpr ⟨by with_unfolding_all rfl, List.forall_mem_cons.mpr ⟨by with_unfolding_all rfl, List.forall_mem_nil _⟩⟩)) (news_sub N' ?hs) TB ?hR ?h82 trivial (.head _) d' (sub0 _ hrow) ?hk ?_
  case hs =>
    intro q hq
    simp only [List.mem_cons, List.mem_append] at hq ⊢
    grind
  case hR =>
    intro q hq
    simp only [List.mem_cons, List.mem_append] at hq r0
    rcases hq with hq | rfl | rfl | hq
    · exact r0 q (.inl hq)
    · exact Nat.ne_of_gt l1.1
    · exact aHa
    · exact r0 q (.inr hq)
  case h82 =>
    intro q hq
    rcases List.mem_cons.mp hq with rfl | hq
    · exact ia82
    · rcases List.mem_cons.mp hq with rfl | hq
      · exact ha82
      · exact h82 q hq
  case hk =>
    intro q hq
    refine ⟨.tail _ hq, ?_⟩
    rcases List.mem_cons.mp hq with rfl | hq
    · exact iHa
    · exact i0 q (List.mem_append_right _ hq)
  intro u' n1 tb' rest' asV h'' tk' F2 N2 b1 b2 b3 b4 b5
  clear N' F' N1 F1
  have hz : asV.length = os.length := b4.len
  have has : asV.length ≤ 1000 := by omega
  have hasn : asV ≠ [] := by
    intro e; rw [e] at hz; simp at hz; exact hos (List.eq_nil_of_length_eq_zero hz.symm)
  obtain ⟨ot', hot'⟩ := b1.has
  have aH : @Ne Nat Ha At := b2 _ (List.mem_append_right _ (b5 _ (.head _)))
  have tH : ∀ q ∈ tb', q.1 ≠ Ha := tabJ_ne N2 (.tail _ (List.mem_append_right _ (b5 _ (.head _)))) (fun q hq => .tail _ (List.mem_append_left _ hq)) ha82 b1
  have N3 : News h₀ L h'' ((At, listO asV n1) :: (Ha, listO hsV n2) :: (tb' ++ off Ha rest')) := by
    refine news_sub N2 fun q hq => ?_
    rcases List.mem_cons.mp hq with rfl | hq
    · exact .head _
    · rcases List.mem_cons.mp hq with rfl | hq
      · exact .tail _ (List.mem_append_right _ (b5 _ (.head _)))
      · rcases List.mem_append.mp hq with hq | hq
        · exact .tail _ (List.mem_append_left _ hq)
        · exact .tail _ (List.mem_append_right _ (mem_off.mp hq).1)
  have hH2 : ∀ q ∈ tb' ++ off Ha rest', q.1 ≠ Ha := fun q hq => (List.mem_append.mp hq).elim (fun z => tH q z) fun z => (mem_off.mp z).2
  have hA2 : ∀ q ∈ tb' ++ off Ha rest', q.1 ≠ At := fun q hq => (List.mem_append.mp hq).elim (fun z => b2 q (List.mem_append_left _ z)) fun z => b2 q (List.mem_append_right _ (mem_off.mp z).1)
  have N2 := N3
  clear N3
  k_steps
  all_goals (try k_data)
  refine ret _ ?t1 tb' ((At, listO asV n1) :: off Ha rest') _ _ (fr_canon _ (by assumption) (List.forall_mem_cons.mpr ⟨by with_unfolding_all rfl, List.forall_mem_nil _⟩)) (news_sub (by assumption) ?hs) b1 ?hR ?h82 ?hk
  case hs =>
    refine List.forall_mem_cons.mpr ⟨by k_mem, fun q hq => ?_⟩
    simp only [List.mem_cons, List.mem_append] at hq ⊢
    grind
  case hR =>
    intro q hq
    simp only [List.mem_cons, List.mem_append] at hq hH2
    rcases hq with hq | rfl | hq
    · exact hH2 q (.inl hq)
    · exact aH.symm
    · exact hH2 q (.inr hq)
  case h82 =>
    intro q hq
    rcases List.mem_cons.mp hq with rfl | hq
    · exact fun e => b2 _ (List.mem_append_left _ hot') e.symm
    · exact b3 q (mem_off.mp hq).1
  case hk => exact fun q hq => .tail _ (mem_off.mpr ⟨b5 q (.tail _ hq), hH q (List.mem_append_right _ hq)⟩)
end
section
variable {prog : Program} {w : World} {p : Program} {loose : List Str} {mean : ExcName → Option Value} {mg mb : Str → Option Value} {dp un : Nat} {gd : Option (List Code)} {outer : List Env} {A₀ : Around} {base h₀ : Heap} {L : Addr} {s : Shared} {u : Str → Option Value}
    {E : Value → Shared → Prop} {Qw : Flow → Shared → Prop} {n2 rn : Nat} {Ha ra : Addr} {tb rest : List (Addr × Obj)} {hsV rvs : List Value} {ps : List Pr} {os : List (List Nat)} {K : Shared → Prop} {pos : Pos}
/-- one row -/
theorem jrowb (hrow : (ra, listO rvs rn) ∈ rest) (hps : Each (PairIn rest) rvs ps) (hJ : All2 JoinOne ps os) (hos : os = []) (hlen : os.length ≤ 1000) (htl : textsLen [59, 32] os ≤ 1048576) (hhs : hsV.length ≤ 1000)
    (B : Below A₀ base outer h₀) (X : (hd.heap_39 w.params).In h₀) (T : Top p loose mean mg mb h₀) (hdp : dp + 10 < recursionLimit) (hun : un + 40 < cLine)
    (hE : PassesOwn (model prog w) (ktrTop dp un gd "join_header_words" (joinScope w.params) L 87 (.ref 86) [] outer) (envX "join_header_words" (joinScope w.params) L 87 (.ref 86) []) E)
    (F : Fr h₀ L s.heap (kstB u [("headers", .ref Ha)])) (N : News h₀ L s.heap ((Ha, listO hsV n2) :: (tb ++ rest))) (TB : TabJ (lamPos (joinLam w.params)) tb) (hH : ∀ q ∈ tb ++ rest, q.1 ≠ Ha) (h82 : ∀ q ∈ rest, q.1 ≠ 82)
    (ret : ∀ u' (t1 : Tok) tb' rest' h' tk', Fr h₀ L h' (kstB u' [("headers", .ref Ha)]) → News h₀ L h' ((Ha, listO hsV n2) :: (tb' ++ rest')) → TabJ (lamPos (joinLam w.params)) tb' →
        (∀ q ∈ tb' ++ rest', q.1 ≠ Ha) → (∀ q ∈ rest', q.1 ≠ 82) → (∀ q ∈ rest, q ∈ rest') → K { s with heap := h', toks := tk' }) :
    wpAny (model prog w) (ktrTop dp un gd "join_header_words" (joinScope w.params) L 87 (.ref 86) [] outer) (assign (.Name "pairs" pos) (envX "join_header_words" (joinScope w.params) L 87 (.ref 86) []) (.ref ra)) (fun _ s₂ => wpAny (model prog w) (ktrTop dp un gd "join_header_words" (joinScope w.params) L 87 (.ref 86) [] outer) (execs (forBody (joinFor w.params)) (envX "join_header_words" (joinScope w.params) L 87 (.ref 86) [])) (fun f s' => f = .next ∧ K s') E s₂) E s := by
  have JR := @join_rest prog w
  have ex1 : forBody (joinFor w.params) = forBody (joinFor w.params) := rfl
  conv at ex1 => rhs; whnf
  have ex2 : forBody (joinFor2 w.params) = forBody (joinFor2 w.params) := rfl
  conv at ex2 => rhs; whnf
  have ex3 : joinScope w.params = joinScope w.params := rfl
  conv at ex3 => rhs; whnf
  rw [ex1, ex3]
  rw [ex3] at hE
  rw [ex2, ex3] at JR
  clear ex1 ex2 ex3
  have hm2 : (ra, listO rvs rn) ∈ tb ++ rest := List.mem_append_right _ hrow
  obtain ⟨ot, hot⟩ := TB.has
  have ha82 : @Ne Nat Ha 82 := fun e => hH _ (List.mem_append_left _ hot) e.symm
  k_steps
  rename_i h3 At h2 l0 h1 F1 N1 I' o' h' F' N' d' l1
  have r0 : ∀ q ∈ tb ++ rest, q.1 ≠ At := ne_of_allLt l0.2
  have i0 : ∀ q ∈ tb ++ rest, q.1 ≠ I' := ne_of_allLt l1.2.2
  have ia82 : @Ne Nat I' 82 := fun e => i0 _ (List.mem_append_left _ hot) e.symm
  have iHa : @Ne Nat Ha I' := Nat.ne_of_lt l1.2.1
  have aHa : @Ne Nat Ha At := Nat.ne_of_lt l0.1
  have sub0 : ∀ q ∈ rest, q ∈ (I', o') :: (Ha, listO hsV n2) :: rest := fun q hq => .tail _ (.tail _ hq)
  refine JR (E := E) (At := At) (Ha := Ha) (I := I') (vs := rvs) (n := rn) (ax := ra) (all := os) (dn := []) (os := os) (ps := ps) (i := 0) (o := o') (asV := []) (n1 := 0) (kp := (Ha, listO hsV n2) :: rest) (tb := tb) (rest := (I', o') :: (Ha, listO hsV n2) :: rest) B X T hdp hun hE rfl hlen (Each.mono (fun _ _ => PairIn.mono sub0) hps) hJ rfl (fr_canon _ F' (List.forall_mem_cons.mpr ⟨by with_unfolding_all rfl, List.forall_mem_cons.mpr ⟨by with_unfolding_all rfl, List.forall_mem_nil _⟩⟩)) (news_sub N' ?hs) TB ?hR ?h82 trivial (.head _) d' (sub0 _ hrow) ?hk ?_
  case hs =>
    intro q hq
    simp only [List.mem_cons, List.mem_append] at hq ⊢
    grind
  case hR =>
    intro q hq
    simp only [List.mem_cons, List.mem_append] at hq r0
    rcases hq with hq | rfl | rfl | hq
    · exact r0 q (.inl hq)
    · exact Nat.ne_of_gt l1.1
    · exact aHa
    · exact r0 q (.inr hq)
  case h82 =>
    intro q hq
    rcases List.mem_cons.mp hq with rfl | hq
    · exact ia82
    · rcases List.mem_cons.mp hq with rfl | hq
      · exact ha82
      · exact h82 q hq
  case hk =>
    intro q hq
    refine ⟨.tail _ hq, ?_⟩
    rcases List.mem_cons.mp hq with rfl | hq
    · exact iHa
    · exact i0 q (List.mem_append_right _ hq)
  intro u' n1 tb' rest' asV h'' tk' F2 N2 b1 b2 b3 b4 b5
  clear N' F' N1 F1
  have hz : asV.length = os.length := b4.len
  have has : asV.length ≤ 1000 := by omega
  have hasn : asV = [] := by
    rw [hos] at hz; exact List.eq_nil_of_length_eq_zero hz
  obtain ⟨ot', hot'⟩ := b1.has
  have aH : @Ne Nat Ha At := b2 _ (List.mem_append_right _ (b5 _ (.head _)))
  have tH : ∀ q ∈ tb', q.1 ≠ Ha := tabJ_ne N2 (.tail _ (List.mem_append_right _ (b5 _ (.head _)))) (fun q hq => .tail _ (List.mem_append_left _ hq)) ha82 b1
  have N3 : News h₀ L h'' ((At, listO asV n1) :: (Ha, listO hsV n2) :: (tb' ++ off Ha rest')) := by
    refine news_sub N2 fun q hq => ?_
    rcases List.mem_cons.mp hq with rfl | hq
    · exact .head _
    · rcases List.mem_cons.mp hq with rfl | hq
      · exact .tail _ (List.mem_append_right _ (b5 _ (.head _)))
      · rcases List.mem_append.mp hq with hq | hq
        · exact .tail _ (List.mem_append_left _ hq)
        · exact .tail _ (List.mem_append_right _ (mem_off.mp hq).1)
  have hH2 : ∀ q ∈ tb' ++ off Ha rest', q.1 ≠ Ha := fun q hq => (List.mem_append.mp hq).elim (fun z => tH q z) fun z => (mem_off.mp z).2
  have hA2 : ∀ q ∈ tb' ++ off Ha rest', q.1 ≠ At := fun q hq => (List.mem_append.mp hq).elim (fun z => b2 q (List.mem_append_left _ z)) fun z => b2 q (List.mem_append_right _ (mem_off.mp z).1)
  have N2 := N3
  clear N3
  k_steps
  all_goals (try k_data)
  refine ret _ 0 tb' (off Ha rest') _ _ (fr_canon _ (by assumption) (List.forall_mem_cons.mpr ⟨by with_unfolding_all rfl, List.forall_mem_nil _⟩)) (news_sub (by assumption) ?hs) b1 hH2 ?h82 ?hk
  case hs => exact fun q hq => .tail _ hq
  case h82 => exact fun q hq => b3 q (mem_off.mp hq).1
  case hk => exact fun q hq => mem_off.mpr ⟨b5 q (.tail _ hq), hH q (List.mem_append_right _ hq)⟩
end
end Mine
-- part WS
namespace Mine
open PySem PySem.W PySem.Calls PyProof.Rows PySem.Builtin PySem.Builtin.Str
inductive JoinAll : List (List Pr) → List (List Nat) → Prop
  | nil : JoinAll [] []
  | skip {ps : List Pr} {rs : List (List Pr)} {hs : List (List Nat)} : All2 JoinOne ps [] → JoinAll rs hs → JoinAll (ps :: rs) hs
  | row {ps : List Pr} {rs : List (List Pr)} {os hs : List (List Nat)} : All2 JoinOne ps os → os ≠ [] → os.length ≤ 1000 → textsLen [59, 32] os ≤ 1048576 → JoinAll rs hs → JoinAll (ps :: rs) (joinL [59, 32] os :: hs)
section
variable {prog : Program} {w : World} {p : Program} {loose : List Str} {mean : ExcName → Option Value} {mg mb : Str → Option Value} {dp un : Nat} {gd : Option (List Code)} {outer : List Env} {A₀ : Around} {base h₀ : Heap} {L : Addr}
    {E : Value → Shared → Prop} {Qw : Flow → Shared → Prop} {ax I : Addr} {vs : List Value} {n : Nat} {pos : Pos} {Ha : Addr} {kp : List (Addr × Obj)} {all : List (List Nat)}
theorem join_rest2 (B : Below A₀ base outer h₀) (X : (hd.heap_39 w.params).In h₀) (T : Top p loose mean mg mb h₀) (hdp : dp + 10 < recursionLimit) (hun : un + 40 < cLine)
    (hE : PassesOwn (model prog w) (ktrTop dp un gd "join_header_words" (joinScope w.params) L 87 (.ref 86) [] outer) (envX "join_header_words" (joinScope w.params) L 87 (.ref 86) []) E)
    (hh : (ktrTop dp un gd "join_header_words" (joinScope w.params) L 87 (.ref 86) [] outer).handled = none) (hall : all.length ≤ 1000) :
    ∀ {rss : List (List Pr)} {hs : List (List Nat)} {i : Nat} {s : Shared} {u : Str → Option Value} {n2 : Nat} {tb rest : List (Addr × Obj)} {hsV : List Value} {dn : List (List Nat)} {o : Obj}
      (_ : Each (RowIn rest) (vs.drop i) rss) (_ : JoinAll rss hs) (_ : dn ++ hs = all)
      (_ : Fr h₀ L s.heap (kstB u [("headers", .ref Ha)])) (_ : News h₀ L s.heap ((Ha, listO hsV n2) :: (tb ++ rest))) (_ : TabJ (lamPos (joinLam w.params)) tb) (_ : ∀ q ∈ tb ++ rest, q.1 ≠ Ha) (_ : ∀ q ∈ rest, q.1 ≠ 82) (_ : Each TextIs hsV dn)
      (_ : (I, o) ∈ rest) (_ : ItO o ax i) (_ : (ax, listO vs n) ∈ rest) (_ : ∀ q ∈ kp, q ∈ rest ∧ q.1 ≠ I)
      (_ : ∀ u' n2 tb' rest' hsV h' tk', Fr h₀ L h' (kstB u' [("headers", .ref Ha)]) → News h₀ L h' ((Ha, listO hsV n2) :: (tb' ++ rest')) → TabJ (lamPos (joinLam w.params)) tb' →
        (∀ q ∈ tb' ++ rest', q.1 ≠ Ha) → (∀ q ∈ rest', q.1 ≠ 82) → Each TextIs hsV all → (∀ q ∈ kp, q ∈ rest') → Qw .next { s with heap := h', toks := tk' }),
      ForRest prog w (ktrTop dp un gd "join_header_words" (joinScope w.params) L 87 (.ref 86) [] outer) E (envX "join_header_words" (joinScope w.params) L 87 (.ref 86) []) (.Name "pairs" pos) (forBody (joinFor w.params)) Qw (.ref I) s := by
  intro rss
  induction rss with
  | nil =>
    intro hs i s u n2 tb rest hsV dn o hvs hJ hdn F N TB hH h82 ET hI ho hm hk ret
    cases hJ
    rw [List.append_nil] at hdn
    subst hdn
    have hIn : (I, o) ∈ (Ha, listO hsV n2) :: (tb ++ rest) := .tail _ (List.mem_append_right _ hI)
    have i82 : @Ne Nat I 82 := h82 _ hI
    have hs1 : ∀ q ∈ rest, q ∈ (Ha, listO hsV n2) :: (tb ++ rest) := fun q hq => .tail _ (List.mem_append_right _ hq)
    refine for_endO hE hh F N hIn ho (hs1 _ hm) (drop_end hvs) fun h' F' N' => ?_
    have tbo := TB.off N hIn ho (fun q hq => .tail _ (List.mem_append_left _ hq)) i82
    refine ret u n2 tb (off I rest) hsV h' s.toks F' (news_sub N' fun q hq => ?_) TB (fun q hq => ?_) (fun q hq => h82 q (mem_off.mp hq).1) ET (fun q hq => mem_off.mpr (hk q hq))
    · rcases List.mem_cons.mp hq with rfl | hq
      · exact mem_off.mpr ⟨.head _, fun e => hH _ (List.mem_append_right _ hI) e.symm⟩
      · rcases List.mem_append.mp hq with hq | hq
        · rw [← tbo] at hq; exact mem_off.mpr ⟨.tail _ (List.mem_append_left _ (mem_off.mp hq).1), (mem_off.mp hq).2⟩
        · exact mem_off.mpr ⟨.tail _ (List.mem_append_right _ (mem_off.mp hq).1), (mem_off.mp hq).2⟩
    · rcases List.mem_append.mp hq with hq | hq
      · exact hH q (List.mem_append_left _ hq)
      · exact hH q (List.mem_append_right _ (mem_off.mp hq).1)
  | cons ps rss ih =>
    intro hs i s u n2 tb rest hsV dn o hvs hJ hdn F N TB hH h82 ET hI ho hm hk ret
    obtain ⟨v, hv, hvs', hpr⟩ := drop_step (E := Each (RowIn rest)) (R := RowIn rest) (fun _ _ h => h) (fun h => h) hvs
    have hIn : (I, o) ∈ (Ha, listO hsV n2) :: (tb ++ rest) := .tail _ (List.mem_append_right _ hI)
    have i82 : @Ne Nat I 82 := h82 _ hI
    have hs1 : ∀ q ∈ rest, q ∈ (Ha, listO hsV n2) :: (tb ++ rest) := fun q hq => .tail _ (List.mem_append_right _ hq)
    have tbo := TB.off N hIn ho (fun q hq => .tail _ (List.mem_append_left _ hq)) i82
    obtain ⟨ra, rvs, rn, rfl, hra, hrp⟩ := RowIn.off N hIn ho hs1 hpr
    have hvs2 : Each (RowIn (off I rest)) (vs.drop (i + 1)) rss := Each.mono (fun _ _ => RowIn.off N hIn ho hs1) hvs'
    have hhl : hsV.length ≤ 1000 := by rw [ET.len]; have := hall; rw [← hdn, List.length_append] at this; omega
    refine for_itemO hE F N hIn ho (hs1 _ hm) hv (.inl ⟨_, _, rfl⟩) fun h' o' F' N' ho' => ?_
    have N2 : News h₀ L h' ((Ha, listO hsV n2) :: (tb ++ (I, o') :: off I rest)) := by
      refine news_sub N' fun q hq => ?_
      rcases List.mem_cons.mp hq with rfl | hq
      · exact .tail _ (mem_off.mpr ⟨.head _, fun e => hH _ (List.mem_append_right _ hI) e.symm⟩)
      · rcases List.mem_append.mp hq with hq | hq
        · rw [← tbo] at hq; exact .tail _ (mem_off.mpr ⟨.tail _ (List.mem_append_left _ (mem_off.mp hq).1), (mem_off.mp hq).2⟩)
        · rcases List.mem_cons.mp hq with rfl | hq
          · exact .head _
          · exact .tail _ (mem_off.mpr ⟨.tail _ (List.mem_append_right _ (mem_off.mp hq).1), (mem_off.mp hq).2⟩)
    have R2 : ∀ q ∈ tb ++ (I, o') :: off I rest, q.1 ≠ Ha := fun q hq => by
      rcases List.mem_append.mp hq with hq | hq
      · exact hH q (List.mem_append_left _ hq)
      · rcases List.mem_cons.mp hq with rfl | hq
        · exact hH (I, o) (List.mem_append_right _ hI)
        · exact hH q (List.mem_append_right _ (mem_off.mp hq).1)
    have T2 : ∀ q ∈ (I, o') :: off I rest, q.1 ≠ 82 := fun q hq => by
      rcases List.mem_cons.mp hq with rfl | hq
      · exact i82
      · exact h82 q (mem_off.mp hq).1
    have m2 : (ax, listO vs n) ∈ off I rest := mem_off_of N hIn hs1 hm (ho.ne_lst _ _)
    have up : ∀ q ∈ off I rest, q ∈ (I, o') :: off I rest := fun q hq => .tail _ hq
    have fin : ∀ {dn' hs'} (hsV' : List Value) (n2' : Nat) u' tb' rest' h'' tk', Each TextIs hsV' dn' → JoinAll rss hs' → dn' ++ hs' = all → Fr h₀ L h'' (kstB u' [("headers", .ref Ha)]) → News h₀ L h'' ((Ha, listO hsV' n2') :: (tb' ++ rest')) → TabJ (lamPos (joinLam w.params)) tb' →
        (∀ q ∈ tb' ++ rest', q.1 ≠ Ha) → (∀ q ∈ rest', q.1 ≠ 82) → (∀ q ∈ (I, o') :: off I rest, q ∈ rest') →
        ForRest prog w (ktrTop dp un gd "join_header_words" (joinScope w.params) L 87 (.ref 86) [] outer) E (envX "join_header_words" (joinScope w.params) L 87 (.ref 86) []) (.Name "pairs" pos) (forBody (joinFor w.params)) Qw (.ref I) { s with heap := h'', toks := tk' } := by
      intro dn' hs' hsV' n2' u' tb' rest' h'' tk' c1 c2 c3 a1 a2 a3 a4 a5 a6
      exact ih (Each.mono (fun _ _ => RowIn.mono fun q hq => a6 q (.tail _ hq)) hvs2) c2 c3 a1 a2 a3 a4 a5 c1 (a6 _ (.head _)) ho' (a6 _ (.tail _ m2)) (fun q hq => ⟨a6 _ (.tail _ (mem_off.mpr (hk q hq))), (hk q hq).2⟩) ret
    cases hJ with
    | skip j1 j2 =>
      exact jrowb (K := fun s' => ForRest prog w _ E _ _ _ Qw (.ref I) s') (up _ hra) (Each.mono (fun _ _ => PairIn.mono up) hrp) j1 rfl (by simp) (by simp [textsLen]) hhl B X T hdp hun hE F' N2 TB R2 T2 fun u' _ tb' rest' h'' tk' a1 a2 a3 a4 a5 a6 => fin hsV n2 u' tb' rest' h'' tk' ET j2 hdn a1 a2 a3 a4 a5 a6
    | @row _ _ os hs j1 j2 j3 j4 j5 =>
      exact jrowa (K := fun s' => ForRest prog w _ E _ _ _ Qw (.ref I) s') (up _ hra) (Each.mono (fun _ _ => PairIn.mono up) hrp) j1 j2 j3 j4 hhl B X T hdp hun hE F' N2 TB R2 T2 fun u' t1 tb' rest' h'' tk' a1 a2 a3 a4 a5 a6 => fin _ (n2 + 1) u' tb' rest' h'' tk' (Each.snoc ⟨t1, rfl⟩ ET) j5 (by rw [← hdn]; simp) a1 a2 a3 a4 a5 a6
end
end Mine
-- part WT
namespace Mine
open PySem PySem.W PySem.Calls PyProof.Rows PySem.Builtin PySem.Builtin.Re
local macro_rules | `(tactic| walk_at "nothing so called") => `(tactic| skip)
theorem quiet_WT : True := by
  w_top off
  trivial
local macro_rules | `(tactic| k_mem) => `(tactic| first | assumption | exact List.Mem.head _ | (refine' List.Mem.tail _ ?_; k_mem))
local macro_rules | `(tactic| k_all) => `(tactic| first | assumption | exact ne_of_allLt (by assumption) | (refine ne_of_allLt ?_; grind))
local macro_rules | `(tactic| walk_at "call builtin:list.append") => `(tactic| (k_here; k_dflt (refine' apd ?F ?N ?U ?z ?_; (case F => k_asm); (case N => k_asm); (case U => k_upd); (case z => omega); k_whole; intro h' F' N'; (try k_sweep))))
local macro_rules | `(tactic| walk_at "getMethod ref") => `(tactic| (k_here; (with_reducible show wpAny _ _ (getMethod (Value.ref _) (Str.ofString "search") _) _ _ _); k_dflt (refine getm_pat (PatAt.keeps (by first | exact pat_tok (by assumption) | exact pat_quo (by assumption) | exact pat_val (by assumption)) (Fr.keep (by k_asm))) slot_search type_search ?_)))
local macro_rules | `(tactic| walk_at "getMethod ref") => `(tactic| (k_here; (with_reducible show wpAny _ _ (getMethod (Value.ref _) (Str.ofString "group") _) _ _ _); k_dflt (refine getm_match (News.get (by k_asm) (by k_mem)) slot_group type_group ?_)))
local macro_rules | `(tactic| walk_at "call builtin:re.Pattern.search") => `(tactic| (k_here; k_dflt (first
  | (refine' find_call ?P ?z ?f ?F ?N ?_; (case P => first | exact pat_tok (by assumption) | exact pat_quo (by assumption) | exact pat_val (by assumption)); (case f => assumption); (case z => assumption); (case F => k_asm); (case N => k_asm); k_whole; intro T' h' F' N' l1; (try k_lt l1); (try k_sweep))
  | (refine' miss_call ?P ?F ?z ?f ?_; (case P => first | exact pat_tok (by assumption) | exact pat_quo (by assumption) | exact pat_val (by assumption)); (case f => assumption); (case z => assumption); (case F => k_asm); k_whole))))
local macro_rules | `(tactic| walk_at "call builtin:re.Match.group") => `(tactic| (k_here; k_dflt (refine' group_L ?N ?m ?t ?z ?_; (case N => k_asm); (case m => k_mem); (case t => k_mem); (case z => assumption); k_whole; intro t' k')))
local macro_rules | `(tactic| walk_at "truthy str") => `(tactic| (k_here; k_dflt (first | (refine' truthy_L ?z ?n ?_; (case n => assumption); (case z => assumption); k_whole; intro k') | (refine' truthy_L0 ?n ?_; (case n => assumption); k_whole; intro k'))))
local macro_rules | `(tactic| walk_at "call ref") => `(tactic| (k_here; (with_reducible show wpAny _ _ (call (Value.ref 43) _) _ _ _); k_dflt (refine' unm_call ?B ?F ?X ?N ?T ?k ?m ?t ?d ?u ?z ?f ?_; (case B => k_asm); (case F => k_asm); (case X => k_asm); (case N => k_asm); (case T => k_asm); (case k => exact rfl); (case m => k_mem); (case t => k_mem); (case d => omega); (case u => omega); (case z => assumption); (case f => assumption); k_whole; intro t' h' k' F' N'; (try k_sweep))))
local macro_rules | `(tactic| walk_at "truthy ref") => `(tactic| (k_here; k_dflt (refine' truthy_N ?N ?m ?_; (case N => k_asm); (case m => k_mem); k_whole)))
local macro_rules | `(tactic| walk_at "getMethod ref") => `(tactic| (k_here; (with_reducible show wpAny _ _ (getMethod (Value.ref _) (Str.ofString "subn") _) _ _ _); k_dflt (refine getm_pat (PatAt.keeps (pat_junk (by assumption)) (Fr.keep (by k_asm))) slot_subn type_subn ?_)))
local macro_rules | `(tactic| walk_at "call builtin:re.Pattern.subn") => `(tactic| (k_here; k_dflt (refine' subn_call1 ?F ?N ?P ?z ?j ?_; (case F => k_asm); (case N => k_asm); (case P => exact pat_junk (by assumption)); (case z => omega); (case j => assumption); k_whole; intro y' t1' t2' h' k' F' N' l1; (try k_lt l1); (try k_sweep))))
local macro_rules | `(tactic| walk_at "call builtin:str.lstrip") => `(tactic| (k_here; k_dflt (refine' lstrip_call ?z ?j ?_; (case z => assumption); (case j => assumption); k_whole; intro t' k')))
local macro_rules | `(tactic| walk_at "call builtin:str.rstrip") => `(tactic| (k_here; k_dflt (refine' rstrip_call ?z ?j ?_; (case z => assumption); (case j => assumption); k_whole; intro t' k')))
local macro_rules | `(tactic| walk_at "call builtin:str.startswith") => `(tactic| (k_here; k_dflt (refine' starts_comma ?j ?_; (case j => assumption); k_whole)))
local macro_rules | `(tactic| walk_at "subscriptTail Call") => `(tactic| (k_here; (with_unfolding_all (refine' sl_from1 ?F ?N ?z ?e ?_ ?s ?t; (case F => k_asm); (case N => k_asm); (case z => assumption); (case e => assumption); (case s => exact rfl); (case t => exact fun _ => rfl); k_whole)); intro h' t' k' F' N'; (try k_sweep)))
local macro_rules | `(tactic| walk_at "getMethod ref") => `(tactic| (k_here; (with_reducible show wpAny _ _ (getMethod (Value.ref _) (Str.ofString "sub") _) _ _ _); k_dflt (refine getm_pat (PatAt.keeps (by first | exact pat_esc (by assumption) | exact pat_je (by assumption)) (Fr.keep (by k_asm))) slot_sub type_sub ?_)))
local macro_rules | `(tactic| walk_at "exec For Name Name cons nil") => `(tactic| (k_here; k_dflt (refine' for_start ?a ?_; (case a => exact fun _ => rfl); k_whole)))
local macro_rules | `(tactic| walk_at "pyIter ref") => `(tactic| (k_here; k_dflt (refine' iter_own ?F ?N ?m ?_; (case F => k_asm); (case N => k_asm); (case m => k_mem); k_whole); intro I' o' h' F' N' d' l1; (try k_lt l1)))
local macro_rules | `(tactic| walk_at "exec For Tuple Name cons nil") => `(tactic| (k_here; k_dflt (refine' for_start ?a ?_; (case a => exact fun _ => rfl); k_whole)))
local macro_rules | `(tactic| walk_at "call builtin:str.join") => `(tactic| (k_here; k_dflt (first
  | (refine' join_semi ?N ?m ?t ?z ?_; (case N => k_asm); (case m => k_mem); (case t => assumption); (case z => assumption); k_whole; intro t' k')
  | (refine' join_comma ?N ?m ?t ?z ?_; (case N => k_asm); (case m => k_mem); (case t => assumption); (case z => assumption); k_whole; intro t' k'))))
section
variable {prog : Program} {w : World} {p : Program} {loose : List Str} {mean : ExcName → Option Value} {mg mb : Str → Option Value} {dp un : Nat} {gd : Option (List Code)} {cn : Str} {cs : Scope} {a : Addr} {ccd : Value} {cl : List (Str × Addr)} {outer : List Env} {A₀ : Around} {base h₀ : Heap} {L : Addr} {m : Str → Option Value} {s : Shared}
    {Q E : Value → Shared → Prop} {ax : Addr} {vs : List Value} {n : Nat} {tb rest : List (Addr × Obj)} {rss : List (List Pr)} {hs : List (List Nat)}
theorem join_call (B : Below A₀ base outer h₀) (F : Fr h₀ L s.heap m) (X : (hd.heap_39 w.params).In h₀) (N : News h₀ L s.heap (tb ++ rest)) (T : Top p loose mean mg mb h₀) (hk : cs.kind = .function)
    (TB : TabJ (lamPos (joinLam w.params)) tb) (h82 : ∀ q ∈ rest, q.1 ≠ 82) (hm : (ax, listO vs n) ∈ rest) (hrs : Each (RowIn rest) vs rss) (hJ : JoinAll rss hs) (hlen : hs.length ≤ 1000) (htl : textsLen [44, 32] hs ≤ 1048576) (hdp : dp + 20 < recursionLimit) (hun : un + 60 < cLine)
    (hret : ∀ t1 tb' rest' h' tk', Fr h₀ L h' m → News h₀ L h' (tb' ++ rest') → TabJ (lamPos (joinLam w.params)) tb' → (∀ q ∈ rest', q.1 ≠ 82) → (∀ q ∈ rest, q ∈ rest') → Q (.str (ofL (joinL [44, 32] hs)) t1) { s with heap := h', toks := tk' }) :
    wpAny (model prog w) (ktrTop dp un gd cn cs L a ccd cl outer) (call (.ref 87) [.ref ax]) Q E s := by
  have hm2 : (ax, listO vs n) ∈ tb ++ rest := List.mem_append_right _ hm
  have JR := @join_rest2 prog w
  have ex1 : forBody (joinFor w.params) = forBody (joinFor w.params) := rfl
  conv at ex1 => rhs; whnf
  have ex3 : joinScope w.params = joinScope w.params := rfl
  conv at ex3 => rhs; whnf
  rw [ex1, ex3] at JR
  clear ex1 ex3
  refine wpAny_call ?_
  k_dflt ktr_enter
  k_steps
  rename_i tkA tkB Ha h2 l0 h1 F1 N1 I' o' h' F' N' d' l1
  have r0 : ∀ q ∈ tb ++ rest, q.1 ≠ Ha := fun q hq => Nat.ne_of_lt (l0 q hq)
  have i0 : ∀ q ∈ tb ++ rest, q.1 ≠ I' := ne_of_allLt l1.2
  obtain ⟨ot, hot⟩ := TB.has
  have ia : @Ne Nat I' 82 := fun e => i0 _ (List.mem_append_left _ hot) e.symm
  refine JR (rss := rss) (hs := hs) (all := hs) (dn := []) (hsV := []) (n2 := 0) (kp := rest) (tb := tb) (rest := (I', o') :: rest) (vs := vs) (n := n) (i := 0) (by assumption) (by assumption) (by assumption) ?hd ?hu ?hE rfl hlen (Each.mono (fun _ _ => RowIn.mono fun q hq => .tail _ hq) hrs) hJ rfl (fr_canon _ F' (List.forall_mem_cons.mpr ⟨by with_unfolding_all rfl, List.forall_mem_nil _⟩)) (news_sub N' ?hs) TB ?hR ?h65 trivial (.head _) d' (.tail _ hm) ?hk ?_
  case hd => ktr_room
  case hu => ktr_room
  case hE => first | passes_own | with_unfolding_all passes_own
  case hs =>
    intro q hq
    simp only [List.mem_cons, List.mem_append] at hq ⊢
    grind
  case hR =>
    intro q hq
    simp only [List.mem_cons, List.mem_append] at hq r0
    rcases hq with hq | rfl | hq
    · exact r0 q (.inl hq)
    · exact Nat.ne_of_gt l1.1
    · exact r0 q (.inr hq)
  case h65 =>
    intro q hq
    rcases List.mem_cons.mp hq with rfl | hq
    · exact ia
    · exact h82 q hq
  case hk => exact fun q hq => ⟨.tail _ hq, i0 q (List.mem_append_right _ hq)⟩
  intro u' n2 tb' rest' hsV h'' tk' F2 N2 b1 b2 b3 b4 b5
  clear N' F' N1 F1
  k_steps
  exact hret _ tb' rest' _ _ (by assumption) (news_tail (by assumption)) b1 b3 b5
end
end Mine
-- part WU
namespace Mine
open PySem PySem.W PySem.Calls PyProof.Rows PySem.Builtin
/-- a goal that the walk leaves as it stands -/
def Held (P : Prop) : Prop := P
theorem held {P : Prop} (h : Held P) : P := h
/-- a namespace as an object -/
def NsO (o : Obj) (m : Str → Option Value) : Prop := ∃ es ep, o.data = .dict es ep ∧ StrKeys es ∧ ∀ name, nsFind es name = m name
theorem NsO.at {o : Obj} {m : Str → Option Value} {h : Heap} {a : Addr} (x : NsO o m) (e : h.get? a = some o) : h.Ns a m := by
  obtain ⟨es, ep, a, b, c⟩ := x; exact ⟨o, es, ep, e, a, b, c⟩
theorem NsO.of {m : Str → Option Value} {h : Heap} {a : Addr} (x : h.Ns a m) : ∃ o, h.get? a = some o ∧ NsO o m := by
  obtain ⟨o, es, ep, e, a, b, c⟩ := x; exact ⟨o, e, es, ep, a, b, c⟩
section
variable {prog : Program} {w : World} {A : Around} {E : Value → Shared → Prop} {s : Shared} {env : Env} {Q : Value → Shared → Prop} {elt target iter : Expr} {ifs : List Expr} {scope : Scope} {pos : Pos} {cl : List (Str × Addr)}
/-- a comprehension whose iterator stands -/
def CompAt (prog : Program) (w : World) (A : Around) (E : Value → Shared → Prop) (env : Env) (elt target iter : Expr) (ifs : List Expr) (scope : Scope) (pos : Pos) (cl : List (Str × Addr)) (Q : Value → Shared → Prop) (it : Value) (s₂ : Shared) : Prop :=
  wpAny (model prog w) A (newList []) (fun acc s₃ => wpAny (model prog w) A (newFunctionEnv scope env.globals cl [] env.qual none .none (some env)) (fun cenv s₄ =>
    codeAny (model prog w) A (.compStart (.ListComp elt [⟨target, iter, ifs, 0⟩] scope pos) 0 it acc { cenv with scope := relabel scope env }) (compPost (model prog w) A E none Q acc cenv.locals) s₄) E s₃) E s₂
/-- a comprehension between two turns -/
def CompRest (prog : Program) (w : World) (A : Around) (E : Value → Shared → Prop) (env : Env) (elt target iter : Expr) (ifs : List Expr) (scope : Scope) (pos : Pos) (cl : List (Str × Addr)) (Q : Value → Shared → Prop) (D C : Addr) (it : Value) (s : Shared) : Prop :=
  codeAny (model prog w) A (.compLoop (.ListComp elt [⟨target, iter, ifs, 0⟩] scope pos) 0 it (.ref D) (compEnvC scope cl C env)) (compPost (model prog w) A E none Q (.ref D) C) s
theorem comp_eval (hclos : closureFor scope env = pure cl) (hkind : scope.kind = .function) (hnames : ∀ x ∈ scope.names, x.2 = .local → scope.names.lookup x.1 = some .local) (hs : ∀ x, foldedSetIterable iter env x = pure x)
    (h : wpAny (model prog w) A (eval iter env) (fun x s₁ => wpAny (model prog w) A (pyIter x) (fun it s₂ => CompAt prog w A E env elt target iter ifs scope pos cl Q it s₂) E s₁) E s) :
    wpAny (model prog w) A (eval (.ListComp elt [⟨target, iter, ifs, 0⟩] scope pos) env) Q E s := by
  rw [arm_eval_ListComp]
  exact wpAny_comprehension_free (g := ⟨target, iter, ifs, 0⟩) (gs := []) rfl hs hclos hkind hnames h
variable {h₀ : Heap} {L : Addr} {m : Str → Option Value} {news : List (Addr × Obj)}
theorem comp_go {it : Value} (F : Fr h₀ L s.heap m) (N : News h₀ L s.heap news) (hcell : ∀ y ∈ scope.names, y.2 ≠ .cell) (hkind : scope.kind = .function)
    (h2 : ∀ (s' : Shared) (R : Value → Shared → Prop) (E' : Value → Shared → Prop), (∀ q ∈ news, s'.heap.get? q.1 = some q.2) → R it s' → wpAny (model prog w) A (pyIter it) R E' s')
    (h : ∀ D C oc h' tk, Fr h₀ L h' m → News h₀ L h' ((C, oc) :: (D, listO [] 0) :: news) → NsO oc (fun _ => none) → (∀ p ∈ news, p.1 < D) → D < C →
      CompRest prog w A E env elt target iter ifs scope pos cl Q D C it { s with heap := h', toks := tk }) :
    CompAt prog w A E env elt target iter ifs scope pos cl Q it s := by
  have l1 : ∀ p ∈ news, p.1 < s.heap.objs.size := fun p hp => Heap.lt_size (N p hp).1
  refine wpAny_newObj_type (wpAny_newFunctionEnv hcell (by intro y hy; simp at hy) (fun h₁ hns₁ hsb₁ => ?_) hkind)
  dsimp only at hns₁ hsb₁ ⊢
  have N1 := N.push F { cls := .type "list", dict := none, data := .seq ([] : List Value).toArray 0 }
  have F1 : Fr h₀ L (s.heap.push { cls := .type "list", dict := none, data := .seq ([] : List Value).toArray 0 }) m := F.push _
  generalize hH2 : s.heap.push { cls := .type "list", dict := none, data := .seq ([] : List Value).toArray 0 } = H2 at hns₁ hsb₁ N1 F1 ⊢
  have hC : H2.objs.size = s.heap.objs.size + 1 := by rw [← hH2, Heap.size_push]
  obtain ⟨oc, hoc, hns⟩ := NsO.of hns₁
  have N2 := N1.push F1 { cls := .type "dict", data := .dict #[] }
  have F2 : Fr h₀ L (H2.push { cls := .type "dict", data := .dict #[] }) m := F1.push _
  have hp := N2 _ (.head _)
  have l2 : ∀ p ∈ (s.heap.objs.size, ({ cls := .type "list", dict := none, data := .seq ([] : List Value).toArray 0 } : Obj)) :: news, p.1 ≠ H2.objs.size := fun p hp => Nat.ne_of_lt (Heap.lt_size (N1 p hp).1)
  have F3 : Fr h₀ L h₁ m := F2.change hsb₁ hp.2.1 hp.2.2
  have N3 : News h₀ L h₁ ((H2.objs.size, oc) :: (s.heap.objs.size, listO [] 0) :: news) := N2.setHead l2 hsb₁ hoc
  have hgo := h s.heap.objs.size H2.objs.size oc h₁ (s.toks + ([] : List (Str × Value)).length) F3 N3 hns l1 (by rw [hC]; exact Nat.lt_succ_self _)
  refine codeAny_compStart_list hgo (h2 _ _ _ (fun q hq => (N3 q (.tail _ (.tail _ hq))).1) hgo)
theorem iter_again {I ax : Addr} {i : Nat} {o : Obj} (ho : ItO o ax i) {s' : Shared} {R : Value → Shared → Prop} {E' : Value → Shared → Prop} (hg : s'.heap.get? I = some o) (hR : R (.ref I) s') : wpAny (model prog w) A (pyIter (.ref I)) R E' s' :=
  wpAny_pyIter_listiter (l := ax) (i := i) ⟨o, hg, ho.1, ho.2⟩ hR
theorem comp_one0 {D C : Addr} {it : Value}
    (h : ∀ E'', wpAny (model prog w) A (pyNext it) (fun r s₁ => match r with
      | none => compPost (model prog w) A E none Q (.ref D) C (.ok .next) s₁
      | some v => wpAny (model prog w) A (letOwnedTupleGo target it v) (fun _ s₁' => wpAny (model prog w) A (assign target (compEnvC scope cl C env) v) (fun _ s₂ =>
          wpAny (model prog w) A (eval elt (compEnvC scope cl C env)) (fun x s₃ => wpAny (model prog w) A (call (.builtin "list.append") [.ref D, x]) (fun _ s₄ => CompRest prog w A E env elt target iter [] scope pos cl Q D C it s₄) E'' s₃) E'' s₂) E'' s₁') E'' s₁) E'' s) :
    CompRest prog w A E env elt target iter [] scope pos cl Q D C it s := by
  refine codeAny_of_tree ?_
  show wpAny _ _ ((compTurn (.ListComp elt [⟨target, iter, [], 0⟩] scope pos) 0 it (.ref D) (compEnvC scope cl C env)).onRaise (fun x => do noteFrame x _; theTreesLotGoes x)) _ _ s
  refine wpAny_noted ?_
  rw [compTurn_list1]
  refine wpAny_bind (wpAny_standAt (wpAny_bind (wpAny_mono (h _) (fun r s₁ h₁ => ?_) fun _ _ h' => h')))
  cases r with
  | none => exact wpAny_pure h₁
  | some v =>
    refine wpAny_bind (wpAny_mono h₁ (fun _ s₁' h₁' => ?_) fun _ _ h' => h')
    exact wpAny_bind (wpAny_mono h₁' (fun _ s₂ h₂ => wpAny_bind (wpAny_bind (wpAny_mono h₂ (fun x s₃ h₃ => wpAny_bind (wpAny_mono h₃
      (fun _ s₄ h₄ => wpAny_pure (wpAny_pure ⟨rfl, h₄⟩)) fun _ _ h' => h')) fun _ _ h' => h'))) fun _ _ h' => h')
end
end Mine
-- part WV
namespace Mine
open PySem PySem.W PySem.Calls PyProof.Rows PySem.Builtin
section
variable {prog : Program} {w : World} {A : Around} {E : Value → Shared → Prop} {s : Shared} {env : Env} {Q : Value → Shared → Prop} {elt target iter c : Expr} {ifs : List Expr} {scope : Scope} {pos : Pos} {cl : List (Str × Addr)}
theorem comp_one1 {D C : Addr} {it : Value}
    (h : ∀ E'', wpAny (model prog w) A (pyNext it) (fun r s₁ => match r with
      | none => compPost (model prog w) A E none Q (.ref D) C (.ok .next) s₁
      | some v => wpAny (model prog w) A (letOwnedTupleGo target it v) (fun _ s₁' => wpAny (model prog w) A (assign target (compEnvC scope cl C env) v) (fun _ s₂ =>
          wpAny (model prog w) A (isTrue c (compEnvC scope cl C env) (eval c (compEnvC scope cl C env))) (fun ok s₃ =>
            if ok = true then wpAny (model prog w) A (eval elt (compEnvC scope cl C env)) (fun x s₄ => wpAny (model prog w) A (call (.builtin "list.append") [.ref D, x]) (fun _ s₅ => CompRest prog w A E env elt target iter [c] scope pos cl Q D C it s₅) E'' s₄) E'' s₃
            else CompRest prog w A E env elt target iter [c] scope pos cl Q D C it s₃) E'' s₂) E'' s₁') E'' s₁) E'' s) :
    CompRest prog w A E env elt target iter [c] scope pos cl Q D C it s := by
  refine codeAny_of_tree ?_
  show wpAny _ _ ((compTurn (.ListComp elt [⟨target, iter, [c], 0⟩] scope pos) 0 it (.ref D) (compEnvC scope cl C env)).onRaise (fun x => do noteFrame x _; theTreesLotGoes x)) _ _ s
  refine wpAny_noted ?_
  rw [compTurn_list]
  refine wpAny_bind (wpAny_standAt (wpAny_bind (wpAny_mono (h _) (fun r s₁ h₁ => ?_) fun _ _ h' => h')))
  cases r with
  | none => exact wpAny_pure h₁
  | some v =>
    refine wpAny_bind (wpAny_mono h₁ (fun _ s₁' h₁' => ?_) fun _ _ h' => h')
    refine wpAny_bind (wpAny_mono h₁' (fun _ s₂ h₂ => wpAny_bind (wpAny_tests_one (wpAny_mono h₂ (fun ok s₃ h₃ => ?_) fun _ _ h' => h'))) fun _ _ h' => h')
    cases ok with
    | false => exact wpAny_pure ⟨rfl, h₃⟩
    | true =>
      exact wpAny_bind (wpAny_bind (wpAny_mono h₃ (fun x s₄ h₄ => wpAny_bind (wpAny_mono h₄ (fun _ s₅ h₅ => wpAny_pure (wpAny_pure ⟨rfl, h₅⟩)) fun _ _ h' => h')) fun _ _ h' => h'))
variable {h₀ : Heap} {L : Addr} {m : Str → Option Value} {news : List (Addr × Obj)}
/-- the next value of a list -/
theorem next_item {I ax : Addr} {vs : List Value} {n i : Nat} {v : Value} {o : Obj} {R : Option Value → Shared → Prop} {E'' : Value → Shared → Prop} (F : Fr h₀ L s.heap m) (N : News h₀ L s.heap news) (hI : (I, o) ∈ news) (ho : ItO o ax i) (hm : (ax, listO vs n) ∈ news) (hv : vs[i]? = some v)
    (h : ∀ h' o', Fr h₀ L h' m → News h₀ L h' ((I, o') :: off I news) → ItO o' ax (i + 1) → R (some v) { s with heap := h' }) : wpAny (model prog w) A (pyNext (.ref I)) R E'' s := by
  have hl : s.heap.IsList ax vs.toArray := ⟨_, (N _ hm).1, rfl, n, rfl⟩
  have hIt : s.heap.IsListIter I ax i := ⟨o, (N _ hI).1, ho.1, ho.2⟩
  refine wpAny_pyNext_list_item hIt hl (by simpa using hv) fun h' hI' hs => ?_
  obtain ⟨o', ho', c1, c2⟩ := id hI'
  have N1 : News h₀ L s.heap ((I, o) :: off I news) := fun q hq => (List.mem_cons.mp hq).elim (fun z => by rw [z]; exact N _ hI) fun z => N _ (mem_off.mp z).1
  exact h h' o' (F.change hs (N _ hI).2.1 (N _ hI).2.2) (N1.setHead (fun q hq => (mem_off.mp hq).2) hs ho') ⟨c1, c2⟩
theorem next_end {I ax : Addr} {vs : List Value} {n i : Nat} {o : Obj} {R : Option Value → Shared → Prop} {E'' : Value → Shared → Prop} (hh : A.handled = none) (F : Fr h₀ L s.heap m) (N : News h₀ L s.heap news) (hI : (I, o) ∈ news) (ho : ItO o ax i) (hm : (ax, listO vs n) ∈ news) (hv : vs[i]? = none)
    (h : ∀ h', Fr h₀ L h' m → News h₀ L h' (off I news) → R none { s with heap := h' }) : wpAny (model prog w) A (pyNext (.ref I)) R E'' s := by
  have hl : s.heap.IsList ax vs.toArray := ⟨_, (N _ hm).1, rfl, n, rfl⟩
  have hIt : s.heap.IsListIter I ax i := ⟨o, (N _ hI).1, ho.1, ho.2⟩
  refine wpAny_pyNext_list_end hh hIt hl (by simpa using hv) fun h' hx => ?_
  have hn := N _ hI
  exact h h' ⟨F.ns.extBut hx hn.2.1.symm, fun b o e => hx b o (fun q => by rw [q, hn.2.2] at e; cases e) (F.keep b o e), F.above⟩ fun p hp => ⟨hx _ _ (mem_off.mp hp).2 (N p (mem_off.mp hp).1).1, (N p (mem_off.mp hp).1).2⟩
theorem let_go {I ax : Addr} {i : Nat} {o : Obj} {v : Value} {R : Unit → Shared → Prop} {E'' : Value → Shared → Prop} (ho : ItO o ax i) (hg : s.heap.get? I = some o) (hk : Plainly target v) (h : R () s) : wpAny (model prog w) A (letOwnedTupleGo target (.ref I) v) R E'' s := by
  rcases hk with ⟨x, pos, rfl⟩ | ⟨elts, k, pos, a, rfl, rfl⟩
  · exact wpAny_pure h
  · exact wpAny_letOwnedTupleGo_listiter (l := ax) (i := i) ⟨o, hg, ho.1, ho.2⟩ h
/-- the end of a comprehension: its names go -/
theorem comp_done {D C : Addr} {oc : Obj} {m₂ : Str → Option Value} (F : Fr h₀ L s.heap m) (N : News h₀ L s.heap news) (hC : (C, oc) ∈ news) (hns : NsO oc m₂)
    (h : ∀ h', Fr h₀ L h' m → News h₀ L h' (off C news) → Q (.ref D) { s with heap := h' }) : compPost (model prog w) A E none Q (.ref D) C (.ok .next) s := by
  refine ⟨m₂, hns.at (N _ hC).1, fun h' hs => ?_⟩
  have hn := N _ hC
  exact h h' (F.change hs hn.2.1 hn.2.2) fun p hp => ⟨(hs.2 _ (mem_off.mp hp).2).trans (N p (mem_off.mp hp).1).1, (N p (mem_off.mp hp).1).2⟩
/-- a name of a comprehension -/
theorem comp_name {C : Addr} {oc : Obj} {m₂ : Str → Option Value} {x : Str} {v : Value} {px : Pos} {E'' : Value → Shared → Prop} (N : News h₀ L s.heap news) (hC : (C, oc) ∈ news) (hns : NsO oc m₂) (hv : m₂ x = some v) (h : Q v s)
    (hk : (compEnvC scope cl C env).scope.kind = .function) (hl : (compEnvC scope cl C env).kindOf x = some .local) (hd : (x == ("__debug__" : Str)) = false) : wpAny (model prog w) A (eval (.Name x px) (compEnvC scope cl C env)) Q E'' s :=
  wpAny_Name (wpAny_loadName_local hk hl (hns.at (N _ hC).1) hv h) hd
theorem comp_store {C : Addr} {oc : Obj} {m₂ : Str → Option Value} {x : Str} {v : Value} {R : Unit → Shared → Prop} {E'' : Value → Shared → Prop} (F : Fr h₀ L s.heap m) (N : News h₀ L s.heap news) (hC : (C, oc) ∈ news) (hns : NsO oc m₂)
    (h : ∀ h' oc' tk, Fr h₀ L h' m → News h₀ L h' ((C, oc') :: off C news) → NsO oc' (fun y => if y = x then some v else m₂ y) → R () { s with heap := h', toks := tk })
    (hl : (compEnvC scope cl C env).kindOf x = some .local) (hp : ((compEnvC scope cl C env).scope.kind == .class || ((compEnvC scope cl C env).scope.kind == .module && (compEnvC scope cl C env).locals != (compEnvC scope cl C env).globals)) = false) :
    wpAny (model prog w) A (storeName (compEnvC scope cl C env) x v) R E'' s := by
  refine wpAny_storeName_local hl (hns.at (N _ hC).1) (fun h' hn hs => ?_) hp
  obtain ⟨oc', e1, e2⟩ := NsO.of hn
  have N1 : News h₀ L s.heap ((C, oc) :: off C news) := fun q hq => (List.mem_cons.mp hq).elim (fun z => by rw [z]; exact N _ hC) fun z => N _ (mem_off.mp z).1
  exact h h' oc' _ (F.change hs (N _ hC).2.1 (N _ hC).2.2) (N1.setHead (fun q hq => (mem_off.mp hq).2) hs e1) e2
theorem comp_free {C c : Addr} {x : Str} {v : Value} {px : Pos} {o : Obj} {E'' : Value → Shared → Prop} (N : News h₀ L s.heap news) (hc : (compEnvC scope cl C env).cells.lookup x = some c) (hm : (c, o) ∈ news) (hd : o.data = .cell (some v)) (h : Q v s)
    (hk : (compEnvC scope cl C env).scope.kind = .function) (hx : (compEnvC scope cl C env).kindOf x = some .cell) (hb : (x == ("__debug__" : Str)) = false) : wpAny (model prog w) A (eval (.Name x px) (compEnvC scope cl C env)) Q E'' s :=
  wpAny_Name (wpAny_loadName_cell hk hx hc ⟨o, N.get hm, hd⟩ h) hb
end
end Mine
-- part WX
namespace Mine
open PySem PySem.W PySem.Calls PyProof.Rows PySem.Builtin PySem.Builtin.Re
theorem quiet_WX : True := by
  w_top off
  trivial
local macro_rules | `(tactic| k_mem) => `(tactic| first | assumption | exact List.Mem.head _ | (refine' List.Mem.tail _ ?_; k_mem))
local macro_rules | `(tactic| k_all) => `(tactic| first | assumption | exact ne_of_allLt (by assumption) | (refine ne_of_allLt ?_; grind))
local macro_rules | `(tactic| walk_at "call builtin:list.append") => `(tactic| (k_here; k_dflt (refine' apd ?F ?N ?U ?z ?_; (case F => k_asm); (case N => k_asm); (case U => k_upd); (case z => omega); k_whole; intro h' F' N'; (try k_sweep))))
local macro_rules | `(tactic| walk_at "getMethod ref") => `(tactic| (k_here; (with_reducible show wpAny _ _ (getMethod (Value.ref _) (Str.ofString "search") _) _ _ _); k_dflt (refine getm_pat (PatAt.keeps (by first | exact pat_tok (by assumption) | exact pat_quo (by assumption) | exact pat_val (by assumption)) (Fr.keep (by k_asm))) slot_search type_search ?_)))
local macro_rules | `(tactic| walk_at "getMethod ref") => `(tactic| (k_here; (with_reducible show wpAny _ _ (getMethod (Value.ref _) (Str.ofString "group") _) _ _ _); k_dflt (refine getm_match (News.get (by k_asm) (by k_mem)) slot_group type_group ?_)))
local macro_rules | `(tactic| walk_at "call builtin:re.Pattern.search") => `(tactic| (k_here; k_dflt (first
  | (refine' find_call ?P ?z ?f ?F ?N ?_; (case P => first | exact pat_tok (by assumption) | exact pat_quo (by assumption) | exact pat_val (by assumption)); (case f => assumption); (case z => assumption); (case F => k_asm); (case N => k_asm); k_whole; intro T' h' F' N' l1; (try k_lt l1); (try k_sweep))
  | (refine' miss_call ?P ?F ?z ?f ?_; (case P => first | exact pat_tok (by assumption) | exact pat_quo (by assumption) | exact pat_val (by assumption)); (case f => assumption); (case z => assumption); (case F => k_asm); k_whole))))
local macro_rules | `(tactic| walk_at "call builtin:re.Match.group") => `(tactic| (k_here; k_dflt (refine' group_L ?N ?m ?t ?z ?_; (case N => k_asm); (case m => k_mem); (case t => k_mem); (case z => assumption); k_whole; intro t' k')))
local macro_rules | `(tactic| walk_at "truthy str") => `(tactic| (k_here; k_dflt (first | (refine' truthy_L ?z ?n ?_; (case n => assumption); (case z => assumption); k_whole; intro k') | (refine' truthy_L0 ?n ?_; (case n => assumption); k_whole; intro k'))))
local macro_rules | `(tactic| walk_at "call ref") => `(tactic| (k_here; (with_reducible show wpAny _ _ (call (Value.ref 43) _) _ _ _); k_dflt (refine' unm_call ?B ?F ?X ?N ?T ?k ?m ?t ?d ?u ?z ?f ?_; (case B => k_asm); (case F => k_asm); (case X => k_asm); (case N => k_asm); (case T => k_asm); (case k => exact rfl); (case m => k_mem); (case t => k_mem); (case d => omega); (case u => omega); (case z => assumption); (case f => assumption); k_whole; intro t' h' k' F' N'; (try k_sweep))))
local macro_rules | `(tactic| walk_at "truthy ref") => `(tactic| (k_here; k_dflt (refine' truthy_N ?N ?m ?_; (case N => k_asm); (case m => k_mem); k_whole)))
local macro_rules | `(tactic| walk_at "getMethod ref") => `(tactic| (k_here; (with_reducible show wpAny _ _ (getMethod (Value.ref _) (Str.ofString "subn") _) _ _ _); k_dflt (refine getm_pat (PatAt.keeps (pat_junk (by assumption)) (Fr.keep (by k_asm))) slot_subn type_subn ?_)))
local macro_rules | `(tactic| walk_at "call builtin:re.Pattern.subn") => `(tactic| (k_here; k_dflt (refine' subn_call1 ?F ?N ?P ?z ?j ?_; (case F => k_asm); (case N => k_asm); (case P => exact pat_junk (by assumption)); (case z => omega); (case j => assumption); k_whole; intro y' t1' t2' h' k' F' N' l1; (try k_lt l1); (try k_sweep))))
local macro_rules | `(tactic| walk_at "call builtin:str.lstrip") => `(tactic| (k_here; k_dflt (refine' lstrip_call ?z ?j ?_; (case z => assumption); (case j => assumption); k_whole; intro t' k')))
local macro_rules | `(tactic| walk_at "call builtin:str.rstrip") => `(tactic| (k_here; k_dflt (refine' rstrip_call ?z ?j ?_; (case z => assumption); (case j => assumption); k_whole; intro t' k')))
local macro_rules | `(tactic| walk_at "call builtin:str.startswith") => `(tactic| (k_here; k_dflt (refine' starts_comma ?j ?_; (case j => assumption); k_whole)))
local macro_rules | `(tactic| walk_at "subscriptTail Call") => `(tactic| (k_here; (with_unfolding_all (refine' sl_from1 ?F ?N ?z ?e ?_ ?s ?t; (case F => k_asm); (case N => k_asm); (case z => assumption); (case e => assumption); (case s => exact rfl); (case t => exact fun _ => rfl); k_whole)); intro h' t' k' F' N'; (try k_sweep)))
local macro_rules | `(tactic| walk_at "getMethod ref") => `(tactic| (k_here; (with_reducible show wpAny _ _ (getMethod (Value.ref _) (Str.ofString "sub") _) _ _ _); k_dflt (refine getm_pat (PatAt.keeps (by first | exact pat_esc (by assumption) | exact pat_je (by assumption)) (Fr.keep (by k_asm))) slot_sub type_sub ?_)))
local macro_rules | `(tactic| walk_at "eval Name") => `(tactic| ((with_reducible show wpAny _ _ (eval (Expr.Name _ _) (compEnvC _ _ _ _)) _ _ _); refine held ?_))
def StO (o : Obj) (x : Str) (t : Tok) (i : Nat) : Prop := (o.cls = .type "str_ascii_iterator" ∨ o.cls = .type "str_iterator") ∧ o.data = .fields #[.str x t, .int i 0]
theorem news_new {h₀ h : Heap} {L I : Addr} {o' : Obj} {l l' : List (Addr × Obj)} (N : News h₀ L h ((I, o') :: off I l)) (hs : ∀ q ∈ l', q ∈ l ∧ q.1 ≠ I) : News h₀ L h ((I, o') :: l') :=
  news_sub N fun q hq => (List.mem_cons.mp hq).elim (fun z => z ▸ .head _) fun z => .tail _ (mem_off.mpr (hs q z))
theorem news_less {h₀ h : Heap} {L I : Addr} {l l' : List (Addr × Obj)} (N : News h₀ L h (off I l)) (hs : ∀ q ∈ l', q ∈ l ∧ q.1 ≠ I) : News h₀ L h l' := news_sub N fun q hq => mem_off.mpr (hs q hq)
section
variable {prog : Program} {w : World} {A : Around} {E : Value → Shared → Prop} {s : Shared} {h₀ : Heap} {L : Addr} {m : Str → Option Value} {news : List (Addr × Obj)} {x : Str} {t : Tok} {I : Addr} {o : Obj} {i : Nat}
theorem iter_text {R : Value → Shared → Prop} (F : Fr h₀ L s.heap m) (N : News h₀ L s.heap news)
    (h : ∀ I o h', Fr h₀ L h' m → News h₀ L h' ((I, o) :: news) → StO o x t 0 → (∀ p ∈ news, p.1 < I) → R (.ref I) { s with heap := h' }) : wpAny (model prog w) A (pyIter (.str x t)) R E s := by
  cases ha : x.cps.all (· < 128)
  · exact wpAny_pyIter_wide ha (h s.heap.objs.size _ _ (F.push _) (N.push F _) ⟨.inr rfl, rfl⟩ fun p hp => Heap.lt_size (N p hp).1)
  · exact wpAny_pyIter_ascii ha (h s.heap.objs.size _ _ (F.push _) (N.push F _) ⟨.inl rfl, rfl⟩ fun p hp => Heap.lt_size (N p hp).1)
theorem text_again (ho : StO o x t i) {s' : Shared} {R : Value → Shared → Prop} {E' : Value → Shared → Prop} (hg : s'.heap.get? I = some o) (hR : R (.ref I) s') : wpAny (model prog w) A (pyIter (.ref I)) R E' s' := by
  rcases ho with ⟨hc | hc, hd⟩
  · exact wpAny_pyIter_striter_ascii ⟨o, hg, hc, hd⟩ hR
  · exact wpAny_pyIter_striter_wide ⟨o, hg, hc, hd⟩ hR
theorem next_text {c : Nat} {R : Option Value → Shared → Prop} (F : Fr h₀ L s.heap m) (N : News h₀ L s.heap news) (hI : (I, o) ∈ news) (ho : StO o x t i) (hv : x.cps[i]? = some c)
    (h : ∀ h' o' tk k, Fr h₀ L h' m → News h₀ L h' ((I, o') :: off I news) → StO o' x t (i + 1) → R (some (.str (ofL [c]) tk)) { s with heap := h', toks := k }) : wpAny (model prog w) A (pyNext (.ref I)) R E s := by
  have N1 : News h₀ L s.heap ((I, o) :: off I news) := fun q hq => (List.mem_cons.mp hq).elim (fun z => by rw [z]; exact N _ hI) fun z => N _ (mem_off.mp z).1
  have hg := (N _ hI).1
  rcases ho with ⟨hc | hc, hd⟩
  · refine wpAny_pyNext_ascii_item ⟨o, hg, hc, hd⟩ hv fun h' hI' hs => ?_
    obtain ⟨o', ho', c1, c2⟩ := id hI'
    exact h h' o' _ _ (F.change hs (N _ hI).2.1 (N _ hI).2.2) (N1.setHead (fun q hq => (mem_off.mp hq).2) hs ho') ⟨.inl c1, c2⟩
  · refine wpAny_pyNext_wide_item ⟨o, hg, hc, hd⟩ hv fun h' hI' hs => ?_
    obtain ⟨o', ho', c1, c2⟩ := id hI'
    exact h h' o' _ _ (F.change hs (N _ hI).2.1 (N _ hI).2.2) (N1.setHead (fun q hq => (mem_off.mp hq).2) hs ho') ⟨.inr c1, c2⟩
theorem end_text {R : Option Value → Shared → Prop} (hh : A.handled = none) (F : Fr h₀ L s.heap m) (N : News h₀ L s.heap news) (hI : (I, o) ∈ news) (ho : StO o x t i) (hv : x.cps[i]? = none)
    (h : ∀ h', Fr h₀ L h' m → News h₀ L h' (off I news) → R none { s with heap := h' }) : wpAny (model prog w) A (pyNext (.ref I)) R E s := by
  have hn := N _ hI
  have go : ∀ h', Heap.ExtBut I s.heap h' → R none { s with heap := h' } := fun h' hx =>
    h h' ⟨F.ns.extBut hx hn.2.1.symm, fun b o e => hx b o (fun q => by rw [q, hn.2.2] at e; cases e) (F.keep b o e), F.above⟩ fun p hp => ⟨hx _ _ (mem_off.mp hp).2 (N p (mem_off.mp hp).1).1, (N p (mem_off.mp hp).1).2⟩
  rcases ho with ⟨hc | hc, hd⟩
  · exact wpAny_pyNext_ascii_end hh ⟨o, hn.1, hc, hd⟩ hv go
  · exact wpAny_pyNext_wide_end hh ⟨o, hn.1, hc, hd⟩ hv go
end
def inP (P : Str) (c : Nat) : Bool := !(PySem.Builtin.Str.occurrences P (ofL [c]) 0 P.length 1).isEmpty
section
variable {prog : Program} {w : World} {A : Around} {E : Value → Shared → Prop} {s : Shared} {h₀ : Heap} {L : Addr} {m : Str → Option Value} {Q : Value → Shared → Prop} {scope : Scope} {pos p1 p2 p3 p4 p5 : Pos} {cl : List (Str × Addr)} {env : Env} {iter : PySem.Expr}
    {I D C pc : Addr} {rest : List (Addr × Obj)} {x P : Str} {t tp : Tok} {po : Obj} {E'' : Value → Shared → Prop} {R : Bool → Shared → Prop}
theorem lw_test {news : List (Addr × Obj)} {oc : Obj} {m₂ : Str → Option Value} {c : Nat} {tk : Tok} (F : Fr h₀ L s.heap m) (N : News h₀ L s.heap news) (hC : (C, oc) ∈ news) (hn : NsO oc (fun y => if y = Str.ofString "sign" then some (.str (ofL [c]) tk) else m₂ y)) (hp : (pc, po) ∈ news) (hpo : po.data = .cell (some (.str P tp)))
    (hk : (compEnvC scope cl C env).scope.kind = .function) (hl : (compEnvC scope cl C env).kindOf (Str.ofString "sign") = some .local) (hl2 : (compEnvC scope cl C env).kindOf (Str.ofString "plain") = some .cell) (hc : (compEnvC scope cl C env).cells.lookup (Str.ofString "plain") = some pc)
    (h : R (!inP P c) s) :
    wpAny (model prog w) A (isTrue (.Compare (.Name "sign" p3) [.NotIn] [.Name "plain" p4] p5) (compEnvC scope cl C env) (eval (.Compare (.Name "sign" p3) [.NotIn] [.Name "plain" p4] p5) (compEnvC scope cl C env))) R E'' s := by
  k_steps
  refine comp_name N hC hn (if_pos rfl) ?_ hk hl (by decide)
  refine comp_free N hc hp hpo ?_ hk hl2 (by decide)
  refine notIn_str ?_
  refine wpAny_truthy_bool ?_
  have e : (!(!(PySem.Builtin.Str.occurrences P (ofL [c]) 0 P.length 1).isEmpty)) = !inP P c := rfl
  rw [e]; exact h
end
section
variable {prog : Program} {w : World} {A : Around} {E : Value → Shared → Prop} {h₀ : Heap} {L : Addr} {m : Str → Option Value} {Q : Value → Shared → Prop} {scope : Scope} {pos p1 p2 p3 p4 p5 p6 p7 p8 : Pos} {cl : List (Str × Addr)} {env : Env} {iter : PySem.Expr}
    {I D C pc : Addr} {rest : List (Addr × Obj)} {x P : Str} {t tp : Tok} {po : Obj} {k1 k2 : Nat}
theorem bind_name {x : Str} {px : Pos} {v : Value} {cenv : Env} {R : Unit → Shared → Prop} {E'' : Value → Shared → Prop} {s : Shared} (h : wpAny (model prog w) A (storeName cenv x v) R E'' s) : wpAny (model prog w) A (assign (.Name x px) cenv v) R E'' s := wpAny_assign_Name h
theorem lw_comp1 (hh : A.handled = none) (hp : (pc, po) ∈ rest) (hpo : po.data = .cell (some (.str P tp)))
    (hk : (compEnvC scope cl C env).scope.kind = .function) (hl : (compEnvC scope cl C env).kindOf (Str.ofString "sign") = some .local) (hl2 : (compEnvC scope cl C env).kindOf (Str.ofString "plain") = some .cell) (hc : (compEnvC scope cl C env).cells.lookup (Str.ofString "plain") = some pc)
    (o1 : ∀ q ∈ rest, q.1 < I) (o2 : I < D) (o3 : D < C) {all : List (List Nat)} (hall : all.length ≤ 1000) :
    ∀ {l : List Nat} {i : Nat} {s : Shared} {oc o : Obj} {m₂ : Str → Option Value} {dsV : List Value} {n : Nat} {dn : List (List Nat)} (_ : x.cps.toList.drop i = l) (_ : dn ++ (l.filter fun c => !inP P c).map ([·]) = all) (_ : Fr h₀ L s.heap m)
      (_ : News h₀ L s.heap ((C, oc) :: (D, listO dsV n) :: (I, o) :: rest)) (_ : NsO oc m₂) (_ : StO o x t i) (_ : Each TextIs dsV dn)
      (_ : ∀ h' tk dsV n, Fr h₀ L h' m → News h₀ L h' ((D, listO dsV n) :: rest) → Each TextIs dsV all → Q (.ref D) { s with heap := h', toks := tk }),
      CompRest prog w A E env (.Name "sign" p1) (.Name "sign" p2) iter [.Compare (.Name "sign" p3) [.NotIn] [.Name "plain" p4] p5] scope pos cl Q D C (.ref I) s := by
  intro l
  induction l with
  | nil =>
    intro i s oc o m₂ dsV n dn hd hdn F N hns ho ET ret
    simp at hdn
    subst hdn
    have hv : x.cps[i]? = none := by
      have h := List.drop_eq_nil_iff.mp hd
      simpa using h
    refine comp_one1 fun E'' => end_text hh F N (.tail _ (.tail _ (.head _))) ho hv fun h' F' N' => ?_
    have N2 : News h₀ L h' ((C, oc) :: (D, listO dsV n) :: rest) := by
      refine news_less N' fun q hq => ?_
      rcases List.mem_cons.mp hq with rfl | hq
      · exact ⟨.head _, Nat.ne_of_gt (Nat.lt_trans o2 o3)⟩
      · rcases List.mem_cons.mp hq with rfl | hq
        · exact ⟨.tail _ (.head _), Nat.ne_of_gt o2⟩
        · exact ⟨.tail _ (.tail _ (.tail _ hq)), Nat.ne_of_lt (o1 q hq)⟩
    refine comp_done (oc := oc) (m₂ := m₂) F' N2 (.head _) hns fun h'' F'' N'' => ?_
    refine ret h'' s.toks dsV n F'' (news_less N'' fun q hq => ⟨.tail _ hq, ?_⟩) ET
    rcases List.mem_cons.mp hq with rfl | hq
    · exact Nat.ne_of_lt o3
    · exact Nat.ne_of_lt (Nat.lt_trans (o1 q hq) (Nat.lt_trans o2 o3))
  | cons c l ih =>
    intro i s oc o m₂ dsV n dn hd hdn F N hns ho ET ret
    have hv : x.cps[i]? = some c := by
      have h : (x.cps.toList.drop i)[0]? = some c := by rw [hd]; rfl
      rw [List.getElem?_drop, Nat.add_zero] at h
      simpa using h
    have hd' : x.cps.toList.drop (i + 1) = l := by rw [← List.drop_drop, hd]; rfl
    refine comp_one1 fun E'' => next_text F N (.tail _ (.tail _ (.head _))) ho hv fun h' o' tk k F' N' ho' => ?_
    refine wpAny_pure (bind_name ?_)
    have N2 : News h₀ L h' ((C, oc) :: (D, listO dsV n) :: (I, o') :: rest) := by
      refine news_sub (news_new (l' := (C, oc) :: (D, listO dsV n) :: rest) N' fun q hq => ?_) fun q hq => ?_
      · rcases List.mem_cons.mp hq with rfl | hq
        · exact ⟨.head _, Nat.ne_of_gt (Nat.lt_trans o2 o3)⟩
        · rcases List.mem_cons.mp hq with rfl | hq
          · exact ⟨.tail _ (.head _), Nat.ne_of_gt o2⟩
          · exact ⟨.tail _ (.tail _ (.tail _ hq)), Nat.ne_of_lt (o1 q hq)⟩
      · simp only [List.mem_cons] at hq ⊢; grind
    refine comp_store (s := { s with heap := h', toks := k }) F' N2 (.head _) hns (fun h2 oc' tk2 F2 N3 hns' => ?_) hl (by rw [hk]; rfl)
    have N4 : News h₀ L h2 ((C, oc') :: (D, listO dsV n) :: (I, o') :: rest) := by
      refine news_new N3 fun q hq => ⟨.tail _ hq, ?_⟩
      rcases List.mem_cons.mp hq with rfl | hq
      · exact Nat.ne_of_lt o3
      · rcases List.mem_cons.mp hq with rfl | hq
        · exact Nat.ne_of_lt (Nat.lt_trans o2 o3)
        · exact Nat.ne_of_lt (Nat.lt_trans (o1 q hq) (Nat.lt_trans o2 o3))
    refine lw_test (s := { s with heap := h2, toks := tk2 }) F2 N4 (.head _) hns' (.tail _ (.tail _ (.tail _ hp))) hpo hk hl hl2 hc ?_
    cases hb : inP P c with
    | true =>
      rw [if_neg (by simp)]
      rw [List.filter_cons_of_neg (by simp [hb])] at hdn
      exact ih hd' hdn F2 N4 hns' ho' ET ret
    | false =>
      rw [if_pos (by simp)]
      rw [List.filter_cons_of_pos (by simp [hb]), List.map_cons] at hdn
      refine comp_name (s := { s with heap := h2, toks := tk2 }) N4 (.head _) hns' (if_pos rfl) ?_ hk hl (by decide)
      have hlen : dsV.length ≤ 10000 := by
        rw [ET.len]
        have h := congrArg List.length hdn
        rw [List.length_append] at h
        omega
      refine apd (s := { s with heap := h2, toks := tk2 }) F2 N4 (.tail (Nat.ne_of_gt o3) (.head fun q hq => ?_)) hlen fun h3 F3 N5 => ?_
      · rcases List.mem_cons.mp hq with rfl | hq
        · exact Nat.ne_of_lt o2
        · exact Nat.ne_of_lt (Nat.lt_trans (o1 q hq) o2)
      · exact ih hd' (dn := dn ++ [[c]]) (by rw [← hdn]; simp) F3 N5 hns' ho' (Each.snoc ⟨tk, rfl⟩ ET) ret
end
end Mine
-- part WY
namespace Mine
open PySem PySem.W PySem.Calls PyProof.Rows PySem.Builtin PySem.Builtin.Re
local macro_rules | `(tactic| walk_at "nothing so called") => `(tactic| skip)
theorem quiet_WY : True := by
  w_top off
  trivial
local macro_rules | `(tactic| k_mem) => `(tactic| first | assumption | exact List.Mem.head _ | (refine' List.Mem.tail _ ?_; k_mem))
local macro_rules | `(tactic| k_all) => `(tactic| first | assumption | exact ne_of_allLt (by assumption) | (refine ne_of_allLt ?_; grind))
local macro_rules | `(tactic| walk_at "call builtin:list.append") => `(tactic| (k_here; k_dflt (refine' apd ?F ?N ?U ?z ?_; (case F => k_asm); (case N => k_asm); (case U => k_upd); (case z => omega); k_whole; intro h' F' N'; (try k_sweep))))
local macro_rules | `(tactic| walk_at "getMethod ref") => `(tactic| (k_here; (with_reducible show wpAny _ _ (getMethod (Value.ref _) (Str.ofString "search") _) _ _ _); k_dflt (refine getm_pat (PatAt.keeps (by first | exact pat_tok (by assumption) | exact pat_quo (by assumption) | exact pat_val (by assumption)) (Fr.keep (by k_asm))) slot_search type_search ?_)))
local macro_rules | `(tactic| walk_at "getMethod ref") => `(tactic| (k_here; (with_reducible show wpAny _ _ (getMethod (Value.ref _) (Str.ofString "group") _) _ _ _); k_dflt (refine getm_match (News.get (by k_asm) (by k_mem)) slot_group type_group ?_)))
local macro_rules | `(tactic| walk_at "call builtin:re.Pattern.search") => `(tactic| (k_here; k_dflt (first
  | (refine' find_call ?P ?z ?f ?F ?N ?_; (case P => first | exact pat_tok (by assumption) | exact pat_quo (by assumption) | exact pat_val (by assumption)); (case f => assumption); (case z => assumption); (case F => k_asm); (case N => k_asm); k_whole; intro T' h' F' N' l1; (try k_lt l1); (try k_sweep))
  | (refine' miss_call ?P ?F ?z ?f ?_; (case P => first | exact pat_tok (by assumption) | exact pat_quo (by assumption) | exact pat_val (by assumption)); (case f => assumption); (case z => assumption); (case F => k_asm); k_whole))))
local macro_rules | `(tactic| walk_at "call builtin:re.Match.group") => `(tactic| (k_here; k_dflt (refine' group_L ?N ?m ?t ?z ?_; (case N => k_asm); (case m => k_mem); (case t => k_mem); (case z => assumption); k_whole; intro t' k')))
local macro_rules | `(tactic| walk_at "truthy str") => `(tactic| (k_here; k_dflt (first | (refine' truthy_L ?z ?n ?_; (case n => assumption); (case z => assumption); k_whole; intro k') | (refine' truthy_L0 ?n ?_; (case n => assumption); k_whole; intro k'))))
local macro_rules | `(tactic| walk_at "call ref") => `(tactic| (k_here; (with_reducible show wpAny _ _ (call (Value.ref 43) _) _ _ _); k_dflt (refine' unm_call ?B ?F ?X ?N ?T ?k ?m ?t ?d ?u ?z ?f ?_; (case B => k_asm); (case F => k_asm); (case X => k_asm); (case N => k_asm); (case T => k_asm); (case k => exact rfl); (case m => k_mem); (case t => k_mem); (case d => omega); (case u => omega); (case z => assumption); (case f => assumption); k_whole; intro t' h' k' F' N'; (try k_sweep))))
local macro_rules | `(tactic| walk_at "truthy ref") => `(tactic| (k_here; k_dflt (refine' truthy_N ?N ?m ?_; (case N => k_asm); (case m => k_mem); k_whole)))
local macro_rules | `(tactic| walk_at "getMethod ref") => `(tactic| (k_here; (with_reducible show wpAny _ _ (getMethod (Value.ref _) (Str.ofString "subn") _) _ _ _); k_dflt (refine getm_pat (PatAt.keeps (pat_junk (by assumption)) (Fr.keep (by k_asm))) slot_subn type_subn ?_)))
local macro_rules | `(tactic| walk_at "call builtin:re.Pattern.subn") => `(tactic| (k_here; k_dflt (refine' subn_call1 ?F ?N ?P ?z ?j ?_; (case F => k_asm); (case N => k_asm); (case P => exact pat_junk (by assumption)); (case z => omega); (case j => assumption); k_whole; intro y' t1' t2' h' k' F' N' l1; (try k_lt l1); (try k_sweep))))
local macro_rules | `(tactic| walk_at "call builtin:str.lstrip") => `(tactic| (k_here; k_dflt (refine' lstrip_call ?z ?j ?_; (case z => assumption); (case j => assumption); k_whole; intro t' k')))
local macro_rules | `(tactic| walk_at "call builtin:str.rstrip") => `(tactic| (k_here; k_dflt (refine' rstrip_call ?z ?j ?_; (case z => assumption); (case j => assumption); k_whole; intro t' k')))
local macro_rules | `(tactic| walk_at "call builtin:str.startswith") => `(tactic| (k_here; k_dflt (refine' starts_comma ?j ?_; (case j => assumption); k_whole)))
local macro_rules | `(tactic| walk_at "subscriptTail Call") => `(tactic| (k_here; (with_unfolding_all (refine' sl_from1 ?F ?N ?z ?e ?_ ?s ?t; (case F => k_asm); (case N => k_asm); (case z => assumption); (case e => assumption); (case s => exact rfl); (case t => exact fun _ => rfl); k_whole)); intro h' t' k' F' N'; (try k_sweep)))
local macro_rules | `(tactic| walk_at "getMethod ref") => `(tactic| (k_here; (with_reducible show wpAny _ _ (getMethod (Value.ref _) (Str.ofString "sub") _) _ _ _); k_dflt (refine getm_pat (PatAt.keeps (by first | exact pat_esc (by assumption) | exact pat_je (by assumption)) (Fr.keep (by k_asm))) slot_sub type_sub ?_)))
local macro_rules | `(tactic| walk_at "eval Name") => `(tactic| ((with_reducible show wpAny _ _ (eval (Expr.Name _ _) (compEnvC _ _ _ _)) _ _ _); refine held ?_))
section
variable {prog : Program} {w : World} {A : Around} {E : Value → Shared → Prop} {s : Shared} {h₀ : Heap} {L : Addr} {m : Str → Option Value} {Q : Value → Shared → Prop} {scope : Scope} {pos p1 p2 p3 p4 p5 p6 p7 p8 p9 p10 : Pos} {cl : List (Str × Addr)} {env : Env} {iter : PySem.Expr}
    {I D C : Addr} {rest : List (Addr × Obj)} {x : Str} {t tp : Tok} {E'' : Value → Shared → Prop}
def escOne (c : Nat) : List Nat := if inP (Str.ofString "\"\\") c = true then [92] ++ [c] else [c]
theorem lw_elt {news : List (Addr × Obj)} {oc : Obj} {m₂ : Str → Option Value} {c : Nat} {tk : Tok} (N : News h₀ L s.heap news) (hC : (C, oc) ∈ news) (hn : NsO oc (fun y => if y = Str.ofString "sign" then some (.str (ofL [c]) tk) else m₂ y))
    (hk : (compEnvC scope cl C env).scope.kind = .function) (hl : (compEnvC scope cl C env).kindOf (Str.ofString "sign") = some .local)
    (h : ∀ t' k, Q (.str (ofL (escOne c)) t') { s with toks := k }) :
    wpAny (model prog w) A (eval (.IfExp (.Compare (.Name "sign" p3) [.In] [.Constant (.str "\"\\") 0 p4] p5) (.BinOp (.Constant (.str "\\") 0 p6) .Add (.Name "sign" p7) p8) (.Name "sign" p9) p10) (compEnvC scope cl C env)) Q E'' s := by
  k_steps
  refine comp_name N hC hn (if_pos rfl) ?_ hk hl (by decide)
  k_steps
  · rename_i hx
    refine comp_name (s := { s with toks := _ }) N hC hn (if_pos rfl) ?_ hk hl (by decide)
    have e : inP (Str.ofString "\"\\") c = false := by unfold inP; simpa using hx
    have := h tk (s.toks + 1)
    unfold escOne at this
    rw [e] at this
    exact this
  · rename_i hx
    refine comp_name (s := { s with toks := _ }) N hC hn (if_pos rfl) ?_ hk hl (by decide)
    have e : inP (Str.ofString "\"\\") c = true := by unfold inP; simpa using hx
    refine add_b (g := [c]) (fun t' k => ?_) (by simp)
    have := h t' k
    unfold escOne at this
    rw [e] at this
    exact this
end
section
variable {prog : Program} {w : World} {A : Around} {E : Value → Shared → Prop} {h₀ : Heap} {L : Addr} {m : Str → Option Value} {Q : Value → Shared → Prop} {scope : Scope} {pos p1 p2 p3 p4 p5 p6 p7 p8 p9 p10 : Pos} {cl : List (Str × Addr)} {env : Env} {iter : PySem.Expr}
    {I D C : Addr} {rest : List (Addr × Obj)} {x : Str} {t : Tok}
theorem lw_comp2 (hh : A.handled = none)
    (hk : (compEnvC scope cl C env).scope.kind = .function) (hl : (compEnvC scope cl C env).kindOf (Str.ofString "sign") = some .local)
    (o1 : ∀ q ∈ rest, q.1 < I) (o2 : I < D) (o3 : D < C) {all : List (List Nat)} (hall : all.length ≤ 1000) :
    ∀ {l : List Nat} {i : Nat} {s : Shared} {oc o : Obj} {m₂ : Str → Option Value} {dsV : List Value} {n : Nat} {dn : List (List Nat)} (_ : x.cps.toList.drop i = l) (_ : dn ++ l.map escOne = all) (_ : Fr h₀ L s.heap m)
      (_ : News h₀ L s.heap ((C, oc) :: (D, listO dsV n) :: (I, o) :: rest)) (_ : NsO oc m₂) (_ : StO o x t i) (_ : Each TextIs dsV dn)
      (_ : ∀ h' tk dsV n, Fr h₀ L h' m → News h₀ L h' ((D, listO dsV n) :: rest) → Each TextIs dsV all → Q (.ref D) { s with heap := h', toks := tk }),
      CompRest prog w A E env (.IfExp (.Compare (.Name "sign" p3) [.In] [.Constant (.str "\"\\") 0 p4] p5) (.BinOp (.Constant (.str "\\") 0 p6) .Add (.Name "sign" p7) p8) (.Name "sign" p9) p10) (.Name "sign" p2) iter [] scope pos cl Q D C (.ref I) s := by
  intro l
  induction l with
  | nil =>
    intro i s oc o m₂ dsV n dn hd hdn F N hns ho ET ret
    simp at hdn
    subst hdn
    have hv : x.cps[i]? = none := by
      have h := List.drop_eq_nil_iff.mp hd
      simpa using h
    refine comp_one0 fun E'' => end_text hh F N (.tail _ (.tail _ (.head _))) ho hv fun h' F' N' => ?_
    have N2 : News h₀ L h' ((C, oc) :: (D, listO dsV n) :: rest) := by
      refine news_less N' fun q hq => ?_
      rcases List.mem_cons.mp hq with rfl | hq
      · exact ⟨.head _, Nat.ne_of_gt (Nat.lt_trans o2 o3)⟩
      · rcases List.mem_cons.mp hq with rfl | hq
        · exact ⟨.tail _ (.head _), Nat.ne_of_gt o2⟩
        · exact ⟨.tail _ (.tail _ (.tail _ hq)), Nat.ne_of_lt (o1 q hq)⟩
    refine comp_done (oc := oc) (m₂ := m₂) F' N2 (.head _) hns fun h'' F'' N'' => ?_
    refine ret h'' s.toks dsV n F'' (news_less N'' fun q hq => ⟨.tail _ hq, ?_⟩) ET
    rcases List.mem_cons.mp hq with rfl | hq
    · exact Nat.ne_of_lt o3
    · exact Nat.ne_of_lt (Nat.lt_trans (o1 q hq) (Nat.lt_trans o2 o3))
  | cons c l ih =>
    intro i s oc o m₂ dsV n dn hd hdn F N hns ho ET ret
    have hv : x.cps[i]? = some c := by
      have h : (x.cps.toList.drop i)[0]? = some c := by rw [hd]; rfl
      rw [List.getElem?_drop, Nat.add_zero] at h
      simpa using h
    have hd' : x.cps.toList.drop (i + 1) = l := by rw [← List.drop_drop, hd]; rfl
    refine comp_one0 fun E'' => next_text F N (.tail _ (.tail _ (.head _))) ho hv fun h' o' tk k F' N' ho' => ?_
    refine wpAny_pure (bind_name ?_)
    have N2 : News h₀ L h' ((C, oc) :: (D, listO dsV n) :: (I, o') :: rest) := by
      refine news_sub (news_new (l' := (C, oc) :: (D, listO dsV n) :: rest) N' fun q hq => ?_) fun q hq => ?_
      · rcases List.mem_cons.mp hq with rfl | hq
        · exact ⟨.head _, Nat.ne_of_gt (Nat.lt_trans o2 o3)⟩
        · rcases List.mem_cons.mp hq with rfl | hq
          · exact ⟨.tail _ (.head _), Nat.ne_of_gt o2⟩
          · exact ⟨.tail _ (.tail _ (.tail _ hq)), Nat.ne_of_lt (o1 q hq)⟩
      · simp only [List.mem_cons] at hq ⊢; grind
    refine comp_store (s := { s with heap := h', toks := k }) F' N2 (.head _) hns (fun h2 oc' tk2 F2 N3 hns' => ?_) hl (by rw [hk]; rfl)
    have N4 : News h₀ L h2 ((C, oc') :: (D, listO dsV n) :: (I, o') :: rest) := by
      refine news_new N3 fun q hq => ⟨.tail _ hq, ?_⟩
      rcases List.mem_cons.mp hq with rfl | hq
      · exact Nat.ne_of_lt o3
      · rcases List.mem_cons.mp hq with rfl | hq
        · exact Nat.ne_of_lt (Nat.lt_trans o2 o3)
        · exact Nat.ne_of_lt (Nat.lt_trans (o1 q hq) (Nat.lt_trans o2 o3))
    refine lw_elt (s := { s with heap := h2, toks := tk2 }) N4 (.head _) hns' hk hl fun t' k' => ?_
    rw [List.map_cons] at hdn
    have hlen : dsV.length ≤ 10000 := by
      rw [ET.len]
      have h := congrArg List.length hdn
      rw [List.length_append, List.length_cons] at h
      omega
    refine apd (s := { s with heap := h2, toks := k' }) F2 N4 (.tail (Nat.ne_of_gt o3) (.head fun q hq => ?_)) hlen fun h3 F3 N5 => ?_
    · rcases List.mem_cons.mp hq with rfl | hq
      · exact Nat.ne_of_lt o2
      · exact Nat.ne_of_lt (Nat.lt_trans (o1 q hq) o2)
    · exact ih hd' (dn := dn ++ [escOne c]) (by rw [← hdn]; simp) F3 N5 hns' ho' (Each.snoc ⟨t', rfl⟩ ET) ret
end
end Mine
-- part WZ
namespace Mine
open PySem PySem.W PySem.Calls PyProof.Rows PySem.Builtin PySem.Builtin.Re
theorem quiet_WZ : True := by
  w_top off
  trivial
local macro_rules | `(tactic| k_mem) => `(tactic| first | assumption | exact List.Mem.head _ | (refine' List.Mem.tail _ ?_; k_mem))
local macro_rules | `(tactic| k_all) => `(tactic| first | assumption | exact ne_of_allLt (by assumption) | (refine ne_of_allLt ?_; grind))
local macro_rules | `(tactic| walk_at "call builtin:list.append") => `(tactic| (k_here; k_dflt (refine' apd ?F ?N ?U ?z ?_; (case F => k_asm); (case N => k_asm); (case U => k_upd); (case z => omega); k_whole; intro h' F' N'; (try k_sweep))))
local macro_rules | `(tactic| walk_at "getMethod ref") => `(tactic| (k_here; (with_reducible show wpAny _ _ (getMethod (Value.ref _) (Str.ofString "search") _) _ _ _); k_dflt (refine getm_pat (PatAt.keeps (by first | exact pat_tok (by assumption) | exact pat_quo (by assumption) | exact pat_val (by assumption)) (Fr.keep (by k_asm))) slot_search type_search ?_)))
local macro_rules | `(tactic| walk_at "getMethod ref") => `(tactic| (k_here; (with_reducible show wpAny _ _ (getMethod (Value.ref _) (Str.ofString "group") _) _ _ _); k_dflt (refine getm_match (News.get (by k_asm) (by k_mem)) slot_group type_group ?_)))
local macro_rules | `(tactic| walk_at "call builtin:re.Pattern.search") => `(tactic| (k_here; k_dflt (first
  | (refine' find_call ?P ?z ?f ?F ?N ?_; (case P => first | exact pat_tok (by assumption) | exact pat_quo (by assumption) | exact pat_val (by assumption)); (case f => assumption); (case z => assumption); (case F => k_asm); (case N => k_asm); k_whole; intro T' h' F' N' l1; (try k_lt l1); (try k_sweep))
  | (refine' miss_call ?P ?F ?z ?f ?_; (case P => first | exact pat_tok (by assumption) | exact pat_quo (by assumption) | exact pat_val (by assumption)); (case f => assumption); (case z => assumption); (case F => k_asm); k_whole))))
local macro_rules | `(tactic| walk_at "call builtin:re.Match.group") => `(tactic| (k_here; k_dflt (refine' group_L ?N ?m ?t ?z ?_; (case N => k_asm); (case m => k_mem); (case t => k_mem); (case z => assumption); k_whole; intro t' k')))
local macro_rules | `(tactic| walk_at "truthy str") => `(tactic| (k_here; k_dflt (first | (refine' truthy_L ?z ?n ?_; (case n => assumption); (case z => assumption); k_whole; intro k') | (refine' truthy_L0 ?n ?_; (case n => assumption); k_whole; intro k'))))
local macro_rules | `(tactic| walk_at "call ref") => `(tactic| (k_here; (with_reducible show wpAny _ _ (call (Value.ref 43) _) _ _ _); k_dflt (refine' unm_call ?B ?F ?X ?N ?T ?k ?m ?t ?d ?u ?z ?f ?_; (case B => k_asm); (case F => k_asm); (case X => k_asm); (case N => k_asm); (case T => k_asm); (case k => exact rfl); (case m => k_mem); (case t => k_mem); (case d => omega); (case u => omega); (case z => assumption); (case f => assumption); k_whole; intro t' h' k' F' N'; (try k_sweep))))
local macro_rules | `(tactic| walk_at "truthy ref") => `(tactic| (k_here; k_dflt (refine' truthy_N ?N ?m ?_; (case N => k_asm); (case m => k_mem); k_whole)))
local macro_rules | `(tactic| walk_at "getMethod ref") => `(tactic| (k_here; (with_reducible show wpAny _ _ (getMethod (Value.ref _) (Str.ofString "subn") _) _ _ _); k_dflt (refine getm_pat (PatAt.keeps (pat_junk (by assumption)) (Fr.keep (by k_asm))) slot_subn type_subn ?_)))
local macro_rules | `(tactic| walk_at "call builtin:re.Pattern.subn") => `(tactic| (k_here; k_dflt (refine' subn_call1 ?F ?N ?P ?z ?j ?_; (case F => k_asm); (case N => k_asm); (case P => exact pat_junk (by assumption)); (case z => omega); (case j => assumption); k_whole; intro y' t1' t2' h' k' F' N' l1; (try k_lt l1); (try k_sweep))))
local macro_rules | `(tactic| walk_at "call builtin:str.lstrip") => `(tactic| (k_here; k_dflt (refine' lstrip_call ?z ?j ?_; (case z => assumption); (case j => assumption); k_whole; intro t' k')))
local macro_rules | `(tactic| walk_at "call builtin:str.rstrip") => `(tactic| (k_here; k_dflt (refine' rstrip_call ?z ?j ?_; (case z => assumption); (case j => assumption); k_whole; intro t' k')))
local macro_rules | `(tactic| walk_at "call builtin:str.startswith") => `(tactic| (k_here; k_dflt (refine' starts_comma ?j ?_; (case j => assumption); k_whole)))
local macro_rules | `(tactic| walk_at "subscriptTail Call") => `(tactic| (k_here; (with_unfolding_all (refine' sl_from1 ?F ?N ?z ?e ?_ ?s ?t; (case F => k_asm); (case N => k_asm); (case z => assumption); (case e => assumption); (case s => exact rfl); (case t => exact fun _ => rfl); k_whole)); intro h' t' k' F' N'; (try k_sweep)))
local macro_rules | `(tactic| walk_at "getMethod ref") => `(tactic| (k_here; (with_reducible show wpAny _ _ (getMethod (Value.ref _) (Str.ofString "sub") _) _ _ _); k_dflt (refine getm_pat (PatAt.keeps (by first | exact pat_esc (by assumption) | exact pat_je (by assumption)) (Fr.keep (by k_asm))) slot_sub type_sub ?_)))
def prD (p : Pr) : PyData := .tuple [.str (ofL p.1), match p.2 with | none => .none | some l => .str (ofL l)]
def rowD (ps : List Pr) : PyData := .list (ps.map prD)
def GoodP (p : Pr) : Prop := PyData.canLay0 (prD p) = true
section
variable {h : Heap} {led : List (Addr × Obj)}
theorem reads_pair (hg : ∀ q ∈ led, h.get? q.1 = some q.2) {v : Value} {p : Pr} : PairIn led v p → ∃ as, Reads h v (prD p) as
  | ⟨x, t, v2, e, hm, hv⟩ => by
    subst e
    obtain ⟨nm, val⟩ := p
    have r2 : ∃ bs, Reads h v2 (match val with | none => PyData.none | some l => .str (ofL l)) bs := by
      cases val with
      | none => have hv : v2 = .none := hv; subst hv; exact ⟨_, .none⟩
      | some l => obtain ⟨t2, rfl⟩ : ∃ t, v2 = .str (ofL l) t := hv; exact ⟨_, .str _ _⟩
    obtain ⟨bs, r2⟩ := r2
    exact ⟨_, Reads.tuple (hg _ hm) rfl rfl (.cons (.str _ _) (.cons r2 .nil))⟩
theorem reads_pairs (hg : ∀ q ∈ led, h.get? q.1 = some q.2) : ∀ {vs : List Value} {ps : List Pr}, Each (PairIn led) vs ps → ∃ as, ReadsAll h vs (ps.map prD) as
  | [], [], _ => ⟨_, .nil⟩
  | _ :: _, _ :: _, ⟨a, b⟩ => by
    obtain ⟨as, r1⟩ := reads_pair hg a
    obtain ⟨bs, r2⟩ := reads_pairs hg b
    exact ⟨_, .cons r1 r2⟩
theorem reads_row (hg : ∀ q ∈ led, h.get? q.1 = some q.2) {v : Value} {ps : List Pr} : RowIn led v ps → ∃ as, Reads h v (rowD ps) as
  | ⟨x, vs, n, e, hm, hv⟩ => by
    subst e
    obtain ⟨as, r⟩ := reads_pairs hg hv
    exact ⟨_, Reads.list (hg _ hm) rfl rfl r⟩
theorem reads_rows (hg : ∀ q ∈ led, h.get? q.1 = some q.2) : ∀ {vs : List Value} {rs : List (List Pr)}, Each (RowIn led) vs rs → ∃ as, ReadsAll h vs (rs.map rowD) as
  | [], [], _ => ⟨_, .nil⟩
  | _ :: _, _ :: _, ⟨a, b⟩ => by
    obtain ⟨as, r1⟩ := reads_row hg a
    obtain ⟨bs, r2⟩ := reads_rows hg b
    exact ⟨_, .cons r1 r2⟩
theorem reads_texts : ∀ {vs : List Value} {ls : List (List Nat)}, Each TextIs vs ls → ∃ as, ReadsAll h vs (ls.map fun l => .str (ofL l)) as
  | [], [], _ => ⟨_, .nil⟩
  | _ :: _, _ :: _, ⟨⟨_, e⟩, b⟩ => by
    subst e
    obtain ⟨bs, r2⟩ := reads_texts b
    exact ⟨_, .cons (.str _ _) r2⟩
end
theorem lay_all {α : Type} {f : α → PyData} : ∀ {l : List α}, (∀ a ∈ l, PyData.canLay0 (f a) = true) → PyData.canLayAll0 (l.map f) = true
  | [], _ => rfl
  | a :: l, h => by
    rw [List.map_cons, PyData.canLayAll0, h a (.head _), lay_all fun b hb => h b (.tail _ hb)]; rfl
theorem lay_row {ps : List Pr} (h : ∀ p ∈ ps, GoodP p) : PyData.canLay0 (rowD ps) = true := by
  unfold rowD; rw [PyData.canLay0]; exact lay_all h
theorem lay_rows {rs : List (List Pr)} (h : ∀ ps ∈ rs, ∀ p ∈ ps, GoodP p) : PyData.canLay0 (.list (rs.map rowD)) = true := by
  rw [PyData.canLay0]; exact lay_all fun ps hps => lay_row (h ps hps)
theorem dep_all {α : Type} {f : α → PyData} {k : Nat} : ∀ {l : List α}, (∀ a ∈ l, PyData.depth (f a) ≤ k) → PyData.depthAll (l.map f) ≤ k
  | [], _ => by simp [PyData.depthAll]
  | a :: l, h => by
    rw [List.map_cons, PyData.depthAll]
    exact Nat.max_le.mpr ⟨h a (.head _), dep_all fun b hb => h b (.tail _ hb)⟩
theorem dep_pair (p : Pr) : PyData.depth (prD p) ≤ 1 := by
  obtain ⟨a, b⟩ := p
  cases b <;> simp [prD, PyData.depth, PyData.depthAll]
theorem dep_row (ps : List Pr) : PyData.depth (rowD ps) ≤ 2 := by
  unfold rowD; rw [PyData.depth]; exact Nat.succ_le_succ (dep_all fun p _ => dep_pair p)
theorem dep_rows (rs : List (List Pr)) : PyData.depth (.list (rs.map rowD)) ≤ 3 := by
  rw [PyData.depth]; exact Nat.succ_le_succ (dep_all fun p _ => dep_row p)
section
variable {prog : Program} {w : World} {A : Around} {E : Value → Shared → Prop} {s : Shared} {h₀ : Heap} {L : Addr} {news led led' : List (Addr × Obj)} {Q : Value → Shared → Prop}
theorem rows_same {Ra Rb : Addr} {va vb : List Value} {na nb : Nat} {rs : List (List Pr)} (N : News h₀ L s.heap news) (ha : (Ra, listO va na) ∈ news) (hb : (Rb, listO vb nb) ∈ news) (ea : Each (RowIn led) va rs) (eb : Each (RowIn led') vb rs)
    (sa : ∀ q ∈ led, q ∈ news) (sb : ∀ q ∈ led', q ∈ news) (hg : ∀ ps ∈ rs, ∀ p ∈ ps, GoodP p) (hu : A.units + 10 < cLine) :
    (Q (.bool true) s → wpAny (model prog w) A (compareOp .Eq (.ref Ra) (.ref Rb)) Q E s) ∧ (Q (.bool false) s → wpAny (model prog w) A (compareOp .NotEq (.ref Ra) (.ref Rb)) Q E s) := by
  obtain ⟨as, r1⟩ := reads_rows (fun q hq => (N q (sa q hq)).1) ea
  obtain ⟨bs, r2⟩ := reads_rows (fun q hq => (N q (sb q hq)).1) eb
  have d := dep_rows rs
  have ra : Reads s.heap (.ref Ra) (.list (rs.map rowD)) _ := Reads.list (N _ ha).1 rfl rfl r1
  have rb : Reads s.heap (.ref Rb) (.list (rs.map rowD)) _ := Reads.list (N _ hb).1 rfl rfl r2
  have ly := lay_rows hg
  have e := SeqAt.eqv_refl _ ly
  have hm : A.units + min (PyData.depth (.list (rs.map rowD))) (PyData.depth (.list (rs.map rowD))) < cLine := by rw [Nat.min_self]; omega
  exact ⟨fun q => SeqAt.compareEq_reads ra rb ly ly hm (by rw [e]; exact q), fun q => SeqAt.compareNe_reads ra rb ly ly hm (by rw [e]; exact q)⟩
theorem row_nil {Ra Rb : Addr} {va : List Value} {na nb : Nat} {ps : List Pr} (N : News h₀ L s.heap news) (ha : (Ra, listO va na) ∈ news) (hb : (Rb, listO [] nb) ∈ news) (ea : Each (PairIn led) va ps)
    (sa : ∀ q ∈ led, q ∈ news) (hg : ∀ p ∈ ps, GoodP p) (hu : A.units + 10 < cLine) (q : Q (.bool (!ps.isEmpty)) s) : wpAny (model prog w) A (compareOp .NotEq (.ref Ra) (.ref Rb)) Q E s := by
  obtain ⟨as, r1⟩ := reads_pairs (fun q hq => (N q (sa q hq)).1) ea
  have ra : Reads s.heap (.ref Ra) (rowD ps) _ := Reads.list (N _ ha).1 rfl rfl r1
  have rb : Reads s.heap (.ref Rb) (.list []) _ := Reads.list (N _ hb).1 rfl rfl .nil
  have d := dep_row ps
  refine SeqAt.compareNe_reads ra rb (lay_row hg) rfl ?_ ?_
  · have := Nat.min_le_left (PyData.depth (rowD ps)) (PyData.depth (.list [])); omega
  · have e : PyData.eqv (rowD ps) (.list []) = ps.isEmpty := by
      unfold rowD
      rw [PyData.eqv]
      cases ps <;> rfl
    rw [e]; exact q
theorem texts_nil {Ra Rb : Addr} {va : List Value} {na nb : Nat} {ls : List (List Nat)} (N : News h₀ L s.heap news) (ha : (Ra, listO va na) ∈ news) (hb : (Rb, listO [] nb) ∈ news) (ea : Each TextIs va ls)
    (hg : ∀ l ∈ ls, PyData.canLay0 (.str (ofL l)) = true) (hu : A.units + 10 < cLine) (q : Q (.bool ls.isEmpty) s) : wpAny (model prog w) A (compareOp .Eq (.ref Ra) (.ref Rb)) Q E s := by
  obtain ⟨as, r1⟩ := reads_texts (h := s.heap) ea
  have ra : Reads s.heap (.ref Ra) (.list (ls.map fun l => .str (ofL l))) _ := Reads.list (N _ ha).1 rfl rfl r1
  have rb : Reads s.heap (.ref Rb) (.list []) _ := Reads.list (N _ hb).1 rfl rfl .nil
  have d : PyData.depth (.list (ls.map fun l => PyData.str (ofL l))) ≤ 1 := by
    rw [PyData.depth]; exact Nat.succ_le_succ (dep_all fun _ _ => by simp [PyData.depth])
  refine SeqAt.compareEq_reads ra rb ?_ rfl ?_ ?_
  · rw [PyData.canLay0]; exact lay_all hg
  · have := Nat.min_le_left (PyData.depth (.list (ls.map fun l => PyData.str (ofL l)))) (PyData.depth (.list [])); omega
  · have e : PyData.eqv (.list (ls.map fun l => PyData.str (ofL l))) (.list []) = ls.isEmpty := by
      rw [PyData.eqv]
      cases ls <;> rfl
    rw [e]; exact q
end
end Mine
-- part XA0
namespace Mine
open PySem PySem.W PySem.Calls PyProof.Rows PySem.Builtin PySem.Builtin.Re
theorem quiet_XA0 : True := by
  w_top off
  trivial
local macro_rules | `(tactic| k_mem) => `(tactic| first | assumption | exact List.Mem.head _ | (refine' List.Mem.tail _ ?_; k_mem))
local macro_rules | `(tactic| k_all) => `(tactic| first | assumption | exact ne_of_allLt (by assumption) | (refine ne_of_allLt ?_; grind))
local macro_rules | `(tactic| walk_at "call builtin:list.append") => `(tactic| (k_here; k_dflt (refine' apd ?F ?N ?U ?z ?_; (case F => k_asm); (case N => k_asm); (case U => k_upd); (case z => omega); k_whole; intro h' F' N'; (try k_sweep))))
local macro_rules | `(tactic| walk_at "getMethod ref") => `(tactic| (k_here; (with_reducible show wpAny _ _ (getMethod (Value.ref _) (Str.ofString "search") _) _ _ _); k_dflt (refine getm_pat (PatAt.keeps (by first | exact pat_tok (by assumption) | exact pat_quo (by assumption) | exact pat_val (by assumption)) (Fr.keep (by k_asm))) slot_search type_search ?_)))
local macro_rules | `(tactic| walk_at "getMethod ref") => `(tactic| (k_here; (with_reducible show wpAny _ _ (getMethod (Value.ref _) (Str.ofString "group") _) _ _ _); k_dflt (refine getm_match (News.get (by k_asm) (by k_mem)) slot_group type_group ?_)))
local macro_rules | `(tactic| walk_at "call builtin:re.Pattern.search") => `(tactic| (k_here; k_dflt (first
  | (refine' find_call ?P ?z ?f ?F ?N ?_; (case P => first | exact pat_tok (by assumption) | exact pat_quo (by assumption) | exact pat_val (by assumption)); (case f => assumption); (case z => assumption); (case F => k_asm); (case N => k_asm); k_whole; intro T' h' F' N' l1; (try k_lt l1); (try k_sweep))
  | (refine' miss_call ?P ?F ?z ?f ?_; (case P => first | exact pat_tok (by assumption) | exact pat_quo (by assumption) | exact pat_val (by assumption)); (case f => assumption); (case z => assumption); (case F => k_asm); k_whole))))
local macro_rules | `(tactic| walk_at "call builtin:re.Match.group") => `(tactic| (k_here; k_dflt (refine' group_L ?N ?m ?t ?z ?_; (case N => k_asm); (case m => k_mem); (case t => k_mem); (case z => assumption); k_whole; intro t' k')))
local macro_rules | `(tactic| walk_at "truthy str") => `(tactic| (k_here; k_dflt (first | (refine' truthy_L ?z ?n ?_; (case n => assumption); (case z => assumption); k_whole; intro k') | (refine' truthy_L0 ?n ?_; (case n => assumption); k_whole; intro k'))))
local macro_rules | `(tactic| walk_at "call ref") => `(tactic| (k_here; (with_reducible show wpAny _ _ (call (Value.ref 43) _) _ _ _); k_dflt (refine' unm_call ?B ?F ?X ?N ?T ?k ?m ?t ?d ?u ?z ?f ?_; (case B => k_asm); (case F => k_asm); (case X => k_asm); (case N => k_asm); (case T => k_asm); (case k => exact rfl); (case m => k_mem); (case t => k_mem); (case d => omega); (case u => omega); (case z => assumption); (case f => assumption); k_whole; intro t' h' k' F' N'; (try k_sweep))))
local macro_rules | `(tactic| walk_at "truthy ref") => `(tactic| (k_here; k_dflt (refine' truthy_N ?N ?m ?_; (case N => k_asm); (case m => k_mem); k_whole)))
local macro_rules | `(tactic| walk_at "getMethod ref") => `(tactic| (k_here; (with_reducible show wpAny _ _ (getMethod (Value.ref _) (Str.ofString "subn") _) _ _ _); k_dflt (refine getm_pat (PatAt.keeps (pat_junk (by assumption)) (Fr.keep (by k_asm))) slot_subn type_subn ?_)))
local macro_rules | `(tactic| walk_at "call builtin:re.Pattern.subn") => `(tactic| (k_here; k_dflt (refine' subn_call1 ?F ?N ?P ?z ?j ?_; (case F => k_asm); (case N => k_asm); (case P => exact pat_junk (by assumption)); (case z => omega); (case j => assumption); k_whole; intro y' t1' t2' h' k' F' N' l1; (try k_lt l1); (try k_sweep))))
local macro_rules | `(tactic| walk_at "call builtin:str.lstrip") => `(tactic| (k_here; k_dflt (refine' lstrip_call ?z ?j ?_; (case z => assumption); (case j => assumption); k_whole; intro t' k')))
local macro_rules | `(tactic| walk_at "call builtin:str.rstrip") => `(tactic| (k_here; k_dflt (refine' rstrip_call ?z ?j ?_; (case z => assumption); (case j => assumption); k_whole; intro t' k')))
local macro_rules | `(tactic| walk_at "call builtin:str.startswith") => `(tactic| (k_here; k_dflt (refine' starts_comma ?j ?_; (case j => assumption); k_whole)))
local macro_rules | `(tactic| walk_at "subscriptTail Call") => `(tactic| (k_here; (with_unfolding_all (refine' sl_from1 ?F ?N ?z ?e ?_ ?s ?t; (case F => k_asm); (case N => k_asm); (case z => assumption); (case e => assumption); (case s => exact rfl); (case t => exact fun _ => rfl); k_whole)); intro h' t' k' F' N'; (try k_sweep)))
local macro_rules | `(tactic| walk_at "getMethod ref") => `(tactic| (k_here; (with_reducible show wpAny _ _ (getMethod (Value.ref _) (Str.ofString "sub") _) _ _ _); k_dflt (refine getm_pat (PatAt.keeps (by first | exact pat_esc (by assumption) | exact pat_je (by assumption)) (Fr.keep (by k_asm))) slot_sub type_sub ?_)))
local macro_rules | `(tactic| walk_at "storeName") => `(tactic| (k_here; k_dflt (refine' storeX_C ?F ?N ?c ?U ?d ?_ ?a ?b; (case a => rfl); (case b => rfl); (case F => k_asm); (case N => k_asm); (case c => rfl); (case U => k_updF); (case d => k_asm); k_whole); intro h' o' F' N' d'; (try dsimp only at N'); (try k_sweep)))
local macro_rules | `(tactic| walk_at "eval Name") => `(tactic| (k_here; k_dflt (refine' nameX_C ?N ?c ?m ?d ?_ ?a ?b; (case a => rfl); (case b => rfl); (case N => k_asm); (case c => rfl); (case m => k_mem); (case d => k_asm); k_whole)))
local macro_rules | `(tactic| walk_at "eval ListComp") => `(tactic| (k_here; k_dflt (refine' comp_eval ?a ?b ?c ?d ?_; (case a => exact rfl); (case b => exact rfl); (case c => decide +kernel); (case d => exact fun _ => rfl); k_whole)))
local macro_rules | `(tactic| walk_at "pyIter str") => `(tactic| (k_here; k_dflt (refine' iter_text ?F ?N ?_; (case F => k_asm); (case N => k_asm); k_whole); intro I' o' h' F' N' d' l1; (try k_lt l1)))
local macro_rules | `(tactic| walk_at "call builtin:str.join") => `(tactic| (refine held ?_))
local macro_rules | `(tactic| walk_at "binaryOp Add str str") => `(tactic| (refine held ?_))
local macro_rules | `(tactic| k_mem) => `(tactic| first | assumption | exact List.Mem.head _ | (refine' List.Mem.tail _ ?_; k_mem))
def retVal : Stmt → Expr
  | .Return (some e) _ => e
  | _ => .Name "" ⟨0, 0, 0, 0⟩
noncomputable def lwScope (P : Params) : Scope := (fnOfTop P 92).scope
noncomputable def lwRet (P : Params) : Expr := retVal (nthS 2 (stmtsOf (fnOfTop P 92)))
theorem flat_len {f : Nat → List Nat} (hf : ∀ c, (f c).length ≤ 2) : ∀ l : List Nat, ((l.map f).map fun x => x.length + ([] : List Nat).length).sum ≤ 2 * l.length
  | [] => by simp
  | c :: l => by have := flat_len hf l; have := hf c; simp only [List.map_cons, List.sum_cons, List.length_cons, List.length_nil] at *; omega
theorem escOne_len (c : Nat) : (escOne c).length ≤ 2 := by unfold escOne; split <;> simp
section
variable {prog : Program} {w : World} {A : Around} {E : Value → Shared → Prop} {s : Shared} {h₀ : Heap} {L : Addr} {m : Str → Option Value} {news : List (Addr × Obj)} {D : Addr} {vs : List Value} {n : Nat} {ls : List (List Nat)} {t0 : Tok} {Q : Value → Shared → Prop}
theorem empty_ofL : Str.ofString "" = ofL [] := by decide +kernel
theorem join_none (N : News h₀ L s.heap news) (hm : (D, listO vs n) ∈ news) (hts : Each TextIs vs ls) (hsz : textsLen [] ls ≤ 1048576)
    (q : ∀ t' k, Q (.str (ofL ls.flatten) t') { s with toks := k }) : wpAny (model prog w) A (call (.builtin "str.join") [.str (Str.ofString "") t0, .ref D]) Q E s := by
  rw [empty_ofL]; exact join_texts N hm hts hsz (by rw [joinL_nil]; exact q)
theorem quo_ofL : Str.ofString "\"" = ofL [34] := by decide +kernel
theorem add_q1 {g : List Nat} {t u : Tok} (h : ∀ t' tk, Q (.str (ofL ([34] ++ g)) t') { s with toks := tk }) (hsz : g.length ≤ 1000000) : wpAny (model prog w) A (binaryOp .Add (.str (Str.ofString "\"") t) (.str (ofL g) u)) Q E s := by
  rw [quo_ofL]; exact add_L (a := [34]) (b := g) h (by simp; omega)
theorem add_q2 {g : List Nat} {t u : Tok} (h : ∀ t' tk, Q (.str (ofL (g ++ [34])) t') { s with toks := tk }) (hsz : g.length ≤ 1000000) : wpAny (model prog w) A (binaryOp .Add (.str (ofL g) t) (.str (Str.ofString "\"") u)) Q E s := by
  rw [quo_ofL]; exact add_L (a := g) (b := [34]) h (by simp; omega)
end
section
variable {prog : Program} {w : World} {A : Around} {E : Value → Shared → Prop} {s : Shared} {h₀ : Heap} {L : Addr} {u : Str → Option Value} {news : List (Addr × Obj)} {l : List Nat} {tk : Tok} {Q : Value → Shared → Prop}
theorem lw_ret (X : (hd.heap_39 w.params).In h₀) (F : Fr h₀ L s.heap (kstB u [("value", .str (ofL l) tk)])) (N : News h₀ L s.heap news) (hh : A.handled = none) (hl : l.length ≤ 1000)
    (h : ∀ t' h' k, Fr h₀ L h' (kstB u [("value", .str (ofL l) tk)]) → News h₀ L h' news → Q (.str (ofL ([34] ++ (l.map escOne).flatten ++ [34])) t') { s with heap := h', toks := k }) :
    wpAny (model prog w) A (eval (lwRet w.params) (envOfC "_law_written" (lwScope w.params) L 92 (.ref 91))) Q E s := by
  have ex1 : lwRet w.params = lwRet w.params := rfl
  conv at ex1 => rhs; whnf
  have ex3 : lwScope w.params = lwScope w.params := rfl
  conv at ex3 => rhs; whnf
  rw [ex1, ex3]
  clear ex1 ex3
  k_steps
  rename_i I o h1 F1 N1 d1 l1
  clear F N
  have l2 : ∀ q ∈ news, q.1 < I := l1
  refine comp_go F1 N1 (by decide +kernel) rfl (fun s' R E' hg hR => text_again d1 (hg _ (.head _)) hR) fun D C oc h2 tk2 F2 N2 hns hD hC => ?_
  refine lw_comp2 (all := l.map escOne) (dn := []) (l := l) (i := 0) (rest := news) hh ?hk ?hl2 l2 (hD _ (.head _)) hC (by simpa using hl) rfl rfl F2 N2 hns d1 trivial ?ret
  case hk => exact rfl
  case hl2 => exact rfl
  case ret =>
    intro h3 tk3 dsV n F3 N3 ET
    have hz : textsLen [] (l.map escOne) ≤ 1048576 := by
      unfold textsLen
      have := flat_len escOne_len l
      omega
    have hfl : (l.map escOne).flatten.length ≤ 2000 := by
      have := flat_len escOne_len l
      rw [List.length_flatten]
      simp only [List.map_map, List.length_nil, Nat.add_zero] at this ⊢
      have e : (List.map (fun x => (escOne x).length) l).sum = (List.map (List.length ∘ escOne) l).sum := rfl
      simp only [Function.comp_def] at this ⊢
      omega
    clear F1 N1 F2 N2
    k_steps
    refine join_none N3 (.head _) ET hz fun t1 k1 => ?_
    refine add_q1 (fun t2 k2 => ?_) (by omega)
    k_steps
    refine add_q2 (fun t3 k3 => ?_) (by rw [List.length_append]; simp only [List.length_cons, List.length_nil]; omega)
    exact h _ _ _ F3 (news_tail N3)
end
end Mine
-- part XB
namespace Mine
open PySem PySem.W PySem.Calls PyProof.Rows PySem.Builtin PySem.Builtin.Re
local macro_rules | `(tactic| walk_at "nothing so called") => `(tactic| skip)
theorem quiet_XB : True := by
  w_top off
  trivial
local macro_rules | `(tactic| k_mem) => `(tactic| first | assumption | exact List.Mem.head _ | (refine' List.Mem.tail _ ?_; k_mem))
local macro_rules | `(tactic| k_all) => `(tactic| first | assumption | exact ne_of_allLt (by assumption) | (refine ne_of_allLt ?_; grind))
local macro_rules | `(tactic| walk_at "call builtin:list.append") => `(tactic| (k_here; k_dflt (refine' apd ?F ?N ?U ?z ?_; (case F => k_asm); (case N => k_asm); (case U => k_upd); (case z => omega); k_whole; intro h' F' N'; (try k_sweep))))
local macro_rules | `(tactic| walk_at "getMethod ref") => `(tactic| (k_here; (with_reducible show wpAny _ _ (getMethod (Value.ref _) (Str.ofString "search") _) _ _ _); k_dflt (refine getm_pat (PatAt.keeps (by first | exact pat_tok (by assumption) | exact pat_quo (by assumption) | exact pat_val (by assumption)) (Fr.keep (by k_asm))) slot_search type_search ?_)))
local macro_rules | `(tactic| walk_at "getMethod ref") => `(tactic| (k_here; (with_reducible show wpAny _ _ (getMethod (Value.ref _) (Str.ofString "group") _) _ _ _); k_dflt (refine getm_match (News.get (by k_asm) (by k_mem)) slot_group type_group ?_)))
local macro_rules | `(tactic| walk_at "call builtin:re.Pattern.search") => `(tactic| (k_here; k_dflt (first
  | (refine' find_call ?P ?z ?f ?F ?N ?_; (case P => first | exact pat_tok (by assumption) | exact pat_quo (by assumption) | exact pat_val (by assumption)); (case f => assumption); (case z => assumption); (case F => k_asm); (case N => k_asm); k_whole; intro T' h' F' N' l1; (try k_lt l1); (try k_sweep))
  | (refine' miss_call ?P ?F ?z ?f ?_; (case P => first | exact pat_tok (by assumption) | exact pat_quo (by assumption) | exact pat_val (by assumption)); (case f => assumption); (case z => assumption); (case F => k_asm); k_whole))))
local macro_rules | `(tactic| walk_at "call builtin:re.Match.group") => `(tactic| (k_here; k_dflt (refine' group_L ?N ?m ?t ?z ?_; (case N => k_asm); (case m => k_mem); (case t => k_mem); (case z => assumption); k_whole; intro t' k')))
local macro_rules | `(tactic| walk_at "truthy str") => `(tactic| (k_here; k_dflt (first | (refine' truthy_L ?z ?n ?_; (case n => assumption); (case z => assumption); k_whole; intro k') | (refine' truthy_L0 ?n ?_; (case n => assumption); k_whole; intro k'))))
local macro_rules | `(tactic| walk_at "call ref") => `(tactic| (k_here; (with_reducible show wpAny _ _ (call (Value.ref 43) _) _ _ _); k_dflt (refine' unm_call ?B ?F ?X ?N ?T ?k ?m ?t ?d ?u ?z ?f ?_; (case B => k_asm); (case F => k_asm); (case X => k_asm); (case N => k_asm); (case T => k_asm); (case k => exact rfl); (case m => k_mem); (case t => k_mem); (case d => omega); (case u => omega); (case z => assumption); (case f => assumption); k_whole; intro t' h' k' F' N'; (try k_sweep))))
local macro_rules | `(tactic| walk_at "truthy ref") => `(tactic| (k_here; k_dflt (refine' truthy_N ?N ?m ?_; (case N => k_asm); (case m => k_mem); k_whole)))
local macro_rules | `(tactic| walk_at "getMethod ref") => `(tactic| (k_here; (with_reducible show wpAny _ _ (getMethod (Value.ref _) (Str.ofString "subn") _) _ _ _); k_dflt (refine getm_pat (PatAt.keeps (pat_junk (by assumption)) (Fr.keep (by k_asm))) slot_subn type_subn ?_)))
local macro_rules | `(tactic| walk_at "call builtin:re.Pattern.subn") => `(tactic| (k_here; k_dflt (refine' subn_call1 ?F ?N ?P ?z ?j ?_; (case F => k_asm); (case N => k_asm); (case P => exact pat_junk (by assumption)); (case z => omega); (case j => assumption); k_whole; intro y' t1' t2' h' k' F' N' l1; (try k_lt l1); (try k_sweep))))
local macro_rules | `(tactic| walk_at "call builtin:str.lstrip") => `(tactic| (k_here; k_dflt (refine' lstrip_call ?z ?j ?_; (case z => assumption); (case j => assumption); k_whole; intro t' k')))
local macro_rules | `(tactic| walk_at "call builtin:str.rstrip") => `(tactic| (k_here; k_dflt (refine' rstrip_call ?z ?j ?_; (case z => assumption); (case j => assumption); k_whole; intro t' k')))
local macro_rules | `(tactic| walk_at "call builtin:str.startswith") => `(tactic| (k_here; k_dflt (refine' starts_comma ?j ?_; (case j => assumption); k_whole)))
local macro_rules | `(tactic| walk_at "subscriptTail Call") => `(tactic| (k_here; (with_unfolding_all (refine' sl_from1 ?F ?N ?z ?e ?_ ?s ?t; (case F => k_asm); (case N => k_asm); (case z => assumption); (case e => assumption); (case s => exact rfl); (case t => exact fun _ => rfl); k_whole)); intro h' t' k' F' N'; (try k_sweep)))
local macro_rules | `(tactic| walk_at "getMethod ref") => `(tactic| (k_here; (with_reducible show wpAny _ _ (getMethod (Value.ref _) (Str.ofString "sub") _) _ _ _); k_dflt (refine getm_pat (PatAt.keeps (by first | exact pat_esc (by assumption) | exact pat_je (by assumption)) (Fr.keep (by k_asm))) slot_sub type_sub ?_)))
local macro_rules | `(tactic| walk_at "storeName") => `(tactic| (k_here; k_dflt (refine' storeX_C ?F ?N ?c ?U ?d ?_ ?a ?b; (case a => rfl); (case b => rfl); (case F => k_asm); (case N => k_asm); (case c => rfl); (case U => k_updF); (case d => k_asm); k_whole); intro h' o' F' N' d'; (try dsimp only at N'); (try k_sweep)))
local macro_rules | `(tactic| walk_at "eval Name") => `(tactic| (k_here; k_dflt (refine' nameX_C ?N ?c ?m ?d ?_ ?a ?b; (case a => rfl); (case b => rfl); (case N => k_asm); (case c => rfl); (case m => k_mem); (case d => k_asm); k_whole)))
local macro_rules | `(tactic| walk_at "eval ListComp") => `(tactic| (k_here; k_dflt (refine' comp_eval ?a ?b ?c ?d ?_; (case a => exact rfl); (case b => exact rfl); (case c => decide +kernel); (case d => exact fun _ => rfl); k_whole)))
local macro_rules | `(tactic| walk_at "pyIter str") => `(tactic| (k_here; k_dflt (refine' iter_text ?F ?N ?_; (case F => k_asm); (case N => k_asm); k_whole); intro I' o' h' F' N' d' l1; (try k_lt l1)))
local macro_rules | `(tactic| k_mem) => `(tactic| first | assumption | exact List.Mem.head _ | (refine' List.Mem.tail _ ?_; k_mem))
def plainS : Str := Str.ofString "!#$%&'*+-.^_`|~0123456789ABCDEFGHIJKLMNOPQRSTUVWXYZabcdefghijklmnopqrstuvwxyz"
def lwOf (l : List Nat) : List Nat := if l ≠ [] ∧ (l.filter fun c => !inP plainS c) = [] then l else [34] ++ (l.map escOne).flatten ++ [34]
local macro_rules | `(tactic| walk_at "eval BinOp") => `(tactic| (k_here; k_dflt (refine' lw_ret ?X ?F ?N ?hh ?l ?_; (case X => k_asm); (case F => exact fr_canon _ (by assumption) (List.forall_mem_cons.mpr ⟨by with_unfolding_all rfl, List.forall_mem_nil _⟩)); (case N => k_asm); (case hh => exact rfl); (case l => assumption); k_whole); intro t' h' k' F' N'; (try k_sweep)))
local macro_rules | `(tactic| walk_at "compareOp Eq ref ref") => `(tactic| (refine held ?_))
section
variable {prog : Program} {w : World} {p : Program} {loose : List Str} {mean : ExcName → Option Value} {mg mb : Str → Option Value} {dp un : Nat} {gd : Option (List Code)} {cn : Str} {cs : Scope} {a : Addr} {ccd : Value} {cl : List (Str × Addr)} {outer : List Env} {A₀ : Around} {base h₀ : Heap} {L : Addr} {m : Str → Option Value} {s : Shared}
    {Q E : Value → Shared → Prop} {tk : Tok} {news : List (Addr × Obj)} {l : List Nat}
theorem lw_call (B : Below A₀ base outer h₀) (F : Fr h₀ L s.heap m) (X : (hd.heap_39 w.params).In h₀) (N : News h₀ L s.heap news) (T : Top p loose mean mg mb h₀) (hk : cs.kind = .function) (hdp : dp + 20 < recursionLimit) (hun : un + 60 < cLine) (hl : l.length ≤ 1000)
    (hgood : ∀ c ∈ l, PyData.canLay0 (.str (ofL [c])) = true)
    (hret : ∀ t1 h' tk', Fr h₀ L h' m → News h₀ L h' news → Q (.str (ofL (lwOf l)) t1) { s with heap := h', toks := tk' }) :
    wpAny (model prog w) (ktrTop dp un gd cn cs L a ccd cl outer) (call (.ref 92) [.str (ofL l) tk]) Q E s := by
  refine wpAny_call ?_
  k_dflt (refine' code_defC ?k1 ?k2 ?k3 ?k4 ?k5 ?kA ?kF ?kK ?k6 ?k7 ?k8 ?k9 ?kB ?kD ?_ ?c2 ?c3 ?c4; (case kA => exact rfl); (case kF => exact rfl); (case kK => assumption); (case k1 => k_asm); (case k2 => k_asm); (case k3 => k_asm); (case k4 => k_asm); (case k5 => k_asm); (case k6 => k_is); (case k7 => k_is); (case k8 => ktr_room); (case k9 => exact BindsTo.of_eq rfl); (case kB => exact rfl); (case kD => decide +kernel); (case c2 => exact rfl); (case c3 => exact rfl); (case c4 => exact rfl); k_whole; intro g' L' h' tk' cells' FG' F' N' Y' B' X' T' l1; (try k_lt l1); k_cells Y'; (try simp only [List.cons_append, List.nil_append] at N'); (try dsimp only); (try k_fold))
  have hL : ∀ q ∈ news, q.1 ≠ L' + 1 := fun q hq => Nat.ne_of_lt (Nat.lt_succ_of_lt (l1 q hq))
  k_steps
  · rename_i h1 co F1 N1 d1 hne I' o' h2 F2 N2 d2 l2
    have l3 : ∀ q ∈ (L' + 1, co) :: news, q.1 < I' := fun q hq => by
      rcases List.mem_cons.mp hq with rfl | hq
      · exact l2.1
      · exact Nat.lt_trans (l1 q hq) (Nat.lt_trans (Nat.lt_succ_self _) l2.1)
    clear F1 N1
    have hne' : l ≠ [] := by
      intro e
      rw [e, ← empty_ofL] at hne
      simp at hne
    refine comp_go F2 N2 (by decide +kernel) rfl (fun s' R E' hg hR => text_again d2 (hg _ (.head _)) hR) fun D C oc h3 tk3 F3 N3 hns hD hC => ?_
    refine lw_comp1 (P := plainS) (tp := _) (pc := L' + 1) (po := co) (all := (l.filter fun c => !inP plainS c).map ([·])) (dn := []) (l := l) (i := 0) (rest := (L' + 1, co) :: news) rfl (.head _) d1 ?hk1 ?hk2 ?hk3 ?hk4 l3 (hD _ (.head _)) hC ?hlen rfl rfl F3 N3 hns d2 trivial ?ret
    case hk1 => exact rfl
    case hk2 => exact rfl
    case hk3 => exact rfl
    case hk4 => exact rfl
    case hlen => rw [List.length_map]; exact Nat.le_trans (List.length_filter_le _ _) hl
    case ret =>
      intro h4 tk4 dsV n F4 N4 ET
      have hg2 : ∀ x ∈ (l.filter fun c => !inP plainS c).map ([·]), PyData.canLay0 (.str (ofL x)) = true := by
        intro x hx
        obtain ⟨c, hc, rfl⟩ := List.mem_map.mp hx
        exact hgood c (List.mem_filter.mp hc).1
      clear F2 N2 F3 N3
      k_steps
      rename News _ _ _ _ => N5
      refine texts_nil (na := n) (nb := 0) N5 (.tail _ (.head _)) (.head _) ET hg2 ?u ?_
      case u => (rw [units_deeper]; dsimp only [ktrTop]; omega)
      k_steps
      · rename (List.isEmpty _ = true) => he
        have e : lwOf l = l := if_pos ⟨hne', by simpa using he⟩
        rw [e] at hret
        exact hret _ _ _ (by assumption) (news_sub (by assumption) fun q hq => by k_mem)
      · rename (List.isEmpty _ = false) => he
        have e : lwOf l = [34] ++ (l.map escOne).flatten ++ [34] := if_neg fun z => by rw [z.2] at he; cases he
        rw [e] at hret
        exact hret _ _ _ (by assumption) (news_sub (by assumption) fun q hq => by k_mem)
  · rename_i hne t1 h1 k1 F1 N1 _ _ _ _
    have e : l = [] := by
      have e1 : ofL l = Str.ofString "" := by simpa using hne
      rw [empty_ofL] at e1
      simpa [ofL] using e1
    have e2 : lwOf l = [34] ++ (l.map escOne).flatten ++ [34] := if_neg fun z => z.1 e
    rw [← e2]
    exact hret _ _ _ (by assumption) (news_tail (by assumption))
end
end Mine
-- part XC0
namespace Mine
open PySem PySem.W PySem.Calls PyProof.Rows PySem.Builtin PySem.Builtin.Re
theorem quiet_XC0 : True := by
  w_top off
  trivial
local macro_rules | `(tactic| k_mem) => `(tactic| first | assumption | exact List.Mem.head _ | (refine' List.Mem.tail _ ?_; k_mem))
local macro_rules | `(tactic| k_all) => `(tactic| first | assumption | exact ne_of_allLt (by assumption) | (refine ne_of_allLt ?_; grind))
local macro_rules | `(tactic| walk_at "call builtin:list.append") => `(tactic| (k_here; k_dflt (refine' apd ?F ?N ?U ?z ?_; (case F => k_asm); (case N => k_asm); (case U => k_upd); (case z => omega); k_whole; intro h' F' N'; (try k_sweep))))
local macro_rules | `(tactic| walk_at "getMethod ref") => `(tactic| (k_here; (with_reducible show wpAny _ _ (getMethod (Value.ref _) (Str.ofString "search") _) _ _ _); k_dflt (refine getm_pat (PatAt.keeps (by first | exact pat_tok (by assumption) | exact pat_quo (by assumption) | exact pat_val (by assumption)) (Fr.keep (by k_asm))) slot_search type_search ?_)))
local macro_rules | `(tactic| walk_at "getMethod ref") => `(tactic| (k_here; (with_reducible show wpAny _ _ (getMethod (Value.ref _) (Str.ofString "group") _) _ _ _); k_dflt (refine getm_match (News.get (by k_asm) (by k_mem)) slot_group type_group ?_)))
local macro_rules | `(tactic| walk_at "call builtin:re.Pattern.search") => `(tactic| (k_here; k_dflt (first
  | (refine' find_call ?P ?z ?f ?F ?N ?_; (case P => first | exact pat_tok (by assumption) | exact pat_quo (by assumption) | exact pat_val (by assumption)); (case f => assumption); (case z => assumption); (case F => k_asm); (case N => k_asm); k_whole; intro T' h' F' N' l1; (try k_lt l1); (try k_sweep))
  | (refine' miss_call ?P ?F ?z ?f ?_; (case P => first | exact pat_tok (by assumption) | exact pat_quo (by assumption) | exact pat_val (by assumption)); (case f => assumption); (case z => assumption); (case F => k_asm); k_whole))))
local macro_rules | `(tactic| walk_at "call builtin:re.Match.group") => `(tactic| (k_here; k_dflt (refine' group_L ?N ?m ?t ?z ?_; (case N => k_asm); (case m => k_mem); (case t => k_mem); (case z => assumption); k_whole; intro t' k')))
local macro_rules | `(tactic| walk_at "truthy str") => `(tactic| (k_here; k_dflt (first | (refine' truthy_L ?z ?n ?_; (case n => assumption); (case z => assumption); k_whole; intro k') | (refine' truthy_L0 ?n ?_; (case n => assumption); k_whole; intro k'))))
local macro_rules | `(tactic| walk_at "call ref") => `(tactic| (k_here; (with_reducible show wpAny _ _ (call (Value.ref 43) _) _ _ _); k_dflt (refine' unm_call ?B ?F ?X ?N ?T ?k ?m ?t ?d ?u ?z ?f ?_; (case B => k_asm); (case F => k_asm); (case X => k_asm); (case N => k_asm); (case T => k_asm); (case k => exact rfl); (case m => k_mem); (case t => k_mem); (case d => omega); (case u => omega); (case z => assumption); (case f => assumption); k_whole; intro t' h' k' F' N'; (try k_sweep))))
local macro_rules | `(tactic| walk_at "truthy ref") => `(tactic| (k_here; k_dflt (refine' truthy_N ?N ?m ?_; (case N => k_asm); (case m => k_mem); k_whole)))
local macro_rules | `(tactic| walk_at "getMethod ref") => `(tactic| (k_here; (with_reducible show wpAny _ _ (getMethod (Value.ref _) (Str.ofString "subn") _) _ _ _); k_dflt (refine getm_pat (PatAt.keeps (pat_junk (by assumption)) (Fr.keep (by k_asm))) slot_subn type_subn ?_)))
local macro_rules | `(tactic| walk_at "call builtin:re.Pattern.subn") => `(tactic| (k_here; k_dflt (refine' subn_call1 ?F ?N ?P ?z ?j ?_; (case F => k_asm); (case N => k_asm); (case P => exact pat_junk (by assumption)); (case z => omega); (case j => assumption); k_whole; intro y' t1' t2' h' k' F' N' l1; (try k_lt l1); (try k_sweep))))
local macro_rules | `(tactic| walk_at "call builtin:str.lstrip") => `(tactic| (k_here; k_dflt (refine' lstrip_call ?z ?j ?_; (case z => assumption); (case j => assumption); k_whole; intro t' k')))
local macro_rules | `(tactic| walk_at "call builtin:str.rstrip") => `(tactic| (k_here; k_dflt (refine' rstrip_call ?z ?j ?_; (case z => assumption); (case j => assumption); k_whole; intro t' k')))
local macro_rules | `(tactic| walk_at "call builtin:str.startswith") => `(tactic| (k_here; k_dflt (refine' starts_comma ?j ?_; (case j => assumption); k_whole)))
local macro_rules | `(tactic| walk_at "subscriptTail Call") => `(tactic| (k_here; (with_unfolding_all (refine' sl_from1 ?F ?N ?z ?e ?_ ?s ?t; (case F => k_asm); (case N => k_asm); (case z => assumption); (case e => assumption); (case s => exact rfl); (case t => exact fun _ => rfl); k_whole)); intro h' t' k' F' N'; (try k_sweep)))
local macro_rules | `(tactic| walk_at "getMethod ref") => `(tactic| (k_here; (with_reducible show wpAny _ _ (getMethod (Value.ref _) (Str.ofString "sub") _) _ _ _); k_dflt (refine getm_pat (PatAt.keeps (by first | exact pat_esc (by assumption) | exact pat_je (by assumption)) (Fr.keep (by k_asm))) slot_sub type_sub ?_)))
section
variable {prog : Program} {w : World} {A : Around} {E : Value → Shared → Prop} {s : Shared} {h₀ : Heap} {L : Addr} {news : List (Addr × Obj)} {Q : Value → Shared → Prop}
theorem item_own {value slice : PySem.Expr} {D : Addr} {vs : List Value} {n : Nat} {i : Int} {u : Tok} {v : Value} (N : News h₀ L s.heap news) (hm : (D, listO vs n) ∈ news) (h0 : 0 ≤ i) (hfit : i < 2 ^ 63) (hv : vs[i.toNat]? = some v) (q : Q v s)
    (hs : subscripted slice false (.ref D) (.int i u) = operate [.ref D, .int i u] (getItem (.ref D) (.int i u))) (ht : ∀ r, letTemporaryGo value (.ref D) r = pure ()) :
    wpAny (model prog w) A (subscriptTail value slice (.ref D) (.int i u)) Q E s := by
  have hl : s.heap.IsList D vs.toArray := ⟨_, (N _ hm).1, rfl, n, rfl⟩
  exact item_list hl h0 hfit (by simpa using hv) q hs ht
theorem len_own {D : Addr} {vs : List Value} {n : Nat} (N : News h₀ L s.heap news) (hm : (D, listO vs n) ∈ news) (hz : vs.length ≤ 1000) (q : ∀ t k, Q (.int (vs.length : Int) t) { s with toks := k }) : wpAny (model prog w) A (call (.builtin "len") [.ref D]) Q E s := by
  have hl : s.heap.IsList D vs.toArray := ⟨_, (N _ hm).1, rfl, n, rfl⟩
  have e : (vs.toArray.size : Int) = (vs.length : Int) := by simp
  refine len_list hl ?_ ?_
  · rw [e]; omega
  · rw [e]; exact q _ _
end
noncomputable def lawScope (P : Params) : Scope := (fnOfTop P 97).scope
noncomputable def lawFor1 (P : Params) : Stmt := nthS 3 (stmtsOf (fnOfTop P 97))
theorem last_item (t : List Value) (x : Value) : (t ++ [x])[((((t ++ [x]).length : Nat) : Int) - 1).toNat]? = some x := by simp
end Mine
-- part XCa
namespace Mine
open PySem PySem.W PySem.Calls PyProof.Rows PySem.Builtin PySem.Builtin.Re
theorem quiet_XCa : True := by
  w_top off
  trivial
local macro_rules | `(tactic| k_mem) => `(tactic| first | assumption | exact List.Mem.head _ | (refine' List.Mem.tail _ ?_; k_mem))
local macro_rules | `(tactic| k_all) => `(tactic| first | assumption | exact ne_of_allLt (by assumption) | (refine ne_of_allLt ?_; grind))
local macro_rules | `(tactic| walk_at "call builtin:list.append") => `(tactic| (k_here; k_dflt (refine' apd ?F ?N ?U ?z ?_; (case F => k_asm); (case N => k_asm); (case U => k_upd); (case z => omega); k_whole; intro h' F' N'; (try k_sweep))))
local macro_rules | `(tactic| walk_at "getMethod ref") => `(tactic| (k_here; (with_reducible show wpAny _ _ (getMethod (Value.ref _) (Str.ofString "search") _) _ _ _); k_dflt (refine getm_pat (PatAt.keeps (by first | exact pat_tok (by assumption) | exact pat_quo (by assumption) | exact pat_val (by assumption)) (Fr.keep (by k_asm))) slot_search type_search ?_)))
local macro_rules | `(tactic| walk_at "getMethod ref") => `(tactic| (k_here; (with_reducible show wpAny _ _ (getMethod (Value.ref _) (Str.ofString "group") _) _ _ _); k_dflt (refine getm_match (News.get (by k_asm) (by k_mem)) slot_group type_group ?_)))
local macro_rules | `(tactic| walk_at "call builtin:re.Pattern.search") => `(tactic| (k_here; k_dflt (first
  | (refine' find_call ?P ?z ?f ?F ?N ?_; (case P => first | exact pat_tok (by assumption) | exact pat_quo (by assumption) | exact pat_val (by assumption)); (case f => assumption); (case z => assumption); (case F => k_asm); (case N => k_asm); k_whole; intro T' h' F' N' l1; (try k_lt l1); (try k_sweep))
  | (refine' miss_call ?P ?F ?z ?f ?_; (case P => first | exact pat_tok (by assumption) | exact pat_quo (by assumption) | exact pat_val (by assumption)); (case f => assumption); (case z => assumption); (case F => k_asm); k_whole))))
local macro_rules | `(tactic| walk_at "call builtin:re.Match.group") => `(tactic| (k_here; k_dflt (refine' group_L ?N ?m ?t ?z ?_; (case N => k_asm); (case m => k_mem); (case t => k_mem); (case z => assumption); k_whole; intro t' k')))
local macro_rules | `(tactic| walk_at "truthy str") => `(tactic| (k_here; k_dflt (first | (refine' truthy_L ?z ?n ?_; (case n => assumption); (case z => assumption); k_whole; intro k') | (refine' truthy_L0 ?n ?_; (case n => assumption); k_whole; intro k'))))
local macro_rules | `(tactic| walk_at "call ref") => `(tactic| (k_here; (with_reducible show wpAny _ _ (call (Value.ref 43) _) _ _ _); k_dflt (refine' unm_call ?B ?F ?X ?N ?T ?k ?m ?t ?d ?u ?z ?f ?_; (case B => k_asm); (case F => k_asm); (case X => k_asm); (case N => k_asm); (case T => k_asm); (case k => exact rfl); (case m => k_mem); (case t => k_mem); (case d => omega); (case u => omega); (case z => assumption); (case f => assumption); k_whole; intro t' h' k' F' N'; (try k_sweep))))
local macro_rules | `(tactic| walk_at "truthy ref") => `(tactic| (k_here; k_dflt (refine' truthy_N ?N ?m ?_; (case N => k_asm); (case m => k_mem); k_whole)))
local macro_rules | `(tactic| walk_at "getMethod ref") => `(tactic| (k_here; (with_reducible show wpAny _ _ (getMethod (Value.ref _) (Str.ofString "subn") _) _ _ _); k_dflt (refine getm_pat (PatAt.keeps (pat_junk (by assumption)) (Fr.keep (by k_asm))) slot_subn type_subn ?_)))
local macro_rules | `(tactic| walk_at "call builtin:re.Pattern.subn") => `(tactic| (k_here; k_dflt (refine' subn_call1 ?F ?N ?P ?z ?j ?_; (case F => k_asm); (case N => k_asm); (case P => exact pat_junk (by assumption)); (case z => omega); (case j => assumption); k_whole; intro y' t1' t2' h' k' F' N' l1; (try k_lt l1); (try k_sweep))))
local macro_rules | `(tactic| walk_at "call builtin:str.lstrip") => `(tactic| (k_here; k_dflt (refine' lstrip_call ?z ?j ?_; (case z => assumption); (case j => assumption); k_whole; intro t' k')))
local macro_rules | `(tactic| walk_at "call builtin:str.rstrip") => `(tactic| (k_here; k_dflt (refine' rstrip_call ?z ?j ?_; (case z => assumption); (case j => assumption); k_whole; intro t' k')))
local macro_rules | `(tactic| walk_at "call builtin:str.startswith") => `(tactic| (k_here; k_dflt (refine' starts_comma ?j ?_; (case j => assumption); k_whole)))
local macro_rules | `(tactic| walk_at "subscriptTail Call") => `(tactic| (k_here; (with_unfolding_all (refine' sl_from1 ?F ?N ?z ?e ?_ ?s ?t; (case F => k_asm); (case N => k_asm); (case z => assumption); (case e => assumption); (case s => exact rfl); (case t => exact fun _ => rfl); k_whole)); intro h' t' k' F' N'; (try k_sweep)))
local macro_rules | `(tactic| walk_at "getMethod ref") => `(tactic| (k_here; (with_reducible show wpAny _ _ (getMethod (Value.ref _) (Str.ofString "sub") _) _ _ _); k_dflt (refine getm_pat (PatAt.keeps (by first | exact pat_esc (by assumption) | exact pat_je (by assumption)) (Fr.keep (by k_asm))) slot_sub type_sub ?_)))
local macro_rules | `(tactic| walk_at "subscriptTail Name BinOp ref int") => `(tactic| (k_here; (refine' item_own ?N ?m ?a ?b ?v ?_ ?s ?t; (case N => k_asm); (case v => first | with_reducible assumption | with_reducible exact last_item _ _); (case m => k_mem); (case a => first | with_reducible assumption | (simp only [List.length_append, List.length_cons, List.length_nil]; omega)); (case b => first | omega | (simp only [List.length_append, List.length_cons, List.length_nil]; omega)); (case s => with_unfolding_all exact rfl); (case t => with_unfolding_all exact fun _ => rfl); k_whole)))
local macro_rules | `(tactic| walk_at "call builtin:len") => `(tactic| (k_here; k_dflt (refine' len_own ?N ?m ?z ?_; (case N => k_asm); (case m => k_mem); (case z => first | assumption | (simp only [List.length_append, List.length_cons, List.length_nil]; omega)); k_whole); intro t' k'))
section
variable {prog : Program} {w : World} {p : Program} {loose : List Str} {mean : ExcName → Option Value} {mg mb : Str → Option Value} {dp un : Nat} {gd : Option (List Code)} {fa : Addr} {cd : Value} {outer : List Env} {A₀ : Around} {base h₀ : Heap} {L : Addr} {s : Shared} {u : Str → Option Value}
    {E : Value → Shared → Prop} {K : Shared → Prop} {pos : Pos}
/-- one number -/
theorem law_numbera {An Av Rr La : Addr} {nsV vaV iV lV : List Value} {nn va rn ln : Nat} {n : Int} {tk : Tok} {vn vv : Value} {rest : List (Addr × Obj)}
    (B : Below A₀ base outer h₀) (F : Fr h₀ L s.heap (kstB u [("names", .ref An), ("values", .ref Av), ("rows", .ref Rr)])) (X : (hd.heap_39 w.params).In h₀) (N : News h₀ L s.heap ((Rr, listO (iV ++ [.ref La]) rn) :: (La, listO lV ln) :: rest)) (T : Top p loose mean mg mb h₀)
    (hAn : (An, listO nsV nn) ∈ rest) (hAv : (Av, listO vaV va) ∈ rest) (hR : ∀ q ∈ rest, q.1 ≠ Rr) (hL : ∀ q ∈ rest, q.1 ≠ La) (hLR : @Ne Nat La Rr) (hdp : dp + 20 < recursionLimit) (hun : un + 60 < cLine) (hi : iV.length ≤ 900) (hl : lV.length ≤ 900)
    (h1 : 0 ≤ n.fmod 5) (h2 : n.fmod 5 < 5) (h3 : nsV[(n.fmod 5).toNat]? = some vn) (h4 : 0 ≤ (n.fdiv 5).fmod 10) (h5 : (n.fdiv 5).fmod 10 < 10) (h6 : vaV[((n.fdiv 5).fmod 10).toNat]? = some vv) (hc : ((n.fdiv 8).fmod 7 == 0) = true)
    (ret : ∀ u' y x h' tk', Fr h₀ L h' (kstB u' [("names", .ref An), ("values", .ref Av), ("rows", .ref Rr)]) → News h₀ L h' ((Rr, listO ((iV ++ [.ref La]) ++ [.ref y]) (rn + 1)) :: (y, listO [.ref x] 1) :: (La, listO lV ln) :: (x, spansObj [vn, vv]) :: rest) → (∀ q ∈ rest, q.1 ≠ y) → (∀ q ∈ rest, q.1 ≠ x) → y ≠ Rr → y ≠ La → y ≠ x → x ≠ Rr → x ≠ La → K { s with heap := h', toks := tk' }) :
    wpAny (model prog w) (ktrTop dp un gd "law" (lawScope w.params) L fa cd [] outer) (assign (.Name "number" pos) (envX "law" (lawScope w.params) L fa cd []) (.int n tk)) (fun _ s₂ => wpAny (model prog w) (ktrTop dp un gd "law" (lawScope w.params) L fa cd [] outer) (execs (forBody (lawFor1 w.params)) (envX "law" (lawScope w.params) L fa cd [])) (fun f s' => f = .next ∧ K s') E s₂) E s := by
  have ex1 : forBody (lawFor1 w.params) = forBody (lawFor1 w.params) := rfl
  conv at ex1 => rhs; whnf
  have ex3 : lawScope w.params = lawScope w.params := rfl
  conv at ex3 => rhs; whnf
  rw [ex1, ex3]
  clear ex1 ex3
  k_steps
  all_goals (try k_data)
  refine ret _ ?y ?x _ _ (fr_canon _ (by assumption) ?hp) (news_sub (by assumption) ?hs) ?a ?b ?c ?d ?e ?f ?g
  case hs => exact List.forall_mem_cons.mpr ⟨by k_mem, List.forall_mem_cons.mpr ⟨by k_mem, List.forall_mem_cons.mpr ⟨by k_mem, List.forall_mem_cons.mpr ⟨by k_mem, fun q hq => by k_mem⟩⟩⟩⟩
  case hp => exact List.forall_mem_cons.mpr ⟨by with_unfolding_all rfl, List.forall_mem_cons.mpr ⟨by with_unfolding_all rfl, List.forall_mem_cons.mpr ⟨by with_unfolding_all rfl, List.forall_mem_nil _⟩⟩⟩
  case a => k_all
  case b => k_all
  all_goals k_ne
end
end Mine
-- part XCb
namespace Mine
open PySem PySem.W PySem.Calls PyProof.Rows PySem.Builtin PySem.Builtin.Re
local macro_rules | `(tactic| walk_at "nothing so called") => `(tactic| skip)
theorem quiet_XCb : True := by
  w_top off
  trivial
local macro_rules | `(tactic| k_mem) => `(tactic| first | assumption | exact List.Mem.head _ | (refine' List.Mem.tail _ ?_; k_mem))
local macro_rules | `(tactic| k_all) => `(tactic| first | assumption | exact ne_of_allLt (by assumption) | (refine ne_of_allLt ?_; grind))
local macro_rules | `(tactic| walk_at "call builtin:list.append") => `(tactic| (k_here; k_dflt (refine' apd ?F ?N ?U ?z ?_; (case F => k_asm); (case N => k_asm); (case U => k_upd); (case z => omega); k_whole; intro h' F' N'; (try k_sweep))))
local macro_rules | `(tactic| walk_at "getMethod ref") => `(tactic| (k_here; (with_reducible show wpAny _ _ (getMethod (Value.ref _) (Str.ofString "search") _) _ _ _); k_dflt (refine getm_pat (PatAt.keeps (by first | exact pat_tok (by assumption) | exact pat_quo (by assumption) | exact pat_val (by assumption)) (Fr.keep (by k_asm))) slot_search type_search ?_)))
local macro_rules | `(tactic| walk_at "getMethod ref") => `(tactic| (k_here; (with_reducible show wpAny _ _ (getMethod (Value.ref _) (Str.ofString "group") _) _ _ _); k_dflt (refine getm_match (News.get (by k_asm) (by k_mem)) slot_group type_group ?_)))
local macro_rules | `(tactic| walk_at "call builtin:re.Pattern.search") => `(tactic| (k_here; k_dflt (first
  | (refine' find_call ?P ?z ?f ?F ?N ?_; (case P => first | exact pat_tok (by assumption) | exact pat_quo (by assumption) | exact pat_val (by assumption)); (case f => assumption); (case z => assumption); (case F => k_asm); (case N => k_asm); k_whole; intro T' h' F' N' l1; (try k_lt l1); (try k_sweep))
  | (refine' miss_call ?P ?F ?z ?f ?_; (case P => first | exact pat_tok (by assumption) | exact pat_quo (by assumption) | exact pat_val (by assumption)); (case f => assumption); (case z => assumption); (case F => k_asm); k_whole))))
local macro_rules | `(tactic| walk_at "call builtin:re.Match.group") => `(tactic| (k_here; k_dflt (refine' group_L ?N ?m ?t ?z ?_; (case N => k_asm); (case m => k_mem); (case t => k_mem); (case z => assumption); k_whole; intro t' k')))
local macro_rules | `(tactic| walk_at "truthy str") => `(tactic| (k_here; k_dflt (first | (refine' truthy_L ?z ?n ?_; (case n => assumption); (case z => assumption); k_whole; intro k') | (refine' truthy_L0 ?n ?_; (case n => assumption); k_whole; intro k'))))
local macro_rules | `(tactic| walk_at "call ref") => `(tactic| (k_here; (with_reducible show wpAny _ _ (call (Value.ref 43) _) _ _ _); k_dflt (refine' unm_call ?B ?F ?X ?N ?T ?k ?m ?t ?d ?u ?z ?f ?_; (case B => k_asm); (case F => k_asm); (case X => k_asm); (case N => k_asm); (case T => k_asm); (case k => exact rfl); (case m => k_mem); (case t => k_mem); (case d => omega); (case u => omega); (case z => assumption); (case f => assumption); k_whole; intro t' h' k' F' N'; (try k_sweep))))
local macro_rules | `(tactic| walk_at "truthy ref") => `(tactic| (k_here; k_dflt (refine' truthy_N ?N ?m ?_; (case N => k_asm); (case m => k_mem); k_whole)))
local macro_rules | `(tactic| walk_at "getMethod ref") => `(tactic| (k_here; (with_reducible show wpAny _ _ (getMethod (Value.ref _) (Str.ofString "subn") _) _ _ _); k_dflt (refine getm_pat (PatAt.keeps (pat_junk (by assumption)) (Fr.keep (by k_asm))) slot_subn type_subn ?_)))
local macro_rules | `(tactic| walk_at "call builtin:re.Pattern.subn") => `(tactic| (k_here; k_dflt (refine' subn_call1 ?F ?N ?P ?z ?j ?_; (case F => k_asm); (case N => k_asm); (case P => exact pat_junk (by assumption)); (case z => omega); (case j => assumption); k_whole; intro y' t1' t2' h' k' F' N' l1; (try k_lt l1); (try k_sweep))))
local macro_rules | `(tactic| walk_at "call builtin:str.lstrip") => `(tactic| (k_here; k_dflt (refine' lstrip_call ?z ?j ?_; (case z => assumption); (case j => assumption); k_whole; intro t' k')))
local macro_rules | `(tactic| walk_at "call builtin:str.rstrip") => `(tactic| (k_here; k_dflt (refine' rstrip_call ?z ?j ?_; (case z => assumption); (case j => assumption); k_whole; intro t' k')))
local macro_rules | `(tactic| walk_at "call builtin:str.startswith") => `(tactic| (k_here; k_dflt (refine' starts_comma ?j ?_; (case j => assumption); k_whole)))
local macro_rules | `(tactic| walk_at "subscriptTail Call") => `(tactic| (k_here; (with_unfolding_all (refine' sl_from1 ?F ?N ?z ?e ?_ ?s ?t; (case F => k_asm); (case N => k_asm); (case z => assumption); (case e => assumption); (case s => exact rfl); (case t => exact fun _ => rfl); k_whole)); intro h' t' k' F' N'; (try k_sweep)))
local macro_rules | `(tactic| walk_at "getMethod ref") => `(tactic| (k_here; (with_reducible show wpAny _ _ (getMethod (Value.ref _) (Str.ofString "sub") _) _ _ _); k_dflt (refine getm_pat (PatAt.keeps (by first | exact pat_esc (by assumption) | exact pat_je (by assumption)) (Fr.keep (by k_asm))) slot_sub type_sub ?_)))
local macro_rules | `(tactic| walk_at "subscriptTail Name BinOp ref int") => `(tactic| (k_here; (refine' item_own ?N ?m ?a ?b ?v ?_ ?s ?t; (case N => k_asm); (case v => first | with_reducible assumption | with_reducible exact last_item _ _); (case m => k_mem); (case a => first | with_reducible assumption | (simp only [List.length_append, List.length_cons, List.length_nil]; omega)); (case b => first | omega | (simp only [List.length_append, List.length_cons, List.length_nil]; omega)); (case s => with_unfolding_all exact rfl); (case t => with_unfolding_all exact fun _ => rfl); k_whole)))
local macro_rules | `(tactic| walk_at "call builtin:len") => `(tactic| (k_here; k_dflt (refine' len_own ?N ?m ?z ?_; (case N => k_asm); (case m => k_mem); (case z => first | assumption | (simp only [List.length_append, List.length_cons, List.length_nil]; omega)); k_whole); intro t' k'))
section
variable {prog : Program} {w : World} {p : Program} {loose : List Str} {mean : ExcName → Option Value} {mg mb : Str → Option Value} {dp un : Nat} {gd : Option (List Code)} {fa : Addr} {cd : Value} {outer : List Env} {A₀ : Around} {base h₀ : Heap} {L : Addr} {s : Shared} {u : Str → Option Value}
    {E : Value → Shared → Prop} {K : Shared → Prop} {pos : Pos}
/-- one number -/
theorem law_numberb {An Av Rr La : Addr} {nsV vaV iV lV : List Value} {nn va rn ln : Nat} {n : Int} {tk : Tok} {vn vv : Value} {rest : List (Addr × Obj)}
    (B : Below A₀ base outer h₀) (F : Fr h₀ L s.heap (kstB u [("names", .ref An), ("values", .ref Av), ("rows", .ref Rr)])) (X : (hd.heap_39 w.params).In h₀) (N : News h₀ L s.heap ((Rr, listO (iV ++ [.ref La]) rn) :: (La, listO lV ln) :: rest)) (T : Top p loose mean mg mb h₀)
    (hAn : (An, listO nsV nn) ∈ rest) (hAv : (Av, listO vaV va) ∈ rest) (hR : ∀ q ∈ rest, q.1 ≠ Rr) (hL : ∀ q ∈ rest, q.1 ≠ La) (hLR : @Ne Nat La Rr) (hdp : dp + 20 < recursionLimit) (hun : un + 60 < cLine) (hi : iV.length ≤ 900) (hl : lV.length ≤ 900)
    (h1 : 0 ≤ n.fmod 5) (h2 : n.fmod 5 < 5) (h3 : nsV[(n.fmod 5).toNat]? = some vn) (h4 : 0 ≤ (n.fdiv 5).fmod 10) (h5 : (n.fdiv 5).fmod 10 < 10) (h6 : vaV[((n.fdiv 5).fmod 10).toNat]? = some vv) (hc : ((n.fdiv 8).fmod 7 == 0) = false)
    (ret : ∀ u' x h' tk', Fr h₀ L h' (kstB u' [("names", .ref An), ("values", .ref Av), ("rows", .ref Rr)]) → News h₀ L h' ((Rr, listO (iV ++ [.ref La]) rn) :: (La, listO (lV ++ [.ref x]) (ln + 1)) :: (x, spansObj [vn, vv]) :: rest) → (∀ q ∈ rest, q.1 ≠ x) → x ≠ Rr → x ≠ La → K { s with heap := h', toks := tk' }) :
    wpAny (model prog w) (ktrTop dp un gd "law" (lawScope w.params) L fa cd [] outer) (assign (.Name "number" pos) (envX "law" (lawScope w.params) L fa cd []) (.int n tk)) (fun _ s₂ => wpAny (model prog w) (ktrTop dp un gd "law" (lawScope w.params) L fa cd [] outer) (execs (forBody (lawFor1 w.params)) (envX "law" (lawScope w.params) L fa cd [])) (fun f s' => f = .next ∧ K s') E s₂) E s := by
  have ex1 : forBody (lawFor1 w.params) = forBody (lawFor1 w.params) := rfl
  conv at ex1 => rhs; whnf
  have ex3 : lawScope w.params = lawScope w.params := rfl
  conv at ex3 => rhs; whnf
  rw [ex1, ex3]
  clear ex1 ex3
  k_steps
  all_goals (try k_data)
  refine ret _ ?x _ _ (fr_canon _ (by assumption) ?hp) (news_sub (by assumption) ?hs) ?a ?b ?c
  case hs => exact List.forall_mem_cons.mpr ⟨by k_mem, List.forall_mem_cons.mpr ⟨by k_mem, List.forall_mem_cons.mpr ⟨by k_mem, fun q hq => by k_mem⟩⟩⟩
  case hp => exact List.forall_mem_cons.mpr ⟨by with_unfolding_all rfl, List.forall_mem_cons.mpr ⟨by with_unfolding_all rfl, List.forall_mem_cons.mpr ⟨by with_unfolding_all rfl, List.forall_mem_nil _⟩⟩⟩
  case a => k_all
  all_goals k_ne
end
end Mine
-- part XD
namespace Mine
open PySem PySem.W PySem.Calls PyProof.Rows PySem.Builtin
section
variable {prog : Program} {w : World} {A : Around} {E : Value → Shared → Prop} {s : Shared} {env : Env} {target : PySem.Expr} {body : List Stmt} {Q : Flow → Shared → Prop} {h₀ : Heap} {L : Addr} {m : Str → Option Value} {news : List (Addr × Obj)}
theorem iter_ownH {ax : Addr} {vs : List Value} {R : Value → Shared → Prop} (F : Fr h₀ L s.heap m) (N : News h₀ L s.heap news) (hl : h₀.IsList ax vs.toArray)
    (h : ∀ I o h', Fr h₀ L h' m → News h₀ L h' ((I, o) :: news) → ItO o ax 0 → (∀ p ∈ news, p.1 < I) → R (.ref I) { s with heap := h' }) : wpAny (model prog w) A (pyIter (.ref ax)) R E s :=
  wpAny_pyIter_list (hl.at fun o e => F.keep ax o e) (h s.heap.objs.size _ _ (F.push _) (N.push F _) ⟨rfl, rfl⟩ fun p hp => Heap.lt_size (N p hp).1)
theorem for_itemH {I ax : Addr} {vs : List Value} {i : Nat} {v : Value} {o : Obj} (hE : PassesOwn (model prog w) A env E) (F : Fr h₀ L s.heap m) (N : News h₀ L s.heap ((I, o) :: news)) (ho : ItO o ax i) (hl : h₀.IsList ax vs.toArray)
    (hne : ∀ p ∈ news, p.1 ≠ I) (hv : vs[i]? = some v) (hk : ∃ x pos, target = .Name x pos)
    (h : ∀ h' o', Fr h₀ L h' m → News h₀ L h' ((I, o') :: news) → ItO o' ax (i + 1) →
      wpAny (model prog w) A (assign target env v) (fun _ s₂ => wpAny (model prog w) A (execs body env) (fun f s₃ => f = .next ∧ ForRest prog w A E env target body Q (.ref I) s₃) E s₂) E { s with heap := h' }) :
    ForRest prog w A E env target body Q (.ref I) s := by
  have hI : s.heap.IsListIter I ax i := ⟨o, (N _ (.head _)).1, ho.1, ho.2⟩
  refine for_one hE (wpAny_pyNext_list_item hI (hl.at fun o e => F.keep ax o e) (by simpa using hv) fun h' hI' hs => ?_)
  obtain ⟨o', ho', c1, c2⟩ := id hI'
  have F' : Fr h₀ L h' m := F.change hs (N _ (.head _)).2.1 (N _ (.head _)).2.2
  have N' : News h₀ L h' ((I, o') :: news) := N.setHead hne hs ho'
  have g := h h' o' F' N' ⟨c1, c2⟩
  obtain ⟨x, pos, rfl⟩ := hk
  exact wpAny_pure g
theorem for_endH {I ax : Addr} {vs : List Value} {i : Nat} {o : Obj} (hE : PassesOwn (model prog w) A env E) (hh : A.handled = none) (F : Fr h₀ L s.heap m) (N : News h₀ L s.heap ((I, o) :: news)) (ho : ItO o ax i) (hl : h₀.IsList ax vs.toArray)
    (hne : ∀ p ∈ news, p.1 ≠ I) (hv : vs[i]? = none) (h : ∀ h', Fr h₀ L h' m → News h₀ L h' news → Q .next { s with heap := h' }) : ForRest prog w A E env target body Q (.ref I) s := by
  have hI : s.heap.IsListIter I ax i := ⟨o, (N _ (.head _)).1, ho.1, ho.2⟩
  refine for_one hE (wpAny_pyNext_list_end hh hI (hl.at fun o e => F.keep ax o e) (by simpa using hv) fun h' hx => ?_)
  have hn := N _ (.head _)
  exact h h' ⟨F.ns.extBut hx hn.2.1.symm, fun b o e => hx b o (fun q => by rw [q, hn.2.2] at e; cases e) (F.keep b o e), F.above⟩ fun p hp => ⟨hx _ _ (hne p hp) (N p (.tail _ hp)).1, (N p (.tail _ hp)).2⟩
end
/-- the law's menus -/
def namesL : List (List Nat) := [[97], [80, 97, 116, 104], [120, 45, 121], [36, 118], [116, 101, 120, 116, 47, 104, 116, 109, 108]]
def valuesL : List (Option (List Nat)) := [none, some [], some [98], some [98, 32, 99], some [113, 34], some [97, 92, 98], some [49, 44, 50, 59, 51, 61, 52], some [233], some [116, 9, 116], some [33, 126]]
def pairOf (n : Int) : Pr := (namesL.getD (n.fmod 5).toNat [], valuesL.getD ((n.fdiv 5).fmod 10).toNat none)
def stepRows (st : List (List Pr) × List Pr) (n : Int) : List (List Pr) × List Pr := if ((n.fdiv 8).fmod 7 == 0) = true then (st.1 ++ [st.2], [pairOf n]) else (st.1, st.2 ++ [pairOf n])
theorem Each.get {α : Type} {R : Value → α → Prop} : ∀ {vs : List Value} {as : List α} {k : Nat} {a : α}, Each R vs as → as[k]? = some a → ∃ v, vs[k]? = some v ∧ R v a
  | v :: vs, b :: as, 0, a, ⟨h, _⟩, e => by simp at e; subst e; exact ⟨v, rfl, h⟩
  | v :: vs, b :: as, k + 1, a, ⟨_, h⟩, e => by
    obtain ⟨x, e1, e2⟩ := Each.get h (by simpa using e)
    exact ⟨x, by simpa using e1, e2⟩
  | [], [], _, _, _, e => by simp at e
section
variable {prog : Program} {w : World} {p : Program} {loose : List Str} {mean : ExcName → Option Value} {mg mb : Str → Option Value} {dp un : Nat} {gd : Option (List Code)} {fa : Addr} {cd : Value} {outer : List Env} {A₀ : Around} {base h₀ : Heap} {L : Addr}
    {E : Value → Shared → Prop} {Q : Flow → Shared → Prop} {ax I : Addr} {vs : List Value} {ns : List Int} {pos : Pos} {An Av Rr : Addr} {nsV vaV : List Value} {nn va : Nat} {kp : List (Addr × Obj)}
theorem law_loop1 (B : Below A₀ base outer h₀) (X : (hd.heap_39 w.params).In h₀) (T : Top p loose mean mg mb h₀) (hdp : dp + 20 < recursionLimit) (hun : un + 60 < cLine)
    (hE : PassesOwn (model prog w) (ktrTop dp un gd "law" (lawScope w.params) L fa cd [] outer) (envX "law" (lawScope w.params) L fa cd []) E)
    (hh : (ktrTop dp un gd "law" (lawScope w.params) L fa cd [] outer).handled = none) (hl : h₀.IsList ax vs.toArray) (hi : IntsAre vs ns) (hn : Each TextIs nsV namesL) (hv : Each ValIs vaV valuesL) {all : List (List Pr) × List Pr}
    (hAn : (An, listO nsV nn) ∈ kp) (hAv : (Av, listO vaV va) ∈ kp) :
    ∀ {rem : List Int} {i : Nat} {s : Shared} {u : Str → Option Value} {La : Addr} {rn ln : Nat} {rest : List (Addr × Obj)} {iV lV : List Value} {iR : List (List Pr)} {lR : List Pr} {o : Obj}
      (_ : ns.drop i = rem) (_ : rem.foldl stepRows (iR, lR) = all) (_ : Fr h₀ L s.heap (kstB u [("names", .ref An), ("values", .ref Av), ("rows", .ref Rr)])) (_ : News h₀ L s.heap ((I, o) :: (Rr, listO (iV ++ [.ref La]) rn) :: (La, listO lV ln) :: rest)) (_ : ItO o ax i)
      (_ : ∀ q ∈ rest, q.1 ≠ Rr) (_ : ∀ q ∈ rest, q.1 ≠ La) (_ : @Ne Nat La Rr) (_ : ∀ q ∈ rest, q.1 ≠ I) (_ : @Ne Nat Rr I) (_ : @Ne Nat La I) (_ : Each (RowIn rest) iV iR) (_ : Each (PairIn rest) lV lR) (_ : iV.length + rem.length ≤ 900) (_ : lV.length + rem.length ≤ 900) (_ : ∀ q ∈ kp, q ∈ rest)
      (_ : ∀ u' La rn ln rest' iV lV h' tk, Fr h₀ L h' (kstB u' [("names", .ref An), ("values", .ref Av), ("rows", .ref Rr)]) → News h₀ L h' ((Rr, listO (iV ++ [.ref La]) rn) :: (La, listO lV ln) :: rest') → (∀ q ∈ rest', q.1 ≠ Rr) → (∀ q ∈ rest', q.1 ≠ La) → @Ne Nat La Rr →
        Each (RowIn rest') iV all.1 → Each (PairIn rest') lV all.2 → (∀ q ∈ kp, q ∈ rest') → Q .next { s with heap := h', toks := tk }),
      ForRest prog w (ktrTop dp un gd "law" (lawScope w.params) L fa cd [] outer) E (envX "law" (lawScope w.params) L fa cd []) (.Name "number" pos) (forBody (lawFor1 w.params)) Q (.ref I) s := by
  intro rem
  induction rem with
  | nil =>
    intro i s u La rn ln rest iV lV iR lR o hd hall F N ho r1 r2 r3 r4 r5 r6 ER EP z1 z2 hk ret
    have hv0 : vs[i]? = none := by
      have h := List.drop_eq_nil_iff.mp hd
      have := hi.length
      simp; omega
    cases hall
    refine for_endH hE hh F N ho hl (fun q hq => ?_) hv0 fun h' F' N' => ret u La rn ln rest iV lV h' s.toks F' N' r1 r2 r3 ER EP hk
    rcases List.mem_cons.mp hq with rfl | hq
    · exact r5
    · rcases List.mem_cons.mp hq with rfl | hq
      · exact r6
      · exact r4 q hq
  | cons n rem ih =>
    intro i s u La rn ln rest iV lV iR lR o hd hall F N ho r1 r2 r3 r4 r5 r6 ER EP z1 z2 hk ret
    have hni : ns[i]? = some n := by
      have h : (ns.drop i)[0]? = some n := by rw [hd]; rfl
      rwa [List.getElem?_drop, Nat.add_zero] at h
    have hd' : ns.drop (i + 1) = rem := by rw [← List.drop_drop, hd]; rfl
    obtain ⟨tk, hvi⟩ := hi.get i n hni
    simp only [List.length_cons] at z1 z2
    have m1 : 0 ≤ n.fmod 5 := Int.fmod_nonneg_of_pos _ (by decide)
    have m2 : n.fmod 5 < 5 := Int.fmod_lt_of_pos _ (by decide)
    have m3 : 0 ≤ (n.fdiv 5).fmod 10 := Int.fmod_nonneg_of_pos _ (by decide)
    have m4 : (n.fdiv 5).fmod 10 < 10 := Int.fmod_lt_of_pos _ (by decide)
    have g1 : namesL[(n.fmod 5).toNat]? = some (pairOf n).1 := by
      have : (n.fmod 5).toNat < namesL.length := by show _ < 5; omega
      unfold pairOf; dsimp only; rw [List.getD_eq_getElem?_getD, List.getElem?_eq_getElem this]; rfl
    have g2 : valuesL[((n.fdiv 5).fmod 10).toNat]? = some (pairOf n).2 := by
      have : ((n.fdiv 5).fmod 10).toNat < valuesL.length := by show _ < 10; omega
      unfold pairOf; dsimp only; rw [List.getD_eq_getElem?_getD, List.getElem?_eq_getElem this]; rfl
    obtain ⟨vn, e1, tn, rfl⟩ := hn.get g1
    obtain ⟨vv, e2, hvv⟩ := hv.get g2
    refine for_itemH hE F N ho hl (fun q hq => ?_) hvi ⟨_, _, rfl⟩ fun h' o' F' N' ho' => ?_
    · rcases List.mem_cons.mp hq with rfl | hq
      · exact r5
      · rcases List.mem_cons.mp hq with rfl | hq
        · exact r6
        · exact r4 q hq
    have N2 : News h₀ L h' ((Rr, listO (iV ++ [.ref La]) rn) :: (La, listO lV ln) :: (I, o') :: rest) := news_sub N' fun q hq => by
      simp only [List.mem_cons] at hq ⊢; grind
    have R2 : ∀ q ∈ (I, o') :: rest, q.1 ≠ Rr := fun q hq => by
      rcases List.mem_cons.mp hq with rfl | hq
      · exact r5.symm
      · exact r1 q hq
    have L2 : ∀ q ∈ (I, o') :: rest, q.1 ≠ La := fun q hq => by
      rcases List.mem_cons.mp hq with rfl | hq
      · exact r6.symm
      · exact r2 q hq
    cases hc : ((n.fdiv 8).fmod 7 == 0) with
    | true =>
      have hst : stepRows (iR, lR) n = (iR ++ [lR], [pairOf n]) := if_pos hc
      rw [List.foldl_cons, hst] at hall
      refine law_numbera (K := fun s' => ForRest prog w _ E _ _ _ Q (.ref I) s') (s := { s with heap := h' }) B F' X N2 T (.tail _ (hk _ hAn)) (.tail _ (hk _ hAv)) R2 L2 r3 hdp hun (by omega) (by omega) m1 m2 e1 m3 m4 e2 hc fun u' y x h'' tk' F3 N3 y1 y2 y3 y4 y5 y6 y7 => ?_
      have yI : @Ne Nat y I := fun e => y1 _ (.head _) e.symm
      have xI : @Ne Nat x I := fun e => y2 _ (.head _) e.symm
      refine ih (lV := [.ref x]) (ln := 1) (La := y) (rn := rn + 1) (iV := iV ++ [.ref La]) (rest := (La, listO lV ln) :: (x, spansObj [.str (ofL (pairOf n).1) tn, vv]) :: rest) hd' hall F3 (news_sub N3 ?_) ho' ?_ ?_ y3 ?_ r5 yI (Each.snoc ⟨La, lV, ln, rfl, .head _, Each.mono (fun _ _ => PairIn.mono fun q hq => .tail _ (.tail _ hq)) EP⟩ (Each.mono (fun _ _ => RowIn.mono fun q hq => .tail _ (.tail _ hq)) ER)) ⟨⟨x, tn, vv, rfl, .tail _ (.head _), hvv⟩, trivial⟩ (by simp only [List.length_append, List.length_cons, List.length_nil]; omega) (by simp only [List.length_cons, List.length_nil]; omega) (fun q hq => .tail _ (.tail _ (hk q hq))) ret
      · intro q hq; simp only [List.mem_cons] at hq ⊢; grind
      · intro q hq
        rcases List.mem_cons.mp hq with rfl | hq
        · exact r3
        · rcases List.mem_cons.mp hq with rfl | hq
          · exact y6
          · exact r1 q hq
      · intro q hq
        rcases List.mem_cons.mp hq with rfl | hq
        · exact y4.symm
        · rcases List.mem_cons.mp hq with rfl | hq
          · exact y5.symm
          · exact y1 q (.tail _ hq)
      · intro q hq
        rcases List.mem_cons.mp hq with rfl | hq
        · exact r6
        · rcases List.mem_cons.mp hq with rfl | hq
          · exact xI
          · exact r4 q hq
    | false =>
      have hst : stepRows (iR, lR) n = (iR, lR ++ [pairOf n]) := if_neg (by rw [hc]; decide)
      rw [List.foldl_cons, hst] at hall
      refine law_numberb (K := fun s' => ForRest prog w _ E _ _ _ Q (.ref I) s') (s := { s with heap := h' }) B F' X N2 T (.tail _ (hk _ hAn)) (.tail _ (hk _ hAv)) R2 L2 r3 hdp hun (by omega) (by omega) m1 m2 e1 m3 m4 e2 hc fun u' x h'' tk' F3 N3 y2 y6 y7 => ?_
      have xI : @Ne Nat x I := fun e => y2 _ (.head _) e.symm
      refine ih (rn := rn) (ln := ln + 1) (rest := (x, spansObj [.str (ofL (pairOf n).1) tn, vv]) :: rest) hd' hall F3 (news_sub N3 ?_) ho' ?_ ?_ r3 ?_ r5 r6 (Each.mono (fun _ _ => RowIn.mono fun q hq => .tail _ hq) ER) (Each.snoc ⟨x, tn, vv, rfl, .head _, hvv⟩ (Each.mono (fun _ _ => PairIn.mono fun q hq => .tail _ hq) EP)) (by omega) (by simp only [List.length_append, List.length_cons, List.length_nil]; omega) (fun q hq => .tail _ (hk q hq)) ret
      · intro q hq; simp only [List.mem_cons] at hq ⊢; grind
      · intro q hq
        rcases List.mem_cons.mp hq with rfl | hq
        · exact y6
        · exact r1 q hq
      · intro q hq
        rcases List.mem_cons.mp hq with rfl | hq
        · exact y7
        · exact r2 q hq
      · intro q hq
        rcases List.mem_cons.mp hq with rfl | hq
        · exact xI
        · exact r4 q hq
end
end Mine
-- part XE
namespace Mine
open PySem PySem.W PySem.Calls PyProof.Rows PySem.Builtin PySem.Builtin.Re
theorem quiet_XE : True := by
  w_top off
  trivial
local macro_rules | `(tactic| k_mem) => `(tactic| first | assumption | exact List.Mem.head _ | (refine' List.Mem.tail _ ?_; k_mem))
local macro_rules | `(tactic| k_all) => `(tactic| first | assumption | exact ne_of_allLt (by assumption) | (refine ne_of_allLt ?_; grind))
local macro_rules | `(tactic| walk_at "call builtin:list.append") => `(tactic| (k_here; k_dflt (refine' apd ?F ?N ?U ?z ?_; (case F => k_asm); (case N => k_asm); (case U => k_upd); (case z => omega); k_whole; intro h' F' N'; (try k_sweep))))
local macro_rules | `(tactic| walk_at "getMethod ref") => `(tactic| (k_here; (with_reducible show wpAny _ _ (getMethod (Value.ref _) (Str.ofString "search") _) _ _ _); k_dflt (refine getm_pat (PatAt.keeps (by first | exact pat_tok (by assumption) | exact pat_quo (by assumption) | exact pat_val (by assumption)) (Fr.keep (by k_asm))) slot_search type_search ?_)))
local macro_rules | `(tactic| walk_at "getMethod ref") => `(tactic| (k_here; (with_reducible show wpAny _ _ (getMethod (Value.ref _) (Str.ofString "group") _) _ _ _); k_dflt (refine getm_match (News.get (by k_asm) (by k_mem)) slot_group type_group ?_)))
local macro_rules | `(tactic| walk_at "call builtin:re.Pattern.search") => `(tactic| (k_here; k_dflt (first
  | (refine' find_call ?P ?z ?f ?F ?N ?_; (case P => first | exact pat_tok (by assumption) | exact pat_quo (by assumption) | exact pat_val (by assumption)); (case f => assumption); (case z => assumption); (case F => k_asm); (case N => k_asm); k_whole; intro T' h' F' N' l1; (try k_lt l1); (try k_sweep))
  | (refine' miss_call ?P ?F ?z ?f ?_; (case P => first | exact pat_tok (by assumption) | exact pat_quo (by assumption) | exact pat_val (by assumption)); (case f => assumption); (case z => assumption); (case F => k_asm); k_whole))))
local macro_rules | `(tactic| walk_at "call builtin:re.Match.group") => `(tactic| (k_here; k_dflt (refine' group_L ?N ?m ?t ?z ?_; (case N => k_asm); (case m => k_mem); (case t => k_mem); (case z => assumption); k_whole; intro t' k')))
local macro_rules | `(tactic| walk_at "truthy str") => `(tactic| (k_here; k_dflt (first | (refine' truthy_L ?z ?n ?_; (case n => assumption); (case z => assumption); k_whole; intro k') | (refine' truthy_L0 ?n ?_; (case n => assumption); k_whole; intro k'))))
local macro_rules | `(tactic| walk_at "call ref") => `(tactic| (k_here; (with_reducible show wpAny _ _ (call (Value.ref 43) _) _ _ _); k_dflt (refine' unm_call ?B ?F ?X ?N ?T ?k ?m ?t ?d ?u ?z ?f ?_; (case B => k_asm); (case F => k_asm); (case X => k_asm); (case N => k_asm); (case T => k_asm); (case k => exact rfl); (case m => k_mem); (case t => k_mem); (case d => omega); (case u => omega); (case z => assumption); (case f => assumption); k_whole; intro t' h' k' F' N'; (try k_sweep))))
local macro_rules | `(tactic| walk_at "truthy ref") => `(tactic| (k_here; k_dflt (refine' truthy_N ?N ?m ?_; (case N => k_asm); (case m => k_mem); k_whole)))
local macro_rules | `(tactic| walk_at "getMethod ref") => `(tactic| (k_here; (with_reducible show wpAny _ _ (getMethod (Value.ref _) (Str.ofString "subn") _) _ _ _); k_dflt (refine getm_pat (PatAt.keeps (pat_junk (by assumption)) (Fr.keep (by k_asm))) slot_subn type_subn ?_)))
local macro_rules | `(tactic| walk_at "call builtin:re.Pattern.subn") => `(tactic| (k_here; k_dflt (refine' subn_call1 ?F ?N ?P ?z ?j ?_; (case F => k_asm); (case N => k_asm); (case P => exact pat_junk (by assumption)); (case z => omega); (case j => assumption); k_whole; intro y' t1' t2' h' k' F' N' l1; (try k_lt l1); (try k_sweep))))
local macro_rules | `(tactic| walk_at "call builtin:str.lstrip") => `(tactic| (k_here; k_dflt (refine' lstrip_call ?z ?j ?_; (case z => assumption); (case j => assumption); k_whole; intro t' k')))
local macro_rules | `(tactic| walk_at "call builtin:str.rstrip") => `(tactic| (k_here; k_dflt (refine' rstrip_call ?z ?j ?_; (case z => assumption); (case j => assumption); k_whole; intro t' k')))
local macro_rules | `(tactic| walk_at "call builtin:str.startswith") => `(tactic| (k_here; k_dflt (refine' starts_comma ?j ?_; (case j => assumption); k_whole)))
local macro_rules | `(tactic| walk_at "subscriptTail Call") => `(tactic| (k_here; (with_unfolding_all (refine' sl_from1 ?F ?N ?z ?e ?_ ?s ?t; (case F => k_asm); (case N => k_asm); (case z => assumption); (case e => assumption); (case s => exact rfl); (case t => exact fun _ => rfl); k_whole)); intro h' t' k' F' N'; (try k_sweep)))
local macro_rules | `(tactic| walk_at "getMethod ref") => `(tactic| (k_here; (with_reducible show wpAny _ _ (getMethod (Value.ref _) (Str.ofString "sub") _) _ _ _); k_dflt (refine getm_pat (PatAt.keeps (by first | exact pat_esc (by assumption) | exact pat_je (by assumption)) (Fr.keep (by k_asm))) slot_sub type_sub ?_)))
local macro_rules | `(tactic| walk_at "eval Name") => `(tactic| ((with_reducible show wpAny _ _ (eval (Expr.Name _ _) (compEnvC _ _ _ _)) _ _ _); refine held ?_))
local macro_rules | `(tactic| walk_at "compareOp NotEq ref ref") => `(tactic| (refine held ?_))
section
variable {prog : Program} {w : World} {A : Around} {E : Value → Shared → Prop} {s : Shared} {h₀ : Heap} {L : Addr} {m : Str → Option Value} {Q : Value → Shared → Prop} {scope : Scope} {pos p1 p2 p3 p4 p5 : Pos} {cl : List (Str × Addr)} {env : Env} {iter : PySem.Expr}
    {I D C : Addr} {rest : List (Addr × Obj)} {E'' : Value → Shared → Prop} {R : Bool → Shared → Prop}
theorem due_test {news led : List (Addr × Obj)} {oc : Obj} {m₂ : Str → Option Value} {ra : Addr} {vs : List Value} {n : Nat} {ps : List Pr} (F : Fr h₀ L s.heap m) (N : News h₀ L s.heap news) (hC : (C, oc) ∈ news) (hn : NsO oc (fun y => if y = Str.ofString "row" then some (.ref ra) else m₂ y))
    (hr : (ra, listO vs n) ∈ news) (ep : Each (PairIn led) vs ps) (sa : ∀ q ∈ led, q ∈ news) (hg : ∀ p ∈ ps, GoodP p) (hu : A.units + 10 < cLine)
    (hk : (compEnvC scope cl C env).scope.kind = .function) (hl : (compEnvC scope cl C env).kindOf (Str.ofString "row") = some .local)
    (h : ∀ h' k, Fr h₀ L h' m → News h₀ L h' news → R (!ps.isEmpty) { s with heap := h', toks := k }) :
    wpAny (model prog w) A (isTrue (.Compare (.Name "row" p3) [.NotEq] [.List [] p4] p5) (compEnvC scope cl C env) (eval (.Compare (.Name "row" p3) [.NotEq] [.List [] p4] p5) (compEnvC scope cl C env))) R E'' s := by
  k_steps
  refine comp_name N hC hn (if_pos rfl) ?_ hk hl (by decide)
  k_steps
  rename_i h1 F1 N1
  refine row_nil (na := n) (nb := 0) (ps := ps) (led := led) N1 (.tail _ hr) (.head _) ep (fun q hq => .tail _ (sa q hq)) hg hu ?_
  exact wpAny_truthy_bool (h _ _ F1 (news_tail N1))
end
section
variable {prog : Program} {w : World} {A : Around} {E : Value → Shared → Prop} {h₀ : Heap} {L : Addr} {m : Str → Option Value} {Q : Value → Shared → Prop} {scope : Scope} {pos p1 p2 p3 p4 p5 : Pos} {cl : List (Str × Addr)} {env : Env} {iter elt target : PySem.Expr}
    {I D C ax : Addr} {vs : List Value} {n₀ : Nat} {rest : List (Addr × Obj)} {α β : Type} {Rin : Value → α → Prop} {Rout : List (Addr × Obj) → Value → β → Prop} {f : α → β} {as : List α}
theorem comp_map (hh : A.handled = none) (hmono : ∀ l l' y b, (∀ q ∈ l, q ∈ l') → Rout l y b → Rout l' y b) (hpl : ∀ v a, Rin v a → Plainly target v) (hm : (ax, listO vs n₀) ∈ rest) (hlen : as.length ≤ 1000)
    (turn : ∀ (s : Shared) (T : List (Addr × Obj)) (oc : Obj) (m₂ : Str → Option Value) (v : Value) (a : α) (E'' : Value → Shared → Prop) (K : Value → Shared → Prop), Rin v a → a ∈ as → Fr h₀ L s.heap m → News h₀ L s.heap ((C, oc) :: T) → NsO oc m₂ → (∀ q ∈ T, q.1 ≠ C) → (∀ q ∈ rest, q ∈ T) →
      (∀ y h' tk ex' oc' m₂', Fr h₀ L h' m → News h₀ L h' ((C, oc') :: (ex' ++ T)) → NsO oc' m₂' → (∀ e ∈ ex', e.1 ≠ C ∧ ∀ q ∈ T, q.1 ≠ e.1) → Rout (ex' ++ rest) y (f a) → K y { s with heap := h', toks := tk }) →
      wpAny (model prog w) A (assign target (compEnvC scope cl C env) v) (fun _ s₂ => wpAny (model prog w) A (eval elt (compEnvC scope cl C env)) K E'' s₂) E'' s) :
    ∀ {rem : List α} {i : Nat} {s : Shared} {oc o : Obj} {m₂ : Str → Option Value} {dsV : List Value} {n : Nat} {dn : List β} {ex : List (Addr × Obj)} (_ : Each Rin (vs.drop i) rem) (_ : ∀ a ∈ rem, a ∈ as) (_ : dn ++ rem.map f = as.map f) (_ : Fr h₀ L s.heap m)
      (_ : News h₀ L s.heap ((C, oc) :: (D, listO dsV n) :: (I, o) :: (ex ++ rest))) (_ : NsO oc m₂) (_ : ItO o ax i) (_ : Each (Rout (ex ++ rest)) dsV dn) (_ : ∀ q ∈ ex ++ rest, q.1 ≠ C ∧ q.1 ≠ D ∧ q.1 ≠ I) (_ : @Ne Nat D I) (_ : @Ne Nat C D) (_ : @Ne Nat C I) (_ : ∀ e ∈ ex, ∀ q ∈ rest, q.1 ≠ e.1)
      (_ : ∀ h' tk dsV n ex, Fr h₀ L h' m → News h₀ L h' ((D, listO dsV n) :: (ex ++ rest)) → (∀ q ∈ ex ++ rest, q.1 ≠ C ∧ q.1 ≠ D) → (∀ e ∈ ex, ∀ q ∈ rest, q.1 ≠ e.1) → Each (Rout (ex ++ rest)) dsV (as.map f) → Q (.ref D) { s with heap := h', toks := tk }),
      CompRest prog w A E env elt target iter [] scope pos cl Q D C (.ref I) s := by
  intro rem
  induction rem with
  | nil =>
    intro i s oc o m₂ dsV n dn ex hd _ hdn F N hns ho ET hne hDI hCD hCI hxr ret
    rw [List.map_nil, List.append_nil] at hdn
    subst hdn
    refine comp_one0 fun E'' => next_end hh F N (.tail _ (.tail _ (.head _))) ho (.tail _ (.tail _ (.tail _ (List.mem_append_right _ hm)))) (drop_end hd) fun h' F' N' => ?_
    have N2 : News h₀ L h' ((C, oc) :: (D, listO dsV n) :: (ex ++ rest)) := by
      refine news_less N' fun q hq => ?_
      rcases List.mem_cons.mp hq with rfl | hq
      · exact ⟨.head _, hCI⟩
      · rcases List.mem_cons.mp hq with rfl | hq
        · exact ⟨.tail _ (.head _), hDI⟩
        · exact ⟨.tail _ (.tail _ (.tail _ hq)), (hne q hq).2.2⟩
    refine comp_done (s := { s with heap := h' }) (oc := oc) (m₂ := m₂) F' N2 (.head _) hns fun h'' F'' N'' => ?_
    refine ret h'' s.toks dsV n ex F'' (news_less N'' fun q hq => ⟨.tail _ hq, ?_⟩) (fun q hq => ⟨(hne q hq).1, (hne q hq).2.1⟩) hxr ET
    rcases List.mem_cons.mp hq with rfl | hq
    · exact hCD.symm
    · exact (hne q hq).1
  | cons a rem ih =>
    intro i s oc o m₂ dsV n dn ex hd has hdn F N hns ho ET hne hDI hCD hCI hxr ret
    obtain ⟨v, hv, hd', hva⟩ := drop_step (E := Each Rin) (R := Rin) (fun _ _ h => h) (fun h => h) hd
    refine comp_one0 fun E'' => next_item F N (.tail _ (.tail _ (.head _))) ho (.tail _ (.tail _ (.tail _ (List.mem_append_right _ hm)))) hv fun h' o' F' N' ho' => ?_
    have N2 : News h₀ L h' ((C, oc) :: (D, listO dsV n) :: (I, o') :: (ex ++ rest)) := by
      refine news_sub (news_new (l' := (C, oc) :: (D, listO dsV n) :: (ex ++ rest)) N' fun q hq => ?_) fun q hq => ?_
      · rcases List.mem_cons.mp hq with rfl | hq
        · exact ⟨.head _, hCI⟩
        · rcases List.mem_cons.mp hq with rfl | hq
          · exact ⟨.tail _ (.head _), hDI⟩
          · exact ⟨.tail _ (.tail _ (.tail _ hq)), (hne q hq).2.2⟩
      · simp only [List.mem_cons] at hq ⊢; grind
    have hT : ∀ q ∈ (D, listO dsV n) :: (I, o') :: (ex ++ rest), q.1 ≠ C := fun q hq => by
      rcases List.mem_cons.mp hq with rfl | hq
      · exact hCD.symm
      · rcases List.mem_cons.mp hq with rfl | hq
        · exact hCI.symm
        · exact (hne q hq).1
    refine let_go (s := { s with heap := h' }) ho' (N2 _ (.tail _ (.tail _ (.head _)))).1 (hpl v a hva) ?_
    refine turn { s with heap := h' } _ oc m₂ v a E'' _ hva (has a (.head _)) F' N2 hns hT (fun q hq => .tail _ (.tail _ (List.mem_append_right _ hq))) fun y h2 tk ex' oc' m₂' F2 N3 hns' hex hy => ?_
    have hlen' : dsV.length ≤ 10000 := by
      rw [ET.len]
      have h := congrArg List.length hdn
      rw [List.length_append, List.length_map, List.length_map] at h
      omega
    have xD : ∀ e ∈ ex', e.1 ≠ D := fun e he => fun z => (hex e he).2 _ (.head _) z.symm
    have xI : ∀ e ∈ ex', e.1 ≠ I := fun e he => fun z => (hex e he).2 _ (.tail _ (.head _)) z.symm
    have N4 : News h₀ L h2 ((C, oc') :: (D, listO dsV n) :: (I, o') :: ((ex' ++ ex) ++ rest)) := news_sub N3 fun q hq => by
      simp only [List.mem_cons, List.mem_append] at hq ⊢; grind
    have hne' : ∀ q ∈ (ex' ++ ex) ++ rest, q.1 ≠ C ∧ q.1 ≠ D ∧ q.1 ≠ I := fun q hq => by
      rw [List.append_assoc] at hq
      rcases List.mem_append.mp hq with hq | hq
      · exact ⟨(hex q hq).1, xD q hq, xI q hq⟩
      · exact hne q hq
    refine apd (s := { s with heap := h2, toks := tk }) F2 N4 (.tail hCD (.head fun q hq => ?_)) hlen' fun h3 F3 N5 => ?_
    · rcases List.mem_cons.mp hq with rfl | hq
      · exact hDI.symm
      · exact (hne' q hq).2.1
    · exact ih hd' (fun b hb => has b (.tail _ hb)) (dn := dn ++ [f a]) (by rw [← hdn]; simp) F3 N5 hns' ho' (Each.snoc (hmono _ _ _ _ (fun q hq => by simp only [List.mem_append] at hq ⊢; grind) hy) (Each.mono (fun y b hb => hmono _ _ _ _ (fun q hq => by simp only [List.mem_append] at hq ⊢; grind) hb) ET)) hne' hDI hCD hCI (fun e he q hq => (List.mem_append.mp he).elim (fun z => (hex e z).2 q (.tail _ (.tail _ (List.mem_append_right _ hq)))) fun z => hxr e z q hq) ret
end
end Mine
-- part XF
namespace Mine
open PySem PySem.W PySem.Calls PyProof.Rows PySem.Builtin PySem.Builtin.Re
theorem quiet_XF : True := by
  w_top off
  trivial
local macro_rules | `(tactic| k_mem) => `(tactic| first | assumption | exact List.Mem.head _ | (refine' List.Mem.tail _ ?_; k_mem))
local macro_rules | `(tactic| k_all) => `(tactic| first | assumption | exact ne_of_allLt (by assumption) | (refine ne_of_allLt ?_; grind))
local macro_rules | `(tactic| walk_at "call builtin:list.append") => `(tactic| (k_here; k_dflt (refine' apd ?F ?N ?U ?z ?_; (case F => k_asm); (case N => k_asm); (case U => k_upd); (case z => omega); k_whole; intro h' F' N'; (try k_sweep))))
local macro_rules | `(tactic| walk_at "getMethod ref") => `(tactic| (k_here; (with_reducible show wpAny _ _ (getMethod (Value.ref _) (Str.ofString "search") _) _ _ _); k_dflt (refine getm_pat (PatAt.keeps (by first | exact pat_tok (by assumption) | exact pat_quo (by assumption) | exact pat_val (by assumption)) (Fr.keep (by k_asm))) slot_search type_search ?_)))
local macro_rules | `(tactic| walk_at "getMethod ref") => `(tactic| (k_here; (with_reducible show wpAny _ _ (getMethod (Value.ref _) (Str.ofString "group") _) _ _ _); k_dflt (refine getm_match (News.get (by k_asm) (by k_mem)) slot_group type_group ?_)))
local macro_rules | `(tactic| walk_at "call builtin:re.Pattern.search") => `(tactic| (k_here; k_dflt (first
  | (refine' find_call ?P ?z ?f ?F ?N ?_; (case P => first | exact pat_tok (by assumption) | exact pat_quo (by assumption) | exact pat_val (by assumption)); (case f => assumption); (case z => assumption); (case F => k_asm); (case N => k_asm); k_whole; intro T' h' F' N' l1; (try k_lt l1); (try k_sweep))
  | (refine' miss_call ?P ?F ?z ?f ?_; (case P => first | exact pat_tok (by assumption) | exact pat_quo (by assumption) | exact pat_val (by assumption)); (case f => assumption); (case z => assumption); (case F => k_asm); k_whole))))
local macro_rules | `(tactic| walk_at "call builtin:re.Match.group") => `(tactic| (k_here; k_dflt (refine' group_L ?N ?m ?t ?z ?_; (case N => k_asm); (case m => k_mem); (case t => k_mem); (case z => assumption); k_whole; intro t' k')))
local macro_rules | `(tactic| walk_at "truthy str") => `(tactic| (k_here; k_dflt (first | (refine' truthy_L ?z ?n ?_; (case n => assumption); (case z => assumption); k_whole; intro k') | (refine' truthy_L0 ?n ?_; (case n => assumption); k_whole; intro k'))))
local macro_rules | `(tactic| walk_at "call ref") => `(tactic| (k_here; (with_reducible show wpAny _ _ (call (Value.ref 43) _) _ _ _); k_dflt (refine' unm_call ?B ?F ?X ?N ?T ?k ?m ?t ?d ?u ?z ?f ?_; (case B => k_asm); (case F => k_asm); (case X => k_asm); (case N => k_asm); (case T => k_asm); (case k => exact rfl); (case m => k_mem); (case t => k_mem); (case d => omega); (case u => omega); (case z => assumption); (case f => assumption); k_whole; intro t' h' k' F' N'; (try k_sweep))))
local macro_rules | `(tactic| walk_at "truthy ref") => `(tactic| (k_here; k_dflt (refine' truthy_N ?N ?m ?_; (case N => k_asm); (case m => k_mem); k_whole)))
local macro_rules | `(tactic| walk_at "getMethod ref") => `(tactic| (k_here; (with_reducible show wpAny _ _ (getMethod (Value.ref _) (Str.ofString "subn") _) _ _ _); k_dflt (refine getm_pat (PatAt.keeps (pat_junk (by assumption)) (Fr.keep (by k_asm))) slot_subn type_subn ?_)))
local macro_rules | `(tactic| walk_at "call builtin:re.Pattern.subn") => `(tactic| (k_here; k_dflt (refine' subn_call1 ?F ?N ?P ?z ?j ?_; (case F => k_asm); (case N => k_asm); (case P => exact pat_junk (by assumption)); (case z => omega); (case j => assumption); k_whole; intro y' t1' t2' h' k' F' N' l1; (try k_lt l1); (try k_sweep))))
local macro_rules | `(tactic| walk_at "call builtin:str.lstrip") => `(tactic| (k_here; k_dflt (refine' lstrip_call ?z ?j ?_; (case z => assumption); (case j => assumption); k_whole; intro t' k')))
local macro_rules | `(tactic| walk_at "call builtin:str.rstrip") => `(tactic| (k_here; k_dflt (refine' rstrip_call ?z ?j ?_; (case z => assumption); (case j => assumption); k_whole; intro t' k')))
local macro_rules | `(tactic| walk_at "call builtin:str.startswith") => `(tactic| (k_here; k_dflt (refine' starts_comma ?j ?_; (case j => assumption); k_whole)))
local macro_rules | `(tactic| walk_at "subscriptTail Call") => `(tactic| (k_here; (with_unfolding_all (refine' sl_from1 ?F ?N ?z ?e ?_ ?s ?t; (case F => k_asm); (case N => k_asm); (case z => assumption); (case e => assumption); (case s => exact rfl); (case t => exact fun _ => rfl); k_whole)); intro h' t' k' F' N'; (try k_sweep)))
local macro_rules | `(tactic| walk_at "getMethod ref") => `(tactic| (k_here; (with_reducible show wpAny _ _ (getMethod (Value.ref _) (Str.ofString "sub") _) _ _ _); k_dflt (refine getm_pat (PatAt.keeps (by first | exact pat_esc (by assumption) | exact pat_je (by assumption)) (Fr.keep (by k_asm))) slot_sub type_sub ?_)))
section
variable {prog : Program} {w : World} {A : Around} {E : Value → Shared → Prop} {h₀ : Heap} {L : Addr} {m : Str → Option Value} {Q : Value → Shared → Prop} {scope : Scope} {pos p1 p2 p3 p4 p5 : Pos} {cl : List (Str × Addr)} {env : Env} {iter : PySem.Expr}
    {I D C ax : Addr} {vs : List Value} {n₀ : Nat} {rest : List (Addr × Obj)}
theorem due_comp (hh : A.handled = none) (hu : A.units + 10 < cLine) (hk : (compEnvC scope cl C env).scope.kind = .function) (hl : (compEnvC scope cl C env).kindOf (Str.ofString "row") = some .local) (hm : (ax, listO vs n₀) ∈ rest) {all : List (List Pr)} (hall : all.length ≤ 1000)
    (hne : ∀ q ∈ rest, q.1 ≠ C ∧ q.1 ≠ D ∧ q.1 ≠ I) (hDI : @Ne Nat D I) (hCD : @Ne Nat C D) (hCI : @Ne Nat C I) :
    ∀ {rem : List (List Pr)} {i : Nat} {s : Shared} {oc o : Obj} {m₂ : Str → Option Value} {dsV : List Value} {n : Nat} {dn : List (List Pr)} (_ : Each (RowIn rest) (vs.drop i) rem) (_ : ∀ ps ∈ rem, ∀ p ∈ ps, GoodP p) (_ : dn ++ (rem.filter fun ps => !ps.isEmpty) = all) (_ : Fr h₀ L s.heap m)
      (_ : News h₀ L s.heap ((C, oc) :: (D, listO dsV n) :: (I, o) :: rest)) (_ : NsO oc m₂) (_ : ItO o ax i) (_ : Each (RowIn rest) dsV dn)
      (_ : ∀ h' tk dsV n, Fr h₀ L h' m → News h₀ L h' ((D, listO dsV n) :: rest) → Each (RowIn rest) dsV all → Q (.ref D) { s with heap := h', toks := tk }),
      CompRest prog w A E env (.Name "row" p1) (.Name "row" p2) iter [.Compare (.Name "row" p3) [.NotEq] [.List [] p4] p5] scope pos cl Q D C (.ref I) s := by
  intro rem
  induction rem with
  | nil =>
    intro i s oc o m₂ dsV n dn hd _ hdn F N hns ho ET ret
    rw [List.filter_nil, List.append_nil] at hdn
    subst hdn
    refine comp_one1 fun E'' => next_end hh F N (.tail _ (.tail _ (.head _))) ho (.tail _ (.tail _ (.tail _ hm))) (drop_end hd) fun h' F' N' => ?_
    have N2 : News h₀ L h' ((C, oc) :: (D, listO dsV n) :: rest) := by
      refine news_less N' fun q hq => ?_
      rcases List.mem_cons.mp hq with rfl | hq
      · exact ⟨.head _, hCI⟩
      · rcases List.mem_cons.mp hq with rfl | hq
        · exact ⟨.tail _ (.head _), hDI⟩
        · exact ⟨.tail _ (.tail _ (.tail _ hq)), (hne q hq).2.2⟩
    refine comp_done (s := { s with heap := h' }) (oc := oc) (m₂ := m₂) F' N2 (.head _) hns fun h'' F'' N'' => ?_
    refine ret h'' s.toks dsV n F'' (news_less N'' fun q hq => ⟨.tail _ hq, ?_⟩) ET
    rcases List.mem_cons.mp hq with rfl | hq
    · exact hCD.symm
    · exact (hne q hq).1
  | cons a rem ih =>
    intro i s oc o m₂ dsV n dn hd hg hdn F N hns ho ET ret
    obtain ⟨v, hv, hd', hva⟩ := drop_step (E := Each (RowIn rest)) (R := RowIn rest) (fun _ _ h => h) (fun h => h) hd
    obtain ⟨ra, rvs, rn, rfl, hra, hrp⟩ := id hva
    refine comp_one1 fun E'' => next_item F N (.tail _ (.tail _ (.head _))) ho (.tail _ (.tail _ (.tail _ hm))) hv fun h' o' F' N' ho' => ?_
    refine wpAny_pure (bind_name ?_)
    have N2 : News h₀ L h' ((C, oc) :: (D, listO dsV n) :: (I, o') :: rest) := by
      refine news_sub (news_new (l' := (C, oc) :: (D, listO dsV n) :: rest) N' fun q hq => ?_) fun q hq => ?_
      · rcases List.mem_cons.mp hq with rfl | hq
        · exact ⟨.head _, hCI⟩
        · rcases List.mem_cons.mp hq with rfl | hq
          · exact ⟨.tail _ (.head _), hDI⟩
          · exact ⟨.tail _ (.tail _ (.tail _ hq)), (hne q hq).2.2⟩
      · simp only [List.mem_cons] at hq ⊢; grind
    refine comp_store (s := { s with heap := h' }) F' N2 (.head _) hns (fun h2 oc' tk2 F2 N3 hns' => ?_) hl (by rw [hk]; rfl)
    have N4 : News h₀ L h2 ((C, oc') :: (D, listO dsV n) :: (I, o') :: rest) := by
      refine news_new N3 fun q hq => ⟨.tail _ hq, ?_⟩
      rcases List.mem_cons.mp hq with rfl | hq
      · exact hCD.symm
      · rcases List.mem_cons.mp hq with rfl | hq
        · exact hCI.symm
        · exact (hne q hq).1
    refine due_test (s := { s with heap := h2, toks := tk2 }) (led := rest) F2 N4 (.head _) hns' (.tail _ (.tail _ (.tail _ hra))) hrp (fun q hq => .tail _ (.tail _ (.tail _ hq))) (hg a (.head _)) hu hk hl fun h3 k3 F3 N5 => ?_
    cases hb : a.isEmpty with
    | true =>
      rw [if_neg (by decide)]
      rw [List.filter_cons_of_neg (by simp [hb])] at hdn
      exact ih hd' (fun ps h => hg ps (.tail _ h)) hdn F3 N5 hns' ho' ET ret
    | false =>
      rw [if_pos (by decide)]
      rw [List.filter_cons_of_pos (by simp [hb])] at hdn
      refine comp_name (s := { s with heap := h3, toks := k3 }) N5 (.head _) hns' (if_pos rfl) ?_ hk hl (by decide)
      have hlen : dsV.length ≤ 10000 := by
        rw [ET.len]
        have h := congrArg List.length hdn
        rw [List.length_append] at h
        omega
      refine apd (s := { s with heap := h3, toks := k3 }) F3 N5 (.tail hCD (.head fun q hq => ?_)) hlen fun h4 F4 N6 => ?_
      · rcases List.mem_cons.mp hq with rfl | hq
        · exact hDI.symm
        · exact (hne q hq).2.1
      · exact ih hd' (fun ps h => hg ps (.tail _ h)) (dn := dn ++ [a]) (by rw [← hdn]; simp) F4 N6 hns' ho' (Each.snoc hva ET) ret
end
end Mine
-- part XG
namespace Mine
open PySem PySem.W PySem.Calls PyProof.Rows PySem.Builtin PySem.Builtin.Re
theorem quiet_XG : True := by
  w_top off
  trivial
local macro_rules | `(tactic| k_mem) => `(tactic| first | assumption | exact List.Mem.head _ | (refine' List.Mem.tail _ ?_; k_mem))
local macro_rules | `(tactic| k_all) => `(tactic| first | assumption | exact ne_of_allLt (by assumption) | (refine ne_of_allLt ?_; grind))
local macro_rules | `(tactic| walk_at "call builtin:list.append") => `(tactic| (k_here; k_dflt (refine' apd ?F ?N ?U ?z ?_; (case F => k_asm); (case N => k_asm); (case U => k_upd); (case z => omega); k_whole; intro h' F' N'; (try k_sweep))))
local macro_rules | `(tactic| walk_at "getMethod ref") => `(tactic| (k_here; (with_reducible show wpAny _ _ (getMethod (Value.ref _) (Str.ofString "search") _) _ _ _); k_dflt (refine getm_pat (PatAt.keeps (by first | exact pat_tok (by assumption) | exact pat_quo (by assumption) | exact pat_val (by assumption)) (Fr.keep (by k_asm))) slot_search type_search ?_)))
local macro_rules | `(tactic| walk_at "getMethod ref") => `(tactic| (k_here; (with_reducible show wpAny _ _ (getMethod (Value.ref _) (Str.ofString "group") _) _ _ _); k_dflt (refine getm_match (News.get (by k_asm) (by k_mem)) slot_group type_group ?_)))
local macro_rules | `(tactic| walk_at "call builtin:re.Pattern.search") => `(tactic| (k_here; k_dflt (first
  | (refine' find_call ?P ?z ?f ?F ?N ?_; (case P => first | exact pat_tok (by assumption) | exact pat_quo (by assumption) | exact pat_val (by assumption)); (case f => assumption); (case z => assumption); (case F => k_asm); (case N => k_asm); k_whole; intro T' h' F' N' l1; (try k_lt l1); (try k_sweep))
  | (refine' miss_call ?P ?F ?z ?f ?_; (case P => first | exact pat_tok (by assumption) | exact pat_quo (by assumption) | exact pat_val (by assumption)); (case f => assumption); (case z => assumption); (case F => k_asm); k_whole))))
local macro_rules | `(tactic| walk_at "call builtin:re.Match.group") => `(tactic| (k_here; k_dflt (refine' group_L ?N ?m ?t ?z ?_; (case N => k_asm); (case m => k_mem); (case t => k_mem); (case z => assumption); k_whole; intro t' k')))
local macro_rules | `(tactic| walk_at "truthy str") => `(tactic| (k_here; k_dflt (first | (refine' truthy_L ?z ?n ?_; (case n => assumption); (case z => assumption); k_whole; intro k') | (refine' truthy_L0 ?n ?_; (case n => assumption); k_whole; intro k'))))
local macro_rules | `(tactic| walk_at "call ref") => `(tactic| (k_here; (with_reducible show wpAny _ _ (call (Value.ref 43) _) _ _ _); k_dflt (refine' unm_call ?B ?F ?X ?N ?T ?k ?m ?t ?d ?u ?z ?f ?_; (case B => k_asm); (case F => k_asm); (case X => k_asm); (case N => k_asm); (case T => k_asm); (case k => exact rfl); (case m => k_mem); (case t => k_mem); (case d => omega); (case u => omega); (case z => assumption); (case f => assumption); k_whole; intro t' h' k' F' N'; (try k_sweep))))
local macro_rules | `(tactic| walk_at "truthy ref") => `(tactic| (k_here; k_dflt (refine' truthy_N ?N ?m ?_; (case N => k_asm); (case m => k_mem); k_whole)))
local macro_rules | `(tactic| walk_at "getMethod ref") => `(tactic| (k_here; (with_reducible show wpAny _ _ (getMethod (Value.ref _) (Str.ofString "subn") _) _ _ _); k_dflt (refine getm_pat (PatAt.keeps (pat_junk (by assumption)) (Fr.keep (by k_asm))) slot_subn type_subn ?_)))
local macro_rules | `(tactic| walk_at "call builtin:re.Pattern.subn") => `(tactic| (k_here; k_dflt (refine' subn_call1 ?F ?N ?P ?z ?j ?_; (case F => k_asm); (case N => k_asm); (case P => exact pat_junk (by assumption)); (case z => omega); (case j => assumption); k_whole; intro y' t1' t2' h' k' F' N' l1; (try k_lt l1); (try k_sweep))))
local macro_rules | `(tactic| walk_at "call builtin:str.lstrip") => `(tactic| (k_here; k_dflt (refine' lstrip_call ?z ?j ?_; (case z => assumption); (case j => assumption); k_whole; intro t' k')))
local macro_rules | `(tactic| walk_at "call builtin:str.rstrip") => `(tactic| (k_here; k_dflt (refine' rstrip_call ?z ?j ?_; (case z => assumption); (case j => assumption); k_whole; intro t' k')))
local macro_rules | `(tactic| walk_at "call builtin:str.startswith") => `(tactic| (k_here; k_dflt (refine' starts_comma ?j ?_; (case j => assumption); k_whole)))
local macro_rules | `(tactic| walk_at "subscriptTail Call") => `(tactic| (k_here; (with_unfolding_all (refine' sl_from1 ?F ?N ?z ?e ?_ ?s ?t; (case F => k_asm); (case N => k_asm); (case z => assumption); (case e => assumption); (case s => exact rfl); (case t => exact fun _ => rfl); k_whole)); intro h' t' k' F' N'; (try k_sweep)))
local macro_rules | `(tactic| walk_at "getMethod ref") => `(tactic| (k_here; (with_reducible show wpAny _ _ (getMethod (Value.ref _) (Str.ofString "sub") _) _ _ _); k_dflt (refine getm_pat (PatAt.keeps (by first | exact pat_esc (by assumption) | exact pat_je (by assumption)) (Fr.keep (by k_asm))) slot_sub type_sub ?_)))
local macro_rules | `(tactic| walk_at "eval Name") => `(tactic| ((with_reducible show wpAny _ _ (eval (Expr.Name _ _) (compEnvC _ _ _ _)) _ _ _); refine held ?_))
local macro_rules | `(tactic| walk_at "binaryOp Add str str") => `(tactic| (refine held ?_))
local macro_rules | `(tactic| walk_at "call ref") => `(tactic| (refine held ?_))
def toldOne (p : Pr) : List Nat := match p.2 with
  | none => p.1 ++ []
  | some v => p.1 ++ ([61] ++ lwOf v)
def GoodV (p : Pr) : Prop := p.1.length ≤ 1000 ∧ match p.2 with
  | none => True
  | some v => v.length ≤ 1000 ∧ (lwOf v).length ≤ 3000 ∧ ∀ c ∈ v, PyData.canLay0 (.str (ofL [c])) = true
section
variable {prog : Program} {w : World} {A : Around} {E : Value → Shared → Prop} {s : Shared} {Q : Value → Shared → Prop}
theorem add_none {g : List Nat} {t u : Tok} (h : ∀ t' tk, Q (.str (ofL (g ++ [])) t') { s with toks := tk }) (hsz : g.length ≤ 1000000) : wpAny (model prog w) A (binaryOp .Add (.str (ofL g) t) (.str (Str.ofString "") u)) Q E s := by
  rw [empty_ofL]; exact add_L (a := g) (b := []) h (by simp; omega)
theorem add_eq {g : List Nat} {t u : Tok} (h : ∀ t' tk, Q (.str (ofL ([61] ++ g)) t') { s with toks := tk }) (hsz : g.length ≤ 1000000) : wpAny (model prog w) A (binaryOp .Add (.str (Str.ofString "=") t) (.str (ofL g) u)) Q E s := by
  rw [eq_ofL]; exact add_L (a := [61]) (b := g) h (by simp; omega)
end
section
variable {prog : Program} {w : World} {A : Around} {E : Value → Shared → Prop} {s : Shared} {h₀ : Heap} {L : Addr} {m : Str → Option Value} {Q : Value → Shared → Prop} {scope : Scope} {pos p1 p2 p3 p4 p5 p6 p7 p8 p9 p10 p11 p12 : Pos} {cl : List (Str × Addr)} {env : Env} {iter : PySem.Expr}
    {I D C : Addr} {rest : List (Addr × Obj)} {E'' : Value → Shared → Prop} {Kf : Frag}
theorem told_elt {news : List (Addr × Obj)} {oc : Obj} {m₂ : Str → Option Value} {pr : Pr} {tn : Tok} {v2 : Value} (F : Fr h₀ L s.heap m) (N : News h₀ L s.heap news) (hC : (C, oc) ∈ news) (hn : NsO oc m₂) (e1 : m₂ (Str.ofString "name") = some (.str (ofL pr.1) tn)) (e2 : m₂ (Str.ofString "value") = some v2) (hv : ValIs v2 pr.2) (hg : GoodV pr)
    (hk : (compEnvC scope cl C env).scope.kind = .function) (hl : (compEnvC scope cl C env).kindOf (Str.ofString "name") = some .local) (hl2 : (compEnvC scope cl C env).kindOf (Str.ofString "value") = some .local)
    (hX : ∀ h', Fr h₀ L h' m → Kf.In h') (hkeep : keepIn Kf (.ref 92) = true)
    (hnm : ∀ (s' : Shared) (Q' E' : Value → Shared → Prop), Fr h₀ L s'.heap m → Q' (.ref 92) s' → wpAny (model prog w) A (eval (.Name "_law_written" p6) (compEnvC scope cl C env)) Q' E' s')
    (hcall : ∀ (l : List Nat) (tk : Tok) (s' : Shared) (Q' E' : Value → Shared → Prop), Fr h₀ L s'.heap m → News h₀ L s'.heap news → l.length ≤ 1000 → (∀ c ∈ l, PyData.canLay0 (.str (ofL [c])) = true) → (∀ t1 h' tk', Fr h₀ L h' m → News h₀ L h' news → Q' (.str (ofL (lwOf l)) t1) { s' with heap := h', toks := tk' }) → wpAny (model prog w) A (call (.ref 92) [.str (ofL l) tk]) Q' E' s')
    (h : ∀ t1 h' tk', Fr h₀ L h' m → News h₀ L h' news → Q (.str (ofL (toldOne pr)) t1) { s with heap := h', toks := tk' }) :
    wpAny (model prog w) A (eval (.BinOp (.Name "name" p1) .Add (.IfExp (.Compare (.Name "value" p2) [.IsNot] [.Constant .none 0 p3] p4) (.BinOp (.Constant (.str "=") 0 p5) .Add (.Call (.Name "_law_written" p6) [.Name "value" p7] [] p8) p9) (.Constant (.str "") 0 p10) p11) p12) (compEnvC scope cl C env)) Q E'' s := by
  obtain ⟨nm, val⟩ := pr
  k_steps
  refine comp_name N hC hn e1 ?_ hk hl (by decide)
  k_steps
  refine comp_name N hC hn e2 ?_ hk hl2 (by decide)
  cases val with
  | none =>
    have hv : v2 = .none := hv
    subst hv
    k_steps
    refine add_none (fun t1 k1 => ?_) (by have := hg.1; dsimp only at this ⊢; omega)
    exact h _ _ _ F N
  | some l =>
    obtain ⟨tv, rfl⟩ : ∃ t, v2 = .str (ofL l) t := hv
    obtain ⟨g1, g2, g3, g4⟩ := hg
    dsimp only at g1
    k_steps
    refine hnm _ _ _ F (callWith_K (hX _ F) hkeep ?_ rfl rfl)
    k_steps
    refine comp_name N hC hn e2 ?_ hk hl2 (by decide)
    k_steps
    · exact hX _ F
    · refine hcall l tv _ _ _ F N g2 g4 fun t1 h1 k1 F1 N1 => ?_
      refine add_eq (g := lwOf l) (fun t2 k2 => ?_) (by omega)
      refine add_L (a := nm) (b := [61] ++ lwOf l) (fun t3 k3 => ?_) (by simp only [List.length_append, List.length_cons, List.length_nil]; omega)
      exact h _ _ _ F1 N1
end
end Mine
-- part XH
namespace Mine
open PySem PySem.W PySem.Calls PyProof.Rows PySem.Builtin PySem.Builtin.Re
theorem quiet_XH : True := by
  w_top off
  trivial
local macro_rules | `(tactic| k_mem) => `(tactic| first | assumption | exact List.Mem.head _ | (refine' List.Mem.tail _ ?_; k_mem))
local macro_rules | `(tactic| k_all) => `(tactic| first | assumption | exact ne_of_allLt (by assumption) | (refine ne_of_allLt ?_; grind))
local macro_rules | `(tactic| walk_at "call builtin:list.append") => `(tactic| (k_here; k_dflt (refine' apd ?F ?N ?U ?z ?_; (case F => k_asm); (case N => k_asm); (case U => k_upd); (case z => omega); k_whole; intro h' F' N'; (try k_sweep))))
local macro_rules | `(tactic| walk_at "getMethod ref") => `(tactic| (k_here; (with_reducible show wpAny _ _ (getMethod (Value.ref _) (Str.ofString "search") _) _ _ _); k_dflt (refine getm_pat (PatAt.keeps (by first | exact pat_tok (by assumption) | exact pat_quo (by assumption) | exact pat_val (by assumption)) (Fr.keep (by k_asm))) slot_search type_search ?_)))
local macro_rules | `(tactic| walk_at "getMethod ref") => `(tactic| (k_here; (with_reducible show wpAny _ _ (getMethod (Value.ref _) (Str.ofString "group") _) _ _ _); k_dflt (refine getm_match (News.get (by k_asm) (by k_mem)) slot_group type_group ?_)))
local macro_rules | `(tactic| walk_at "call builtin:re.Pattern.search") => `(tactic| (k_here; k_dflt (first
  | (refine' find_call ?P ?z ?f ?F ?N ?_; (case P => first | exact pat_tok (by assumption) | exact pat_quo (by assumption) | exact pat_val (by assumption)); (case f => assumption); (case z => assumption); (case F => k_asm); (case N => k_asm); k_whole; intro T' h' F' N' l1; (try k_lt l1); (try k_sweep))
  | (refine' miss_call ?P ?F ?z ?f ?_; (case P => first | exact pat_tok (by assumption) | exact pat_quo (by assumption) | exact pat_val (by assumption)); (case f => assumption); (case z => assumption); (case F => k_asm); k_whole))))
local macro_rules | `(tactic| walk_at "call builtin:re.Match.group") => `(tactic| (k_here; k_dflt (refine' group_L ?N ?m ?t ?z ?_; (case N => k_asm); (case m => k_mem); (case t => k_mem); (case z => assumption); k_whole; intro t' k')))
local macro_rules | `(tactic| walk_at "truthy str") => `(tactic| (k_here; k_dflt (first | (refine' truthy_L ?z ?n ?_; (case n => assumption); (case z => assumption); k_whole; intro k') | (refine' truthy_L0 ?n ?_; (case n => assumption); k_whole; intro k'))))
local macro_rules | `(tactic| walk_at "call ref") => `(tactic| (k_here; (with_reducible show wpAny _ _ (call (Value.ref 43) _) _ _ _); k_dflt (refine' unm_call ?B ?F ?X ?N ?T ?k ?m ?t ?d ?u ?z ?f ?_; (case B => k_asm); (case F => k_asm); (case X => k_asm); (case N => k_asm); (case T => k_asm); (case k => exact rfl); (case m => k_mem); (case t => k_mem); (case d => omega); (case u => omega); (case z => assumption); (case f => assumption); k_whole; intro t' h' k' F' N'; (try k_sweep))))
local macro_rules | `(tactic| walk_at "truthy ref") => `(tactic| (k_here; k_dflt (refine' truthy_N ?N ?m ?_; (case N => k_asm); (case m => k_mem); k_whole)))
local macro_rules | `(tactic| walk_at "getMethod ref") => `(tactic| (k_here; (with_reducible show wpAny _ _ (getMethod (Value.ref _) (Str.ofString "subn") _) _ _ _); k_dflt (refine getm_pat (PatAt.keeps (pat_junk (by assumption)) (Fr.keep (by k_asm))) slot_subn type_subn ?_)))
local macro_rules | `(tactic| walk_at "call builtin:re.Pattern.subn") => `(tactic| (k_here; k_dflt (refine' subn_call1 ?F ?N ?P ?z ?j ?_; (case F => k_asm); (case N => k_asm); (case P => exact pat_junk (by assumption)); (case z => omega); (case j => assumption); k_whole; intro y' t1' t2' h' k' F' N' l1; (try k_lt l1); (try k_sweep))))
local macro_rules | `(tactic| walk_at "call builtin:str.lstrip") => `(tactic| (k_here; k_dflt (refine' lstrip_call ?z ?j ?_; (case z => assumption); (case j => assumption); k_whole; intro t' k')))
local macro_rules | `(tactic| walk_at "call builtin:str.rstrip") => `(tactic| (k_here; k_dflt (refine' rstrip_call ?z ?j ?_; (case z => assumption); (case j => assumption); k_whole; intro t' k')))
local macro_rules | `(tactic| walk_at "call builtin:str.startswith") => `(tactic| (k_here; k_dflt (refine' starts_comma ?j ?_; (case j => assumption); k_whole)))
local macro_rules | `(tactic| walk_at "subscriptTail Call") => `(tactic| (k_here; (with_unfolding_all (refine' sl_from1 ?F ?N ?z ?e ?_ ?s ?t; (case F => k_asm); (case N => k_asm); (case z => assumption); (case e => assumption); (case s => exact rfl); (case t => exact fun _ => rfl); k_whole)); intro h' t' k' F' N'; (try k_sweep)))
local macro_rules | `(tactic| walk_at "getMethod ref") => `(tactic| (k_here; (with_reducible show wpAny _ _ (getMethod (Value.ref _) (Str.ofString "sub") _) _ _ _); k_dflt (refine getm_pat (PatAt.keeps (by first | exact pat_esc (by assumption) | exact pat_je (by assumption)) (Fr.keep (by k_asm))) slot_sub type_sub ?_)))
section
variable {prog : Program} {w : World} {A : Around} {E : Value → Shared → Prop} {s : Shared} {h₀ : Heap} {L : Addr} {m : Str → Option Value} {Q : Unit → Shared → Prop} {scope : Scope} {pos q1 q2 : Pos} {cl : List (Str × Addr)} {env : Env}
    {C : Addr} {T : List (Addr × Obj)} {E'' : Value → Shared → Prop} {x : Addr} {v1 v2 : Value} {k : Nat}
theorem pair_names {oc : Obj} {m₂ : Str → Option Value} (hh : A.handled = none) (F : Fr h₀ L s.heap m) (N : News h₀ L s.heap ((C, oc) :: T)) (hn : NsO oc m₂) (hT : ∀ q ∈ T, q.1 ≠ C) (hx : (x, spansObj [v1, v2]) ∈ T)
    (hk : (compEnvC scope cl C env).scope.kind = .function) (hl : (compEnvC scope cl C env).kindOf (Str.ofString "name") = some .local) (hl2 : (compEnvC scope cl C env).kindOf (Str.ofString "value") = some .local)
    (h : ∀ h' oc' tk, Fr h₀ L h' m → News h₀ L h' ((C, oc') :: T) → NsO oc' (fun y => if y = Str.ofString "value" then some v2 else if y = Str.ofString "name" then some v1 else m₂ y) → Q () { s with heap := h', toks := tk }) :
    wpAny (model prog w) A (assign (.Tuple [.Name "name" q1, .Name "value" q2] k pos) (compEnvC scope cl C env) (.ref x)) Q E'' s := by
  refine unpackN_ F N (N.isTup (.tail _ hx)) hh rfl rfl fun h1 F1 N1 => ?_
  show wpAny _ _ (holding [v2] (assign (.Name "name" q1) (compEnvC scope cl C env) v1) >>= fun _ => holding [] (assign (.Name "value" q2) (compEnvC scope cl C env) v2) >>= fun _ => pure ()) _ _ _
  refine wpAny_bind (wpAny_holding (bind_name (comp_store (s := { s with heap := h1 }) F1 N1 (.head _) hn (fun h2 oc2 tk2 F2 N2 hn2 => ?_) hl (by rw [hk]; rfl))))
  have N2' : News h₀ L h2 ((C, oc2) :: T) := news_new N2 fun q hq => ⟨.tail _ hq, hT q hq⟩
  refine wpAny_bind (wpAny_holding (bind_name (comp_store (s := { s with heap := h2, toks := tk2 }) F2 N2' (.head _) hn2 (fun h3 oc3 tk3 F3 N3 hn3 => ?_) hl2 (by rw [hk]; rfl))))
  have N3' : News h₀ L h3 ((C, oc3) :: T) := news_new N3 fun q hq => ⟨.tail _ hq, hT q hq⟩
  exact wpAny_pure (h _ _ _ F3 N3' hn3)
end
end Mine
-- part XI
namespace Mine
open PySem PySem.W PySem.Calls PyProof.Rows PySem.Builtin PySem.Builtin.Re
local macro_rules | `(tactic| walk_at "nothing so called") => `(tactic| skip)
theorem quiet_XI : True := by
  w_top off
  trivial
local macro_rules | `(tactic| k_mem) => `(tactic| first | assumption | exact List.Mem.head _ | (refine' List.Mem.tail _ ?_; k_mem))
local macro_rules | `(tactic| k_all) => `(tactic| first | assumption | exact ne_of_allLt (by assumption) | (refine ne_of_allLt ?_; grind))
local macro_rules | `(tactic| walk_at "call builtin:list.append") => `(tactic| (k_here; k_dflt (refine' apd ?F ?N ?U ?z ?_; (case F => k_asm); (case N => k_asm); (case U => k_upd); (case z => omega); k_whole; intro h' F' N'; (try k_sweep))))
local macro_rules | `(tactic| walk_at "getMethod ref") => `(tactic| (k_here; (with_reducible show wpAny _ _ (getMethod (Value.ref _) (Str.ofString "search") _) _ _ _); k_dflt (refine getm_pat (PatAt.keeps (by first | exact pat_tok (by assumption) | exact pat_quo (by assumption) | exact pat_val (by assumption)) (Fr.keep (by k_asm))) slot_search type_search ?_)))
local macro_rules | `(tactic| walk_at "getMethod ref") => `(tactic| (k_here; (with_reducible show wpAny _ _ (getMethod (Value.ref _) (Str.ofString "group") _) _ _ _); k_dflt (refine getm_match (News.get (by k_asm) (by k_mem)) slot_group type_group ?_)))
local macro_rules | `(tactic| walk_at "call builtin:re.Pattern.search") => `(tactic| (k_here; k_dflt (first
  | (refine' find_call ?P ?z ?f ?F ?N ?_; (case P => first | exact pat_tok (by assumption) | exact pat_quo (by assumption) | exact pat_val (by assumption)); (case f => assumption); (case z => assumption); (case F => k_asm); (case N => k_asm); k_whole; intro T' h' F' N' l1; (try k_lt l1); (try k_sweep))
  | (refine' miss_call ?P ?F ?z ?f ?_; (case P => first | exact pat_tok (by assumption) | exact pat_quo (by assumption) | exact pat_val (by assumption)); (case f => assumption); (case z => assumption); (case F => k_asm); k_whole))))
local macro_rules | `(tactic| walk_at "call builtin:re.Match.group") => `(tactic| (k_here; k_dflt (refine' group_L ?N ?m ?t ?z ?_; (case N => k_asm); (case m => k_mem); (case t => k_mem); (case z => assumption); k_whole; intro t' k')))
local macro_rules | `(tactic| walk_at "truthy str") => `(tactic| (k_here; k_dflt (first | (refine' truthy_L ?z ?n ?_; (case n => assumption); (case z => assumption); k_whole; intro k') | (refine' truthy_L0 ?n ?_; (case n => assumption); k_whole; intro k'))))
local macro_rules | `(tactic| walk_at "call ref") => `(tactic| (k_here; (with_reducible show wpAny _ _ (call (Value.ref 43) _) _ _ _); k_dflt (refine' unm_call ?B ?F ?X ?N ?T ?k ?m ?t ?d ?u ?z ?f ?_; (case B => k_asm); (case F => k_asm); (case X => k_asm); (case N => k_asm); (case T => k_asm); (case k => exact rfl); (case m => k_mem); (case t => k_mem); (case d => omega); (case u => omega); (case z => assumption); (case f => assumption); k_whole; intro t' h' k' F' N'; (try k_sweep))))
local macro_rules | `(tactic| walk_at "truthy ref") => `(tactic| (k_here; k_dflt (refine' truthy_N ?N ?m ?_; (case N => k_asm); (case m => k_mem); k_whole)))
local macro_rules | `(tactic| walk_at "getMethod ref") => `(tactic| (k_here; (with_reducible show wpAny _ _ (getMethod (Value.ref _) (Str.ofString "subn") _) _ _ _); k_dflt (refine getm_pat (PatAt.keeps (pat_junk (by assumption)) (Fr.keep (by k_asm))) slot_subn type_subn ?_)))
local macro_rules | `(tactic| walk_at "call builtin:re.Pattern.subn") => `(tactic| (k_here; k_dflt (refine' subn_call1 ?F ?N ?P ?z ?j ?_; (case F => k_asm); (case N => k_asm); (case P => exact pat_junk (by assumption)); (case z => omega); (case j => assumption); k_whole; intro y' t1' t2' h' k' F' N' l1; (try k_lt l1); (try k_sweep))))
local macro_rules | `(tactic| walk_at "call builtin:str.lstrip") => `(tactic| (k_here; k_dflt (refine' lstrip_call ?z ?j ?_; (case z => assumption); (case j => assumption); k_whole; intro t' k')))
local macro_rules | `(tactic| walk_at "call builtin:str.rstrip") => `(tactic| (k_here; k_dflt (refine' rstrip_call ?z ?j ?_; (case z => assumption); (case j => assumption); k_whole; intro t' k')))
local macro_rules | `(tactic| walk_at "call builtin:str.startswith") => `(tactic| (k_here; k_dflt (refine' starts_comma ?j ?_; (case j => assumption); k_whole)))
local macro_rules | `(tactic| walk_at "subscriptTail Call") => `(tactic| (k_here; (with_unfolding_all (refine' sl_from1 ?F ?N ?z ?e ?_ ?s ?t; (case F => k_asm); (case N => k_asm); (case z => assumption); (case e => assumption); (case s => exact rfl); (case t => exact fun _ => rfl); k_whole)); intro h' t' k' F' N'; (try k_sweep)))
local macro_rules | `(tactic| walk_at "getMethod ref") => `(tactic| (k_here; (with_reducible show wpAny _ _ (getMethod (Value.ref _) (Str.ofString "sub") _) _ _ _); k_dflt (refine getm_pat (PatAt.keeps (by first | exact pat_esc (by assumption) | exact pat_je (by assumption)) (Fr.keep (by k_asm))) slot_sub type_sub ?_)))
def TextsIn (led : List (Addr × Obj)) (v : Value) (ls : List (List Nat)) : Prop := ∃ a vs n, v = .ref a ∧ (a, listO vs n) ∈ led ∧ Each TextIs vs ls
theorem TextsIn.mono {led led' : List (Addr × Obj)} (h : ∀ q ∈ led, q ∈ led') {v : Value} {p : List (List Nat)} : TextsIn led v p → TextsIn led' v p
  | ⟨x, t, v2, a, b, c⟩ => ⟨x, t, v2, a, h _ b, c⟩
section
variable {prog : Program} {w : World} {A : Around} {E : Value → Shared → Prop} {h₀ : Heap} {L : Addr} {m : Str → Option Value} {scope1 scope2 : Scope} {pos p0 p1 p2 p3 p4 p5 p6 p7 p8 p9 p10 p11 p12 q1 q2 q3 r1 : Pos} {cl1 cl2 : List (Str × Addr)} {env : Env} {k : Nat} {Kf : Frag} {C1 : Addr}
abbrev toldElt (p1 p2 p3 p4 p5 p6 p7 p8 p9 p10 p11 p12 : Pos) : PySem.Expr := .BinOp (.Name "name" p1) .Add (.IfExp (.Compare (.Name "value" p2) [.IsNot] [.Constant .none 0 p3] p4) (.BinOp (.Constant (.str "=") 0 p5) .Add (.Call (.Name "_law_written" p6) [.Name "value" p7] [] p8) p9) (.Constant (.str "") 0 p10) p11) p12
theorem told_row {s : Shared} {T : List (Addr × Obj)} {oc1 : Obj} {m₂ : Str → Option Value} {ra : Addr} {ps : List Pr} {Q E'' : Value → Shared → Prop} (hh : A.handled = none) (F : Fr h₀ L s.heap m) (N : News h₀ L s.heap ((C1, oc1) :: T)) (hn : NsO oc1 m₂) (e1 : m₂ (Str.ofString "row") = some (.ref ra)) (hr : RowIn T (.ref ra) ps) (hps : ps.length ≤ 1000) (hg : ∀ p ∈ ps, GoodV p)
    (hk1 : (compEnvC scope1 cl1 C1 env).scope.kind = .function) (hl1 : (compEnvC scope1 cl1 C1 env).kindOf (Str.ofString "row") = some .local)
    (hclos : closureFor scope2 (compEnvC scope1 cl1 C1 env) = pure cl2) (hkind : scope2.kind = .function) (hnames : ∀ x ∈ scope2.names, x.2 = .local → scope2.names.lookup x.1 = some .local) (hcell : ∀ y ∈ scope2.names, y.2 ≠ .cell)
    (hl2 : ∀ C, (compEnvC scope2 cl2 C (compEnvC scope1 cl1 C1 env)).kindOf (Str.ofString "name") = some .local) (hl3 : ∀ C, (compEnvC scope2 cl2 C (compEnvC scope1 cl1 C1 env)).kindOf (Str.ofString "value") = some .local)
    (hX : ∀ h', Fr h₀ L h' m → Kf.In h') (hkeep : keepIn Kf (.ref 92) = true)
    (hnm : ∀ (C : Addr) (s' : Shared) (Q' E' : Value → Shared → Prop), Fr h₀ L s'.heap m → Q' (.ref 92) s' → wpAny (model prog w) A (eval (.Name "_law_written" p6) (compEnvC scope2 cl2 C (compEnvC scope1 cl1 C1 env))) Q' E' s')
    (hcall : ∀ (news : List (Addr × Obj)) (l : List Nat) (tk : Tok) (s' : Shared) (Q' E' : Value → Shared → Prop), Fr h₀ L s'.heap m → News h₀ L s'.heap news → l.length ≤ 1000 → (∀ c ∈ l, PyData.canLay0 (.str (ofL [c])) = true) → (∀ t1 h' tk', Fr h₀ L h' m → News h₀ L h' news → Q' (.str (ofL (lwOf l)) t1) { s' with heap := h', toks := tk' }) → wpAny (model prog w) A (call (.ref 92) [.str (ofL l) tk]) Q' E' s')
    (h : ∀ D dsV n h' tk', Fr h₀ L h' m → News h₀ L h' ((D, listO dsV n) :: (C1, oc1) :: T) → D ≠ C1 → (∀ q ∈ T, q.1 ≠ D) → Each TextIs dsV (ps.map toldOne) → Q (.ref D) { s with heap := h', toks := tk' }) :
    wpAny (model prog w) A (eval (.ListComp (toldElt p1 p2 p3 p4 p5 p6 p7 p8 p9 p10 p11 p12) [⟨.Tuple [.Name "name" q1, .Name "value" q2] k q3, .Name "row" r1, [], 0⟩] scope2 pos) (compEnvC scope1 cl1 C1 env)) Q E'' s := by
  obtain ⟨_, rvs, rn, e, hra, hrp⟩ := hr
  cases e
  refine comp_eval hclos hkind hnames (fun _ => rfl) ?_
  refine comp_name N (.head _) hn e1 ?_ hk1 hl1 (by decide)
  refine iter_own F N (.tail _ hra) fun I o h1 F1 N1 ho l1 => ?_
  refine comp_go (s := { s with heap := h1 }) F1 N1 hcell hkind (fun s' R E' hg hR => iter_again ho (hg _ (.head _)) hR) fun D C2 oc2 h2 tk2 F2 N2 hns hD hC => ?_
  have hI1 : ∀ q ∈ (C1, oc1) :: T, q.1 < I := l1
  have hID : I < D := hD _ (.head _)
  refine comp_map (s := { s with heap := h2, toks := tk2 }) (as := ps) (rem := ps) (i := 0) (dn := []) (ex := []) (rest := (C1, oc1) :: T) (Rin := PairIn T) (Rout := fun _ y b => TextIs y b) (f := toldOne) hh (fun _ _ _ _ _ z => z) ?hpl (.tail _ hra) hps ?turn hrp (fun _ z => z) rfl F2 N2 hns ho trivial ?hne (Nat.ne_of_gt hID) (Nat.ne_of_gt hC) (Nat.ne_of_gt (Nat.lt_trans hID hC)) (fun e he => nomatch he) ?ret
  case hpl => rintro v a ⟨x, t, v2, rfl, _⟩; exact .inr ⟨_, _, _, _, rfl, rfl⟩
  case hne =>
    intro q hq
    have := hI1 q hq
    exact ⟨Nat.ne_of_lt (Nat.lt_trans this (Nat.lt_trans hID hC)), Nat.ne_of_lt (Nat.lt_trans this hID), Nat.ne_of_lt this⟩
  case ret =>
    intro h3 tk3 dsV n ex F3 N3 hd3 _ ET
    refine h D dsV n h3 tk3 F3 (news_sub N3 fun q hq => ?_) (fun e => ?_) (fun q hq e => ?_) ET
    · simp only [List.mem_cons, List.mem_append] at hq ⊢; grind
    · have h9 : @LT.lt Nat _ C1 I := hI1 (C1, oc1) (.head _)
      rw [← e] at h9
      exact Nat.lt_asymm h9 hID
    · exact (hd3 q (List.mem_append_right _ (.tail _ hq))).2 e
  case turn =>
    intro s4 T4 oc4 m4 v a E4 K4 hva ha F4 N4 hn4 hT4 hsub ret4
    obtain ⟨x, tn, v2, rfl, hx, hv2⟩ := hva
    refine pair_names hh F4 N4 hn4 hT4 (hsub _ (.tail _ hx)) hkind (hl2 _) (hl3 _) fun h5 oc5 tk5 F5 N5 hn5 => ?_
    refine told_elt (s := { s4 with heap := h5, toks := tk5 }) (pr := a) (Kf := Kf) F5 N5 (.head _) hn5 (if_neg (by decide +kernel)) (if_pos rfl) hv2 (hg a ha) hkind (hl2 _) (hl3 _) hX hkeep (hnm _) (hcall _) fun t1 h6 tk6 F6 N6 => ?_
    exact ret4 _ h6 tk6 [] oc5 _ F6 N6 hn5 (fun e he => nomatch he) ⟨t1, rfl⟩
end
end Mine
-- part XK
namespace Mine
open PySem PySem.W PySem.Calls PyProof.Rows PySem.Builtin PySem.Builtin.Re
theorem quiet_XK : True := by
  w_top off
  trivial
local macro_rules | `(tactic| k_mem) => `(tactic| first | assumption | exact List.Mem.head _ | (refine' List.Mem.tail _ ?_; k_mem))
local macro_rules | `(tactic| k_all) => `(tactic| first | assumption | exact ne_of_allLt (by assumption) | (refine ne_of_allLt ?_; grind))
local macro_rules | `(tactic| walk_at "call builtin:list.append") => `(tactic| (k_here; k_dflt (refine' apd ?F ?N ?U ?z ?_; (case F => k_asm); (case N => k_asm); (case U => k_upd); (case z => omega); k_whole; intro h' F' N'; (try k_sweep))))
local macro_rules | `(tactic| walk_at "getMethod ref") => `(tactic| (k_here; (with_reducible show wpAny _ _ (getMethod (Value.ref _) (Str.ofString "search") _) _ _ _); k_dflt (refine getm_pat (PatAt.keeps (by first | exact pat_tok (by assumption) | exact pat_quo (by assumption) | exact pat_val (by assumption)) (Fr.keep (by k_asm))) slot_search type_search ?_)))
local macro_rules | `(tactic| walk_at "getMethod ref") => `(tactic| (k_here; (with_reducible show wpAny _ _ (getMethod (Value.ref _) (Str.ofString "group") _) _ _ _); k_dflt (refine getm_match (News.get (by k_asm) (by k_mem)) slot_group type_group ?_)))
local macro_rules | `(tactic| walk_at "call builtin:re.Pattern.search") => `(tactic| (k_here; k_dflt (first
  | (refine' find_call ?P ?z ?f ?F ?N ?_; (case P => first | exact pat_tok (by assumption) | exact pat_quo (by assumption) | exact pat_val (by assumption)); (case f => assumption); (case z => assumption); (case F => k_asm); (case N => k_asm); k_whole; intro T' h' F' N' l1; (try k_lt l1); (try k_sweep))
  | (refine' miss_call ?P ?F ?z ?f ?_; (case P => first | exact pat_tok (by assumption) | exact pat_quo (by assumption) | exact pat_val (by assumption)); (case f => assumption); (case z => assumption); (case F => k_asm); k_whole))))
local macro_rules | `(tactic| walk_at "call builtin:re.Match.group") => `(tactic| (k_here; k_dflt (refine' group_L ?N ?m ?t ?z ?_; (case N => k_asm); (case m => k_mem); (case t => k_mem); (case z => assumption); k_whole; intro t' k')))
local macro_rules | `(tactic| walk_at "truthy str") => `(tactic| (k_here; k_dflt (first | (refine' truthy_L ?z ?n ?_; (case n => assumption); (case z => assumption); k_whole; intro k') | (refine' truthy_L0 ?n ?_; (case n => assumption); k_whole; intro k'))))
local macro_rules | `(tactic| walk_at "call ref") => `(tactic| (k_here; (with_reducible show wpAny _ _ (call (Value.ref 43) _) _ _ _); k_dflt (refine' unm_call ?B ?F ?X ?N ?T ?k ?m ?t ?d ?u ?z ?f ?_; (case B => k_asm); (case F => k_asm); (case X => k_asm); (case N => k_asm); (case T => k_asm); (case k => exact rfl); (case m => k_mem); (case t => k_mem); (case d => omega); (case u => omega); (case z => assumption); (case f => assumption); k_whole; intro t' h' k' F' N'; (try k_sweep))))
local macro_rules | `(tactic| walk_at "truthy ref") => `(tactic| (k_here; k_dflt (refine' truthy_N ?N ?m ?_; (case N => k_asm); (case m => k_mem); k_whole)))
local macro_rules | `(tactic| walk_at "getMethod ref") => `(tactic| (k_here; (with_reducible show wpAny _ _ (getMethod (Value.ref _) (Str.ofString "subn") _) _ _ _); k_dflt (refine getm_pat (PatAt.keeps (pat_junk (by assumption)) (Fr.keep (by k_asm))) slot_subn type_subn ?_)))
local macro_rules | `(tactic| walk_at "call builtin:re.Pattern.subn") => `(tactic| (k_here; k_dflt (refine' subn_call1 ?F ?N ?P ?z ?j ?_; (case F => k_asm); (case N => k_asm); (case P => exact pat_junk (by assumption)); (case z => omega); (case j => assumption); k_whole; intro y' t1' t2' h' k' F' N' l1; (try k_lt l1); (try k_sweep))))
local macro_rules | `(tactic| walk_at "call builtin:str.lstrip") => `(tactic| (k_here; k_dflt (refine' lstrip_call ?z ?j ?_; (case z => assumption); (case j => assumption); k_whole; intro t' k')))
local macro_rules | `(tactic| walk_at "call builtin:str.rstrip") => `(tactic| (k_here; k_dflt (refine' rstrip_call ?z ?j ?_; (case z => assumption); (case j => assumption); k_whole; intro t' k')))
local macro_rules | `(tactic| walk_at "call builtin:str.startswith") => `(tactic| (k_here; k_dflt (refine' starts_comma ?j ?_; (case j => assumption); k_whole)))
local macro_rules | `(tactic| walk_at "subscriptTail Call") => `(tactic| (k_here; (with_unfolding_all (refine' sl_from1 ?F ?N ?z ?e ?_ ?s ?t; (case F => k_asm); (case N => k_asm); (case z => assumption); (case e => assumption); (case s => exact rfl); (case t => exact fun _ => rfl); k_whole)); intro h' t' k' F' N'; (try k_sweep)))
local macro_rules | `(tactic| walk_at "getMethod ref") => `(tactic| (k_here; (with_reducible show wpAny _ _ (getMethod (Value.ref _) (Str.ofString "sub") _) _ _ _); k_dflt (refine getm_pat (PatAt.keeps (by first | exact pat_esc (by assumption) | exact pat_je (by assumption)) (Fr.keep (by k_asm))) slot_sub type_sub ?_)))
local macro_rules | `(tactic| walk_at "eval Name") => `(tactic| ((with_reducible show wpAny _ _ (eval (Expr.Name _ _) (compEnvC _ _ _ _)) _ _ _); refine held ?_))
local macro_rules | `(tactic| walk_at "call builtin:str.join") => `(tactic| (refine held ?_))
section
variable {prog : Program} {w : World} {A : Around} {E : Value → Shared → Prop} {h₀ : Heap} {L : Addr} {m : Str → Option Value} {scope1 : Scope} {pos1 pd r0 p1 p2 p3 p4 : Pos} {cl1 : List (Str × Addr)} {env : Env}
theorem semi_elt {s : Shared} {news : List (Addr × Obj)} {C1 ra : Addr} {oc : Obj} {m₂ : Str → Option Value} {vs : List Value} {n : Nat} {ls : List (List Nat)} {Q E'' : Value → Shared → Prop} (N : News h₀ L s.heap news) (hC : (C1, oc) ∈ news) (hn : NsO oc m₂) (e1 : m₂ (Str.ofString "row") = some (.ref ra)) (hr : (ra, listO vs n) ∈ news) (ET : Each TextIs vs ls) (hz : textsLen [59, 32] ls ≤ 1048576)
    (hk : (compEnvC scope1 cl1 C1 env).scope.kind = .function) (hl : (compEnvC scope1 cl1 C1 env).kindOf (Str.ofString "row") = some .local) {pl : Sem Bool} (he : eval (.Call (.Attribute (.Constant (.str "; ") 0 p1) "join" p2) [.Name "row" p3] [] p4) (compEnvC scope1 cl1 C1 env) = (do
      let ov ← eval (.Constant (.str "; ") 0 p1) (compEnvC scope1 cl1 C1 env)
      standAt p2.atName
      let (f, first) ← holding [ov] (getMethod ov "join" pl)
      callWith p4 f first (backTo p4 (starEach [.Name "row" p3] (compEnvC scope1 cl1 C1 env))) []))
    (h : ∀ t k, Q (.str (ofL (joinL [59, 32] ls)) t) { s with toks := k }) :
    wpAny (model prog w) A (eval (.Call (.Attribute (.Constant (.str "; ") 0 p1) "join" p2) [.Name "row" p3] [] p4) (compEnvC scope1 cl1 C1 env)) Q E'' s := by
  refine MethodCall_ ?_ he
  k_steps
  refine comp_name N hC hn e1 ?_ hk hl (by decide)
  k_steps
  exact join_semi N hr ET hz fun t k => h t k
theorem semi_all {s : Shared} {rest : List (Addr × Obj)} {Da : Addr} {duV : List Value} {dn : Nat} {told : List (List (List Nat))} {nm : Str} {Q : Value → Shared → Prop} (hh : A.handled = none) (F : Fr h₀ L s.heap m) (N : News h₀ L s.heap rest) (hD : (Da, listO duV dn) ∈ rest) (hdu : Each (TextsIn rest) duV told) (hlen : told.length ≤ 1000) (hz : ∀ ls ∈ told, textsLen [59, 32] ls ≤ 1048576)
    (hev : ∀ Q' : Value → Shared → Prop, Q' (.ref Da) s → wpAny (model prog w) A (eval (.Name nm pd) env) Q' E s)
    (hclos1 : closureFor scope1 env = pure cl1) (hkind1 : scope1.kind = .function) (hnames1 : ∀ x ∈ scope1.names, x.2 = .local → scope1.names.lookup x.1 = some .local) (hcell1 : ∀ y ∈ scope1.names, y.2 ≠ .cell)
    (hl1 : ∀ C1, (compEnvC scope1 cl1 C1 env).kindOf (Str.ofString "row") = some .local)
    {pl : Sem Bool} (he : ∀ C1, eval (.Call (.Attribute (.Constant (.str "; ") 0 p1) "join" p2) [.Name "row" p3] [] p4) (compEnvC scope1 cl1 C1 env) = (do
      let ov ← eval (.Constant (.str "; ") 0 p1) (compEnvC scope1 cl1 C1 env)
      standAt p2.atName
      let (f, first) ← holding [ov] (getMethod ov "join" pl)
      callWith p4 f first (backTo p4 (starEach [.Name "row" p3] (compEnvC scope1 cl1 C1 env))) []))
    (h : ∀ D dsV n h' tk', Fr h₀ L h' m → News h₀ L h' ((D, listO dsV n) :: rest) → (∀ q ∈ rest, q.1 ≠ D) → Each TextIs dsV (told.map fun ls => joinL [59, 32] ls) → Q (.ref D) { s with heap := h', toks := tk' }) :
    wpAny (model prog w) A (eval (.ListComp (.Call (.Attribute (.Constant (.str "; ") 0 p1) "join" p2) [.Name "row" p3] [] p4) [⟨.Name "row" r0, .Name nm pd, [], 0⟩] scope1 pos1) env) Q E s := by
  refine comp_eval hclos1 hkind1 hnames1 (fun _ => rfl) (hev _ ?_)
  refine iter_own F N hD fun I o h1 F1 N1 ho l1 => ?_
  refine comp_go (s := { s with heap := h1 }) F1 N1 hcell1 hkind1 (fun s' R E' hg hR => iter_again ho (hg _ (.head _)) hR) fun D C1 oc1 h2 tk2 F2 N2 hns hDl hC => ?_
  have hID : I < D := hDl _ (.head _)
  refine comp_map (s := { s with heap := h2, toks := tk2 }) (as := told) (rem := told) (i := 0) (dn := []) (ex := []) (rest := rest) (Rin := TextsIn rest) (Rout := fun _ y b => TextIs y b) (f := fun ls => joinL [59, 32] ls) hh (fun _ _ _ _ _ z => z) ?hpl hD hlen ?turn hdu (fun _ z => z) rfl F2 N2 hns ho trivial ?hne (Nat.ne_of_gt hID) (Nat.ne_of_gt hC) (Nat.ne_of_gt (Nat.lt_trans hID hC)) (fun e he => nomatch he) ?ret
  case hpl => rintro v a _; exact .inl ⟨_, _, rfl⟩
  case hne =>
    intro q hq
    have := l1 q hq
    exact ⟨Nat.ne_of_lt (Nat.lt_trans this (Nat.lt_trans hID hC)), Nat.ne_of_lt (Nat.lt_trans this hID), Nat.ne_of_lt this⟩
  case ret =>
    intro h3 tk3 dsV n ex F3 N3 hd3 hx3 ET
    refine h D dsV n h3 tk3 F3 (news_sub N3 fun q hq => ?_) (fun q hq => (hd3 q (List.mem_append_right _ hq)).2) ET
    simp only [List.mem_cons, List.mem_append] at hq ⊢; grind
  case turn =>
    intro s4 T4 oc4 m4 v a E4 K4 hva ha F4 N4 hn4 hT4 hsub ret4
    refine bind_name (comp_store F4 N4 (.head _) hn4 (fun h5 oc5 tk5 F5 N5 hn5 => ?_) (hl1 _) (by rw [show (compEnvC scope1 cl1 C1 env).scope.kind = .function from hkind1]; rfl))
    have N5' : News h₀ L h5 ((C1, oc5) :: T4) := news_new N5 fun q hq => ⟨.tail _ hq, hT4 q hq⟩
    obtain ⟨ra, rvs, rn, rfl, hra, hrp⟩ := hva
    refine semi_elt (s := { s4 with heap := h5, toks := tk5 }) N5' (.head _) hn5 (if_pos rfl) (.tail _ (hsub _ hra)) hrp (hz a ha) hkind1 (hl1 _) (he _) fun t k => ?_
    exact ret4 _ h5 k [] oc5 _ F5 N5' hn5 (fun e he => nomatch he) ⟨t, rfl⟩
end
end Mine
-- part XL0
namespace Mine
open PySem PySem.W PySem.Calls PyProof.Rows PySem.Builtin PySem.Builtin.Re
theorem quiet_XL0 : True := by
  w_top off
  trivial
local macro_rules | `(tactic| k_mem) => `(tactic| first | assumption | exact List.Mem.head _ | (refine' List.Mem.tail _ ?_; k_mem))
local macro_rules | `(tactic| k_all) => `(tactic| first | assumption | exact ne_of_allLt (by assumption) | (refine ne_of_allLt ?_; grind))
local macro_rules | `(tactic| walk_at "call builtin:list.append") => `(tactic| (k_here; k_dflt (refine' apd ?F ?N ?U ?z ?_; (case F => k_asm); (case N => k_asm); (case U => k_upd); (case z => omega); k_whole; intro h' F' N'; (try k_sweep))))
local macro_rules | `(tactic| walk_at "getMethod ref") => `(tactic| (k_here; (with_reducible show wpAny _ _ (getMethod (Value.ref _) (Str.ofString "search") _) _ _ _); k_dflt (refine getm_pat (PatAt.keeps (by first | exact pat_tok (by assumption) | exact pat_quo (by assumption) | exact pat_val (by assumption)) (Fr.keep (by k_asm))) slot_search type_search ?_)))
local macro_rules | `(tactic| walk_at "getMethod ref") => `(tactic| (k_here; (with_reducible show wpAny _ _ (getMethod (Value.ref _) (Str.ofString "group") _) _ _ _); k_dflt (refine getm_match (News.get (by k_asm) (by k_mem)) slot_group type_group ?_)))
local macro_rules | `(tactic| walk_at "call builtin:re.Pattern.search") => `(tactic| (k_here; k_dflt (first
  | (refine' find_call ?P ?z ?f ?F ?N ?_; (case P => first | exact pat_tok (by assumption) | exact pat_quo (by assumption) | exact pat_val (by assumption)); (case f => assumption); (case z => assumption); (case F => k_asm); (case N => k_asm); k_whole; intro T' h' F' N' l1; (try k_lt l1); (try k_sweep))
  | (refine' miss_call ?P ?F ?z ?f ?_; (case P => first | exact pat_tok (by assumption) | exact pat_quo (by assumption) | exact pat_val (by assumption)); (case f => assumption); (case z => assumption); (case F => k_asm); k_whole))))
local macro_rules | `(tactic| walk_at "call builtin:re.Match.group") => `(tactic| (k_here; k_dflt (refine' group_L ?N ?m ?t ?z ?_; (case N => k_asm); (case m => k_mem); (case t => k_mem); (case z => assumption); k_whole; intro t' k')))
local macro_rules | `(tactic| walk_at "truthy str") => `(tactic| (k_here; k_dflt (first | (refine' truthy_L ?z ?n ?_; (case n => assumption); (case z => assumption); k_whole; intro k') | (refine' truthy_L0 ?n ?_; (case n => assumption); k_whole; intro k'))))
local macro_rules | `(tactic| walk_at "call ref") => `(tactic| (k_here; (with_reducible show wpAny _ _ (call (Value.ref 43) _) _ _ _); k_dflt (refine' unm_call ?B ?F ?X ?N ?T ?k ?m ?t ?d ?u ?z ?f ?_; (case B => k_asm); (case F => k_asm); (case X => k_asm); (case N => k_asm); (case T => k_asm); (case k => exact rfl); (case m => k_mem); (case t => k_mem); (case d => omega); (case u => omega); (case z => assumption); (case f => assumption); k_whole; intro t' h' k' F' N'; (try k_sweep))))
local macro_rules | `(tactic| walk_at "truthy ref") => `(tactic| (k_here; k_dflt (refine' truthy_N ?N ?m ?_; (case N => k_asm); (case m => k_mem); k_whole)))
local macro_rules | `(tactic| walk_at "getMethod ref") => `(tactic| (k_here; (with_reducible show wpAny _ _ (getMethod (Value.ref _) (Str.ofString "subn") _) _ _ _); k_dflt (refine getm_pat (PatAt.keeps (pat_junk (by assumption)) (Fr.keep (by k_asm))) slot_subn type_subn ?_)))
local macro_rules | `(tactic| walk_at "call builtin:re.Pattern.subn") => `(tactic| (k_here; k_dflt (refine' subn_call1 ?F ?N ?P ?z ?j ?_; (case F => k_asm); (case N => k_asm); (case P => exact pat_junk (by assumption)); (case z => omega); (case j => assumption); k_whole; intro y' t1' t2' h' k' F' N' l1; (try k_lt l1); (try k_sweep))))
local macro_rules | `(tactic| walk_at "call builtin:str.lstrip") => `(tactic| (k_here; k_dflt (refine' lstrip_call ?z ?j ?_; (case z => assumption); (case j => assumption); k_whole; intro t' k')))
local macro_rules | `(tactic| walk_at "call builtin:str.rstrip") => `(tactic| (k_here; k_dflt (refine' rstrip_call ?z ?j ?_; (case z => assumption); (case j => assumption); k_whole; intro t' k')))
local macro_rules | `(tactic| walk_at "call builtin:str.startswith") => `(tactic| (k_here; k_dflt (refine' starts_comma ?j ?_; (case j => assumption); k_whole)))
local macro_rules | `(tactic| walk_at "subscriptTail Call") => `(tactic| (k_here; (with_unfolding_all (refine' sl_from1 ?F ?N ?z ?e ?_ ?s ?t; (case F => k_asm); (case N => k_asm); (case z => assumption); (case e => assumption); (case s => exact rfl); (case t => exact fun _ => rfl); k_whole)); intro h' t' k' F' N'; (try k_sweep)))
local macro_rules | `(tactic| walk_at "getMethod ref") => `(tactic| (k_here; (with_reducible show wpAny _ _ (getMethod (Value.ref _) (Str.ofString "sub") _) _ _ _); k_dflt (refine getm_pat (PatAt.keeps (by first | exact pat_esc (by assumption) | exact pat_je (by assumption)) (Fr.keep (by k_asm))) slot_sub type_sub ?_)))
def sel3 (a b c : List Nat) (n : Nat) : List Nat := if n % 3 = 0 then a else if n % 3 = 1 then b else c
theorem sel3_len {a b c : List Nat} {n k : Nat} (ha : a.length ≤ k) (hb : b.length ≤ k) (hc : c.length ≤ k) : (sel3 a b c n).length ≤ k := by
  unfold sel3
  split
  · assumption
  · split <;> assumption
section
variable {prog : Program} {w : World} {A : Around} {E : Value → Shared → Prop} {s : Shared} {h₀ : Heap} {L : Addr} {news : List (Addr × Obj)} {Q : Value → Shared → Prop}
theorem item3 {value slice : PySem.Expr} {D : Addr} {a b c : Str} {a' b' c' : List Nat} {t1 t2 t3 : Tok} {n m : Nat} {u : Tok} (N : News h₀ L s.heap news) (hm : (D, listO [.str a t1, .str b t2, .str c t3] n) ∈ news) (ea : a = ofL a') (eb : b = ofL b') (ec : c = ofL c') (q : ∀ t, Q (.str (ofL (sel3 a' b' c' m)) t) s)
    (hs : subscripted slice false (.ref D) (.int ((m : Int).fmod 3) u) = operate [.ref D, .int ((m : Int).fmod 3) u] (getItem (.ref D) (.int ((m : Int).fmod 3) u))) (ht : ∀ r, letTemporaryGo value (.ref D) r = pure ()) :
    wpAny (model prog w) A (subscriptTail value slice (.ref D) (.int ((m : Int).fmod 3) u)) Q E s := by
  subst ea eb ec
  have e : ((m : Int).fmod 3) = ((m % 3 : Nat) : Int) := by
    rw [Int.fmod_eq_emod_of_nonneg _ (by decide)]; rfl
  have hlt : m % 3 < 3 := Nat.mod_lt _ (by decide)
  have hit : ∃ t, ([.str (ofL a') t1, .str (ofL b') t2, .str (ofL c') t3] : List Value)[((m : Int).fmod 3).toNat]? = some (.str (ofL (sel3 a' b' c' m)) t) := by
    rw [e, Int.toNat_natCast]
    unfold sel3
    rcases (by omega : m % 3 = 0 ∨ m % 3 = 1 ∨ m % 3 = 2) with h | h | h <;> rw [h]
    · exact ⟨t1, rfl⟩
    · exact ⟨t2, rfl⟩
    · exact ⟨t3, rfl⟩
  obtain ⟨t, hit⟩ := hit
  exact item_own N hm (by omega) (by omega) hit (q t) hs ht
theorem len_text {l : List Nat} {t : Tok} (hz : l.length ≤ 1000000) (q : ∀ t k, Q (.int (l.length : Int) t) { s with toks := k }) : wpAny (model prog w) A (call (.builtin "len") [.str (ofL l) t]) Q E s := by
  refine len_str ?_ ?_
  · rw [len_ofL]; omega
  · rw [len_ofL]; exact q _ _
end
noncomputable def lawFor2 (P : Params) : Stmt := nthS 9 (stmtsOf (fnOfTop P 97))
noncomputable def lawFor3 (P : Params) : Stmt := nthS 1 (forBody (lawFor2 P))
def looseOne (line : List Nat) (p : Pr) : List Nat := match p.2 with
  | none => line ++ p.1 ++ [] ++ sel3 [32, 59, 32] [59] [59, 59, 32] line.length
  | some v => line ++ p.1 ++ (sel3 [32, 61, 32] [61] [61, 32] line.length ++ lwOf v) ++ sel3 [32, 59, 32] [59] [59, 59, 32] line.length
theorem ofs_a1 : Str.ofString " = " = ofL [32, 61, 32] := by decide +kernel
theorem ofs_a3 : Str.ofString "= " = ofL [61, 32] := by decide +kernel
theorem ofs_b1 : Str.ofString " ; " = ofL [32, 59, 32] := by decide +kernel
theorem ofs_b2 : Str.ofString ";" = ofL [59] := by decide +kernel
theorem ofs_b3 : Str.ofString ";; " = ofL [59, 59, 32] := by decide +kernel
theorem ofs_c1 : Str.ofString " " = ofL [32] := by decide +kernel
theorem ofs_c3 : Str.ofString "\t " = ofL [9, 32] := by decide +kernel
end Mine
-- part XLa
namespace Mine
open PySem PySem.W PySem.Calls PyProof.Rows PySem.Builtin PySem.Builtin.Re
theorem quiet_XLa : True := by
  w_top off
  trivial
local macro_rules | `(tactic| k_mem) => `(tactic| first | assumption | exact List.Mem.head _ | (refine' List.Mem.tail _ ?_; k_mem))
local macro_rules | `(tactic| k_all) => `(tactic| first | assumption | exact ne_of_allLt (by assumption) | (refine ne_of_allLt ?_; grind))
local macro_rules | `(tactic| walk_at "call builtin:list.append") => `(tactic| (k_here; k_dflt (refine' apd ?F ?N ?U ?z ?_; (case F => k_asm); (case N => k_asm); (case U => k_upd); (case z => omega); k_whole; intro h' F' N'; (try k_sweep))))
local macro_rules | `(tactic| walk_at "getMethod ref") => `(tactic| (k_here; (with_reducible show wpAny _ _ (getMethod (Value.ref _) (Str.ofString "search") _) _ _ _); k_dflt (refine getm_pat (PatAt.keeps (by first | exact pat_tok (by assumption) | exact pat_quo (by assumption) | exact pat_val (by assumption)) (Fr.keep (by k_asm))) slot_search type_search ?_)))
local macro_rules | `(tactic| walk_at "getMethod ref") => `(tactic| (k_here; (with_reducible show wpAny _ _ (getMethod (Value.ref _) (Str.ofString "group") _) _ _ _); k_dflt (refine getm_match (News.get (by k_asm) (by k_mem)) slot_group type_group ?_)))
local macro_rules | `(tactic| walk_at "call builtin:re.Pattern.search") => `(tactic| (k_here; k_dflt (first
  | (refine' find_call ?P ?z ?f ?F ?N ?_; (case P => first | exact pat_tok (by assumption) | exact pat_quo (by assumption) | exact pat_val (by assumption)); (case f => assumption); (case z => assumption); (case F => k_asm); (case N => k_asm); k_whole; intro T' h' F' N' l1; (try k_lt l1); (try k_sweep))
  | (refine' miss_call ?P ?F ?z ?f ?_; (case P => first | exact pat_tok (by assumption) | exact pat_quo (by assumption) | exact pat_val (by assumption)); (case f => assumption); (case z => assumption); (case F => k_asm); k_whole))))
local macro_rules | `(tactic| walk_at "call builtin:re.Match.group") => `(tactic| (k_here; k_dflt (refine' group_L ?N ?m ?t ?z ?_; (case N => k_asm); (case m => k_mem); (case t => k_mem); (case z => assumption); k_whole; intro t' k')))
local macro_rules | `(tactic| walk_at "truthy str") => `(tactic| (k_here; k_dflt (first | (refine' truthy_L ?z ?n ?_; (case n => assumption); (case z => assumption); k_whole; intro k') | (refine' truthy_L0 ?n ?_; (case n => assumption); k_whole; intro k'))))
local macro_rules | `(tactic| walk_at "call ref") => `(tactic| (k_here; (with_reducible show wpAny _ _ (call (Value.ref 43) _) _ _ _); k_dflt (refine' unm_call ?B ?F ?X ?N ?T ?k ?m ?t ?d ?u ?z ?f ?_; (case B => k_asm); (case F => k_asm); (case X => k_asm); (case N => k_asm); (case T => k_asm); (case k => exact rfl); (case m => k_mem); (case t => k_mem); (case d => omega); (case u => omega); (case z => assumption); (case f => assumption); k_whole; intro t' h' k' F' N'; (try k_sweep))))
local macro_rules | `(tactic| walk_at "truthy ref") => `(tactic| (k_here; k_dflt (refine' truthy_N ?N ?m ?_; (case N => k_asm); (case m => k_mem); k_whole)))
local macro_rules | `(tactic| walk_at "getMethod ref") => `(tactic| (k_here; (with_reducible show wpAny _ _ (getMethod (Value.ref _) (Str.ofString "subn") _) _ _ _); k_dflt (refine getm_pat (PatAt.keeps (pat_junk (by assumption)) (Fr.keep (by k_asm))) slot_subn type_subn ?_)))
local macro_rules | `(tactic| walk_at "call builtin:re.Pattern.subn") => `(tactic| (k_here; k_dflt (refine' subn_call1 ?F ?N ?P ?z ?j ?_; (case F => k_asm); (case N => k_asm); (case P => exact pat_junk (by assumption)); (case z => omega); (case j => assumption); k_whole; intro y' t1' t2' h' k' F' N' l1; (try k_lt l1); (try k_sweep))))
local macro_rules | `(tactic| walk_at "call builtin:str.lstrip") => `(tactic| (k_here; k_dflt (refine' lstrip_call ?z ?j ?_; (case z => assumption); (case j => assumption); k_whole; intro t' k')))
local macro_rules | `(tactic| walk_at "call builtin:str.rstrip") => `(tactic| (k_here; k_dflt (refine' rstrip_call ?z ?j ?_; (case z => assumption); (case j => assumption); k_whole; intro t' k')))
local macro_rules | `(tactic| walk_at "call builtin:str.startswith") => `(tactic| (k_here; k_dflt (refine' starts_comma ?j ?_; (case j => assumption); k_whole)))
local macro_rules | `(tactic| walk_at "subscriptTail Call") => `(tactic| (k_here; (with_unfolding_all (refine' sl_from1 ?F ?N ?z ?e ?_ ?s ?t; (case F => k_asm); (case N => k_asm); (case z => assumption); (case e => assumption); (case s => exact rfl); (case t => exact fun _ => rfl); k_whole)); intro h' t' k' F' N'; (try k_sweep)))
local macro_rules | `(tactic| walk_at "getMethod ref") => `(tactic| (k_here; (with_reducible show wpAny _ _ (getMethod (Value.ref _) (Str.ofString "sub") _) _ _ _); k_dflt (refine getm_pat (PatAt.keeps (by first | exact pat_esc (by assumption) | exact pat_je (by assumption)) (Fr.keep (by k_asm))) slot_sub type_sub ?_)))
local macro_rules | `(tactic| k_mem) => `(tactic| first | assumption | exact List.Mem.head _ | (refine' List.Mem.tail _ ?_; k_mem))
local macro_rules | `(tactic| walk_at "subscriptTail Name BinOp ref int") => `(tactic| (k_here; (refine' item3 ?N ?m ?a ?b ?c ?_ ?s ?t; (case N => k_asm); (case m => k_dflt k_mem); (case a => first | with_reducible exact ofs_a1 | with_reducible exact ofs_b1 | with_reducible exact ofs_c1); (case b => first | with_reducible exact eq_ofL | with_reducible exact ofs_b2 | with_reducible exact empty_ofL); (case c => first | with_reducible exact ofs_a3 | with_reducible exact ofs_b3 | with_reducible exact ofs_c3); (case s => with_unfolding_all exact rfl); (case t => with_unfolding_all exact fun _ => rfl); k_whole); intro t'))
local macro_rules | `(tactic| walk_at "call builtin:len") => `(tactic| (k_here; k_dflt (refine' len_text ?z ?_; (case z => first | omega | (simp only [List.length_append, List.length_cons, List.length_nil]; omega)); k_whole); intro t' k'))
local macro_rules | `(tactic| walk_at "call ref") => `(tactic| (k_here; (with_reducible show wpAny _ _ (call (Value.ref 92) _) _ _ _); k_dflt (refine' lw_call ?B ?F ?X ?N ?T ?k ?d ?u ?l ?g ?_; (case B => k_asm); (case F => k_asm); (case X => k_asm); (case N => k_asm); (case T => k_asm); (case k => exact rfl); (case d => omega); (case u => omega); (case l => assumption); (case g => assumption); k_whole); intro t' h' k' F' N'; (try k_sweep)))
local macro_rules | `(tactic| walk_at "binaryOp Add str str") => `(tactic| (k_here; first
  | ((with_reducible show wpAny _ _ (binaryOp _ (Value.str (ofL _) _) (Value.str (Str.ofString "") _)) _ _ _); (with_reducible refine' add_none ?_ ?z); (case z => first | omega | (simp only [List.length_append, List.length_cons, List.length_nil]; omega)); intro t' k')
  | ((with_reducible show wpAny _ _ (binaryOp _ (Value.str (ofL _) _) (Value.str (ofL _) _)) _ _ _); (with_reducible refine' add_L ?_ ?z); (case z => first | omega | (simp only [List.length_append, List.length_cons, List.length_nil]; omega)); intro t' k')))
section
variable {prog : Program} {w : World} {p : Program} {loose : List Str} {mean : ExcName → Option Value} {mg mb : Str → Option Value} {dp un : Nat} {gd : Option (List Code)} {fa : Addr} {cd : Value} {outer : List Env} {A₀ : Around} {base h₀ : Heap} {L : Addr} {s : Shared} {u : Str → Option Value}
    {E : Value → Shared → Prop} {K : Shared → Prop} {pos q1 q2 : Pos} {k : Nat}
/-- one pair of a loose line -/
theorem loose_paira {Lo Du To x : Addr} {line nm v : List Nat} {tl tn tv : Tok} {news : List (Addr × Obj)}
    (B : Below A₀ base outer h₀) (F : Fr h₀ L s.heap (kstB u [("line", .str (ofL line) tl), ("loose", .ref Lo), ("due", .ref Du), ("told", .ref To)])) (X : (hd.heap_39 w.params).In h₀) (N : News h₀ L s.heap news) (T : Top p loose mean mg mb h₀) (hx : (x, spansObj [.str (ofL nm) tn, .none]) ∈ news) (hdp : dp + 30 < recursionLimit) (hun : un + 80 < cLine) (hl : line.length ≤ 500000) (hn : nm.length ≤ 1000)
    (ret : ∀ u' t1 h' tk', Fr h₀ L h' (kstB u' [("line", .str (ofL (looseOne line (nm, none))) t1), ("loose", .ref Lo), ("due", .ref Du), ("told", .ref To)]) → News h₀ L h' news → K { s with heap := h', toks := tk' }) :
    wpAny (model prog w) (ktrTop dp un gd "law" (lawScope w.params) L fa cd [] outer) (assign (.Tuple [.Name "name" q1, .Name "value" q2] k pos) (envX "law" (lawScope w.params) L fa cd []) (.ref x)) (fun _ s₂ => wpAny (model prog w) (ktrTop dp un gd "law" (lawScope w.params) L fa cd [] outer) (execs (forBody (lawFor3 w.params)) (envX "law" (lawScope w.params) L fa cd [])) (fun f s' => f = .next ∧ K s') E s₂) E s := by
  have ex1 : forBody (lawFor3 w.params) = forBody (lawFor3 w.params) := rfl
  conv at ex1 => rhs; whnf
  have ex3 : lawScope w.params = lawScope w.params := rfl
  conv at ex3 => rhs; whnf
  rw [ex1, ex3]
  clear ex1 ex3
  have s1 : ∀ n, (sel3 [32, 61, 32] [61] [61, 32] n).length ≤ 3 := fun n => sel3_len (by decide) (by decide) (by decide)
  have s2 : (sel3 [32, 61, 32] [61] [61, 32] line.length).length ≤ 3 := s1 _
  have s3 : (sel3 [32, 59, 32] [59] [59, 59, 32] line.length).length ≤ 3 := sel3_len (by decide) (by decide) (by decide)
  k_steps
  all_goals (try k_data)
  exact ret _ _ _ _ (fr_canon _ (by assumption) (List.forall_mem_cons.mpr ⟨by with_unfolding_all rfl, List.forall_mem_cons.mpr ⟨by with_unfolding_all rfl, List.forall_mem_cons.mpr ⟨by with_unfolding_all rfl, List.forall_mem_cons.mpr ⟨by with_unfolding_all rfl, List.forall_mem_nil _⟩⟩⟩⟩)) (news_sub (by assumption) fun q hq => by k_mem)
end
end Mine
-- part XLb
namespace Mine
open PySem PySem.W PySem.Calls PyProof.Rows PySem.Builtin PySem.Builtin.Re
local macro_rules | `(tactic| walk_at "nothing so called") => `(tactic| skip)
theorem quiet_XLb : True := by
  w_top off
  trivial
local macro_rules | `(tactic| k_mem) => `(tactic| first | assumption | exact List.Mem.head _ | (refine' List.Mem.tail _ ?_; k_mem))
local macro_rules | `(tactic| k_all) => `(tactic| first | assumption | exact ne_of_allLt (by assumption) | (refine ne_of_allLt ?_; grind))
local macro_rules | `(tactic| walk_at "call builtin:list.append") => `(tactic| (k_here; k_dflt (refine' apd ?F ?N ?U ?z ?_; (case F => k_asm); (case N => k_asm); (case U => k_upd); (case z => omega); k_whole; intro h' F' N'; (try k_sweep))))
local macro_rules | `(tactic| walk_at "getMethod ref") => `(tactic| (k_here; (with_reducible show wpAny _ _ (getMethod (Value.ref _) (Str.ofString "search") _) _ _ _); k_dflt (refine getm_pat (PatAt.keeps (by first | exact pat_tok (by assumption) | exact pat_quo (by assumption) | exact pat_val (by assumption)) (Fr.keep (by k_asm))) slot_search type_search ?_)))
local macro_rules | `(tactic| walk_at "getMethod ref") => `(tactic| (k_here; (with_reducible show wpAny _ _ (getMethod (Value.ref _) (Str.ofString "group") _) _ _ _); k_dflt (refine getm_match (News.get (by k_asm) (by k_mem)) slot_group type_group ?_)))
local macro_rules | `(tactic| walk_at "call builtin:re.Pattern.search") => `(tactic| (k_here; k_dflt (first
  | (refine' find_call ?P ?z ?f ?F ?N ?_; (case P => first | exact pat_tok (by assumption) | exact pat_quo (by assumption) | exact pat_val (by assumption)); (case f => assumption); (case z => assumption); (case F => k_asm); (case N => k_asm); k_whole; intro T' h' F' N' l1; (try k_lt l1); (try k_sweep))
  | (refine' miss_call ?P ?F ?z ?f ?_; (case P => first | exact pat_tok (by assumption) | exact pat_quo (by assumption) | exact pat_val (by assumption)); (case f => assumption); (case z => assumption); (case F => k_asm); k_whole))))
local macro_rules | `(tactic| walk_at "call builtin:re.Match.group") => `(tactic| (k_here; k_dflt (refine' group_L ?N ?m ?t ?z ?_; (case N => k_asm); (case m => k_mem); (case t => k_mem); (case z => assumption); k_whole; intro t' k')))
local macro_rules | `(tactic| walk_at "truthy str") => `(tactic| (k_here; k_dflt (first | (refine' truthy_L ?z ?n ?_; (case n => assumption); (case z => assumption); k_whole; intro k') | (refine' truthy_L0 ?n ?_; (case n => assumption); k_whole; intro k'))))
local macro_rules | `(tactic| walk_at "call ref") => `(tactic| (k_here; (with_reducible show wpAny _ _ (call (Value.ref 43) _) _ _ _); k_dflt (refine' unm_call ?B ?F ?X ?N ?T ?k ?m ?t ?d ?u ?z ?f ?_; (case B => k_asm); (case F => k_asm); (case X => k_asm); (case N => k_asm); (case T => k_asm); (case k => exact rfl); (case m => k_mem); (case t => k_mem); (case d => omega); (case u => omega); (case z => assumption); (case f => assumption); k_whole; intro t' h' k' F' N'; (try k_sweep))))
local macro_rules | `(tactic| walk_at "truthy ref") => `(tactic| (k_here; k_dflt (refine' truthy_N ?N ?m ?_; (case N => k_asm); (case m => k_mem); k_whole)))
local macro_rules | `(tactic| walk_at "getMethod ref") => `(tactic| (k_here; (with_reducible show wpAny _ _ (getMethod (Value.ref _) (Str.ofString "subn") _) _ _ _); k_dflt (refine getm_pat (PatAt.keeps (pat_junk (by assumption)) (Fr.keep (by k_asm))) slot_subn type_subn ?_)))
local macro_rules | `(tactic| walk_at "call builtin:re.Pattern.subn") => `(tactic| (k_here; k_dflt (refine' subn_call1 ?F ?N ?P ?z ?j ?_; (case F => k_asm); (case N => k_asm); (case P => exact pat_junk (by assumption)); (case z => omega); (case j => assumption); k_whole; intro y' t1' t2' h' k' F' N' l1; (try k_lt l1); (try k_sweep))))
local macro_rules | `(tactic| walk_at "call builtin:str.lstrip") => `(tactic| (k_here; k_dflt (refine' lstrip_call ?z ?j ?_; (case z => assumption); (case j => assumption); k_whole; intro t' k')))
local macro_rules | `(tactic| walk_at "call builtin:str.rstrip") => `(tactic| (k_here; k_dflt (refine' rstrip_call ?z ?j ?_; (case z => assumption); (case j => assumption); k_whole; intro t' k')))
local macro_rules | `(tactic| walk_at "call builtin:str.startswith") => `(tactic| (k_here; k_dflt (refine' starts_comma ?j ?_; (case j => assumption); k_whole)))
local macro_rules | `(tactic| walk_at "subscriptTail Call") => `(tactic| (k_here; (with_unfolding_all (refine' sl_from1 ?F ?N ?z ?e ?_ ?s ?t; (case F => k_asm); (case N => k_asm); (case z => assumption); (case e => assumption); (case s => exact rfl); (case t => exact fun _ => rfl); k_whole)); intro h' t' k' F' N'; (try k_sweep)))
local macro_rules | `(tactic| walk_at "getMethod ref") => `(tactic| (k_here; (with_reducible show wpAny _ _ (getMethod (Value.ref _) (Str.ofString "sub") _) _ _ _); k_dflt (refine getm_pat (PatAt.keeps (by first | exact pat_esc (by assumption) | exact pat_je (by assumption)) (Fr.keep (by k_asm))) slot_sub type_sub ?_)))
local macro_rules | `(tactic| k_mem) => `(tactic| first | assumption | exact List.Mem.head _ | (refine' List.Mem.tail _ ?_; k_mem))
local macro_rules | `(tactic| walk_at "subscriptTail Name BinOp ref int") => `(tactic| (k_here; (refine' item3 ?N ?m ?a ?b ?c ?_ ?s ?t; (case N => k_asm); (case m => k_dflt k_mem); (case a => first | with_reducible exact ofs_a1 | with_reducible exact ofs_b1 | with_reducible exact ofs_c1); (case b => first | with_reducible exact eq_ofL | with_reducible exact ofs_b2 | with_reducible exact empty_ofL); (case c => first | with_reducible exact ofs_a3 | with_reducible exact ofs_b3 | with_reducible exact ofs_c3); (case s => with_unfolding_all exact rfl); (case t => with_unfolding_all exact fun _ => rfl); k_whole); intro t'))
local macro_rules | `(tactic| walk_at "call builtin:len") => `(tactic| (k_here; k_dflt (refine' len_text ?z ?_; (case z => first | omega | (simp only [List.length_append, List.length_cons, List.length_nil]; omega)); k_whole); intro t' k'))
local macro_rules | `(tactic| walk_at "call ref") => `(tactic| (k_here; (with_reducible show wpAny _ _ (call (Value.ref 92) _) _ _ _); k_dflt (refine' lw_call ?B ?F ?X ?N ?T ?k ?d ?u ?l ?g ?_; (case B => k_asm); (case F => k_asm); (case X => k_asm); (case N => k_asm); (case T => k_asm); (case k => exact rfl); (case d => omega); (case u => omega); (case l => assumption); (case g => assumption); k_whole); intro t' h' k' F' N'; (try k_sweep)))
local macro_rules | `(tactic| walk_at "binaryOp Add str str") => `(tactic| (k_here; first
  | ((with_reducible show wpAny _ _ (binaryOp _ (Value.str (ofL _) _) (Value.str (Str.ofString "") _)) _ _ _); (with_reducible refine' add_none ?_ ?z); (case z => first | omega | (simp only [List.length_append, List.length_cons, List.length_nil]; omega)); intro t' k')
  | ((with_reducible show wpAny _ _ (binaryOp _ (Value.str (ofL _) _) (Value.str (ofL _) _)) _ _ _); (with_reducible refine' add_L ?_ ?z); (case z => first | omega | (simp only [List.length_append, List.length_cons, List.length_nil]; omega)); intro t' k')))
section
variable {prog : Program} {w : World} {p : Program} {loose : List Str} {mean : ExcName → Option Value} {mg mb : Str → Option Value} {dp un : Nat} {gd : Option (List Code)} {fa : Addr} {cd : Value} {outer : List Env} {A₀ : Around} {base h₀ : Heap} {L : Addr} {s : Shared} {u : Str → Option Value}
    {E : Value → Shared → Prop} {K : Shared → Prop} {pos q1 q2 : Pos} {k : Nat}
/-- one pair of a loose line -/
theorem loose_pairb {Lo Du To x : Addr} {line nm v : List Nat} {tl tn tv : Tok} {news : List (Addr × Obj)}
    (B : Below A₀ base outer h₀) (F : Fr h₀ L s.heap (kstB u [("line", .str (ofL line) tl), ("loose", .ref Lo), ("due", .ref Du), ("told", .ref To)])) (X : (hd.heap_39 w.params).In h₀) (N : News h₀ L s.heap news) (T : Top p loose mean mg mb h₀) (hx : (x, spansObj [.str (ofL nm) tn, .str (ofL v) tv]) ∈ news) (hdp : dp + 30 < recursionLimit) (hun : un + 80 < cLine) (hl : line.length ≤ 500000) (hn : nm.length ≤ 1000) (hv : v.length ≤ 1000) (hw : (lwOf v).length ≤ 3000) (hgood : ∀ c ∈ v, PyData.canLay0 (.str (ofL [c])) = true)
    (ret : ∀ u' t1 h' tk', Fr h₀ L h' (kstB u' [("line", .str (ofL (looseOne line (nm, some v))) t1), ("loose", .ref Lo), ("due", .ref Du), ("told", .ref To)]) → News h₀ L h' news → K { s with heap := h', toks := tk' }) :
    wpAny (model prog w) (ktrTop dp un gd "law" (lawScope w.params) L fa cd [] outer) (assign (.Tuple [.Name "name" q1, .Name "value" q2] k pos) (envX "law" (lawScope w.params) L fa cd []) (.ref x)) (fun _ s₂ => wpAny (model prog w) (ktrTop dp un gd "law" (lawScope w.params) L fa cd [] outer) (execs (forBody (lawFor3 w.params)) (envX "law" (lawScope w.params) L fa cd [])) (fun f s' => f = .next ∧ K s') E s₂) E s := by
  have ex1 : forBody (lawFor3 w.params) = forBody (lawFor3 w.params) := rfl
  conv at ex1 => rhs; whnf
  have ex3 : lawScope w.params = lawScope w.params := rfl
  conv at ex3 => rhs; whnf
  rw [ex1, ex3]
  clear ex1 ex3
  have s1 : ∀ n, (sel3 [32, 61, 32] [61] [61, 32] n).length ≤ 3 := fun n => sel3_len (by decide) (by decide) (by decide)
  have s2 : (sel3 [32, 61, 32] [61] [61, 32] line.length).length ≤ 3 := s1 _
  have s3 : (sel3 [32, 59, 32] [59] [59, 59, 32] line.length).length ≤ 3 := sel3_len (by decide) (by decide) (by decide)
  k_steps
  all_goals (try k_data)
  exact ret _ _ _ _ (fr_canon _ (by assumption) (List.forall_mem_cons.mpr ⟨by with_unfolding_all rfl, List.forall_mem_cons.mpr ⟨by with_unfolding_all rfl, List.forall_mem_cons.mpr ⟨by with_unfolding_all rfl, List.forall_mem_cons.mpr ⟨by with_unfolding_all rfl, List.forall_mem_nil _⟩⟩⟩⟩)) (news_sub (by assumption) fun q hq => by k_mem)
end
end Mine
-- part XM
namespace Mine
open PySem PySem.W PySem.Calls PyProof.Rows PySem.Builtin
theorem looseOne_len {line : List Nat} {p : Pr} (hg : GoodV p) : (looseOne line p).length ≤ line.length + 5000 := by
  obtain ⟨nm, val⟩ := p
  have s3 : (sel3 [32, 59, 32] [59] [59, 59, 32] line.length).length ≤ 3 := sel3_len (by decide) (by decide) (by decide)
  have s2 : (sel3 [32, 61, 32] [61] [61, 32] line.length).length ≤ 3 := sel3_len (by decide) (by decide) (by decide)
  cases val with
  | none => have h1 := hg.1; simp only [looseOne, List.length_append, List.length_nil] at *; omega
  | some v => obtain ⟨h1, h2, h3, h4⟩ := hg; simp only [looseOne, List.length_append] at *; omega
section
variable {prog : Program} {w : World} {p : Program} {loose : List Str} {mean : ExcName → Option Value} {mg mb : Str → Option Value} {dp un : Nat} {gd : Option (List Code)} {fa : Addr} {cd : Value} {outer : List Env} {A₀ : Around} {base h₀ : Heap} {L : Addr}
    {E : Value → Shared → Prop} {Q : Flow → Shared → Prop} {ax I Lo Du To : Addr} {vs : List Value} {n : Nat} {pos q1 q2 : Pos} {k : Nat} {rest : List (Addr × Obj)}
theorem loose_rest (B : Below A₀ base outer h₀) (X : (hd.heap_39 w.params).In h₀) (T : Top p loose mean mg mb h₀) (hdp : dp + 30 < recursionLimit) (hun : un + 80 < cLine)
    (hE : PassesOwn (model prog w) (ktrTop dp un gd "law" (lawScope w.params) L fa cd [] outer) (envX "law" (lawScope w.params) L fa cd []) E)
    (hh : (ktrTop dp un gd "law" (lawScope w.params) L fa cd [] outer).handled = none) (hI : ∀ q ∈ rest, q.1 ≠ I) (hm : (ax, listO vs n) ∈ rest) {all : List Nat} :
    ∀ {rem : List Pr} {i : Nat} {s : Shared} {u : Str → Option Value} {line : List Nat} {tl : Tok} {o : Obj}
      (_ : Each (PairIn rest) (vs.drop i) rem) (_ : ∀ p ∈ rem, GoodV p) (_ : line.length + 5000 * rem.length ≤ 490000) (_ : rem.foldl looseOne line = all)
      (_ : Fr h₀ L s.heap (kstB u [("line", .str (ofL line) tl), ("loose", .ref Lo), ("due", .ref Du), ("told", .ref To)])) (_ : News h₀ L s.heap ((I, o) :: rest)) (_ : ItO o ax i)
      (_ : ∀ u' t1 h' tk', Fr h₀ L h' (kstB u' [("line", .str (ofL all) t1), ("loose", .ref Lo), ("due", .ref Du), ("told", .ref To)]) → News h₀ L h' rest → Q .next { s with heap := h', toks := tk' }),
      ForRest prog w (ktrTop dp un gd "law" (lawScope w.params) L fa cd [] outer) E (envX "law" (lawScope w.params) L fa cd []) (.Tuple [.Name "name" q1, .Name "value" q2] k pos) (forBody (lawFor3 w.params)) Q (.ref I) s := by
  intro rem
  induction rem with
  | nil =>
    intro i s u line tl o hvs _ _ hall F N ho ret
    cases hall
    exact for_end hE hh F N ho hm hI (drop_end hvs) fun h' F' N' => ret u tl h' s.toks F' N'
  | cons a rem ih =>
    intro i s u line tl o hvs hg hz hall F N ho ret
    obtain ⟨v, hv, hvs', hva⟩ := drop_step (E := Each (PairIn rest)) (R := PairIn rest) (fun _ _ h => h) (fun h => h) hvs
    obtain ⟨x, tn, v2, rfl, hx, hv2⟩ := hva
    have ga := hg a (.head _)
    have hl1 := looseOne_len (line := line) ga
    simp only [List.length_cons] at hz
    refine for_item hE F N ho hm hI hv (.inr ⟨_, _, _, _, rfl, rfl⟩) fun h' o' F' N' ho' => ?_
    have fin : ∀ u' t1 h'' tk', Fr h₀ L h'' (kstB u' [("line", .str (ofL (looseOne line a)) t1), ("loose", .ref Lo), ("due", .ref Du), ("told", .ref To)]) → News h₀ L h'' ((I, o') :: rest) →
        ForRest prog w (ktrTop dp un gd "law" (lawScope w.params) L fa cd [] outer) E (envX "law" (lawScope w.params) L fa cd []) (.Tuple [.Name "name" q1, .Name "value" q2] k pos) (forBody (lawFor3 w.params)) Q (.ref I) { s with heap := h'', toks := tk' } :=
      fun u' t1 h'' tk' F2 N2 => ih hvs' (fun p hp => hg p (.tail _ hp)) (by omega) hall F2 N2 ho' ret
    obtain ⟨nm, val⟩ := a
    cases val with
    | none =>
      have hv2 : v2 = .none := hv2
      subst hv2
      exact loose_paira (v := []) (tv := tn) (K := fun s' => ForRest prog w _ E _ _ _ Q (.ref I) s') (s := { s with heap := h' }) B F' X N' T (.tail _ hx) hdp hun (by omega) ga.1 fin
    | some l =>
      obtain ⟨tv, rfl⟩ : ∃ t, v2 = .str (ofL l) t := hv2
      obtain ⟨g1, g2, g3, g4⟩ := ga
      exact loose_pairb (K := fun s' => ForRest prog w _ E _ _ _ Q (.ref I) s') (s := { s with heap := h' }) B F' X N' T (.tail _ hx) hdp hun (by omega) g1 g2 g3 g4 fin
end
end Mine
-- part XN
namespace Mine
open PySem PySem.W PySem.Calls PyProof.Rows PySem.Builtin
abbrev rgO (x left : Int) : Obj := { cls := .type "range_iterator", data := .fields #[rawInt x, rawInt left, rawInt 1] }
section
variable {prog : Program} {w : World} {A : Around} {E : Value → Shared → Prop} {s : Shared} {env : Env} {target : PySem.Expr} {body : List Stmt} {Q : Flow → Shared → Prop} {h₀ : Heap} {L : Addr} {m : Str → Option Value} {news : List (Addr × Obj)}
theorem for_range_item {I : Addr} {x left : Int} (hE : PassesOwn (model prog w) A env E) (F : Fr h₀ L s.heap m) (N : News h₀ L s.heap ((I, rgO x left) :: news)) (hne : ∀ p ∈ news, p.1 ≠ I) (hl : 0 < left) (hk : ∃ x pos, target = .Name x pos)
    (h : ∀ h' tk, Fr h₀ L h' m → News h₀ L h' ((I, rgO (x + 1) (left - 1)) :: news) →
      wpAny (model prog w) A (assign target env (.int x s.toks)) (fun _ s₂ => wpAny (model prog w) A (execs body env) (fun f s₃ => f = .next ∧ ForRest prog w A E env target body Q (.ref I) s₃) E s₂) E { s with heap := h', toks := tk }) :
    ForRest prog w A E env target body Q (.ref I) s := by
  have hI : IsRangeIter s.heap I x left 1 := (N _ (.head _)).1
  refine for_one hE (wpAny_pyNext_range_item hI hl fun h' hI' hs => ?_)
  have g := h h' (s.toks + 1) (F.change hs (N _ (.head _)).2.1 (N _ (.head _)).2.2) (N.setHead hne hs hI')
  obtain ⟨x, pos, rfl⟩ := hk
  exact wpAny_pure g
theorem for_range_end {I : Addr} {x left : Int} (hE : PassesOwn (model prog w) A env E) (hh : A.handled = none) (F : Fr h₀ L s.heap m) (N : News h₀ L s.heap ((I, rgO x left) :: news)) (hne : ∀ p ∈ news, p.1 ≠ I) (hl : left ≤ 0)
    (h : ∀ h', Fr h₀ L h' m → News h₀ L h' news → Q .next { s with heap := h' }) : ForRest prog w A E env target body Q (.ref I) s := by
  have hI : IsRangeIter s.heap I x left 1 := (N _ (.head _)).1
  refine for_one hE (wpAny_pyNext_range_end hh hI hl fun h' hx => ?_)
  have hn := N _ (.head _)
  exact h h' ⟨F.ns.extBut hx hn.2.1.symm, fun b o e => hx b o (fun q => by rw [q, hn.2.2] at e; cases e) (F.keep b o e), F.above⟩ fun p hp => ⟨hx _ _ (hne p hp) (N p (.tail _ hp)).1, (N p (.tail _ hp)).2⟩
theorem iter_range {r : Addr} {n : Nat} {t u v : Tok} {R : Value → Shared → Prop} (F : Fr h₀ L s.heap m) (N : News h₀ L s.heap news) (hr : IsRange s.heap r 0 (n : Int) 1 t u v) (hn : n ≤ 1000)
    (h : ∀ I h', Fr h₀ L h' m → News h₀ L h' ((I, rgO 0 (n : Int)) :: news) → (∀ p ∈ news, p.1 < I) → R (.ref I) { s with heap := h' }) : wpAny (model prog w) A (pyIter (.ref r)) R E s := by
  have e : Builtin.Range.rangeSize 0 (n : Int) 1 = (n : Int) := by
    unfold Builtin.Range.rangeSize; simp; omega
  have hs : Builtin.Range.small 0 (n : Int) 1 = true := by
    unfold Builtin.Range.small; rw [e]; simp [Builtin.Range.rangeFitsLong]; omega
  refine wpAny_pyIter_range hr hs ?_
  rw [e]
  exact h s.heap.objs.size _ (F.push _) (N.push F _) fun p hp => Heap.lt_size (N p hp).1
end
end Mine
-- part XO
namespace Mine
open PySem PySem.W PySem.Calls PyProof.Rows PySem.Builtin PySem.Builtin.Re
theorem quiet_XO : True := by
  w_top off
  trivial
local macro_rules | `(tactic| k_mem) => `(tactic| first | assumption | exact List.Mem.head _ | (refine' List.Mem.tail _ ?_; k_mem))
local macro_rules | `(tactic| k_all) => `(tactic| first | assumption | exact ne_of_allLt (by assumption) | (refine ne_of_allLt ?_; grind))
local macro_rules | `(tactic| walk_at "call builtin:list.append") => `(tactic| (k_here; k_dflt (refine' apd ?F ?N ?U ?z ?_; (case F => k_asm); (case N => k_asm); (case U => k_upd); (case z => omega); k_whole; intro h' F' N'; (try k_sweep))))
local macro_rules | `(tactic| walk_at "getMethod ref") => `(tactic| (k_here; (with_reducible show wpAny _ _ (getMethod (Value.ref _) (Str.ofString "search") _) _ _ _); k_dflt (refine getm_pat (PatAt.keeps (by first | exact pat_tok (by assumption) | exact pat_quo (by assumption) | exact pat_val (by assumption)) (Fr.keep (by k_asm))) slot_search type_search ?_)))
local macro_rules | `(tactic| walk_at "getMethod ref") => `(tactic| (k_here; (with_reducible show wpAny _ _ (getMethod (Value.ref _) (Str.ofString "group") _) _ _ _); k_dflt (refine getm_match (News.get (by k_asm) (by k_mem)) slot_group type_group ?_)))
local macro_rules | `(tactic| walk_at "call builtin:re.Pattern.search") => `(tactic| (k_here; k_dflt (first
  | (refine' find_call ?P ?z ?f ?F ?N ?_; (case P => first | exact pat_tok (by assumption) | exact pat_quo (by assumption) | exact pat_val (by assumption)); (case f => assumption); (case z => assumption); (case F => k_asm); (case N => k_asm); k_whole; intro T' h' F' N' l1; (try k_lt l1); (try k_sweep))
  | (refine' miss_call ?P ?F ?z ?f ?_; (case P => first | exact pat_tok (by assumption) | exact pat_quo (by assumption) | exact pat_val (by assumption)); (case f => assumption); (case z => assumption); (case F => k_asm); k_whole))))
local macro_rules | `(tactic| walk_at "call builtin:re.Match.group") => `(tactic| (k_here; k_dflt (refine' group_L ?N ?m ?t ?z ?_; (case N => k_asm); (case m => k_mem); (case t => k_mem); (case z => assumption); k_whole; intro t' k')))
local macro_rules | `(tactic| walk_at "truthy str") => `(tactic| (k_here; k_dflt (first | (refine' truthy_L ?z ?n ?_; (case n => assumption); (case z => assumption); k_whole; intro k') | (refine' truthy_L0 ?n ?_; (case n => assumption); k_whole; intro k'))))
local macro_rules | `(tactic| walk_at "call ref") => `(tactic| (k_here; (with_reducible show wpAny _ _ (call (Value.ref 43) _) _ _ _); k_dflt (refine' unm_call ?B ?F ?X ?N ?T ?k ?m ?t ?d ?u ?z ?f ?_; (case B => k_asm); (case F => k_asm); (case X => k_asm); (case N => k_asm); (case T => k_asm); (case k => exact rfl); (case m => k_mem); (case t => k_mem); (case d => omega); (case u => omega); (case z => assumption); (case f => assumption); k_whole; intro t' h' k' F' N'; (try k_sweep))))
local macro_rules | `(tactic| walk_at "truthy ref") => `(tactic| (k_here; k_dflt (refine' truthy_N ?N ?m ?_; (case N => k_asm); (case m => k_mem); k_whole)))
local macro_rules | `(tactic| walk_at "getMethod ref") => `(tactic| (k_here; (with_reducible show wpAny _ _ (getMethod (Value.ref _) (Str.ofString "subn") _) _ _ _); k_dflt (refine getm_pat (PatAt.keeps (pat_junk (by assumption)) (Fr.keep (by k_asm))) slot_subn type_subn ?_)))
local macro_rules | `(tactic| walk_at "call builtin:re.Pattern.subn") => `(tactic| (k_here; k_dflt (refine' subn_call1 ?F ?N ?P ?z ?j ?_; (case F => k_asm); (case N => k_asm); (case P => exact pat_junk (by assumption)); (case z => omega); (case j => assumption); k_whole; intro y' t1' t2' h' k' F' N' l1; (try k_lt l1); (try k_sweep))))
local macro_rules | `(tactic| walk_at "call builtin:str.lstrip") => `(tactic| (k_here; k_dflt (refine' lstrip_call ?z ?j ?_; (case z => assumption); (case j => assumption); k_whole; intro t' k')))
local macro_rules | `(tactic| walk_at "call builtin:str.rstrip") => `(tactic| (k_here; k_dflt (refine' rstrip_call ?z ?j ?_; (case z => assumption); (case j => assumption); k_whole; intro t' k')))
local macro_rules | `(tactic| walk_at "call builtin:str.startswith") => `(tactic| (k_here; k_dflt (refine' starts_comma ?j ?_; (case j => assumption); k_whole)))
local macro_rules | `(tactic| walk_at "subscriptTail Call") => `(tactic| (k_here; (with_unfolding_all (refine' sl_from1 ?F ?N ?z ?e ?_ ?s ?t; (case F => k_asm); (case N => k_asm); (case z => assumption); (case e => assumption); (case s => exact rfl); (case t => exact fun _ => rfl); k_whole)); intro h' t' k' F' N'; (try k_sweep)))
local macro_rules | `(tactic| walk_at "getMethod ref") => `(tactic| (k_here; (with_reducible show wpAny _ _ (getMethod (Value.ref _) (Str.ofString "sub") _) _ _ _); k_dflt (refine getm_pat (PatAt.keeps (by first | exact pat_esc (by assumption) | exact pat_je (by assumption)) (Fr.keep (by k_asm))) slot_sub type_sub ?_)))
local macro_rules | `(tactic| walk_at "exec For Name Name cons nil") => `(tactic| (k_here; k_dflt (refine' for_start ?a ?_; (case a => exact fun _ => rfl); k_whole)))
local macro_rules | `(tactic| walk_at "pyIter ref") => `(tactic| (k_here; k_dflt (refine' iter_own ?F ?N ?m ?_; (case F => k_asm); (case N => k_asm); (case m => k_mem); k_whole); intro I' o' h' F' N' d' l1; (try k_lt l1)))
local macro_rules | `(tactic| walk_at "exec For Tuple Name cons nil") => `(tactic| (k_here; k_dflt (refine' for_start ?a ?_; (case a => exact fun _ => rfl); k_whole)))
local macro_rules | `(tactic| walk_at "call builtin:str.join") => `(tactic| (k_here; k_dflt (first
  | (refine' join_semi ?N ?m ?t ?z ?_; (case N => k_asm); (case m => k_mem); (case t => assumption); (case z => assumption); k_whole; intro t' k')
  | (refine' join_comma ?N ?m ?t ?z ?_; (case N => k_asm); (case m => k_mem); (case t => assumption); (case z => assumption); k_whole; intro t' k'))))
local macro_rules | `(tactic| walk_at "exec For Tuple Subscript cons nil") => `(tactic| (k_here; k_dflt (refine' for_start ?a ?_; (case a => exact fun _ => rfl); k_whole)))
local macro_rules | `(tactic| k_mem) => `(tactic| first | assumption | exact List.Mem.head _ | (refine' List.Mem.tail _ ?_; k_mem))
local macro_rules | `(tactic| walk_at "subscriptTail Name BinOp ref int") => `(tactic| (k_here; (refine' item3 ?N ?m ?a ?b ?c ?_ ?s ?t; (case N => k_asm); (case m => k_dflt k_mem); (case a => with_reducible exact ofs_c1); (case b => with_reducible exact empty_ofL); (case c => with_reducible exact ofs_c3); (case s => with_unfolding_all exact rfl); (case t => with_unfolding_all exact fun _ => rfl); k_whole); intro t'))
local macro_rules | `(tactic| walk_at "subscriptTail Name Name ref int") => `(tactic| (k_here; (refine' item_own ?N ?m ?a ?b ?v ?_ ?s ?t; (case N => k_asm); (case v => with_reducible assumption); (case m => k_mem); (case a => omega); (case b => omega); (case s => with_unfolding_all exact rfl); (case t => with_unfolding_all exact fun _ => rfl); k_whole)))
section
variable {prog : Program} {w : World} {p : Program} {loose : List Str} {mean : ExcName → Option Value} {mg mb : Str → Option Value} {dp un : Nat} {gd : Option (List Code)} {fa : Addr} {cd : Value} {outer : List Env} {A₀ : Around} {base h₀ : Heap} {L : Addr} {s : Shared} {u : Str → Option Value}
    {E : Value → Shared → Prop} {K : Shared → Prop} {pos : Pos}
/-- one loose line -/
theorem loose_line {Lo Du To ra : Addr} {loV duV rvs : List Value} {lo du rn k : Nat} {tk : Tok} {ps : List Pr} {rest : List (Addr × Obj)}
    (B : Below A₀ base outer h₀) (F : Fr h₀ L s.heap (kstB u [("loose", .ref Lo), ("due", .ref Du), ("told", .ref To)])) (X : (hd.heap_39 w.params).In h₀) (N : News h₀ L s.heap ((Lo, listO loV lo) :: rest)) (T : Top p loose mean mg mb h₀)
    (hLo : ∀ q ∈ rest, q.1 ≠ Lo) (hDu : (Du, listO duV du) ∈ rest) (hra : (ra, listO rvs rn) ∈ rest) (hk : k ≤ 1000) (hit : duV[((k : Nat) : Int).toNat]? = some (.ref ra)) (hdp : dp + 30 < recursionLimit) (hun : un + 80 < cLine) (hps : Each (PairIn rest) rvs ps) (hg : ∀ p ∈ ps, GoodV p) (hlen : ps.length ≤ 90) (hlo : loV.length ≤ 1000)
    (hE : PassesOwn (model prog w) (ktrTop dp un gd "law" (lawScope w.params) L fa cd [] outer) (envX "law" (lawScope w.params) L fa cd []) E)
    (ret : ∀ u' t1 h' tk', Fr h₀ L h' (kstB u' [("loose", .ref Lo), ("due", .ref Du), ("told", .ref To)]) → News h₀ L h' ((Lo, listO (loV ++ [.str (ofL (ps.foldl looseOne (sel3 [32] [] [9, 32] k))) t1]) (lo + 1)) :: rest) → K { s with heap := h', toks := tk' }) :
    wpAny (model prog w) (ktrTop dp un gd "law" (lawScope w.params) L fa cd [] outer) (assign (.Name "k" pos) (envX "law" (lawScope w.params) L fa cd []) (.int (k : Int) tk)) (fun _ s₂ => wpAny (model prog w) (ktrTop dp un gd "law" (lawScope w.params) L fa cd [] outer) (execs (forBody (lawFor2 w.params)) (envX "law" (lawScope w.params) L fa cd [])) (fun f s' => f = .next ∧ K s') E s₂) E s := by
  have LR := @loose_rest prog w
  have ex1 : forBody (lawFor2 w.params) = forBody (lawFor2 w.params) := rfl
  conv at ex1 => rhs; whnf
  have ex2 : forBody (lawFor3 w.params) = forBody (lawFor3 w.params) := rfl
  conv at ex2 => rhs; whnf
  have ex3 : lawScope w.params = lawScope w.params := rfl
  conv at ex3 => rhs; whnf
  rw [ex1, ex3]
  rw [ex3] at hE
  rw [ex2, ex3] at LR
  clear ex1 ex2 ex3
  k_steps
  rename_i I' o' h' F' N' d' l1
  refine LR (vs := rvs) (n := rn) (ax := ra) (I := I') (i := 0) (rem := ps) (rest := (Lo, listO loV lo) :: rest) (Lo := Lo) (Du := Du) (To := To) (all := ps.foldl looseOne (sel3 [32] [] [9, 32] k)) B X T hdp hun hE rfl ?hI (.tail _ hra) (Each.mono (fun _ _ => PairIn.mono fun q hq => .tail _ hq) hps) hg ?hz rfl (fr_canon _ F' (List.forall_mem_cons.mpr ⟨by with_unfolding_all rfl, List.forall_mem_cons.mpr ⟨by with_unfolding_all rfl, List.forall_mem_cons.mpr ⟨by with_unfolding_all rfl, List.forall_mem_cons.mpr ⟨by with_unfolding_all rfl, List.forall_mem_nil _⟩⟩⟩⟩)) (news_sub N' ?hsub) d' ?_
  case hsub =>
    intro q hq
    simp only [List.mem_cons] at hq ⊢
    grind
  case hI => exact ne_of_allLt ⟨l1.2.1, l1.2.2⟩
  case hz =>
    have s3 : (sel3 [32] [] [9, 32] k).length ≤ 3 := sel3_len (by decide) (by decide) (by decide)
    omega
  intro u' t1 h'' tk' F2 N2
  clear N' F'
  k_steps
  all_goals (try k_data)
  exact ret _ _ _ _ (fr_canon _ (by assumption) (List.forall_mem_cons.mpr ⟨by with_unfolding_all rfl, List.forall_mem_cons.mpr ⟨by with_unfolding_all rfl, List.forall_mem_cons.mpr ⟨by with_unfolding_all rfl, List.forall_mem_nil _⟩⟩⟩)) (by assumption)
end
end Mine
-- part XP
namespace Mine
open PySem PySem.W PySem.Calls PyProof.Rows PySem.Builtin
def looseFrom : Nat → List (List Pr) → List (List Nat)
  | _, [] => []
  | k, ps :: r => ps.foldl looseOne (sel3 [32] [] [9, 32] k) :: looseFrom (k + 1) r
section
variable {prog : Program} {w : World} {p : Program} {loose : List Str} {mean : ExcName → Option Value} {mg mb : Str → Option Value} {dp un : Nat} {gd : Option (List Code)} {fa : Addr} {cd : Value} {outer : List Env} {A₀ : Around} {base h₀ : Heap} {L : Addr}
    {E : Value → Shared → Prop} {Q : Flow → Shared → Prop} {I Lo Du To : Addr} {duV : List Value} {du : Nat} {pos : Pos} {rest : List (Addr × Obj)}
theorem loose_all (B : Below A₀ base outer h₀) (X : (hd.heap_39 w.params).In h₀) (T : Top p loose mean mg mb h₀) (hdp : dp + 30 < recursionLimit) (hun : un + 80 < cLine)
    (hE : PassesOwn (model prog w) (ktrTop dp un gd "law" (lawScope w.params) L fa cd [] outer) (envX "law" (lawScope w.params) L fa cd []) E)
    (hh : (ktrTop dp un gd "law" (lawScope w.params) L fa cd [] outer).handled = none) (hI : ∀ q ∈ rest, q.1 ≠ I) (hLo : ∀ q ∈ rest, q.1 ≠ Lo) (hIL : @Ne Nat Lo I) (hDu : (Du, listO duV du) ∈ rest) (hd1 : duV.length ≤ 900) {all : List (List Nat)} :
    ∀ {rem : List (List Pr)} {k : Nat} {s : Shared} {u : Str → Option Value} {loV : List Value} {lo : Nat} {left : Int} {dn : List (List Nat)}
      (_ : Each (RowIn rest) (duV.drop k) rem) (_ : ∀ ps ∈ rem, (∀ p ∈ ps, GoodV p) ∧ ps.length ≤ 90) (_ : left = (rem.length : Int)) (_ : dn ++ looseFrom k rem = all) (_ : Each TextIs loV dn) (_ : dn.length = k) (_ : k + rem.length ≤ 900)
      (_ : Fr h₀ L s.heap (kstB u [("loose", .ref Lo), ("due", .ref Du), ("told", .ref To)])) (_ : News h₀ L s.heap ((I, rgO (k : Int) left) :: (Lo, listO loV lo) :: rest))
      (_ : ∀ u' loV lo h' tk', Fr h₀ L h' (kstB u' [("loose", .ref Lo), ("due", .ref Du), ("told", .ref To)]) → News h₀ L h' ((Lo, listO loV lo) :: rest) → Each TextIs loV all → Q .next { s with heap := h', toks := tk' }),
      ForRest prog w (ktrTop dp un gd "law" (lawScope w.params) L fa cd [] outer) E (envX "law" (lawScope w.params) L fa cd []) (.Name "k" pos) (forBody (lawFor2 w.params)) Q (.ref I) s := by
  intro rem
  have hI' : ∀ {o : Obj}, ∀ q ∈ (Lo, o) :: rest, q.1 ≠ I := fun q hq => by
    rcases List.mem_cons.mp hq with rfl | hq
    · exact hIL
    · exact hI q hq
  induction rem with
  | nil =>
    intro k s u loV lo left dn hvs _ hleft hall ET _ _ F N ret
    subst hleft
    rw [looseFrom, List.append_nil] at hall
    subst hall
    exact for_range_end hE hh F N hI' (by simp) fun h' F' N' => ret u loV lo h' s.toks F' N' ET
  | cons ps rem ih =>
    intro k s u loV lo left dn hvs hg hleft hall ET hdn hz F N ret
    obtain ⟨v, hv, hvs', hva⟩ := drop_step (E := Each (RowIn rest)) (R := RowIn rest) (fun _ _ h => h) (fun h => h) hvs
    obtain ⟨ra, rvs, rn, rfl, hra, hrp⟩ := hva
    simp only [List.length_cons] at hleft hz
    refine for_range_item hE F N hI' (by omega) ⟨_, _, rfl⟩ fun h' tk F' N' => ?_
    have N2 : News h₀ L h' ((Lo, listO loV lo) :: (I, rgO ((k : Int) + 1) (left - 1)) :: rest) := news_sub N' fun q hq => by
      simp only [List.mem_cons] at hq ⊢; grind
    have hLo2 : ∀ q ∈ (I, rgO ((k : Int) + 1) (left - 1)) :: rest, q.1 ≠ Lo := fun q hq => by
      rcases List.mem_cons.mp hq with rfl | hq
      · exact hIL.symm
      · exact hLo q hq
    refine loose_line (K := fun s' => ForRest prog w _ E _ _ _ Q (.ref I) s') (s := { s with heap := h', toks := tk }) (k := k) B F' X N2 T hLo2 (.tail _ hDu) (.tail _ hra) (by omega) (by simpa using hv) hdp hun (Each.mono (fun _ _ => PairIn.mono fun q hq => .tail _ hq) hrp) (hg ps (.head _)).1 (hg ps (.head _)).2 (by rw [ET.len]; omega) hE fun u' t1 h'' tk' F3 N3 => ?_
    refine ih (k := k + 1) (left := left - 1) (lo := lo + 1) (dn := dn ++ [ps.foldl looseOne (sel3 [32] [] [9, 32] k)]) hvs' (fun q hq => hg q (.tail _ hq)) (by omega) (by rw [← hall, looseFrom]; simp) (Each.snoc ⟨t1, rfl⟩ ET) (by simp [hdn]) (by omega) F3 (news_sub N3 fun q hq => ?_) ret
    simp only [List.mem_cons] at hq ⊢
    have e : ((k : Int) + 1) = ((k + 1 : Nat) : Int) := by simp
    rw [← e] at hq
    grind
end
end Mine
-- part PA
namespace Mine
open PySem PySem.Builtin
abbrev sp (c : Nat) : Bool := Unicode.isSpace c
theorem gl {l : List Nat} {i : Nat} : l.toArray.getD i 0 = l.getD i 0 := by simp
/-- all signs of a part of a text -/
theorem part_all {f : Nat → Bool} {a b c : List Nat} (h : ∀ x ∈ b, f x = true) : ∀ i, i < b.length → f ((a ++ (b ++ c)).toArray.getD (a.length + i) 0) = true := by
  intro i hi
  rw [gl, List.getD_eq_getElem?_getD, List.getElem?_append_right (by omega), Nat.add_sub_cancel_left, List.getElem?_append_left hi, List.getElem?_eq_getElem hi]
  exact h _ (List.getElem_mem hi)
theorem part_at {a c : List Nat} {x : Nat} : (a ++ x :: c).toArray.getD a.length 0 = x := by
  rw [gl, List.getD_eq_getElem?_getD, List.getElem?_append_right (Nat.le_refl _), Nat.sub_self]; rfl
/-- what a text begins with -/
def Heads (f : Nat → Prop) (l : List Nat) : Prop := ∀ c r, l = c :: r → f c
theorem heads_at {f : Nat → Prop} {a r : List Nat} (h : Heads f r) : a.length = (a ++ r).toArray.size ∨ f ((a ++ r).toArray.getD a.length 0) := by
  cases r with
  | nil => left; simp
  | cons c r => right; rw [part_at]; exact h c r rfl
theorem tok_sp {c : Nat} (h : sp c = true) : isTok c = false := by unfold isTok; rw [show Unicode.isSpace c = true from h]; simp
theorem tok_nsp {c : Nat} (h : isTok c = true) : sp c = false := by
  cases hs : sp c with
  | false => rfl
  | true => rw [tok_sp hs] at h; cases h
theorem val_nsp {c : Nat} (h : isVal c = true) : sp c = false := by
  unfold isVal at h
  cases hs : sp c with
  | false => rfl
  | true => rw [show Unicode.isSpace c = true from hs] at h; simp at h
theorem tok_L {ws nm rest : List Nat} (hw : ∀ c ∈ ws, sp c = true) (hn : ∀ c ∈ nm, isTok c = true) (hne : nm ≠ []) (hr : Heads (fun c => isTok c = false) rest) (hz : (ws ++ (nm ++ rest)).length ≤ 200000) :
    Finds tokCode (ws ++ (nm ++ rest)) (ws.length + nm.length) ws.length (ws.length + nm.length) := by
  have hp : 0 < nm.length := List.length_pos_iff.mpr hne
  have hs : (ws ++ (nm ++ rest)).toArray.size = (ws ++ (nm ++ rest)).length := by simp
  have hl : ws.length + nm.length ≤ (ws ++ (nm ++ rest)).length := by simp only [List.length_append]; omega
  refine ⟨Nat.le_add_right _ _, hl, hl, 10, by decide, ?_⟩
  rw [← hs]
  refine tok_found (by rw [hs]; omega) hp (by rw [hs]; exact hl) ?_ ?_ ?_ ?_
  · intro i hi
    have := part_all (a := []) (b := ws) (c := nm ++ rest) (f := sp) hw i hi
    simpa only [List.nil_append, List.length_nil, Nat.zero_add] using this
  · exact part_all hn
  · have := part_all (a := ws) (c := rest) (f := fun c => !sp c) (b := nm) (fun x hx => by rw [tok_nsp (hn x hx)]; rfl) 0 hp
    rw [Nat.add_zero] at this
    simpa using this
  · have := heads_at (a := ws ++ nm) hr
    rw [List.append_assoc, List.length_append] at this
    exact this
theorem tokMiss_L {ws rest : List Nat} (hw : ∀ c ∈ ws, sp c = true) (hr : Heads (fun c => sp c = false ∧ isTok c = false) rest) (hz : (ws ++ rest).length ≤ 200000) : Misses tokCode (ws ++ rest) := by
  have hs : (ws ++ rest).toArray.size = (ws ++ rest).length := by simp
  refine ⟨5 * (ws ++ rest).toArray.size + 10, by rw [hs]; have : (2:Nat)^64 = 18446744073709551616 := by decide
                                                 omega, ?_⟩
  rw [← hs]
  refine tok_none (k := ws.length) (by rw [hs]; omega) (by rw [hs]; simp) ?_ (heads_at hr)
  intro i hi
  have := part_all (a := []) (b := ws) (c := rest) (f := sp) hw i hi
  simpa only [List.nil_append, List.length_nil, Nat.zero_add] using this
theorem valMiss_L {ws rest : List Nat} (hw : ∀ c ∈ ws, sp c = true) (hr : Heads (fun c => sp c = false ∧ c ≠ 61) rest) (hz : (ws ++ rest).length ≤ 200000) : Misses valCode (ws ++ rest) := by
  have hs : (ws ++ rest).toArray.size = (ws ++ rest).length := by simp
  refine ⟨5 * (ws ++ rest).toArray.size + 10, by rw [hs]; have : (2:Nat)^64 = 18446744073709551616 := by decide
                                                 omega, ?_⟩
  rw [← hs]
  refine val_none (k := ws.length) (by rw [hs]; omega) (by rw [hs]; simp) ?_ (heads_at hr)
  intro i hi
  have := part_all (a := []) (b := ws) (c := rest) (f := sp) hw i hi
  simpa only [List.nil_append, List.length_nil, Nat.zero_add] using this
theorem quoMiss_L {ws rest : List Nat} (hw : ∀ c ∈ ws, sp c = true) (hr : Heads (fun c => sp c = false ∧ c ≠ 61) rest) (hz : (ws ++ rest).length ≤ 200000) : Misses quoCode (ws ++ rest) := by
  have hs : (ws ++ rest).toArray.size = (ws ++ rest).length := by simp
  refine ⟨5 * (ws ++ rest).toArray.size + 10, by rw [hs]; have : (2:Nat)^64 = 18446744073709551616 := by decide
                                                 omega, ?_⟩
  rw [← hs]
  refine quo_none (k := ws.length) (by rw [hs]; omega) (by rw [hs]; simp) ?_ (heads_at hr)
  intro i hi
  have := part_all (a := []) (b := ws) (c := rest) (f := sp) hw i hi
  simpa only [List.nil_append, List.length_nil, Nat.zero_add] using this
section
variable {w1 w2 v rest : List Nat}
theorem val_L (hw : ∀ c ∈ w1, sp c = true) (hw2 : ∀ c ∈ w2, sp c = true) (hv : ∀ c ∈ v, isVal c = true) (hne : v ≠ []) (hr : Heads (fun c => isVal c = false) rest) (hz : (w1 ++ 61 :: (w2 ++ (v ++ rest))).length ≤ 200000) :
    Finds valCode (w1 ++ 61 :: (w2 ++ (v ++ rest))) (w1.length + 1 + w2.length + v.length) (w1.length + 1 + w2.length) (w1.length + 1 + w2.length + v.length) := by
  have hs : (w1 ++ 61 :: (w2 ++ (v ++ rest))).toArray.size = (w1 ++ 61 :: (w2 ++ (v ++ rest))).length := by simp
  have hl : w1.length + 1 + w2.length + v.length ≤ (w1 ++ 61 :: (w2 ++ (v ++ rest))).length := by simp only [List.length_append, List.length_cons]; omega
  refine ⟨Nat.le_add_right _ _, hl, hl, 13, by decide, ?_⟩
  rw [← hs]
  refine val_found (by rw [hs]; omega) (List.length_pos_iff.mpr hne) (by rw [hs]; exact hl) ?_ part_at ?_ ?_ ?_
  · intro i hi
    have := part_all (a := []) (b := w1) (c := 61 :: (w2 ++ (v ++ rest))) (f := sp) hw i hi
    simpa only [List.nil_append, List.length_nil, Nat.zero_add] using this
  · have := part_all (a := w1 ++ [61]) (b := w2) (c := v ++ rest) (f := sp) hw2
    have e9 : (w1 ++ [61]).length = w1.length + 1 := by simp only [List.length_append, List.length_singleton]
    rw [e9] at this
    simpa only [List.append_assoc, List.cons_append, List.nil_append] using this
  · have := part_all (a := w1 ++ [61] ++ w2) (b := v) (c := rest) hv
    have e9 : (w1 ++ [61] ++ w2).length = w1.length + 1 + w2.length := by simp only [List.length_append, List.length_singleton]
    rw [e9] at this
    simpa only [List.append_assoc, List.cons_append, List.nil_append] using this
  · have := heads_at (a := w1 ++ [61] ++ w2 ++ v) hr
    have e9 : (w1 ++ [61] ++ w2 ++ v).length = w1.length + 1 + w2.length + v.length := by simp only [List.length_append, List.length_singleton]
    rw [e9] at this
    simpa only [List.append_assoc, List.cons_append, List.nil_append] using this
theorem quoBare_L (hw : ∀ c ∈ w1, sp c = true) (hw2 : ∀ c ∈ w2, sp c = true) (hr : Heads (fun c => sp c = false ∧ c ≠ 34) rest) (hz : (w1 ++ 61 :: (w2 ++ rest)).length ≤ 200000) : Misses quoCode (w1 ++ 61 :: (w2 ++ rest)) := by
  have hs : (w1 ++ 61 :: (w2 ++ rest)).toArray.size = (w1 ++ 61 :: (w2 ++ rest)).length := by simp
  refine ⟨10 * (w1 ++ 61 :: (w2 ++ rest)).toArray.size + 20, by rw [hs]; have : (2:Nat)^64 = 18446744073709551616 := by decide
                                                                omega, ?_⟩
  rw [← hs]
  refine quo_bare (a := w1.length) (b := w2.length) (by rw [hs]; omega) (by rw [hs]; simp only [List.length_append, List.length_cons]; omega) ?_ part_at (by rw [hs]; simp only [List.length_append, List.length_cons]; omega) ?_ ?_
  · intro i hi
    have := part_all (a := []) (b := w1) (c := 61 :: (w2 ++ rest)) (f := sp) hw i hi
    simpa only [List.nil_append, List.length_nil, Nat.zero_add] using this
  · have := part_all (a := w1 ++ [61]) (b := w2) (c := rest) (f := sp) hw2
    have e9 : (w1 ++ [61]).length = w1.length + 1 := by simp only [List.length_append, List.length_singleton]
    rw [e9] at this
    simpa only [List.append_assoc, List.cons_append, List.nil_append] using this
  · have := heads_at (a := w1 ++ [61] ++ w2) hr
    have e9 : (w1 ++ [61] ++ w2).length = w1.length + 1 + w2.length := by simp only [List.length_append, List.length_singleton]
    rw [e9] at this
    simpa only [List.append_assoc, List.cons_append, List.nil_append] using this
theorem quo0_L (hw : ∀ c ∈ w1, sp c = true) (hw2 : ∀ c ∈ w2, sp c = true) (hv : ∀ c ∈ v, isQ c = true) (hz : (w1 ++ 61 :: (w2 ++ 34 :: (v ++ 34 :: rest))).length ≤ 200000) :
    Finds quoCode (w1 ++ 61 :: (w2 ++ 34 :: (v ++ 34 :: rest))) (w1.length + 1 + w2.length + 1 + v.length + 1) (w1.length + 1 + w2.length + 1) (w1.length + 1 + w2.length + 1 + v.length) := by
  have hs : (w1 ++ 61 :: (w2 ++ 34 :: (v ++ 34 :: rest))).toArray.size = (w1 ++ 61 :: (w2 ++ 34 :: (v ++ 34 :: rest))).length := by simp
  have hl : w1.length + 1 + w2.length + 1 + v.length + 1 ≤ (w1 ++ 61 :: (w2 ++ 34 :: (v ++ 34 :: rest))).length := by simp only [List.length_append, List.length_cons]; omega
  refine ⟨Nat.le_add_right _ _, by omega, hl, 30, by decide, ?_⟩
  rw [← hs]
  refine quo_found0 (by rw [hs]; omega) (by rw [hs]; exact hl) ?_ part_at ?_ ?_ ?_ ?_
  · intro i hi
    have := part_all (a := []) (b := w1) (c := 61 :: (w2 ++ 34 :: (v ++ 34 :: rest))) (f := sp) hw i hi
    simpa only [List.nil_append, List.length_nil, Nat.zero_add] using this
  · have := part_all (a := w1 ++ [61]) (b := w2) (c := 34 :: (v ++ 34 :: rest)) (f := sp) hw2
    have e9 : (w1 ++ [61]).length = w1.length + 1 := by simp only [List.length_append, List.length_singleton]
    rw [e9] at this
    simpa only [List.append_assoc, List.cons_append, List.nil_append] using this
  · have := part_at (a := w1 ++ [61] ++ w2) (x := 34) (c := v ++ 34 :: rest)
    have e9 : (w1 ++ [61] ++ w2).length = w1.length + 1 + w2.length := by simp only [List.length_append, List.length_singleton]
    rw [e9] at this
    simpa only [List.append_assoc, List.cons_append, List.nil_append] using this
  · have := part_all (a := w1 ++ [61] ++ w2 ++ [34]) (b := v) (c := 34 :: rest) hv
    have e9 : (w1 ++ [61] ++ w2 ++ [34]).length = w1.length + 1 + w2.length + 1 := by simp only [List.length_append, List.length_singleton]
    rw [e9] at this
    simpa only [List.append_assoc, List.cons_append, List.nil_append] using this
  · have := part_at (a := w1 ++ [61] ++ w2 ++ [34] ++ v) (x := 34) (c := rest)
    have e9 : (w1 ++ [61] ++ w2 ++ [34] ++ v).length = w1.length + 1 + w2.length + 1 + v.length := by simp only [List.length_append, List.length_singleton]
    rw [e9] at this
    simpa only [List.append_assoc, List.cons_append, List.nil_append] using this
theorem quo1_L {v2 : List Nat} {x : Nat} (hw : ∀ c ∈ w1, sp c = true) (hw2 : ∀ c ∈ w2, sp c = true) (hv : ∀ c ∈ v, isQ c = true) (hx : x ≠ 10) (hv2 : ∀ c ∈ v2, isQ c = true) (hz : (w1 ++ 61 :: (w2 ++ 34 :: (v ++ 92 :: x :: (v2 ++ 34 :: rest)))).length ≤ 200000) :
    Finds quoCode (w1 ++ 61 :: (w2 ++ 34 :: (v ++ 92 :: x :: (v2 ++ 34 :: rest)))) (w1.length + 1 + w2.length + 1 + v.length + 1 + 1 + v2.length + 1) (w1.length + 1 + w2.length + 1) (w1.length + 1 + w2.length + 1 + v.length + 1 + 1 + v2.length) := by
  have hs : (w1 ++ 61 :: (w2 ++ 34 :: (v ++ 92 :: x :: (v2 ++ 34 :: rest)))).toArray.size = (w1 ++ 61 :: (w2 ++ 34 :: (v ++ 92 :: x :: (v2 ++ 34 :: rest)))).length := by simp
  have hl : w1.length + 1 + w2.length + 1 + v.length + 1 + 1 + v2.length + 1 ≤ (w1 ++ 61 :: (w2 ++ 34 :: (v ++ 92 :: x :: (v2 ++ 34 :: rest)))).length := by simp only [List.length_append, List.length_cons]; omega
  refine ⟨by omega, by omega, hl, 40, by decide, ?_⟩
  rw [← hs]
  refine quo_found1 (by rw [hs]; omega) (by rw [hs]; exact hl) ?_ part_at ?_ ?_ ?_ ?_ ?_ ?_ ?_
  · intro i hi
    have := part_all (a := []) (b := w1) (c := 61 :: (w2 ++ 34 :: (v ++ 92 :: x :: (v2 ++ 34 :: rest)))) (f := sp) hw i hi
    simpa only [List.nil_append, List.length_nil, Nat.zero_add] using this
  · have := part_all (a := w1 ++ [61]) (b := w2) (c := 34 :: (v ++ 92 :: x :: (v2 ++ 34 :: rest))) (f := sp) hw2
    have e9 : (w1 ++ [61]).length = w1.length + 1 := by simp only [List.length_append, List.length_singleton]
    rw [e9] at this
    simpa only [List.append_assoc, List.cons_append, List.nil_append] using this
  · have := part_at (a := w1 ++ [61] ++ w2) (x := 34) (c := v ++ 92 :: x :: (v2 ++ 34 :: rest))
    have e9 : (w1 ++ [61] ++ w2).length = w1.length + 1 + w2.length := by simp only [List.length_append, List.length_singleton]
    rw [e9] at this
    simpa only [List.append_assoc, List.cons_append, List.nil_append] using this
  · have := part_all (a := w1 ++ [61] ++ w2 ++ [34]) (b := v) (c := 92 :: x :: (v2 ++ 34 :: rest)) hv
    have e9 : (w1 ++ [61] ++ w2 ++ [34]).length = w1.length + 1 + w2.length + 1 := by simp only [List.length_append, List.length_singleton]
    rw [e9] at this
    simpa only [List.append_assoc, List.cons_append, List.nil_append] using this
  · have := part_at (a := w1 ++ [61] ++ w2 ++ [34] ++ v) (x := 92) (c := x :: (v2 ++ 34 :: rest))
    have e9 : (w1 ++ [61] ++ w2 ++ [34] ++ v).length = w1.length + 1 + w2.length + 1 + v.length := by simp only [List.length_append, List.length_singleton]
    rw [e9] at this
    simpa only [List.append_assoc, List.cons_append, List.nil_append] using this
  · have := part_at (a := w1 ++ [61] ++ w2 ++ [34] ++ v ++ [92]) (x := x) (c := v2 ++ 34 :: rest)
    have e9 : (w1 ++ [61] ++ w2 ++ [34] ++ v ++ [92]).length = w1.length + 1 + w2.length + 1 + v.length + 1 := by simp only [List.length_append, List.length_singleton]
    rw [e9] at this
    simp only [List.append_assoc, List.cons_append, List.nil_append] at this
    intro e
    exact hx (this.symm.trans e)
  · have := part_all (a := w1 ++ [61] ++ w2 ++ [34] ++ v ++ [92] ++ [x]) (b := v2) (c := 34 :: rest) hv2
    have e9 : (w1 ++ [61] ++ w2 ++ [34] ++ v ++ [92] ++ [x]).length = w1.length + 1 + w2.length + 1 + v.length + 1 + 1 := by simp only [List.length_append, List.length_singleton]
    rw [e9] at this
    simpa only [List.append_assoc, List.cons_append, List.nil_append] using this
  · have := part_at (a := w1 ++ [61] ++ w2 ++ [34] ++ v ++ [92] ++ [x] ++ v2) (x := 34) (c := rest)
    have e9 : (w1 ++ [61] ++ w2 ++ [34] ++ v ++ [92] ++ [x] ++ v2).length = w1.length + 1 + w2.length + 1 + v.length + 1 + 1 + v2.length := by simp only [List.length_append, List.length_singleton]
    rw [e9] at this
    simpa only [List.append_assoc, List.cons_append, List.nil_append] using this
end
theorem lst_L {ws r : List Nat} (hw : ∀ c ∈ ws, sp c = true) (hr : Heads (fun c => sp c = false) r) : LSt (ws ++ r) ws.length := by
  refine ⟨by simp, fun i hi => ?_, ?_⟩
  · have := part_all (a := []) (b := ws) (c := r) (f := sp) hw i hi
    simpa only [List.nil_append, List.length_nil, Nat.zero_add] using this
  · have h := heads_at (a := ws) hr
    rw [show (ws ++ r).toArray.size = (ws ++ r).length by simp] at h
    exact h
end Mine
-- part PB
namespace Mine
open PySem PySem.Builtin
/-- behind blanks: the end, a semicolon or a comma -/
def Stops (l : List Nat) : Prop := ∃ w r, l = w ++ r ∧ (∀ c ∈ w, sp c = true) ∧ Heads (fun c => c = 59 ∨ c = 44) r
theorem heads_app {f : Nat → Prop} {w r : List Nat} (hw : ∀ c ∈ w, f c) (hr : Heads f r) : Heads f (w ++ r) := by
  intro c r' e
  cases w with
  | nil => exact hr c r' e
  | cons a w => rw [List.cons_append] at e; injection e with e1 e2; exact e1 ▸ hw a (.head _)
theorem heads_cons {f : Nat → Prop} {c : Nat} {r : List Nat} (h : f c) : Heads f (c :: r) := by
  intro c' r' e; injection e with e1 e2; exact e1 ▸ h
theorem heads_mono {f g : Nat → Prop} {r : List Nat} (h : ∀ c, f c → g c) (hr : Heads f r) : Heads g r := fun c r' e => h c (hr c r' e)
theorem heads_nil {f : Nat → Prop} : Heads f [] := fun c r e => nomatch e
theorem t59 : isTok 59 = false := by decide +kernel
theorem t44 : isTok 44 = false := by decide +kernel
theorem t61 : isTok 61 = false := by decide +kernel
theorem s59 : sp 59 = false := by decide +kernel
theorem s44 : sp 44 = false := by decide +kernel
theorem v59 : isVal 59 = false := by decide +kernel
theorem v44 : isVal 44 = false := by decide +kernel
theorem val_sp {c : Nat} (h : sp c = true) : isVal c = false := by unfold isVal; rw [show Unicode.isSpace c = true from h]; simp
theorem Stops.tok {l : List Nat} : Stops l → Heads (fun c => isTok c = false) l
  | ⟨w, r, e, hw, hr⟩ => by
    rw [e]
    exact heads_app (fun c hc => tok_sp (hw c hc)) (heads_mono (fun c hc => by rcases hc with rfl | rfl; exact t59; exact t44) hr)
theorem Stops.val {l : List Nat} : Stops l → Heads (fun c => isVal c = false) l
  | ⟨w, r, e, hw, hr⟩ => by
    rw [e]
    exact heads_app (fun c hc => val_sp (hw c hc)) (heads_mono (fun c hc => by rcases hc with rfl | rfl; exact v59; exact v44) hr)
theorem drop2 {a b c : List Nat} : (a ++ (b ++ c)).drop (a.length + b.length) = c := by
  rw [← List.append_assoc, ← List.length_append, List.drop_left]
theorem take2 {a b c : List Nat} : ((a ++ (b ++ c)).take (a.length + b.length)).drop a.length = b := by
  rw [← List.append_assoc, ← List.length_append, List.take_left, List.drop_left]
section
variable {ws nm w1 w2 v v2 rest out : List Nat} {ps ps' : List Pr} {rs rs' : List (List Pr)}
theorem step_bare (hw : ∀ c ∈ ws, sp c = true) (hn : ∀ c ∈ nm, isTok c = true) (hne : nm ≠ []) (hr : Stops rest) (hz : (ws ++ (nm ++ rest)).length ≤ 200000) (hp : ps.length ≤ 1000) (hq : rs.length ≤ 1000)
    (h : Parses rest (ps ++ [(nm, none)]) rs ps' rs') : Parses (ws ++ (nm ++ rest)) ps rs ps' rs' := by
  have hnz : ws ++ (nm ++ rest) ≠ [] := by simp [hne]
  have hr' := hr
  obtain ⟨w, r, e, hw2, hr2⟩ := hr'
  have hz2 : (w ++ r).length ≤ 200000 := by rw [← e]; simp only [List.length_append] at hz; omega
  have hh : Heads (fun c => sp c = false ∧ c ≠ 61) r := heads_mono (fun c hc => by
    rcases hc with rfl | rfl
    · exact ⟨s59, by decide⟩
    · exact ⟨s44, by decide⟩) hr2
  refine .bare (e := ws.length + nm.length) (gb := ws.length) (ge := ws.length + nm.length) hnz hz hp hq (tok_L hw hn hne hr.tok hz) ?_ ?_ ?_
  · rw [drop2, e]; exact quoMiss_L hw2 hh hz2
  · rw [drop2, e]; exact valMiss_L hw2 hh hz2
  · rw [drop2, take2]; exact h
theorem eqTail_tok (hw : ∀ c ∈ w1, sp c = true) {r : List Nat} : Heads (fun c => isTok c = false) (w1 ++ 61 :: r) :=
  heads_app (fun c hc => tok_sp (hw c hc)) (heads_cons t61)
theorem rend_val (hv : ∀ c ∈ v, isVal c = true) : REnd v := by
  by_cases hne : v = []
  · exact .inl hne
  · right
    have hp : 0 < v.length := List.length_pos_iff.mpr hne
    rw [gl, List.getD_eq_getElem?_getD, List.getElem?_eq_getElem (by omega)]
    exact val_nsp (hv _ (List.getElem_mem _))
theorem step_val (hw : ∀ c ∈ ws, sp c = true) (hn : ∀ c ∈ nm, isTok c = true) (hne : nm ≠ []) (hw1 : ∀ c ∈ w1, sp c = true) (hw2 : ∀ c ∈ w2, sp c = true) (hv : ∀ c ∈ v, isVal c = true ∧ c ≠ 34) (hvn : v ≠ []) (hr : Stops rest)
    (hz : (ws ++ (nm ++ (w1 ++ 61 :: (w2 ++ (v ++ rest))))).length ≤ 200000) (hp : ps.length ≤ 1000) (hq : rs.length ≤ 1000)
    (h : Parses rest (ps ++ [(nm, some v)]) rs ps' rs') : Parses (ws ++ (nm ++ (w1 ++ 61 :: (w2 ++ (v ++ rest))))) ps rs ps' rs' := by
  have hnz : ws ++ (nm ++ (w1 ++ 61 :: (w2 ++ (v ++ rest)))) ≠ [] := by simp [hne]
  have hz2 : (w1 ++ 61 :: (w2 ++ (v ++ rest))).length ≤ 200000 := by simp only [List.length_append, List.length_cons] at hz ⊢; omega
  have e9 : (w1 ++ [61] ++ w2).length = w1.length + 1 + w2.length := by simp only [List.length_append, List.length_singleton]
  have e8 : w1 ++ 61 :: (w2 ++ (v ++ rest)) = (w1 ++ [61] ++ w2) ++ (v ++ rest) := by simp only [List.append_assoc, List.cons_append, List.nil_append]
  have e1 : (w1 ++ 61 :: (w2 ++ (v ++ rest))).drop (w1.length + 1 + w2.length + v.length) = rest := by rw [e8, ← e9]; exact drop2
  have e2 : ((w1 ++ 61 :: (w2 ++ (v ++ rest))).take (w1.length + 1 + w2.length + v.length)).drop (w1.length + 1 + w2.length) = v := by rw [e8, ← e9]; exact take2
  refine .val (e := ws.length + nm.length) (gb := ws.length) (ge := ws.length + nm.length) (e2 := w1.length + 1 + w2.length + v.length) (gb2 := w1.length + 1 + w2.length) (ge2 := w1.length + 1 + w2.length + v.length) hnz hz hp hq (tok_L hw hn hne (eqTail_tok hw1) hz) ?_ ?_ ?_ ?_
  · rw [drop2]
    refine quoBare_L hw1 hw2 (fun c r e => ?_) hz2
    cases v with
    | nil => exact (hvn rfl).elim
    | cons a v => rw [List.cons_append] at e; injection e with e1 e2; exact e1 ▸ ⟨val_nsp (hv a (.head _)).1, (hv a (.head _)).2⟩
  · rw [drop2]; exact val_L hw1 hw2 (fun c hc => (hv c hc).1) hvn hr.val hz2
  · rw [drop2, e2]; exact rend_val fun c hc => (hv c hc).1
  · rw [drop2, take2, e1, e2]; exact h
theorem step_quo0 (hw : ∀ c ∈ ws, sp c = true) (hn : ∀ c ∈ nm, isTok c = true) (hne : nm ≠ []) (hw1 : ∀ c ∈ w1, sp c = true) (hw2 : ∀ c ∈ w2, sp c = true) (hv : ∀ c ∈ v, isQ c = true) (hS : SubOne escCode [] v out)
    (hz : (ws ++ (nm ++ (w1 ++ 61 :: (w2 ++ 34 :: (v ++ 34 :: rest))))).length ≤ 200000) (hp : ps.length ≤ 1000) (hq : rs.length ≤ 1000)
    (h : Parses rest (ps ++ [(nm, some out)]) rs ps' rs') : Parses (ws ++ (nm ++ (w1 ++ 61 :: (w2 ++ 34 :: (v ++ 34 :: rest))))) ps rs ps' rs' := by
  have hnz : ws ++ (nm ++ (w1 ++ 61 :: (w2 ++ 34 :: (v ++ 34 :: rest)))) ≠ [] := by simp [hne]
  have hz2 : (w1 ++ 61 :: (w2 ++ 34 :: (v ++ 34 :: rest))).length ≤ 200000 := by simp only [List.length_append, List.length_cons] at hz ⊢; omega
  have e9 : (w1 ++ [61] ++ w2 ++ [34]).length = w1.length + 1 + w2.length + 1 := by simp only [List.length_append, List.length_singleton]
  have e8 : w1 ++ 61 :: (w2 ++ 34 :: (v ++ 34 :: rest)) = (w1 ++ [61] ++ w2 ++ [34]) ++ (v ++ 34 :: rest) := by simp only [List.append_assoc, List.cons_append, List.nil_append]
  have e1 : (w1 ++ 61 :: (w2 ++ 34 :: (v ++ 34 :: rest))).drop (w1.length + 1 + w2.length + 1 + v.length + 1) = rest := by
    rw [← List.drop_drop, e8, ← e9, drop2]; rfl
  have e2 : ((w1 ++ 61 :: (w2 ++ 34 :: (v ++ 34 :: rest))).take (w1.length + 1 + w2.length + 1 + v.length)).drop (w1.length + 1 + w2.length + 1) = v := by rw [e8, ← e9]; exact take2
  refine .quo (e := ws.length + nm.length) (gb := ws.length) (ge := ws.length + nm.length) (e2 := w1.length + 1 + w2.length + 1 + v.length + 1) (gb2 := w1.length + 1 + w2.length + 1) (ge2 := w1.length + 1 + w2.length + 1 + v.length) (out := out) hnz hz hp hq (tok_L hw hn hne (eqTail_tok hw1) hz) ?_ ?_ ?_
  · rw [drop2]; exact quo0_L hw1 hw2 hv hz2
  · rw [drop2, e2]; exact hS
  · rw [drop2, take2, e1]; exact h
theorem step_quo1 {x : Nat} (hw : ∀ c ∈ ws, sp c = true) (hn : ∀ c ∈ nm, isTok c = true) (hne : nm ≠ []) (hw1 : ∀ c ∈ w1, sp c = true) (hw2 : ∀ c ∈ w2, sp c = true) (hv : ∀ c ∈ v, isQ c = true) (hx : x ≠ 10) (hv2 : ∀ c ∈ v2, isQ c = true) (hS : SubOne escCode [] (v ++ 92 :: x :: v2) out)
    (hz : (ws ++ (nm ++ (w1 ++ 61 :: (w2 ++ 34 :: (v ++ 92 :: x :: (v2 ++ 34 :: rest)))))).length ≤ 200000) (hp : ps.length ≤ 1000) (hq : rs.length ≤ 1000)
    (h : Parses rest (ps ++ [(nm, some out)]) rs ps' rs') : Parses (ws ++ (nm ++ (w1 ++ 61 :: (w2 ++ 34 :: (v ++ 92 :: x :: (v2 ++ 34 :: rest)))))) ps rs ps' rs' := by
  have hnz : ws ++ (nm ++ (w1 ++ 61 :: (w2 ++ 34 :: (v ++ 92 :: x :: (v2 ++ 34 :: rest))))) ≠ [] := by simp [hne]
  have hz2 : (w1 ++ 61 :: (w2 ++ 34 :: (v ++ 92 :: x :: (v2 ++ 34 :: rest)))).length ≤ 200000 := by simp only [List.length_append, List.length_cons] at hz ⊢; omega
  have e9 : (w1 ++ [61] ++ w2 ++ [34]).length = w1.length + 1 + w2.length + 1 := by simp only [List.length_append, List.length_singleton]
  have e8 : w1 ++ 61 :: (w2 ++ 34 :: (v ++ 92 :: x :: (v2 ++ 34 :: rest))) = (w1 ++ [61] ++ w2 ++ [34]) ++ ((v ++ 92 :: x :: v2) ++ 34 :: rest) := by simp only [List.append_assoc, List.cons_append, List.nil_append]
  have e7 : w1.length + 1 + w2.length + 1 + v.length + 1 + 1 + v2.length = w1.length + 1 + w2.length + 1 + (v ++ 92 :: x :: v2).length := by simp only [List.length_append, List.length_cons]; omega
  have e1 : (w1 ++ 61 :: (w2 ++ 34 :: (v ++ 92 :: x :: (v2 ++ 34 :: rest)))).drop (w1.length + 1 + w2.length + 1 + v.length + 1 + 1 + v2.length + 1) = rest := by
    rw [← List.drop_drop, e7, e8, ← e9, drop2]; rfl
  have e2 : ((w1 ++ 61 :: (w2 ++ 34 :: (v ++ 92 :: x :: (v2 ++ 34 :: rest)))).take (w1.length + 1 + w2.length + 1 + v.length + 1 + 1 + v2.length)).drop (w1.length + 1 + w2.length + 1) = v ++ 92 :: x :: v2 := by rw [e7, e8, ← e9]; exact take2
  refine .quo (e := ws.length + nm.length) (gb := ws.length) (ge := ws.length + nm.length) (e2 := w1.length + 1 + w2.length + 1 + v.length + 1 + 1 + v2.length + 1) (gb2 := w1.length + 1 + w2.length + 1) (ge2 := w1.length + 1 + w2.length + 1 + v.length + 1 + 1 + v2.length) (out := out) hnz hz hp hq (tok_L hw hn hne (eqTail_tok hw1) hz) ?_ ?_ ?_
  · rw [drop2]; exact quo1_L hw1 hw2 hv hx hv2 hz2
  · rw [drop2, e2]; exact hS
  · rw [drop2, take2, e1]; exact h
theorem step_junk {js : List Nat} (hw : ∀ c ∈ ws, sp c = true) (hj : ∀ c ∈ js, isJunk c = true) (hr : Heads (fun c => isJunk c = false) rest) (hz : (ws ++ 59 :: (js ++ rest)).length ≤ 200000) (hp : ps.length ≤ 1000) (hq : rs.length ≤ 1000)
    (h : Parses rest ps rs ps' rs') : Parses (ws ++ 59 :: (js ++ rest)) ps rs ps' rs' := by
  have hnz : ws ++ 59 :: (js ++ rest) ≠ [] := by simp
  have e8 : ws ++ 59 :: (js ++ rest) = (ws ++ 59 :: js) ++ rest := by simp only [List.append_assoc, List.cons_append]
  have hall : ∀ c ∈ ws ++ 59 :: js, isJunk c = true := by
    intro c hc
    rcases List.mem_append.mp hc with hc | hc
    · unfold isJunk; rw [show Unicode.isSpace c = true from hw c hc]; simp
    · rcases List.mem_cons.mp hc with rfl | hc
      · decide +kernel
      · exact hj c hc
  refine .junk (k := ws.length) (j := (ws ++ 59 :: js).length) hnz hz hp hq (tokMiss_L hw (heads_cons ⟨s59, t59⟩) hz) (lst_L hw (heads_cons s59)) ?_ ⟨?_, ?_, ?_, ?_⟩ ?_
  · rw [List.drop_left]; rfl
  · simp only [List.length_append, List.length_cons]; omega
  · rw [e8]; simp only [List.length_append]; omega
  · intro i hi
    rw [e8]
    have := part_all (a := []) (b := ws ++ 59 :: js) (c := rest) (f := isJunk) hall i hi
    simpa only [List.nil_append, List.length_nil, Nat.zero_add] using this
  · rw [e8]
    have h := heads_at (a := ws ++ 59 :: js) hr
    rw [show (ws ++ 59 :: js ++ rest).toArray.size = (ws ++ 59 :: js ++ rest).length by simp] at h
    exact h
  · rw [e8, List.drop_left]; exact h
theorem step_comma {r : List Nat} (hw : ∀ c ∈ ws, sp c = true) (hps : ps ≠ []) (hz : (ws ++ 44 :: r).length ≤ 200000) (hp : ps.length ≤ 1000) (hq : rs.length ≤ 1000)
    (h : Parses r [] (rs ++ [ps]) ps' rs') : Parses (ws ++ 44 :: r) ps rs ps' rs' := by
  refine .comma (k := ws.length) (by simp) hz hp hq hps (tokMiss_L hw (heads_cons ⟨s44, t44⟩) hz) (lst_L hw (heads_cons s44)) ?_ ?_
  · rw [List.drop_left]; rfl
  · rw [List.drop_left]; exact h
end
end Mine
-- part PC0
namespace Mine
open PySem PySem.Builtin
theorem p64 (n : Nat) (h : n < 10000 := by decide) : n < 2 ^ 64 := Nat.lt_trans h (by decide)
theorem esc_no {v : List Nat} (h1 : (Sre.M.runFor 60 (Sre.forSearch escCode v.toArray 1 0 v.length false)).outcome.isSome = true) (h2 : Failed (Sre.M.runFor 60 (Sre.forSearch escCode v.toArray 1 0 v.length false))) : SubOne escCode [] v v :=
  .none (p64 60) ⟨60, Nat.le_refl _, h1, h2⟩
theorem ce0 : SubOne escCode [] [] [] := esc_no (by decide +kernel) ⟨_, by with_unfolding_all rfl, trivial⟩
theorem ce1 : SubOne escCode [] [98, 32, 99] [98, 32, 99] := esc_no (by decide +kernel) ⟨_, by with_unfolding_all rfl, trivial⟩
theorem ce2 : SubOne escCode [] [49, 44, 50, 59, 51, 61, 52] [49, 44, 50, 59, 51, 61, 52] := esc_no (by decide +kernel) ⟨_, by with_unfolding_all rfl, trivial⟩
theorem ce3 : SubOne escCode [] [233] [233] := esc_no (by decide +kernel) ⟨_, by with_unfolding_all rfl, trivial⟩
theorem ce4 : SubOne escCode [] [116, 9, 116] [116, 9, 116] := esc_no (by decide +kernel) ⟨_, by with_unfolding_all rfl, trivial⟩
theorem ce5 : SubOne escCode [] [113, 92, 34] [113, 34] :=
  .one (x := [113, 92, 34]) (b := 1) (e := 3) (gb := 2) (ge := 3) (p64 60) (p64 60) ⟨60, Nat.le_refl _, by decide +kernel, ⟨_, by with_unfolding_all rfl, trivial⟩, by decide +kernel, by decide +kernel, by decide +kernel, by decide +kernel, by decide +kernel⟩
    ⟨60, Nat.le_refl _, by decide +kernel, ⟨_, by with_unfolding_all rfl, trivial⟩⟩ (by decide) (by decide) (by decide) (by decide) (by decide)
theorem ce6 : SubOne escCode [] [97, 92, 92, 98] [97, 92, 98] :=
  .one (x := [97, 92, 92, 98]) (b := 1) (e := 3) (gb := 2) (ge := 3) (p64 60) (p64 60) ⟨60, Nat.le_refl _, by decide +kernel, ⟨_, by with_unfolding_all rfl, trivial⟩, by decide +kernel, by decide +kernel, by decide +kernel, by decide +kernel, by decide +kernel⟩
    ⟨60, Nat.le_refl _, by decide +kernel, ⟨_, by with_unfolding_all rfl, trivial⟩⟩ (by decide) (by decide) (by decide) (by decide) (by decide)
theorem je_no {v : List Nat} (h1 : (Sre.M.runFor 60 (Sre.forSearch jeCode v.toArray 1 0 v.length false)).outcome.isSome = true) (h2 : Failed (Sre.M.runFor 60 (Sre.forSearch jeCode v.toArray 1 0 v.length false))) : SubOne jeCode [92] v v :=
  .none (p64 60) ⟨60, Nat.le_refl _, h1, h2⟩
theorem cj0 : SubOne jeCode [92] [] [] := je_no (by decide +kernel) ⟨_, by with_unfolding_all rfl, trivial⟩
theorem cj1 : SubOne jeCode [92] [98, 32, 99] [98, 32, 99] := je_no (by decide +kernel) ⟨_, by with_unfolding_all rfl, trivial⟩
theorem cj2 : SubOne jeCode [92] [49, 44, 50, 59, 51, 61, 52] [49, 44, 50, 59, 51, 61, 52] := je_no (by decide +kernel) ⟨_, by with_unfolding_all rfl, trivial⟩
theorem cj3 : SubOne jeCode [92] [233] [233] := je_no (by decide +kernel) ⟨_, by with_unfolding_all rfl, trivial⟩
theorem cj4 : SubOne jeCode [92] [116, 9, 116] [116, 9, 116] := je_no (by decide +kernel) ⟨_, by with_unfolding_all rfl, trivial⟩
theorem cj5 : SubOne jeCode [92] [113, 34] [113, 92, 34] :=
  .one (x := [113, 34]) (b := 1) (e := 2) (gb := 1) (ge := 2) (p64 60) (p64 60) ⟨60, Nat.le_refl _, by decide +kernel, ⟨_, by with_unfolding_all rfl, trivial⟩, by decide +kernel, by decide +kernel, by decide +kernel, by decide +kernel, by decide +kernel⟩
    ⟨60, Nat.le_refl _, by decide +kernel, ⟨_, by with_unfolding_all rfl, trivial⟩⟩ (by decide) (by decide) (by decide) (by decide) (by decide)
theorem cj6 : SubOne jeCode [92] [97, 92, 98] [97, 92, 92, 98] :=
  .one (x := [97, 92, 98]) (b := 1) (e := 2) (gb := 1) (ge := 2) (p64 60) (p64 60) ⟨60, Nat.le_refl _, by decide +kernel, ⟨_, by with_unfolding_all rfl, trivial⟩, by decide +kernel, by decide +kernel, by decide +kernel, by decide +kernel, by decide +kernel⟩
    ⟨60, Nat.le_refl _, by decide +kernel, ⟨_, by with_unfolding_all rfl, trivial⟩⟩ (by decide) (by decide) (by decide) (by decide) (by decide)
theorem cfull_no {v : List Nat} (h1 : (Sre.M.runFor 60 (Sre.forMatch jtCode v.toArray 0 0 v.length true false)).outcome.isSome = true) (h2 : Failed (Sre.M.runFor 60 (Sre.forMatch jtCode v.toArray 0 0 v.length true false))) : FullNo v := ⟨60, p64 60, 60, Nat.le_refl _, h1, h2⟩
theorem cf0 : FullNo [] := cfull_no (by decide +kernel) ⟨_, by with_unfolding_all rfl, trivial⟩
theorem cf1 : FullNo [98, 32, 99] := cfull_no (by decide +kernel) ⟨_, by with_unfolding_all rfl, trivial⟩
theorem cf2 : FullNo [49, 44, 50, 59, 51, 61, 52] := cfull_no (by decide +kernel) ⟨_, by with_unfolding_all rfl, trivial⟩
theorem cf3 : FullNo [233] := cfull_no (by decide +kernel) ⟨_, by with_unfolding_all rfl, trivial⟩
theorem cf4 : FullNo [116, 9, 116] := cfull_no (by decide +kernel) ⟨_, by with_unfolding_all rfl, trivial⟩
theorem cf5 : FullNo [113, 34] := cfull_no (by decide +kernel) ⟨_, by with_unfolding_all rfl, trivial⟩
theorem cf6 : FullNo [97, 92, 98] := cfull_no (by decide +kernel) ⟨_, by with_unfolding_all rfl, trivial⟩
theorem cf7 : FullYes [98] := ⟨60, 0, 1, p64 60, 60, Nat.le_refl _, by decide +kernel, ⟨_, by with_unfolding_all rfl, trivial⟩, by decide +kernel, by decide +kernel, by decide +kernel, by decide +kernel, by decide +kernel⟩
theorem cf8 : FullYes [33, 126] := ⟨60, 0, 2, p64 60, 60, Nat.le_refl _, by decide +kernel, ⟨_, by with_unfolding_all rfl, trivial⟩, by decide +kernel, by decide +kernel, by decide +kernel, by decide +kernel, by decide +kernel⟩
end Mine
-- part PC
namespace Mine
open PySem PySem.Builtin
def MenuP (p : Pr) : Prop := p.1 ∈ namesL ∧ p.2 ∈ valuesL
theorem mem_getD {α : Type} {l : List α} {k : Nat} {d : α} (h : k < l.length) : l.getD k d ∈ l := by
  rw [List.getD_eq_getElem?_getD, List.getElem?_eq_getElem h]; exact List.getElem_mem h
theorem pairOf_menu (n : Int) : MenuP (pairOf n) := by
  have m1 : 0 ≤ n.fmod 5 := Int.fmod_nonneg_of_pos _ (by decide)
  have m2 : n.fmod 5 < 5 := Int.fmod_lt_of_pos _ (by decide)
  have m3 : 0 ≤ (n.fdiv 5).fmod 10 := Int.fmod_nonneg_of_pos _ (by decide)
  have m4 : (n.fdiv 5).fmod 10 < 10 := Int.fmod_lt_of_pos _ (by decide)
  exact ⟨mem_getD (by show _ < 5; omega), mem_getD (by show _ < 10; omega)⟩
theorem menu_nm : ∀ nm ∈ namesL, (∀ c ∈ nm, isTok c = true) ∧ (∀ c ∈ nm, isJunk c = false) ∧ nm ≠ [] ∧ nm.length ≤ 9 := by decide +kernel
theorem lw0 : lwOf [] = [34, 34] := by decide +kernel
theorem lw1 : lwOf [98] = [98] := by decide +kernel
theorem lw2 : lwOf [98, 32, 99] = [34, 98, 32, 99, 34] := by decide +kernel
theorem lw3 : lwOf [113, 34] = [34, 113, 92, 34, 34] := by decide +kernel
theorem lw4 : lwOf [97, 92, 98] = [34, 97, 92, 92, 98, 34] := by decide +kernel
theorem lw5 : lwOf [49, 44, 50, 59, 51, 61, 52] = [34, 49, 44, 50, 59, 51, 61, 52, 34] := by decide +kernel
theorem lw6 : lwOf [233] = [34, 233, 34] := by decide +kernel
theorem lw7 : lwOf [116, 9, 116] = [34, 116, 9, 116, 34] := by decide +kernel
theorem lw8 : lwOf [33, 126] = [33, 126] := by decide +kernel
def tailOf (w1 w2 : List Nat) (p : Pr) : List Nat := match p.2 with
  | none => []
  | some v => w1 ++ 61 :: (w2 ++ lwOf v)
theorem tail_eq {w1 w2 nm v x rest : List Nat} (h : lwOf v = x) : tailOf w1 w2 (nm, some v) ++ rest = w1 ++ 61 :: (w2 ++ (x ++ rest)) := by
  subst h
  show (w1 ++ 61 :: (w2 ++ lwOf v)) ++ rest = _
  simp only [List.append_assoc, List.cons_append]
section
variable {ws w1 w2 rest : List Nat} {ps ps' : List Pr} {rs rs' : List (List Pr)} {p : Pr}
theorem step_pair (hm : MenuP p) (hw : ∀ c ∈ ws, sp c = true) (hw1 : ∀ c ∈ w1, sp c = true) (hw2 : ∀ c ∈ w2, sp c = true) (hr : Stops rest) (hz : (ws ++ (p.1 ++ (tailOf w1 w2 p ++ rest))).length ≤ 200000) (hp : ps.length ≤ 1000) (hq : rs.length ≤ 1000)
    (h : Parses rest (ps ++ [p]) rs ps' rs') : Parses (ws ++ (p.1 ++ (tailOf w1 w2 p ++ rest))) ps rs ps' rs' := by
  obtain ⟨nm, val⟩ := p
  obtain ⟨h1, h2⟩ := hm
  obtain ⟨n1, _, n2, _⟩ := menu_nm nm h1
  dsimp only at hz ⊢
  simp only [valuesL, List.mem_cons, List.not_mem_nil, or_false] at h2
  rcases h2 with rfl | rfl | rfl | rfl | rfl | rfl | rfl | rfl | rfl | rfl
  · exact step_bare hw n1 n2 hr hz hp hq h
  · rw [tail_eq lw0] at hz ⊢; exact step_quo0 (v := []) hw n1 n2 hw1 hw2 (by decide +kernel) ce0 hz hp hq h
  · rw [tail_eq lw1] at hz ⊢; exact step_val hw n1 n2 hw1 hw2 (by decide +kernel) (by decide) hr hz hp hq h
  · rw [tail_eq lw2] at hz ⊢; exact step_quo0 (v := [98, 32, 99]) hw n1 n2 hw1 hw2 (by decide +kernel) ce1 hz hp hq h
  · rw [tail_eq lw3] at hz ⊢; exact step_quo1 (v := [113]) (x := 34) (v2 := []) hw n1 n2 hw1 hw2 (by decide +kernel) (by decide) (by decide +kernel) ce5 hz hp hq h
  · rw [tail_eq lw4] at hz ⊢; exact step_quo1 (v := [97]) (x := 92) (v2 := [98]) hw n1 n2 hw1 hw2 (by decide +kernel) (by decide) (by decide +kernel) ce6 hz hp hq h
  · rw [tail_eq lw5] at hz ⊢; exact step_quo0 (v := [49, 44, 50, 59, 51, 61, 52]) hw n1 n2 hw1 hw2 (by decide +kernel) ce2 hz hp hq h
  · rw [tail_eq lw6] at hz ⊢; exact step_quo0 (v := [233]) hw n1 n2 hw1 hw2 (by decide +kernel) ce3 hz hp hq h
  · rw [tail_eq lw7] at hz ⊢; exact step_quo0 (v := [116, 9, 116]) hw n1 n2 hw1 hw2 (by decide +kernel) ce4 hz hp hq h
  · rw [tail_eq lw8] at hz ⊢; exact step_val hw n1 n2 hw1 hw2 (by decide +kernel) (by decide) hr hz hp hq h
end
theorem told_eq {nm v x : List Nat} (h : lwOf v = x) : toldOne (nm, some v) = [] ++ nm ++ [61] ++ x := by
  subst h
  show nm ++ ([61] ++ lwOf v) = _
  simp only [List.append_assoc, List.nil_append]
theorem join_menu {p : Pr} (hm : MenuP p) : JoinOne p (toldOne p) := by
  obtain ⟨nm, val⟩ := p
  obtain ⟨h1, h2⟩ := hm
  obtain ⟨_, _, _, n3⟩ := menu_nm nm h1
  have n4 : nm.length ≤ 1000 := Nat.le_trans n3 (by decide)
  simp only [valuesL, List.mem_cons, List.not_mem_nil, or_false] at h2
  rcases h2 with rfl | rfl | rfl | rfl | rfl | rfl | rfl | rfl | rfl | rfl
  · rw [show toldOne (nm, none) = nm from List.append_nil _]; exact .none n4
  · rw [told_eq lw0]; exact .quo n4 (by decide) cf0 cj0 (by decide)
  · rw [told_eq lw1]; exact .full n4 (by decide) cf7
  · rw [told_eq lw2]; exact .quo n4 (by decide) cf1 cj1 (by decide)
  · rw [told_eq lw3]; exact .quo n4 (by decide) cf5 cj5 (by decide)
  · rw [told_eq lw4]; exact .quo n4 (by decide) cf6 cj6 (by decide)
  · rw [told_eq lw5]; exact .quo n4 (by decide) cf2 cj2 (by decide)
  · rw [told_eq lw6]; exact .quo n4 (by decide) cf3 cj3 (by decide)
  · rw [told_eq lw7]; exact .quo n4 (by decide) cf4 cj4 (by decide)
  · rw [told_eq lw8]; exact .full n4 (by decide) cf8
theorem lw_len : ∀ v ∈ valuesL, ∀ x ∈ v, (lwOf x).length ≤ 9 := by decide +kernel
theorem goodP_menu {p : Pr} (hm : MenuP p) : GoodP p := by
  have h : ∀ nm ∈ namesL, ∀ v ∈ valuesL, PyData.canLay0 (prD (nm, v)) = true := by decide +kernel
  exact h _ hm.1 _ hm.2
theorem goodV_menu {p : Pr} (hm : MenuP p) : GoodV p := by
  obtain ⟨nm, val⟩ := p
  obtain ⟨h1, h2⟩ := hm
  obtain ⟨_, _, _, n3⟩ := menu_nm nm h1
  have h : ∀ v ∈ valuesL, ∀ x ∈ v, x.length ≤ 1000 ∧ (lwOf x).length ≤ 3000 ∧ ∀ c ∈ x, PyData.canLay0 (.str (ofL [c])) = true := by decide +kernel
  refine ⟨Nat.le_trans n3 (by decide), ?_⟩
  cases val with
  | none => trivial
  | some v => exact h _ h2 v rfl
end Mine
-- part PD
namespace Mine
open PySem PySem.Builtin
abbrev Sps (l : List Nat) : Prop := ∀ c ∈ l, sp c = true
theorem sps_nil : Sps [] := fun _ h => nomatch h
theorem sps32 : Sps [32] := by decide +kernel
theorem told_tail (p : Pr) : toldOne p = p.1 ++ tailOf [] [] p := by
  obtain ⟨nm, _ | v⟩ := p <;> rfl
theorem told_len {p : Pr} (hm : MenuP p) : (toldOne p).length ≤ 30 := by
  obtain ⟨nm, val⟩ := p
  have h1 := (menu_nm nm hm.1).2.2.2
  cases val with
  | none => show (nm ++ []).length ≤ 30; simp; omega
  | some v =>
    have h2 := lw_len _ hm.2 v rfl
    show (nm ++ ([61] ++ lwOf v)).length ≤ 30
    simp only [List.length_append, List.length_cons, List.length_nil]; omega
def sepAt (n : Nat) : List Nat := sel3 [32, 59, 32] [59] [59, 59, 32] n
def btwAt (n : Nat) : List Nat := sel3 [32, 61, 32] [61] [61, 32] n
theorem sep_eq (n : Nat) : ∃ w js, Sps w ∧ (∀ c ∈ js, isJunk c = true) ∧ sepAt n = w ++ 59 :: js ∧ (sepAt n).length ≤ 3 := by
  unfold sepAt sel3
  split
  · exact ⟨[32], [32], by decide +kernel, by decide +kernel, rfl, by decide⟩
  · split
    · exact ⟨[], [], by decide +kernel, by decide +kernel, rfl, by decide⟩
    · exact ⟨[], [59, 32], by decide +kernel, by decide +kernel, rfl, by decide⟩
theorem btw_eq (n : Nat) : ∃ w1 w2, Sps w1 ∧ Sps w2 ∧ btwAt n = w1 ++ 61 :: w2 ∧ (btwAt n).length ≤ 3 := by
  unfold btwAt sel3
  split
  · exact ⟨[32], [32], by decide +kernel, by decide +kernel, rfl, by decide⟩
  · split
    · exact ⟨[], [], by decide +kernel, by decide +kernel, rfl, by decide⟩
    · exact ⟨[], [32], by decide +kernel, by decide +kernel, rfl, by decide⟩
def chunk (n : Nat) (p : Pr) : List Nat := match p.2 with
  | none => p.1 ++ sepAt n
  | some v => p.1 ++ (btwAt n ++ (lwOf v ++ sepAt n))
theorem loose_chunk (line : List Nat) (p : Pr) : looseOne line p = line ++ chunk line.length p := by
  obtain ⟨nm, _ | v⟩ := p
  · show line ++ nm ++ [] ++ sepAt line.length = line ++ (nm ++ sepAt line.length)
    simp only [List.append_assoc, List.nil_append]
  · show line ++ nm ++ (btwAt line.length ++ lwOf v) ++ sepAt line.length = line ++ (nm ++ (btwAt line.length ++ (lwOf v ++ sepAt line.length)))
    simp only [List.append_assoc]
theorem chunk_len {p : Pr} (hm : MenuP p) (n : Nat) : (chunk n p).length ≤ 30 := by
  obtain ⟨nm, val⟩ := p
  have h1 := (menu_nm nm hm.1).2.2.2
  obtain ⟨_, _, _, _, _, h3⟩ := sep_eq n
  obtain ⟨_, _, _, _, _, h4⟩ := btw_eq n
  cases val with
  | none => show (nm ++ sepAt n).length ≤ 30; simp only [List.length_append]; omega
  | some v =>
    have h2 := lw_len _ hm.2 v rfl
    show (nm ++ (btwAt n ++ (lwOf v ++ sepAt n))).length ≤ 30
    simp only [List.length_append]; omega
theorem chunk_eq (n : Nat) (p : Pr) (rest : List Nat) : ∃ w1 w2 w js, Sps w1 ∧ Sps w2 ∧ Sps w ∧ (∀ c ∈ js, isJunk c = true) ∧ chunk n p ++ rest = p.1 ++ (tailOf w1 w2 p ++ (w ++ 59 :: (js ++ rest))) := by
  obtain ⟨w, js, h1, h2, h3, _⟩ := sep_eq n
  obtain ⟨w1, w2, h4, h5, h6, _⟩ := btw_eq n
  refine ⟨w1, w2, w, js, h4, h5, h1, h2, ?_⟩
  obtain ⟨nm, _ | v⟩ := p
  · show (nm ++ sepAt n) ++ rest = nm ++ ([] ++ (w ++ 59 :: (js ++ rest)))
    rw [h3]; simp only [List.append_assoc, List.nil_append, List.cons_append]
  · show (nm ++ (btwAt n ++ (lwOf v ++ sepAt n))) ++ rest = nm ++ ((w1 ++ 61 :: (w2 ++ lwOf v)) ++ (w ++ 59 :: (js ++ rest)))
    rw [h3, h6]; simp only [List.append_assoc, List.cons_append]
def looseTail : Nat → List Pr → List Nat
  | _, [] => []
  | n, p :: r => chunk n p ++ looseTail (n + (chunk n p).length) r
theorem loose_fold : ∀ (ps : List Pr) (line : List Nat), ps.foldl looseOne line = line ++ looseTail line.length ps
  | [], line => (List.append_nil _).symm
  | p :: r, line => by
    rw [List.foldl_cons, loose_fold r, loose_chunk, List.length_append, List.append_assoc]; rfl
theorem looseTail_len : ∀ (ps : List Pr) (n : Nat), (∀ p ∈ ps, MenuP p) → (looseTail n ps).length ≤ 30 * ps.length
  | [], _, _ => Nat.zero_le _
  | p :: r, n, h => by
    have h1 := chunk_len (h p (.head _)) n
    have h2 := looseTail_len r (n + (chunk n p).length) fun q hq => h q (.tail _ hq)
    show (chunk n p ++ looseTail (n + (chunk n p).length) r).length ≤ _
    rw [List.length_append, List.length_cons]; omega
theorem stops_semi {w r : List Nat} (hw : Sps w) : Stops (w ++ 59 :: r) := ⟨w, 59 :: r, rfl, hw, heads_cons (.inl rfl)⟩
theorem nm_junk {p : Pr} (hm : MenuP p) {r : List Nat} : Heads (fun c => isJunk c = false) (p.1 ++ r) := by
  obtain ⟨_, h1, h2, _⟩ := menu_nm p.1 hm.1
  intro c r' e
  cases h : p.1 with
  | nil => exact (h2 h).elim
  | cons a t => rw [h, List.cons_append] at e; injection e with e1 _; exact e1 ▸ h1 a (by rw [h]; exact .head _)
/-- behind a loose row -/
def RowEnd (rest rest' : List Nat) : Prop := (rest = [] ∧ rest' = []) ∨ ∃ r, rest = 32 :: 44 :: r ∧ rest' = 44 :: r
theorem j44 : isJunk 44 = false := by decide +kernel
theorem j32 : isJunk 32 = true := by decide +kernel
theorem loose_rowP {rest rest' : List Nat} {ps' : List Pr} {rs rs' : List (List Pr)} (hE : RowEnd rest rest') (hq : rs.length ≤ 1000) :
    ∀ (ps : List Pr) (n : Nat) (ws : List Nat) (acc : List Pr), ps ≠ [] → (∀ p ∈ ps, MenuP p) → Sps ws → (ws ++ (looseTail n ps ++ rest)).length ≤ 200000 → acc.length + ps.length ≤ 1000 →
      Parses rest' (acc ++ ps) rs ps' rs' → Parses (ws ++ (looseTail n ps ++ rest)) acc rs ps' rs'
  | [], _, _, _, h, _, _, _, _, _ => (h rfl).elim
  | [p], n, ws, acc, _, hm, hw, hz, hl, h => by
    have hmp := hm p (.head _)
    obtain ⟨w1, w2, w, js, a1, a2, a3, a4, e⟩ := chunk_eq n p rest
    have e0 : looseTail n [p] = chunk n p := List.append_nil _
    rw [e0, e] at hz ⊢
    have hz2 : (w ++ 59 :: (js ++ rest)).length ≤ 200000 := by simp only [List.length_append, List.length_cons] at hz ⊢; omega
    have hl2 : (acc ++ [p]).length ≤ 1000 := by simp only [List.length_append, List.length_cons, List.length_nil] at hl ⊢; omega
    refine step_pair hmp hw a1 a2 (stops_semi a3) hz (by omega) hq ?_
    rcases hE with ⟨rfl, rfl⟩ | ⟨r, rfl, rfl⟩
    · exact step_junk a3 a4 heads_nil hz2 hl2 hq h
    · have e2 : js ++ 32 :: 44 :: r = (js ++ [32]) ++ 44 :: r := by simp only [List.append_assoc, List.cons_append, List.nil_append]
      rw [e2] at hz2 ⊢
      refine step_junk a3 (fun c hc => ?_) (heads_cons j44) hz2 hl2 hq h
      rcases List.mem_append.mp hc with hc | hc
      · exact a4 c hc
      · rw [List.mem_singleton.mp hc]; exact j32
  | p :: q :: r, n, ws, acc, _, hm, hw, hz, hl, h => by
    have hmp := hm p (.head _)
    have hmq := hm q (.tail _ (.head _))
    obtain ⟨w1, w2, w, js, a1, a2, a3, a4, e⟩ := chunk_eq n p (looseTail (n + (chunk n p).length) (q :: r) ++ rest)
    have e0 : looseTail n (p :: q :: r) ++ rest = chunk n p ++ (looseTail (n + (chunk n p).length) (q :: r) ++ rest) := List.append_assoc _ _ _
    rw [e0, e] at hz ⊢
    have hz2 : (w ++ 59 :: (js ++ (looseTail (n + (chunk n p).length) (q :: r) ++ rest))).length ≤ 200000 := by simp only [List.length_append, List.length_cons] at hz ⊢; omega
    have hz3 : ([] ++ (looseTail (n + (chunk n p).length) (q :: r) ++ rest)).length ≤ 200000 := by rw [List.nil_append]; simp only [List.length_append, List.length_cons] at hz2 ⊢; omega
    simp only [List.length_cons] at hl
    have hl2 : (acc ++ [p]).length ≤ 1000 := by simp only [List.length_append, List.length_cons, List.length_nil]; omega
    refine step_pair hmp hw a1 a2 (stops_semi a3) hz (by omega) hq (step_junk a3 a4 ?_ hz2 hl2 hq ?_)
    · obtain ⟨x1, x2, x3, x4, _, _, _, _, e3⟩ := chunk_eq (n + (chunk n p).length) q (looseTail (n + (chunk n p).length + (chunk (n + (chunk n p).length) q).length) r ++ rest)
      have e4 : looseTail (n + (chunk n p).length) (q :: r) ++ rest = chunk (n + (chunk n p).length) q ++ (looseTail (n + (chunk n p).length + (chunk (n + (chunk n p).length) q).length) r ++ rest) := List.append_assoc _ _ _
      rw [e4, e3]
      exact nm_junk hmq
    · exact loose_rowP hE hq (q :: r) _ [] (acc ++ [p]) (List.cons_ne_nil _ _) (fun x hx => hm x (.tail _ hx)) sps_nil hz3 (by simp only [List.length_append, List.length_cons, List.length_nil]; omega) (by rw [List.append_assoc]; exact h)
theorem strict_rowP {rest : List Nat} {ps' : List Pr} {rs rs' : List (List Pr)} (hE : Heads (fun c => c = 44) rest) (hq : rs.length ≤ 1000) :
    ∀ (ps : List Pr) (ws : List Nat) (acc : List Pr), ps ≠ [] → (∀ p ∈ ps, MenuP p) → Sps ws → (ws ++ (joinL [59, 32] (ps.map toldOne) ++ rest)).length ≤ 200000 → acc.length + ps.length ≤ 1000 →
      Parses rest (acc ++ ps) rs ps' rs' → Parses (ws ++ (joinL [59, 32] (ps.map toldOne) ++ rest)) acc rs ps' rs'
  | [], _, _, h, _, _, _, _, _ => (h rfl).elim
  | [p], ws, acc, _, hm, hw, hz, hl, h => by
    have hmp := hm p (.head _)
    have e0 : joinL [59, 32] ([p].map toldOne) ++ rest = p.1 ++ (tailOf [] [] p ++ rest) := by
      show toldOne p ++ rest = _
      rw [told_tail, List.append_assoc]
    rw [e0] at hz ⊢
    simp only [List.length_cons, List.length_nil] at hl
    exact step_pair hmp hw sps_nil sps_nil ⟨[], rest, rfl, sps_nil, heads_mono (fun _ z => .inr z) hE⟩ hz (by omega) hq h
  | p :: q :: r, ws, acc, _, hm, hw, hz, hl, h => by
    have hmp := hm p (.head _)
    have hmq := hm q (.tail _ (.head _))
    have e0 : joinL [59, 32] ((p :: q :: r).map toldOne) ++ rest = p.1 ++ (tailOf [] [] p ++ ([] ++ 59 :: ([32] ++ (joinL [59, 32] ((q :: r).map toldOne) ++ rest)))) := by
      show (toldOne p ++ [59, 32] ++ joinL [59, 32] ((q :: r).map toldOne)) ++ rest = _
      rw [told_tail]; simp only [List.append_assoc, List.cons_append, List.nil_append]
    rw [e0] at hz ⊢
    have hz2 : ([] ++ 59 :: ([32] ++ (joinL [59, 32] ((q :: r).map toldOne) ++ rest))).length ≤ 200000 := by simp only [List.length_append, List.length_cons] at hz ⊢; omega
    have hz3 : ([] ++ (joinL [59, 32] ((q :: r).map toldOne) ++ rest)).length ≤ 200000 := by simp only [List.length_append, List.length_cons, List.length_nil] at hz2 ⊢; omega
    simp only [List.length_cons] at hl
    have hl2 : (acc ++ [p]).length ≤ 1000 := by simp only [List.length_append, List.length_cons, List.length_nil]; omega
    refine step_pair hmp hw sps_nil sps_nil (stops_semi sps_nil) hz (by omega) hq (step_junk sps_nil (fun c hc => by rw [List.mem_singleton.mp hc]; exact j32) ?_ hz2 hl2 hq ?_)
    · cases r with
      | nil =>
        show Heads _ (toldOne q ++ rest)
        rw [told_tail, List.append_assoc]; exact nm_junk hmq
      | cons q2 r =>
        show Heads _ ((toldOne q ++ [59, 32] ++ joinL [59, 32] ((q2 :: r).map toldOne)) ++ rest)
        rw [told_tail, List.append_assoc, List.append_assoc, List.append_assoc]; exact nm_junk hmq
    · exact strict_rowP hE hq (q :: r) [] (acc ++ [p]) (List.cons_ne_nil _ _) (fun x hx => hm x (.tail _ hx)) sps_nil hz3 (by simp only [List.length_append, List.length_cons, List.length_nil]; omega) (by rw [List.append_assoc]; exact h)
theorem rows_snoc {ps : List Pr} {rs : List (List Pr)} (h : ps ≠ []) : rowsOf ps rs = rs ++ [ps] := by
  cases ps with
  | nil => exact (h rfl).elim
  | cons _ _ => rfl
abbrev rowText (ps : List Pr) : List Nat := joinL [59, 32] (ps.map toldOne)
theorem strict_textP : ∀ (rows : List (List Pr)) (ws : List Nat) (rs : List (List Pr)), rows ≠ [] → (∀ ps ∈ rows, ps ≠ [] ∧ ps.length ≤ 1000 ∧ ∀ p ∈ ps, MenuP p) → Sps ws → (ws ++ joinL [44, 32] (rows.map rowText)).length ≤ 200000 → rs.length + rows.length ≤ 1000 →
    ∃ ps' rs', Parses (ws ++ joinL [44, 32] (rows.map rowText)) [] rs ps' rs' ∧ rowsOf ps' rs' = rs ++ rows
  | [], _, _, h, _, _, _, _ => (h rfl).elim
  | [ps], ws, rs, _, hm, hw, hz, hl => by
    obtain ⟨h1, h2, h3⟩ := hm ps (.head _)
    have e0 : joinL [44, 32] ([ps].map rowText) = rowText ps ++ [] := (List.append_nil _).symm
    rw [e0] at hz ⊢
    simp only [List.length_cons, List.length_nil] at hl
    exact ⟨ps, rs, strict_rowP heads_nil (by omega) ps ws [] h1 h3 hw hz (by simpa using h2) (.done h2 (by omega)), rows_snoc h1⟩
  | ps :: qs :: r, ws, rs, _, hm, hw, hz, hl => by
    obtain ⟨h1, h2, h3⟩ := hm ps (.head _)
    have e0 : joinL [44, 32] ((ps :: qs :: r).map rowText) = rowText ps ++ ([] ++ 44 :: ([32] ++ joinL [44, 32] ((qs :: r).map rowText))) := by
      show rowText ps ++ [44, 32] ++ joinL [44, 32] ((qs :: r).map rowText) = _
      simp only [List.append_assoc, List.cons_append, List.nil_append]
    rw [e0] at hz ⊢
    have hz2 : ([] ++ 44 :: ([32] ++ joinL [44, 32] ((qs :: r).map rowText))).length ≤ 200000 := by simp only [List.length_append, List.length_cons] at hz ⊢; omega
    have hz3 : ([32] ++ joinL [44, 32] ((qs :: r).map rowText)).length ≤ 200000 := by simp only [List.length_append, List.length_cons] at hz2 ⊢; omega
    simp only [List.length_cons] at hl
    obtain ⟨ps', rs', H, e⟩ := strict_textP (qs :: r) [32] (rs ++ [ps]) (List.cons_ne_nil _ _) (fun x hx => hm x (.tail _ hx)) sps32 hz3 (by simp only [List.length_append, List.length_cons, List.length_nil]; omega)
    refine ⟨ps', rs', strict_rowP (heads_cons rfl) (by omega) ps ws [] h1 h3 hw hz (by simpa using h2) (step_comma sps_nil h1 hz2 h2 (by omega) H), ?_⟩
    rw [e, List.append_assoc]; rfl
theorem loose_textP : ∀ (rows : List (List Pr)) (k : Nat) (ws : List Nat) (rs : List (List Pr)), rows ≠ [] → (∀ ps ∈ rows, ps ≠ [] ∧ ps.length ≤ 1000 ∧ ∀ p ∈ ps, MenuP p) → Sps ws → (ws ++ joinL [32, 44, 32] (looseFrom k rows)).length ≤ 200000 → rs.length + rows.length ≤ 1000 →
    ∃ ps' rs', Parses (ws ++ joinL [32, 44, 32] (looseFrom k rows)) [] rs ps' rs' ∧ rowsOf ps' rs' = rs ++ rows
  | [], _, _, _, h, _, _, _, _ => (h rfl).elim
  | [ps], k, ws, rs, _, hm, hw, hz, hl => by
    obtain ⟨h1, h2, h3⟩ := hm ps (.head _)
    have e0 : ws ++ joinL [32, 44, 32] (looseFrom k [ps]) = (ws ++ sel3 [32] [] [9, 32] k) ++ (looseTail (sel3 [32] [] [9, 32] k).length ps ++ []) := by
      show ws ++ ps.foldl looseOne (sel3 [32] [] [9, 32] k) = _
      rw [loose_fold]; simp only [List.append_assoc, List.append_nil]
    rw [e0] at hz ⊢
    simp only [List.length_cons, List.length_nil] at hl
    exact ⟨ps, rs, loose_rowP (.inl ⟨rfl, rfl⟩) (by omega) ps _ _ [] h1 h3 (lead_sps hw k) hz (by simpa using h2) (.done h2 (by omega)), rows_snoc h1⟩
  | ps :: qs :: r, k, ws, rs, _, hm, hw, hz, hl => by
    obtain ⟨h1, h2, h3⟩ := hm ps (.head _)
    have e0 : ws ++ joinL [32, 44, 32] (looseFrom k (ps :: qs :: r)) = (ws ++ sel3 [32] [] [9, 32] k) ++ (looseTail (sel3 [32] [] [9, 32] k).length ps ++ (32 :: 44 :: ([32] ++ joinL [32, 44, 32] (looseFrom (k + 1) (qs :: r))))) := by
      show ws ++ (ps.foldl looseOne (sel3 [32] [] [9, 32] k) ++ [32, 44, 32] ++ joinL [32, 44, 32] (looseFrom (k + 1) (qs :: r))) = _
      rw [loose_fold]; simp only [List.append_assoc, List.cons_append, List.nil_append]
    rw [e0] at hz ⊢
    have hz2 : ([] ++ 44 :: ([32] ++ joinL [32, 44, 32] (looseFrom (k + 1) (qs :: r)))).length ≤ 200000 := by simp only [List.length_append, List.length_cons, List.length_nil] at hz ⊢; omega
    have hz3 : ([32] ++ joinL [32, 44, 32] (looseFrom (k + 1) (qs :: r))).length ≤ 200000 := by simp only [List.length_append, List.length_cons, List.length_nil] at hz2 ⊢; omega
    simp only [List.length_cons] at hl
    obtain ⟨ps', rs', H, e⟩ := loose_textP (qs :: r) (k + 1) [32] (rs ++ [ps]) (List.cons_ne_nil _ _) (fun x hx => hm x (.tail _ hx)) sps32 hz3 (by simp only [List.length_append, List.length_cons, List.length_nil]; omega)
    refine ⟨ps', rs', loose_rowP (.inr ⟨_, rfl, rfl⟩) (by omega) ps _ _ [] h1 h3 (lead_sps hw k) hz (by simpa using h2) (step_comma (ws := []) sps_nil h1 hz2 h2 (by omega) H), ?_⟩
    rw [e, List.append_assoc]; rfl
where
  lead_sps {ws : List Nat} (hw : Sps ws) (k : Nat) : Sps (ws ++ sel3 [32] [] [9, 32] k) := by
    have h : Sps (sel3 [32] [] [9, 32] k) := by
      unfold sel3
      split
      · decide +kernel
      · split <;> decide +kernel
    exact fun c hc => (List.mem_append.mp hc).elim (hw c) (h c)
/-- the law's rows -/
structure Rows (rows : List (List Pr)) : Prop where
  few : rows.length ≤ 64
  each : ∀ ps ∈ rows, ps ≠ [] ∧ ps.length ≤ 63 ∧ ∀ p ∈ ps, MenuP p
theorem Rows.big {rows : List (List Pr)} (R : Rows rows) : ∀ ps ∈ rows, ps ≠ [] ∧ ps.length ≤ 1000 ∧ ∀ p ∈ ps, MenuP p := fun ps h => ⟨(R.each ps h).1, Nat.le_trans (R.each ps h).2.1 (by decide), (R.each ps h).2.2⟩
theorem joinL_len (sep : List Nat) : ∀ ls : List (List Nat), (joinL sep ls).length ≤ textsLen sep ls
  | [] => Nat.zero_le _
  | [x] => by simp [joinL, textsLen]
  | x :: y :: r => by
    have h := joinL_len sep (y :: r)
    simp only [joinL, textsLen, List.map_cons, List.sum_cons, List.length_append] at *
    omega
theorem textsLen_le {sep : List Nat} {K : Nat} : ∀ {ls : List (List Nat)}, (∀ l ∈ ls, l.length + sep.length ≤ K) → textsLen sep ls ≤ K * ls.length
  | [], _ => Nat.zero_le _
  | x :: r, h => by
    have h1 := h x (.head _)
    have h2 := textsLen_le (ls := r) fun l hl => h l (.tail _ hl)
    simp only [textsLen, List.map_cons, List.sum_cons, List.length_cons] at *
    rw [Nat.mul_succ]; omega
theorem told_texts {ps : List Pr} (h : ps.length ≤ 63 ∧ ∀ p ∈ ps, MenuP p) : textsLen [59, 32] (ps.map toldOne) ≤ 2016 := by
  refine Nat.le_trans (textsLen_le (K := 32) fun l hl => ?_) (by rw [List.length_map]; omega)
  obtain ⟨p, hp, rfl⟩ := List.mem_map.mp hl
  have := told_len (h.2 p hp)
  simp only [List.length_cons, List.length_nil]; omega
theorem row_len {ps : List Pr} (h : ps.length ≤ 63 ∧ ∀ p ∈ ps, MenuP p) : (rowText ps).length ≤ 2016 := Nat.le_trans (joinL_len _ _) (told_texts h)
theorem rows_texts {rows : List (List Pr)} (R : Rows rows) : textsLen [44, 32] (rows.map rowText) ≤ 150000 := by
  refine Nat.le_trans (textsLen_le (K := 2018) fun l hl => ?_) (by have := R.few; rw [List.length_map]; omega)
  obtain ⟨ps, hp, rfl⟩ := List.mem_map.mp hl
  have := row_len (R.each ps hp).2
  simp only [List.length_cons, List.length_nil]; omega
theorem loose_len : ∀ (rows : List (List Pr)) (k : Nat), (∀ ps ∈ rows, ps.length ≤ 63 ∧ ∀ p ∈ ps, MenuP p) → ∀ l ∈ looseFrom k rows, l.length ≤ 1900
  | [], _, _, _, h => nomatch h
  | ps :: r, k, hr, l, h => by
    rcases List.mem_cons.mp h with rfl | h
    · obtain ⟨h1, h2⟩ := hr ps (.head _)
      have s3 : (sel3 [32] [] [9, 32] k).length ≤ 3 := sel3_len (by decide) (by decide) (by decide)
      have := looseTail_len ps (sel3 [32] [] [9, 32] k).length h2
      rw [loose_fold, List.length_append]; omega
    · exact loose_len r (k + 1) (fun x hx => hr x (.tail _ hx)) l h
theorem looseFrom_len : ∀ (rows : List (List Pr)) (k : Nat), (looseFrom k rows).length = rows.length
  | [], _ => rfl
  | ps :: r, k => by show (looseFrom (k + 1) r).length + 1 = _; rw [looseFrom_len r]; rfl
theorem loose_texts {rows : List (List Pr)} (R : Rows rows) : textsLen [32, 44, 32] (looseFrom 0 rows) ≤ 150000 := by
  refine Nat.le_trans (textsLen_le (K := 1903) fun l hl => ?_) (by have := R.few; rw [looseFrom_len]; omega)
  have := loose_len rows 0 (fun ps h => (R.each ps h).2) l hl
  simp only [List.length_cons, List.length_nil]; omega
/-- the rows out of the written text -/
theorem split_told {rows : List (List Pr)} (R : Rows rows) : SplitAll [joinL [44, 32] (rows.map rowText)] [] rows := by
  by_cases h : rows = []
  · subst h; exact .cons (ps := []) (rs' := []) (.done (by decide) (by decide)) .nil
  · obtain ⟨ps', rs', H, e⟩ := strict_textP rows [] [] h R.big sps_nil (by have := joinL_len [44, 32] (rows.map rowText); have := rows_texts R; rw [List.nil_append]; omega) (by have := R.few; simp only [List.length_nil]; omega)
    rw [List.nil_append] at e
    refine .cons H ?_
    rw [e]; exact .nil
theorem split_loose {rows : List (List Pr)} (R : Rows rows) : SplitAll [joinL [32, 44, 32] (looseFrom 0 rows)] [] rows := by
  by_cases h : rows = []
  · subst h; exact .cons (ps := []) (rs' := []) (.done (by decide) (by decide)) .nil
  · obtain ⟨ps', rs', H, e⟩ := loose_textP rows 0 [] [] h R.big sps_nil (by have := joinL_len [32, 44, 32] (looseFrom 0 rows); have := loose_texts R; rw [List.nil_append]; omega) (by have := R.few; simp only [List.length_nil]; omega)
    rw [List.nil_append] at e
    refine .cons H ?_
    rw [e]; exact .nil
theorem split_each : ∀ (rows rs : List (List Pr)), (∀ ps ∈ rows, ps ≠ [] ∧ ps.length ≤ 63 ∧ ∀ p ∈ ps, MenuP p) → rs.length + rows.length ≤ 1000 → SplitAll (rows.map rowText) rs (rs ++ rows)
  | [], rs, _, _ => by rw [List.append_nil]; exact .nil
  | ps :: r, rs, h, hl => by
    obtain ⟨h1, h2, h3⟩ := h ps (.head _)
    simp only [List.length_cons] at hl
    have hz := row_len ⟨h2, h3⟩
    have H := strict_rowP (rest := []) (ps' := ps) (rs := rs) (rs' := rs) heads_nil (by omega) ps [] [] h1 h3 sps_nil (by rw [List.nil_append, List.append_nil]; exact Nat.le_trans hz (by decide)) (by simp only [List.length_nil]; omega) (.done (by rw [List.nil_append]; omega) (by omega))
    rw [List.nil_append, List.append_nil] at H
    refine .cons H ?_
    rw [rows_snoc h1]
    have := split_each r (rs ++ [ps]) (fun x hx => h x (.tail _ hx)) (by simp only [List.length_append, List.length_cons, List.length_nil]; omega)
    rw [List.append_assoc] at this; exact this
theorem joinOnes : ∀ {ps : List Pr}, (∀ p ∈ ps, MenuP p) → All2 JoinOne ps (ps.map toldOne)
  | [], _ => trivial
  | p :: r, h => ⟨join_menu (h p (.head _)), joinOnes fun q hq => h q (.tail _ hq)⟩
theorem join_rows : ∀ {rows : List (List Pr)}, (∀ ps ∈ rows, ps.length ≤ 63 ∧ ∀ p ∈ ps, MenuP p) → JoinAll rows ((rows.filter fun ps => !ps.isEmpty).map rowText)
  | [], _ => .nil
  | [] :: r, h => .skip trivial (join_rows fun x hx => h x (.tail _ hx))
  | (p :: t) :: r, h => by
    have h1 := h (p :: t) (.head _)
    refine .row (os := (p :: t).map toldOne) (joinOnes h1.2) (by simp) (by rw [List.length_map]; exact Nat.le_trans h1.1 (by decide)) (Nat.le_trans (told_texts h1) (by decide)) (join_rows fun x hx => h x (.tail _ hx))
/-- what the first loop makes -/
theorem steps_ok : ∀ (ns : List Int) (iR : List (List Pr)) (lR : List Pr), iR.length + ns.length ≤ 63 → lR.length + ns.length ≤ 63 → (∀ ps ∈ iR, ps.length ≤ 63 ∧ ∀ p ∈ ps, MenuP p) → (∀ p ∈ lR, MenuP p) →
    ((ns.foldl stepRows (iR, lR)).1 ++ [(ns.foldl stepRows (iR, lR)).2]).length ≤ 64 ∧ ∀ ps ∈ (ns.foldl stepRows (iR, lR)).1 ++ [(ns.foldl stepRows (iR, lR)).2], ps.length ≤ 63 ∧ ∀ p ∈ ps, MenuP p
  | [], iR, lR, h1, h2, h3, h4 => by
    refine ⟨by simp only [List.foldl_nil, List.length_append, List.length_cons, List.length_nil] at *; omega, fun ps hp => ?_⟩
    rcases List.mem_append.mp hp with hp | hp
    · exact h3 ps hp
    · rw [List.mem_singleton.mp hp]; exact ⟨by simp only [List.length_nil] at h2; exact h2, h4⟩
  | n :: r, iR, lR, h1, h2, h3, h4 => by
    simp only [List.length_cons] at h1 h2
    rw [List.foldl_cons]
    cases hc : ((n.fdiv 8).fmod 7 == 0) with
    | true =>
      have hst : stepRows (iR, lR) n = (iR ++ [lR], [pairOf n]) := if_pos hc
      rw [hst]
      refine steps_ok r _ _ (by simp only [List.length_append, List.length_cons, List.length_nil]; omega) (by simp only [List.length_cons, List.length_nil]; omega) (fun ps hp => ?_) fun p hp => by rw [List.mem_singleton.mp hp]; exact pairOf_menu n
      rcases List.mem_append.mp hp with hp | hp
      · exact h3 ps hp
      · rw [List.mem_singleton.mp hp]; exact ⟨by omega, h4⟩
    | false =>
      have hst : stepRows (iR, lR) n = (iR, lR ++ [pairOf n]) := if_neg (by rw [hc]; decide)
      rw [hst]
      refine steps_ok r _ _ (by omega) (by simp only [List.length_append, List.length_cons, List.length_nil]; omega) h3 fun p hp => ?_
      rcases List.mem_append.mp hp with hp | hp
      · exact h4 p hp
      · rw [List.mem_singleton.mp hp]; exact pairOf_menu n
theorem due_rows {all : List (List Pr)} (h1 : all.length ≤ 64) (h2 : ∀ ps ∈ all, ps.length ≤ 63 ∧ ∀ p ∈ ps, MenuP p) : Rows (all.filter fun ps => !ps.isEmpty) where
  few := Nat.le_trans (List.length_filter_le _ _) h1
  each := fun ps hp => by
    obtain ⟨a, b⟩ := List.mem_filter.mp hp
    refine ⟨fun e => ?_, h2 ps a⟩
    subst e; simp at b
end Mine
-- part XR0
namespace Mine
open PySem PySem.W PySem.Calls PyProof.Rows PySem.Builtin
theorem tx {x : Str} {l : List Nat} {t : Tok} (h : x = ofL l) : TextIs (.str x t) l := ⟨t, by rw [h]⟩
theorem names_ok {t1 t2 t3 t4 t5 : Tok} : Each TextIs [.str (Str.ofString "a") t1, .str (Str.ofString "Path") t2, .str (Str.ofString "x-y") t3, .str (Str.ofString "$v") t4, .str (Str.ofString "text/html") t5] namesL :=
  ⟨tx (by decide +kernel), tx (by decide +kernel), tx (by decide +kernel), tx (by decide +kernel), tx (by decide +kernel), trivial⟩
theorem values_ok {t1 t2 t3 t4 t5 t6 t7 t8 t9 : Tok} : Each ValIs [.none, .str (Str.ofString "") t1, .str (Str.ofString "b") t2, .str (Str.ofString "b c") t3, .str (Str.ofString "q\"") t4, .str (Str.ofString "a\\b") t5, .str (Str.ofString "1,2;3=4") t6, .str (Str.ofString "é") t7, .str (Str.ofString "t\tt") t8, .str (Str.ofString "!~") t9] valuesL :=
  ⟨rfl, tx (by decide +kernel), tx (by decide +kernel), tx (by decide +kernel), tx (by decide +kernel), tx (by decide +kernel), tx (by decide +kernel), tx (by decide +kernel), tx (by decide +kernel), tx (by decide +kernel), trivial⟩
end Mine
namespace Mine
open PySem PySem.W PySem.Calls PyProof.Rows PySem.Builtin
section
variable {h₀ h : Heap} {L I : Addr} {l l' : List (Addr × Obj)} {o : Obj}
theorem PairIn.offC {v : Value} {p : Pr} (N : News h₀ L h l) (hI : (I, o) ∈ l) (ho : o.cls = .none) (hs : ∀ q ∈ l', q ∈ l) : PairIn l' v p → PairIn (Mine.off I l') v p
  | ⟨x, t, v2, a, b, c⟩ => ⟨x, t, v2, a, mem_off_of N hI hs b (by rw [ho]; exact fun e => nomatch e), c⟩
theorem RowIn.offC {v : Value} {p : List Pr} (N : News h₀ L h l) (hI : (I, o) ∈ l) (ho : o.cls = .none) (hs : ∀ q ∈ l', q ∈ l) : RowIn l' v p → RowIn (Mine.off I l') v p
  | ⟨x, vs, n, a, b, c⟩ => ⟨x, vs, n, a, mem_off_of N hI hs b (by rw [ho]; exact fun e => nomatch e), Each.mono (fun _ _ => PairIn.offC N hI ho hs) c⟩
end
end Mine
-- part XQ
namespace Mine
open PySem PySem.W PySem.Calls PyProof.Rows PySem.Builtin PySem.Builtin.Re
theorem quiet_XQ : True := by
  w_top off
  trivial
local macro_rules | `(tactic| k_mem) => `(tactic| first | assumption | exact List.Mem.head _ | (refine' List.Mem.tail _ ?_; k_mem))
local macro_rules | `(tactic| k_all) => `(tactic| first | assumption | exact ne_of_allLt (by assumption) | (refine ne_of_allLt ?_; grind))
local macro_rules | `(tactic| walk_at "call builtin:list.append") => `(tactic| (k_here; k_dflt (refine' apd ?F ?N ?U ?z ?_; (case F => k_asm); (case N => k_asm); (case U => k_upd); (case z => omega); k_whole; intro h' F' N'; (try k_sweep))))
local macro_rules | `(tactic| walk_at "getMethod ref") => `(tactic| (k_here; (with_reducible show wpAny _ _ (getMethod (Value.ref _) (Str.ofString "search") _) _ _ _); k_dflt (refine getm_pat (PatAt.keeps (by first | exact pat_tok (by assumption) | exact pat_quo (by assumption) | exact pat_val (by assumption)) (Fr.keep (by k_asm))) slot_search type_search ?_)))
local macro_rules | `(tactic| walk_at "getMethod ref") => `(tactic| (k_here; (with_reducible show wpAny _ _ (getMethod (Value.ref _) (Str.ofString "group") _) _ _ _); k_dflt (refine getm_match (News.get (by k_asm) (by k_mem)) slot_group type_group ?_)))
local macro_rules | `(tactic| walk_at "call builtin:re.Pattern.search") => `(tactic| (k_here; k_dflt (first
  | (refine' find_call ?P ?z ?f ?F ?N ?_; (case P => first | exact pat_tok (by assumption) | exact pat_quo (by assumption) | exact pat_val (by assumption)); (case f => assumption); (case z => assumption); (case F => k_asm); (case N => k_asm); k_whole; intro T' h' F' N' l1; (try k_lt l1); (try k_sweep))
  | (refine' miss_call ?P ?F ?z ?f ?_; (case P => first | exact pat_tok (by assumption) | exact pat_quo (by assumption) | exact pat_val (by assumption)); (case f => assumption); (case z => assumption); (case F => k_asm); k_whole))))
local macro_rules | `(tactic| walk_at "call builtin:re.Match.group") => `(tactic| (k_here; k_dflt (refine' group_L ?N ?m ?t ?z ?_; (case N => k_asm); (case m => k_mem); (case t => k_mem); (case z => assumption); k_whole; intro t' k')))
local macro_rules | `(tactic| walk_at "truthy str") => `(tactic| (k_here; k_dflt (first | (refine' truthy_L ?z ?n ?_; (case n => assumption); (case z => assumption); k_whole; intro k') | (refine' truthy_L0 ?n ?_; (case n => assumption); k_whole; intro k'))))
local macro_rules | `(tactic| walk_at "call ref") => `(tactic| (k_here; (with_reducible show wpAny _ _ (call (Value.ref 43) _) _ _ _); k_dflt (refine' unm_call ?B ?F ?X ?N ?T ?k ?m ?t ?d ?u ?z ?f ?_; (case B => k_asm); (case F => k_asm); (case X => k_asm); (case N => k_asm); (case T => k_asm); (case k => exact rfl); (case m => k_mem); (case t => k_mem); (case d => omega); (case u => omega); (case z => assumption); (case f => assumption); k_whole; intro t' h' k' F' N'; (try k_sweep))))
local macro_rules | `(tactic| walk_at "truthy ref") => `(tactic| (k_here; k_dflt (refine' truthy_N ?N ?m ?_; (case N => k_asm); (case m => k_mem); k_whole)))
local macro_rules | `(tactic| walk_at "getMethod ref") => `(tactic| (k_here; (with_reducible show wpAny _ _ (getMethod (Value.ref _) (Str.ofString "subn") _) _ _ _); k_dflt (refine getm_pat (PatAt.keeps (pat_junk (by assumption)) (Fr.keep (by k_asm))) slot_subn type_subn ?_)))
local macro_rules | `(tactic| walk_at "call builtin:re.Pattern.subn") => `(tactic| (k_here; k_dflt (refine' subn_call1 ?F ?N ?P ?z ?j ?_; (case F => k_asm); (case N => k_asm); (case P => exact pat_junk (by assumption)); (case z => omega); (case j => assumption); k_whole; intro y' t1' t2' h' k' F' N' l1; (try k_lt l1); (try k_sweep))))
local macro_rules | `(tactic| walk_at "call builtin:str.lstrip") => `(tactic| (k_here; k_dflt (refine' lstrip_call ?z ?j ?_; (case z => assumption); (case j => assumption); k_whole; intro t' k')))
local macro_rules | `(tactic| walk_at "call builtin:str.rstrip") => `(tactic| (k_here; k_dflt (refine' rstrip_call ?z ?j ?_; (case z => assumption); (case j => assumption); k_whole; intro t' k')))
local macro_rules | `(tactic| walk_at "call builtin:str.startswith") => `(tactic| (k_here; k_dflt (refine' starts_comma ?j ?_; (case j => assumption); k_whole)))
local macro_rules | `(tactic| walk_at "subscriptTail Call") => `(tactic| (k_here; (with_unfolding_all (refine' sl_from1 ?F ?N ?z ?e ?_ ?s ?t; (case F => k_asm); (case N => k_asm); (case z => assumption); (case e => assumption); (case s => exact rfl); (case t => exact fun _ => rfl); k_whole)); intro h' t' k' F' N'; (try k_sweep)))
local macro_rules | `(tactic| walk_at "getMethod ref") => `(tactic| (k_here; (with_reducible show wpAny _ _ (getMethod (Value.ref _) (Str.ofString "sub") _) _ _ _); k_dflt (refine getm_pat (PatAt.keeps (by first | exact pat_esc (by assumption) | exact pat_je (by assumption)) (Fr.keep (by k_asm))) slot_sub type_sub ?_)))
local macro_rules | `(tactic| walk_at "exec For Name Name cons nil") => `(tactic| (k_here; k_dflt (refine' for_start ?a ?_; (case a => exact fun _ => rfl); k_whole)))
local macro_rules | `(tactic| walk_at "pyIter ref") => `(tactic| (k_here; k_dflt (refine' iter_own ?F ?N ?m ?_; (case F => k_asm); (case N => k_asm); (case m => k_mem); k_whole); intro I' o' h' F' N' d' l1; (try k_lt l1)))
local macro_rules | `(tactic| walk_at "exec For Tuple Name cons nil") => `(tactic| (k_here; k_dflt (refine' for_start ?a ?_; (case a => exact fun _ => rfl); k_whole)))
local macro_rules | `(tactic| walk_at "call builtin:str.join") => `(tactic| (k_here; k_dflt (first
  | (refine' join_semi ?N ?m ?t ?z ?_; (case N => k_asm); (case m => k_mem); (case t => assumption); (case z => assumption); k_whole; intro t' k')
  | (refine' join_comma ?N ?m ?t ?z ?_; (case N => k_asm); (case m => k_mem); (case t => assumption); (case z => assumption); k_whole; intro t' k'))))
local macro_rules | `(tactic| walk_at "eval ListComp") => `(tactic| (k_here; k_dflt (refine' comp_eval ?a ?b ?c ?d ?_; (case a => exact rfl); (case b => exact rfl); (case c => decide +kernel); (case d => exact fun _ => rfl); k_whole)))
local macro_rules | `(tactic| walk_at "pyIter str") => `(tactic| (k_here; k_dflt (refine' iter_text ?F ?N ?_; (case F => k_asm); (case N => k_asm); k_whole); intro I' o' h' F' N' d' l1; (try k_lt l1)))
section
variable {prog : Program} {w : World} {p : Program} {loose : List Str} {mean : ExcName → Option Value} {mg mb : Str → Option Value} {dp un : Nat} {gd : Option (List Code)} {fa : Addr} {cd : Value} {outer : List Env} {A₀ : Around} {base h₀ : Heap} {L : Addr} {s : Shared} {u : Str → Option Value}
    {E : Value → Shared → Prop} {Q : Flow → Shared → Prop} {ax : Addr} {vs : List Value} {ns : List Int}
theorem law_a (B : Below A₀ base outer h₀) (X : (hd.heap_39 w.params).In h₀) (T : Top p loose mean mg mb h₀) (hdp : dp + 60 < recursionLimit) (hun : un + 160 < cLine)
    (hE : PassesOwn (model prog w) (ktrTop dp un gd "law" (lawScope w.params) L fa cd [] outer) (envX "law" (lawScope w.params) L fa cd []) E)
    (hl : h₀.IsList ax vs.toArray) (hi : IntsAre vs ns) (hn : ns.length ≤ 63)
    (F : Fr h₀ L s.heap (kstB u [("script", .ref ax)])) (N : News h₀ L s.heap [(82, tabObj #[]), (65, tabObj #[])]) (h82 : @LT.lt Nat _ 82 L)
    (next : ∀ u' Rr rsV rn rest' h' tk', Fr h₀ L h' (kstB u' [("rows", .ref Rr)]) → News h₀ L h' ((82, tabObj #[]) :: (65, tabObj #[]) :: rest') → (Rr, listO rsV rn) ∈ rest' → Each (RowIn rest') rsV ((ns.foldl stepRows ([], [])).1 ++ [(ns.foldl stepRows ([], [])).2]) → (∀ q ∈ rest', q.1 ≠ 82 ∧ q.1 ≠ 65) →
      wpAny (model prog w) (ktrTop dp un gd "law" (lawScope w.params) L fa cd [] outer) (execs ((stmtsOf (fnOfTop w.params 97)).drop 4) (envX "law" (lawScope w.params) L fa cd [])) Q E { s with heap := h', toks := tk' }) :
    wpAny (model prog w) (ktrTop dp un gd "law" (lawScope w.params) L fa cd [] outer) (execs (stmtsOf (fnOfTop w.params 97)) (envX "law" (lawScope w.params) L fa cd [])) Q E s := by
  have LL := @law_loop1 prog w
  have ex2 : forBody (lawFor1 w.params) = forBody (lawFor1 w.params) := rfl
  conv at ex2 => rhs; whnf
  have ex1 : stmtsOf (fnOfTop w.params 97) = stmtsOf (fnOfTop w.params 97) := rfl
  conv at ex1 => rhs; whnf
  have ex3 : lawScope w.params = lawScope w.params := rfl
  conv at ex3 => rhs; whnf
  rw [ex1, ex3]
  rw [ex3] at hE
  rw [ex2, ex3] at LL
  clear ex1 ex2 ex3
  k_steps
  rename Fr _ _ _ _ => F9
  rename News _ _ _ _ => N9
  refine iter_ownH F9 N9 hl fun I o h1 F1 N1 ho l1 => ?_
  rename_i An g1 a1 g2 t1 Av g3 a2 g4 t2 La g5 a3 Rr g6 a4 g7
  have i1 : Rr < I := l1 (Rr, _) (.head _)
  have i2 : La < I := l1 (La, _) (.tail _ (.head _))
  refine LL (iV := []) (lV := []) (iR := []) (lR := []) (La := La) (rn := 0) (ln := 0) (i := 0) (o := o) (rem := ns) (all := ns.foldl stepRows ([], [])) B X T (by omega) (by omega) hE rfl hl hi names_ok values_ok (.tail _ (.head _)) (.head _) rfl rfl (fr_canon _ F1 (List.forall_mem_cons.mpr ⟨by with_unfolding_all rfl, List.forall_mem_cons.mpr ⟨by with_unfolding_all rfl, List.forall_mem_cons.mpr ⟨by with_unfolding_all rfl, List.forall_mem_nil _⟩⟩⟩)) N1 ho ?r1 ?r2 ?r3 ?r4 ?r5 ?r6 trivial trivial ?z1 ?z2 (fun q hq => hq) ?ret
  case r1 =>
    intro q hq
    simp only [List.mem_cons, List.not_mem_nil, or_false] at hq
    rcases hq with rfl | rfl | rfl | rfl
    all_goals first | exact Nat.ne_of_lt a4.2.1 | exact Nat.ne_of_lt a4.2.2.1 | exact Nat.ne_of_lt a4.2.2.2.1 | exact Nat.ne_of_lt a4.2.2.2.2
  case r2 =>
    intro q hq
    simp only [List.mem_cons, List.not_mem_nil, or_false] at hq
    rcases hq with rfl | rfl | rfl | rfl
    all_goals first | exact Nat.ne_of_lt a3.1 | exact Nat.ne_of_lt a3.2.1 | exact Nat.ne_of_lt a3.2.2.1 | exact Nat.ne_of_lt a3.2.2.2
  case r3 => exact Nat.ne_of_lt a4.1
  case r4 => exact fun q hq => Nat.ne_of_lt (l1 q (.tail _ (.tail _ hq)))
  case r5 => exact Nat.ne_of_lt i1
  case r6 => exact Nat.ne_of_lt i2
  case z1 => simp; omega
  case z2 => simp; omega
  case ret =>
    intro u' La' rn ln rest' iV lV h' tk F2 N2 b1 b2 b3 ER EP bk
    have k82 : (82, tabObj #[]) ∈ rest' := bk _ (.tail _ (.tail _ (.head _)))
    have k65 : (65, tabObj #[]) ∈ rest' := bk _ (.tail _ (.tail _ (.tail _ (.head _))))
    have sub1 : ∀ q ∈ rest', q ∈ (Rr, listO (iV ++ [.ref La']) rn) :: (La', listO lV ln) :: rest' := fun q hq => .tail _ (.tail _ hq)
    have E0 : Each (RowIn ((Rr, listO (iV ++ [.ref La']) rn) :: (La', listO lV ln) :: rest')) (iV ++ [.ref La']) ((ns.foldl stepRows ([], [])).1 ++ [(ns.foldl stepRows ([], [])).2]) :=
      Each.snoc ⟨La', lV, ln, rfl, .tail _ (.head _), Each.mono (fun _ _ => PairIn.mono sub1) EP⟩ (Each.mono (fun _ _ => RowIn.mono sub1) ER)
    have c82 : ∀ q ∈ off 65 ((Rr, listO (iV ++ [.ref La']) rn) :: (La', listO lV ln) :: rest'), q ∈ (Rr, listO (iV ++ [.ref La']) rn) :: (La', listO lV ln) :: rest' := fun q hq => (mem_off.mp hq).1
    refine next _ Rr (iV ++ [.ref La']) rn (off 82 (off 65 ((Rr, listO (iV ++ [.ref La']) rn) :: (La', listO lV ln) :: rest'))) h' tk (fr_canon _ F2 (List.forall_mem_cons.mpr ⟨by with_unfolding_all rfl, List.forall_mem_nil _⟩)) (news_sub N2 fun q hq => ?_) ?_ (Each.mono (fun _ _ z => RowIn.offC N2 (sub1 _ k82) rfl c82 (RowIn.offC N2 (sub1 _ k65) rfl (fun _ y => y) z)) E0) fun q hq => ⟨(mem_off.mp hq).2, (mem_off.mp (mem_off.mp hq).1).2⟩
    · rcases List.mem_cons.mp hq with rfl | hq
      · exact sub1 _ k82
      · rcases List.mem_cons.mp hq with rfl | hq
        · exact sub1 _ k65
        · exact c82 q (mem_off.mp hq).1
    · exact mem_off_of N2 (sub1 _ k82) c82 (mem_off_of N2 (sub1 _ k65) (fun _ y => y) (.head _) (fun e => nomatch e)) (fun e => nomatch e)
end
end Mine
-- part XS
namespace Mine
open PySem PySem.W PySem.Calls PyProof.Rows PySem.Builtin
theorem allLt_mem {d : Addr} : ∀ {l : List (Addr × Obj)}, AllLt d l → ∀ q ∈ l, @LT.lt Nat _ q.1 d
  | [], _, _, h => nomatch h
  | _ :: _, h, q, hq => (List.mem_cons.mp hq).elim (fun e => e ▸ h.1) fun z => allLt_mem h.2 q z
theorem PairIn.strip {a : Addr} {o : Obj} {l : List (Addr × Obj)} {v : Value} {p : Pr} (hc : o.cls = .none) : PairIn ((a, o) :: l) v p → PairIn l v p
  | ⟨x, t, v2, e, b, c⟩ => ⟨x, t, v2, e, (List.mem_cons.mp b).resolve_left (fun z => by injection z with _ z; rw [← z] at hc; exact nomatch hc), c⟩
theorem RowIn.strip {a : Addr} {o : Obj} {l : List (Addr × Obj)} {v : Value} {p : List Pr} (hc : o.cls = .none) : RowIn ((a, o) :: l) v p → RowIn l v p
  | ⟨x, vs, n, e, b, c⟩ => ⟨x, vs, n, e, (List.mem_cons.mp b).resolve_left (fun z => by injection z with _ z; rw [← z] at hc; exact nomatch hc), Each.mono (fun _ _ => PairIn.strip hc) c⟩
section
variable {prog : Program} {w : World} {A : Around} {E : Value → Shared → Prop} {s : Shared} {env : Env}
theorem execs_step {st : Stmt} {l : List Stmt} {Q : Flow → Shared → Prop} (h : wpAny (model prog w) A (exec st env) (fun f s' => f = .next ∧ wpAny (model prog w) A (execs l env) Q E s') E s) : wpAny (model prog w) A (execs (st :: l) env) Q E s :=
  wpAny_execs_cons (wpAny_mono h (fun f s' hf => by obtain ⟨rfl, hk⟩ := hf; exact hk) fun _ _ z => z)
variable {elt target iter : Expr} {ifs : List Expr} {scope : Scope} {pos py spos : Pos} {cl : List (Str × Addr)} {y : Str} {Q : Value → Shared → Prop}
/-- a comprehension whose iterator stands, its list handed to a use -/
def CompAtU (prog : Program) (w : World) (A : Around) (E : Value → Shared → Prop) (env : Env) (elt target iter : Expr) (ifs : List Expr) (scope : Scope) (pos : Pos) (cl : List (Str × Addr)) (u : Value → Sem Unit) (Q : Value → Shared → Prop) (it : Value) (s₂ : Shared) : Prop :=
  wpAny (model prog w) A (newList []) (fun acc s₃ => wpAny (model prog w) A (newFunctionEnv scope env.globals cl [] env.qual none .none (some env)) (fun cenv s₄ =>
    codeAny (model prog w) A (.compStart (.ListComp elt [⟨target, iter, ifs, 0⟩] scope pos) 0 it acc { cenv with scope := relabel scope env }) (compPost (model prog w) A E (some u) Q acc cenv.locals) s₄) E s₃) E s₂
theorem assign_comp {R : Flow → Shared → Prop} (hsw : swapsWith (.ListComp elt [⟨target, iter, ifs, 0⟩] scope pos) (some (.Name y py)) spos.line env = pure true)
    (hclos : closureFor scope env = pure cl) (hkind : scope.kind = .function) (hnames : ∀ x ∈ scope.names, x.2 = .local → scope.names.lookup x.1 = some .local) (hs : ∀ x, foldedSetIterable iter env x = pure x)
    (h : wpAny (model prog w) A (eval iter env) (fun x s₁ => wpAny (model prog w) A (pyIter x) (fun it s₂ => CompAtU prog w A E env elt target iter ifs scope pos cl (assign (.Name y py) env) (fun _ s' => R .next s') it s₂) E s₁) E s) :
    wpAny (model prog w) A (exec (.Assign [.Name y py] (.ListComp elt [⟨target, iter, ifs, 0⟩] scope pos) spos) env) R E s := by
  rw [exec_Assign_Name_used _ _ _ _ hsw]
  refine wpAny_bind (wpAny_standAt (wpAny_bind ?_))
  show wpAny _ A (do let _ ← comprehension (.ListComp elt [⟨target, iter, ifs, 0⟩] scope pos) scope env _ (newList []) false (eval iter env) (some (assign (.Name y py) env))) _ _ s
  exact wpAny_bind (wpAny_mono (wpAny_comprehension_free (g := ⟨target, iter, ifs, 0⟩) (gs := []) (use := some (assign (.Name y py) env)) (Q := fun _ s' => R .next s') rfl hs hclos hkind hnames h) (fun _ s' hq => wpAny_pure (wpAny_pure hq)) fun _ _ e => e)
variable {h₀ : Heap} {L : Addr} {m : Str → Option Value} {news : List (Addr × Obj)} {u : Value → Sem Unit}
def AfterUse (C : Addr) (Q : Value → Shared → Prop) (s'' : Shared) : Prop := ∃ m, s''.heap.Ns C m ∧ ∀ h', Heap.SameBut C s''.heap h' → Q .none { s'' with heap := h' }
/-- the comprehension begins; what is shown of its list without the use is handed on -/
theorem comp_goU {it : Value} (F : Fr h₀ L s.heap m) (N : News h₀ L s.heap news) (hcell : ∀ y ∈ scope.names, y.2 ≠ .cell) (hkind : scope.kind = .function)
    (h2 : ∀ (s' : Shared) (R : Value → Shared → Prop) (E' : Value → Shared → Prop), (∀ q ∈ news, s'.heap.get? q.1 = some q.2) → R it s' → wpAny (model prog w) A (pyIter it) R E' s')
    (h : ∀ D C oc h' tk, Fr h₀ L h' m → News h₀ L h' ((C, oc) :: (D, listO [] 0) :: news) → NsO oc (fun _ => none) → (∀ p ∈ news, p.1 < D) → D < C →
      ∃ Q' : Value → Shared → Prop, (∀ s', (∀ h', Heap.SameBut C s'.heap h' → Q' (.ref D) { s' with heap := h' }) → ∀ oc m₂, NsO oc m₂ → s'.heap.get? C = some oc → wpAny (model prog w) A (u (.ref D)) (fun _ s'' => AfterUse C Q s'') E s') ∧
        CompRest prog w A E env elt target iter ifs scope pos cl Q' D C it { s with heap := h', toks := tk }) :
    CompAtU prog w A E env elt target iter ifs scope pos cl u Q it s := by
  have l1 : ∀ p ∈ news, p.1 < s.heap.objs.size := fun p hp => Heap.lt_size (N p hp).1
  refine wpAny_newObj_type (wpAny_newFunctionEnv hcell (by intro y hy; simp at hy) (fun h₁ hns₁ hsb₁ => ?_) hkind)
  dsimp only at hns₁ hsb₁ ⊢
  have N1 := N.push F { cls := .type "list", dict := none, data := .seq ([] : List Value).toArray 0 }
  have F1 : Fr h₀ L (s.heap.push { cls := .type "list", dict := none, data := .seq ([] : List Value).toArray 0 }) m := F.push _
  generalize hH2 : s.heap.push { cls := .type "list", dict := none, data := .seq ([] : List Value).toArray 0 } = H2 at hns₁ hsb₁ N1 F1 ⊢
  have hC : H2.objs.size = s.heap.objs.size + 1 := by rw [← hH2, Heap.size_push]
  obtain ⟨oc, hoc, hns⟩ := NsO.of hns₁
  have N2 := N1.push F1 { cls := .type "dict", data := .dict #[] }
  have F2 : Fr h₀ L (H2.push { cls := .type "dict", data := .dict #[] }) m := F1.push _
  have hp := N2 _ (.head _)
  have l2 : ∀ p ∈ (s.heap.objs.size, ({ cls := .type "list", dict := none, data := .seq ([] : List Value).toArray 0 } : Obj)) :: news, p.1 ≠ H2.objs.size := fun p hp => Nat.ne_of_lt (Heap.lt_size (N1 p hp).1)
  have F3 : Fr h₀ L h₁ m := F2.change hsb₁ hp.2.1 hp.2.2
  have N3 : News h₀ L h₁ ((H2.objs.size, oc) :: (s.heap.objs.size, listO [] 0) :: news) := N2.setHead l2 hsb₁ hoc
  obtain ⟨Q', hu, hgo⟩ := h s.heap.objs.size H2.objs.size oc h₁ (s.toks + ([] : List (Str × Value)).length) F3 N3 hns l1 (by rw [hC]; exact Nat.lt_succ_self _)
  have hgo' := codeAny_compStart_list hgo (h2 _ _ _ (fun q hq => (N3 q (.tail _ (.tail _ hq))).1) hgo)
  refine codeAny_mono hgo' fun r s' hr => ?_
  cases r with
  | ok f =>
    obtain ⟨m₂, hm, hq⟩ := hr
    obtain ⟨o2, e1, e2⟩ := NsO.of hm
    exact hu s' hq o2 m₂ e2 e1
  | error x => exact hr
theorem use_done {C : Addr} {oc : Obj} {m₂ : Str → Option Value} {rest : List (Addr × Obj)} (F : Fr h₀ L s.heap m) (N : News h₀ L s.heap ((C, oc) :: rest)) (hns : NsO oc m₂) (hne : ∀ q ∈ rest, q.1 ≠ C)
    (h : ∀ h', Fr h₀ L h' m → News h₀ L h' rest → Q .none { s with heap := h' }) : AfterUse C Q s := by
  refine ⟨m₂, hns.at (N _ (.head _)).1, fun h' hs => ?_⟩
  have hn := N _ (.head _)
  exact h h' (F.change hs hn.2.1 hn.2.2) fun p hp => ⟨(hs.2 _ (hne p hp)).trans (N p (.tail _ hp)).1, (N p (.tail _ hp)).2⟩
end
end Mine
-- part XT
namespace Mine
open PySem PySem.W PySem.Calls PyProof.Rows PySem.Builtin PySem.Builtin.Re
theorem quiet_XT : True := by
  w_top off
  trivial
local macro_rules | `(tactic| k_mem) => `(tactic| first | assumption | exact List.Mem.head _ | (refine' List.Mem.tail _ ?_; k_mem))
local macro_rules | `(tactic| k_all) => `(tactic| first | assumption | exact ne_of_allLt (by assumption) | (refine ne_of_allLt ?_; grind))
local macro_rules | `(tactic| walk_at "call builtin:list.append") => `(tactic| (k_here; k_dflt (refine' apd ?F ?N ?U ?z ?_; (case F => k_asm); (case N => k_asm); (case U => k_upd); (case z => omega); k_whole; intro h' F' N'; (try k_sweep))))
local macro_rules | `(tactic| walk_at "getMethod ref") => `(tactic| (k_here; (with_reducible show wpAny _ _ (getMethod (Value.ref _) (Str.ofString "search") _) _ _ _); k_dflt (refine getm_pat (PatAt.keeps (by first | exact pat_tok (by assumption) | exact pat_quo (by assumption) | exact pat_val (by assumption)) (Fr.keep (by k_asm))) slot_search type_search ?_)))
local macro_rules | `(tactic| walk_at "getMethod ref") => `(tactic| (k_here; (with_reducible show wpAny _ _ (getMethod (Value.ref _) (Str.ofString "group") _) _ _ _); k_dflt (refine getm_match (News.get (by k_asm) (by k_mem)) slot_group type_group ?_)))
local macro_rules | `(tactic| walk_at "call builtin:re.Pattern.search") => `(tactic| (k_here; k_dflt (first
  | (refine' find_call ?P ?z ?f ?F ?N ?_; (case P => first | exact pat_tok (by assumption) | exact pat_quo (by assumption) | exact pat_val (by assumption)); (case f => assumption); (case z => assumption); (case F => k_asm); (case N => k_asm); k_whole; intro T' h' F' N' l1; (try k_lt l1); (try k_sweep))
  | (refine' miss_call ?P ?F ?z ?f ?_; (case P => first | exact pat_tok (by assumption) | exact pat_quo (by assumption) | exact pat_val (by assumption)); (case f => assumption); (case z => assumption); (case F => k_asm); k_whole))))
local macro_rules | `(tactic| walk_at "call builtin:re.Match.group") => `(tactic| (k_here; k_dflt (refine' group_L ?N ?m ?t ?z ?_; (case N => k_asm); (case m => k_mem); (case t => k_mem); (case z => assumption); k_whole; intro t' k')))
local macro_rules | `(tactic| walk_at "truthy str") => `(tactic| (k_here; k_dflt (first | (refine' truthy_L ?z ?n ?_; (case n => assumption); (case z => assumption); k_whole; intro k') | (refine' truthy_L0 ?n ?_; (case n => assumption); k_whole; intro k'))))
local macro_rules | `(tactic| walk_at "call ref") => `(tactic| (k_here; (with_reducible show wpAny _ _ (call (Value.ref 43) _) _ _ _); k_dflt (refine' unm_call ?B ?F ?X ?N ?T ?k ?m ?t ?d ?u ?z ?f ?_; (case B => k_asm); (case F => k_asm); (case X => k_asm); (case N => k_asm); (case T => k_asm); (case k => exact rfl); (case m => k_mem); (case t => k_mem); (case d => omega); (case u => omega); (case z => assumption); (case f => assumption); k_whole; intro t' h' k' F' N'; (try k_sweep))))
local macro_rules | `(tactic| walk_at "truthy ref") => `(tactic| (k_here; k_dflt (refine' truthy_N ?N ?m ?_; (case N => k_asm); (case m => k_mem); k_whole)))
local macro_rules | `(tactic| walk_at "getMethod ref") => `(tactic| (k_here; (with_reducible show wpAny _ _ (getMethod (Value.ref _) (Str.ofString "subn") _) _ _ _); k_dflt (refine getm_pat (PatAt.keeps (pat_junk (by assumption)) (Fr.keep (by k_asm))) slot_subn type_subn ?_)))
local macro_rules | `(tactic| walk_at "call builtin:re.Pattern.subn") => `(tactic| (k_here; k_dflt (refine' subn_call1 ?F ?N ?P ?z ?j ?_; (case F => k_asm); (case N => k_asm); (case P => exact pat_junk (by assumption)); (case z => omega); (case j => assumption); k_whole; intro y' t1' t2' h' k' F' N' l1; (try k_lt l1); (try k_sweep))))
local macro_rules | `(tactic| walk_at "call builtin:str.lstrip") => `(tactic| (k_here; k_dflt (refine' lstrip_call ?z ?j ?_; (case z => assumption); (case j => assumption); k_whole; intro t' k')))
local macro_rules | `(tactic| walk_at "call builtin:str.rstrip") => `(tactic| (k_here; k_dflt (refine' rstrip_call ?z ?j ?_; (case z => assumption); (case j => assumption); k_whole; intro t' k')))
local macro_rules | `(tactic| walk_at "call builtin:str.startswith") => `(tactic| (k_here; k_dflt (refine' starts_comma ?j ?_; (case j => assumption); k_whole)))
local macro_rules | `(tactic| walk_at "subscriptTail Call") => `(tactic| (k_here; (with_unfolding_all (refine' sl_from1 ?F ?N ?z ?e ?_ ?s ?t; (case F => k_asm); (case N => k_asm); (case z => assumption); (case e => assumption); (case s => exact rfl); (case t => exact fun _ => rfl); k_whole)); intro h' t' k' F' N'; (try k_sweep)))
local macro_rules | `(tactic| walk_at "getMethod ref") => `(tactic| (k_here; (with_reducible show wpAny _ _ (getMethod (Value.ref _) (Str.ofString "sub") _) _ _ _); k_dflt (refine getm_pat (PatAt.keeps (by first | exact pat_esc (by assumption) | exact pat_je (by assumption)) (Fr.keep (by k_asm))) slot_sub type_sub ?_)))
local macro_rules | `(tactic| walk_at "exec For Name Name cons nil") => `(tactic| (k_here; k_dflt (refine' for_start ?a ?_; (case a => exact fun _ => rfl); k_whole)))
local macro_rules | `(tactic| walk_at "pyIter ref") => `(tactic| (k_here; k_dflt (refine' iter_own ?F ?N ?m ?_; (case F => k_asm); (case N => k_asm); (case m => k_mem); k_whole); intro I' o' h' F' N' d' l1; (try k_lt l1)))
local macro_rules | `(tactic| walk_at "exec For Tuple Name cons nil") => `(tactic| (k_here; k_dflt (refine' for_start ?a ?_; (case a => exact fun _ => rfl); k_whole)))
local macro_rules | `(tactic| walk_at "call builtin:str.join") => `(tactic| (k_here; k_dflt (first
  | (refine' join_semi ?N ?m ?t ?z ?_; (case N => k_asm); (case m => k_mem); (case t => assumption); (case z => assumption); k_whole; intro t' k')
  | (refine' join_comma ?N ?m ?t ?z ?_; (case N => k_asm); (case m => k_mem); (case t => assumption); (case z => assumption); k_whole; intro t' k'))))
section
variable {prog : Program} {w : World} {p : Program} {loose : List Str} {mean : ExcName → Option Value} {mg mb : Str → Option Value} {dp un : Nat} {gd : Option (List Code)} {fa : Addr} {cd : Value} {outer : List Env} {A₀ : Around} {base h₀ : Heap} {L : Addr} {s : Shared} {u : Str → Option Value}
    {E : Value → Shared → Prop} {K : Shared → Prop}
/-- the rows that hold something -/
theorem law_due {Rr : Addr} {rsV : List Value} {rn : Nat} {all : List (List Pr)} {rest : List (Addr × Obj)}
    (B : Below A₀ base outer h₀) (X : (hd.heap_39 w.params).In h₀) (T : Top p loose mean mg mb h₀) (hdp : dp + 60 < recursionLimit) (hun : un + 160 < cLine)
    (F : Fr h₀ L s.heap (kstB u [("rows", .ref Rr)])) (N : News h₀ L s.heap ((82, tabObj #[]) :: (65, tabObj #[]) :: rest)) (hR : (Rr, listO rsV rn) ∈ rest) (ER : Each (RowIn rest) rsV all) (hg : ∀ ps ∈ all, ∀ p ∈ ps, GoodP p) (hall : all.length ≤ 1000)
    (ret : ∀ u' Du duV du h' tk', Fr h₀ L h' (kstB u' [("rows", .ref Rr), ("due", .ref Du)]) → News h₀ L h' ((82, tabObj #[]) :: (65, tabObj #[]) :: (Du, listO duV du) :: rest) → Each (RowIn rest) duV (all.filter fun ps => !ps.isEmpty) → @Ne Nat Du 82 → @Ne Nat Du 65 → (∀ q ∈ rest, q.1 ≠ Du) → K { s with heap := h', toks := tk' }) :
    wpAny (model prog w) (ktrTop dp un gd "law" (lawScope w.params) L fa cd [] outer) (exec (nthS 4 (stmtsOf (fnOfTop w.params 97))) (envX "law" (lawScope w.params) L fa cd [])) (fun f s' => f = .next ∧ K s') E s := by
  have ex1 : nthS 4 (stmtsOf (fnOfTop w.params 97)) = nthS 4 (stmtsOf (fnOfTop w.params 97)) := rfl
  conv at ex1 => rhs; whnf
  have ex3 : lawScope w.params = lawScope w.params := rfl
  conv at ex3 => rhs; whnf
  rw [ex1, ex3]
  clear ex1 ex3
  have hR' : (Rr, listO rsV rn) ∈ (82, tabObj #[]) :: (65, tabObj #[]) :: rest := .tail _ (.tail _ hR)
  refine assign_comp (by with_unfolding_all rfl) rfl rfl (by decide +kernel) (fun _ => rfl) ?_
  k_steps
  rename_i I o h1 F1 N1 ho l1
  refine comp_goU F1 N1 (by decide +kernel) rfl (fun s' R E' hg hR => iter_again ho (hg _ (.head _)) hR) fun D C oc h2 tk2 F2 N2 hns hDl hC => ?_
  have hID : @LT.lt Nat _ I D := hDl _ (.head _)
  have lI : ∀ q ∈ (82, tabObj #[]) :: (65, tabObj #[]) :: rest, @LT.lt Nat _ q.1 I := allLt_mem l1
  have lD : ∀ q ∈ (82, tabObj #[]) :: (65, tabObj #[]) :: rest, @LT.lt Nat _ q.1 D := fun q hq => Nat.lt_trans (lI q hq) hID
  have lC : ∀ q ∈ (82, tabObj #[]) :: (65, tabObj #[]) :: rest, @LT.lt Nat _ q.1 C := fun q hq => Nat.lt_trans (lD q hq) hC
  have hC0 := (N2 _ (.head _)).2
  refine ⟨fun v s' => ∃ dsV n tk, s' = { s with heap := s'.heap, toks := tk } ∧ Fr h₀ L s'.heap (kstB u [("rows", .ref Rr)]) ∧ News h₀ L s'.heap ((D, listO dsV n) :: (82, tabObj #[]) :: (65, tabObj #[]) :: rest) ∧ Each (RowIn ((82, tabObj #[]) :: (65, tabObj #[]) :: rest)) dsV (all.filter fun ps => !ps.isEmpty), fun s' hq oc2 m₂ e2 e1 => ?_, ?_⟩
  · obtain ⟨dsV, n, tk, es, F3, N3, ET⟩ := hq s'.heap ⟨rfl, fun _ _ => rfl⟩
    have es : s' = { s with heap := s'.heap, toks := tk } := es
    dsimp only at F3 N3
    generalize s'.heap = H at es F3 N3 e1
    subst es
    have N4 : News h₀ L H ((C, oc2) :: (D, listO dsV n) :: (82, tabObj #[]) :: (65, tabObj #[]) :: rest) := fun q hq => (List.mem_cons.mp hq).elim (fun z => by rw [z]; exact ⟨e1, hC0⟩) fun z => N3 q z
    clear hq F1 N1 F2 N2 N3 F N hns ho es
    k_steps
    rename Fr _ _ _ _ => F9
    rename News _ _ _ _ => N9
    refine use_done F9 N9 e2 (fun q hq => ?_) fun h6 F6 N6 => ⟨rfl, ret _ D dsV n h6 _ (fr_canon _ F6 (List.forall_mem_cons.mpr ⟨by with_unfolding_all rfl, List.forall_mem_cons.mpr ⟨by with_unfolding_all rfl, List.forall_mem_nil _⟩⟩)) (news_sub N6 fun q hq => ?_) ?_ ?_ ?_ ?_⟩
    · rcases List.mem_cons.mp hq with rfl | hq
      · exact Nat.ne_of_lt hC
      · exact Nat.ne_of_lt (lC q hq)
    · simp only [List.mem_cons] at hq ⊢; grind
    · exact Each.mono (fun _ _ z => RowIn.strip rfl (RowIn.strip rfl z)) ET
    · exact Nat.ne_of_gt (lD _ (.head _))
    · exact Nat.ne_of_gt (lD _ (.tail _ (.head _)))
    · exact fun q hq => Nat.ne_of_lt (lD q (.tail _ (.tail _ hq)))
  · refine due_comp (all := all.filter fun ps => !ps.isEmpty) (rest := (82, tabObj #[]) :: (65, tabObj #[]) :: rest) (dn := []) (rem := all) (i := 0) (dsV := []) (n := 0) rfl ?hu rfl rfl hR' ?hl ?hne (Nat.ne_of_gt hID) (Nat.ne_of_gt hC) (Nat.ne_of_gt (Nat.lt_trans hID hC)) (Each.mono (fun _ _ => RowIn.mono fun q hq => .tail _ (.tail _ hq)) ER) hg rfl F2 N2 hns ho trivial ?ret
    case hu => (dsimp only [ktrTop]; omega)
    case hl => exact Nat.le_trans (List.length_filter_le _ _) hall
    case hne => exact fun q hq => ⟨Nat.ne_of_lt (lC q hq), Nat.ne_of_lt (lD q hq), Nat.ne_of_lt (lI q hq)⟩
    case ret => exact fun h3 tk3 dsV n F3 N3 ET => ⟨dsV, n, tk3, rfl, F3, N3, ET⟩
end
end Mine
-- part XU
namespace Mine
open PySem PySem.W PySem.Calls PyProof.Rows PySem.Builtin PySem.Builtin.Re
local macro_rules | `(tactic| walk_at "nothing so called") => `(tactic| skip)
theorem quiet_XU : True := by
  w_top off
  trivial
local macro_rules | `(tactic| k_mem) => `(tactic| first | assumption | exact List.Mem.head _ | (refine' List.Mem.tail _ ?_; k_mem))
local macro_rules | `(tactic| k_all) => `(tactic| first | assumption | exact ne_of_allLt (by assumption) | (refine ne_of_allLt ?_; grind))
local macro_rules | `(tactic| walk_at "call builtin:list.append") => `(tactic| (k_here; k_dflt (refine' apd ?F ?N ?U ?z ?_; (case F => k_asm); (case N => k_asm); (case U => k_upd); (case z => omega); k_whole; intro h' F' N'; (try k_sweep))))
local macro_rules | `(tactic| walk_at "getMethod ref") => `(tactic| (k_here; (with_reducible show wpAny _ _ (getMethod (Value.ref _) (Str.ofString "search") _) _ _ _); k_dflt (refine getm_pat (PatAt.keeps (by first | exact pat_tok (by assumption) | exact pat_quo (by assumption) | exact pat_val (by assumption)) (Fr.keep (by k_asm))) slot_search type_search ?_)))
local macro_rules | `(tactic| walk_at "getMethod ref") => `(tactic| (k_here; (with_reducible show wpAny _ _ (getMethod (Value.ref _) (Str.ofString "group") _) _ _ _); k_dflt (refine getm_match (News.get (by k_asm) (by k_mem)) slot_group type_group ?_)))
local macro_rules | `(tactic| walk_at "call builtin:re.Pattern.search") => `(tactic| (k_here; k_dflt (first
  | (refine' find_call ?P ?z ?f ?F ?N ?_; (case P => first | exact pat_tok (by assumption) | exact pat_quo (by assumption) | exact pat_val (by assumption)); (case f => assumption); (case z => assumption); (case F => k_asm); (case N => k_asm); k_whole; intro T' h' F' N' l1; (try k_lt l1); (try k_sweep))
  | (refine' miss_call ?P ?F ?z ?f ?_; (case P => first | exact pat_tok (by assumption) | exact pat_quo (by assumption) | exact pat_val (by assumption)); (case f => assumption); (case z => assumption); (case F => k_asm); k_whole))))
local macro_rules | `(tactic| walk_at "call builtin:re.Match.group") => `(tactic| (k_here; k_dflt (refine' group_L ?N ?m ?t ?z ?_; (case N => k_asm); (case m => k_mem); (case t => k_mem); (case z => assumption); k_whole; intro t' k')))
local macro_rules | `(tactic| walk_at "truthy str") => `(tactic| (k_here; k_dflt (first | (refine' truthy_L ?z ?n ?_; (case n => assumption); (case z => assumption); k_whole; intro k') | (refine' truthy_L0 ?n ?_; (case n => assumption); k_whole; intro k'))))
local macro_rules | `(tactic| walk_at "call ref") => `(tactic| (k_here; (with_reducible show wpAny _ _ (call (Value.ref 43) _) _ _ _); k_dflt (refine' unm_call ?B ?F ?X ?N ?T ?k ?m ?t ?d ?u ?z ?f ?_; (case B => k_asm); (case F => k_asm); (case X => k_asm); (case N => k_asm); (case T => k_asm); (case k => exact rfl); (case m => k_mem); (case t => k_mem); (case d => omega); (case u => omega); (case z => assumption); (case f => assumption); k_whole; intro t' h' k' F' N'; (try k_sweep))))
local macro_rules | `(tactic| walk_at "truthy ref") => `(tactic| (k_here; k_dflt (refine' truthy_N ?N ?m ?_; (case N => k_asm); (case m => k_mem); k_whole)))
local macro_rules | `(tactic| walk_at "getMethod ref") => `(tactic| (k_here; (with_reducible show wpAny _ _ (getMethod (Value.ref _) (Str.ofString "subn") _) _ _ _); k_dflt (refine getm_pat (PatAt.keeps (pat_junk (by assumption)) (Fr.keep (by k_asm))) slot_subn type_subn ?_)))
local macro_rules | `(tactic| walk_at "call builtin:re.Pattern.subn") => `(tactic| (k_here; k_dflt (refine' subn_call1 ?F ?N ?P ?z ?j ?_; (case F => k_asm); (case N => k_asm); (case P => exact pat_junk (by assumption)); (case z => omega); (case j => assumption); k_whole; intro y' t1' t2' h' k' F' N' l1; (try k_lt l1); (try k_sweep))))
local macro_rules | `(tactic| walk_at "call builtin:str.lstrip") => `(tactic| (k_here; k_dflt (refine' lstrip_call ?z ?j ?_; (case z => assumption); (case j => assumption); k_whole; intro t' k')))
local macro_rules | `(tactic| walk_at "call builtin:str.rstrip") => `(tactic| (k_here; k_dflt (refine' rstrip_call ?z ?j ?_; (case z => assumption); (case j => assumption); k_whole; intro t' k')))
local macro_rules | `(tactic| walk_at "call builtin:str.startswith") => `(tactic| (k_here; k_dflt (refine' starts_comma ?j ?_; (case j => assumption); k_whole)))
local macro_rules | `(tactic| walk_at "subscriptTail Call") => `(tactic| (k_here; (with_unfolding_all (refine' sl_from1 ?F ?N ?z ?e ?_ ?s ?t; (case F => k_asm); (case N => k_asm); (case z => assumption); (case e => assumption); (case s => exact rfl); (case t => exact fun _ => rfl); k_whole)); intro h' t' k' F' N'; (try k_sweep)))
local macro_rules | `(tactic| walk_at "getMethod ref") => `(tactic| (k_here; (with_reducible show wpAny _ _ (getMethod (Value.ref _) (Str.ofString "sub") _) _ _ _); k_dflt (refine getm_pat (PatAt.keeps (by first | exact pat_esc (by assumption) | exact pat_je (by assumption)) (Fr.keep (by k_asm))) slot_sub type_sub ?_)))
local macro_rules | `(tactic| walk_at "exec For Name Name cons nil") => `(tactic| (k_here; k_dflt (refine' for_start ?a ?_; (case a => exact fun _ => rfl); k_whole)))
local macro_rules | `(tactic| walk_at "pyIter ref") => `(tactic| (k_here; k_dflt (refine' iter_own ?F ?N ?m ?_; (case F => k_asm); (case N => k_asm); (case m => k_mem); k_whole); intro I' o' h' F' N' d' l1; (try k_lt l1)))
local macro_rules | `(tactic| walk_at "exec For Tuple Name cons nil") => `(tactic| (k_here; k_dflt (refine' for_start ?a ?_; (case a => exact fun _ => rfl); k_whole)))
local macro_rules | `(tactic| walk_at "call builtin:str.join") => `(tactic| (k_here; k_dflt (first
  | (refine' join_semi ?N ?m ?t ?z ?_; (case N => k_asm); (case m => k_mem); (case t => assumption); (case z => assumption); k_whole; intro t' k')
  | (refine' join_comma ?N ?m ?t ?z ?_; (case N => k_asm); (case m => k_mem); (case t => assumption); (case z => assumption); k_whole; intro t' k'))))
section
variable {prog : Program} {w : World} {p : Program} {loose : List Str} {mean : ExcName → Option Value} {mg mb : Str → Option Value} {dp un : Nat} {gd : Option (List Code)} {fa : Addr} {cd : Value} {outer : List Env} {A₀ : Around} {base h₀ : Heap} {L : Addr} {s : Shared} {u : Str → Option Value}
    {E : Value → Shared → Prop} {K : Shared → Prop}
theorem nsLw {P : Params} : nsIn (hd.heap_39 P) mainGlobals (Str.ofString "_law_written") = some (some (.ref 92)) := by kernel_rfl
theorem keepLw {P : Params} : keepIn (hd.heap_39 P) (.ref 92) = true := by kernel_rfl
/-- the rows told -/
theorem law_told {Rr Du : Addr} {duV : List Value} {dn : Nat} {due : List (List Pr)} {rest : List (Addr × Obj)} {o1 o2 : Obj}
    (B : Below A₀ base outer h₀) (X : (hd.heap_39 w.params).In h₀) (T : Top p loose mean mg mb h₀) (hdp : dp + 60 < recursionLimit) (hun : un + 160 < cLine)
    (F : Fr h₀ L s.heap (kstB u [("rows", .ref Rr), ("due", .ref Du)])) (N : News h₀ L s.heap ((82, o1) :: (65, o2) :: rest)) (hD : (Du, listO duV dn) ∈ rest) (hdu : Each (RowIn rest) duV due) (hlen : due.length ≤ 1000) (hlen2 : ∀ ps ∈ due, ps.length ≤ 1000) (hg : ∀ ps ∈ due, ∀ p ∈ ps, GoodV p)
    (ret : ∀ u' To toV to ex h' tk', Fr h₀ L h' (kstB u' [("rows", .ref Rr), ("due", .ref Du), ("told", .ref To)]) → News h₀ L h' ((82, o1) :: (65, o2) :: (To, listO toV to) :: (ex ++ rest)) → Each (TextsIn (ex ++ (82, o1) :: (65, o2) :: rest)) toV (due.map fun ps => ps.map toldOne) → @Ne Nat To 82 → @Ne Nat To 65 → (∀ e ∈ ex, @Ne Nat e.1 82 ∧ @Ne Nat e.1 65) → (∀ q ∈ ex ++ rest, q.1 ≠ To) → K { s with heap := h', toks := tk' }) :
    wpAny (model prog w) (ktrTop dp un gd "law" (lawScope w.params) L fa cd [] outer) (exec (nthS 5 (stmtsOf (fnOfTop w.params 97))) (envX "law" (lawScope w.params) L fa cd [])) (fun f s' => f = .next ∧ K s') E s := by
  have ex1 : nthS 5 (stmtsOf (fnOfTop w.params 97)) = nthS 5 (stmtsOf (fnOfTop w.params 97)) := rfl
  conv at ex1 => rhs; whnf
  have ex3 : lawScope w.params = lawScope w.params := rfl
  conv at ex3 => rhs; whnf
  rw [ex1, ex3]
  clear ex1 ex3
  have hD' : (Du, listO duV dn) ∈ (82, o1) :: (65, o2) :: rest := .tail _ (.tail _ hD)
  have hdu' : Each (RowIn ((82, o1) :: (65, o2) :: rest)) duV due := Each.mono (fun _ _ => RowIn.mono fun q hq => .tail _ (.tail _ hq)) hdu
  refine assign_comp (by with_unfolding_all rfl) rfl rfl (by decide +kernel) (fun _ => rfl) ?_
  k_steps
  rename_i I o h1 F1 N1 ho l1
  refine comp_goU F1 N1 (by decide +kernel) rfl (fun s' R E' hg hR => iter_again ho (hg _ (.head _)) hR) fun D C oc h2 tk2 F2 N2 hns hDl hC => ?_
  have hID : @LT.lt Nat _ I D := hDl _ (.head _)
  have lI : ∀ q ∈ (82, o1) :: (65, o2) :: rest, @LT.lt Nat _ q.1 I := allLt_mem l1
  have lD : ∀ q ∈ (82, o1) :: (65, o2) :: rest, @LT.lt Nat _ q.1 D := fun q hq => Nat.lt_trans (lI q hq) hID
  have lC : ∀ q ∈ (82, o1) :: (65, o2) :: rest, @LT.lt Nat _ q.1 C := fun q hq => Nat.lt_trans (lD q hq) hC
  have hC0 := (N2 _ (.head _)).2
  refine ⟨fun v s' => ∃ dsV n ex tk, s' = { s with heap := s'.heap, toks := tk } ∧ Fr h₀ L s'.heap (kstB u [("rows", .ref Rr), ("due", .ref Du)]) ∧ News h₀ L s'.heap ((D, listO dsV n) :: (ex ++ (82, o1) :: (65, o2) :: rest)) ∧ (∀ q ∈ ex ++ (82, o1) :: (65, o2) :: rest, q.1 ≠ C ∧ q.1 ≠ D) ∧ (∀ e ∈ ex, ∀ q ∈ (82, o1) :: (65, o2) :: rest, q.1 ≠ e.1) ∧ Each (TextsIn (ex ++ (82, o1) :: (65, o2) :: rest)) dsV (due.map fun ps => ps.map toldOne), fun s' hq oc2 m₂ e2 e1 => ?_, ?_⟩
  · obtain ⟨dsV, n, ex, tk, es, F3, N3, hCD, hex, ET⟩ := hq s'.heap ⟨rfl, fun _ _ => rfl⟩
    have es : s' = { s with heap := s'.heap, toks := tk } := es
    dsimp only at F3 N3
    generalize s'.heap = H at es F3 N3 e1
    subst es
    have N4 : News h₀ L H ((C, oc2) :: (D, listO dsV n) :: (ex ++ (82, o1) :: (65, o2) :: rest)) := fun q hq => (List.mem_cons.mp hq).elim (fun z => by rw [z]; exact ⟨e1, hC0⟩) fun z => N3 q z
    clear hq F1 N1 F2 N2 N3 F N hns ho es
    k_steps
    rename Fr _ _ _ _ => F9
    rename News _ _ _ _ => N9
    refine use_done F9 N9 e2 (fun q hq => ?_) fun h6 F6 N6 => ⟨rfl, ret _ D dsV n ex h6 _ (fr_canon _ F6 (List.forall_mem_cons.mpr ⟨by with_unfolding_all rfl, List.forall_mem_cons.mpr ⟨by with_unfolding_all rfl, List.forall_mem_cons.mpr ⟨by with_unfolding_all rfl, List.forall_mem_nil _⟩⟩⟩)) (news_sub N6 fun q hq => ?_) ET ?_ ?_ ?_ ?_⟩
    · rcases List.mem_cons.mp hq with rfl | hq
      · exact Nat.ne_of_lt hC
      · exact (hCD q hq).1
    · simp only [List.mem_cons, List.mem_append] at hq ⊢; grind
    · exact Nat.ne_of_gt (lD _ (.head _))
    · exact Nat.ne_of_gt (lD _ (.tail _ (.head _)))
    · exact fun e he => ⟨fun z => hex e he _ (.head _) z.symm, fun z => hex e he _ (.tail _ (.head _)) z.symm⟩
    · intro q hq
      refine (hCD q ?_).2
      simp only [List.mem_cons, List.mem_append] at hq ⊢
      grind
  · refine comp_map (s := { s with heap := h2, toks := tk2 }) (as := due) (rem := due) (i := 0) (dn := []) (ex := []) (rest := (82, o1) :: (65, o2) :: rest) (Rin := RowIn ((82, o1) :: (65, o2) :: rest)) (Rout := TextsIn) (f := fun ps => ps.map toldOne) rfl (fun _ _ _ _ hs z => TextsIn.mono hs z) ?hpl hD' hlen ?turn hdu' (fun _ z => z) rfl F2 N2 hns ho trivial ?hne (Nat.ne_of_gt hID) (Nat.ne_of_gt hC) (Nat.ne_of_gt (Nat.lt_trans hID hC)) (fun e he => nomatch he) ?ret
    case hpl => rintro v a _; exact .inl ⟨_, _, rfl⟩
    case hne => exact fun q hq => ⟨Nat.ne_of_lt (lC q hq), Nat.ne_of_lt (lD q hq), Nat.ne_of_lt (lI q hq)⟩
    case ret => exact fun h3 tk3 dsV n ex F3 N3 hd3 hx3 ET => ⟨dsV, n, ex, tk3, rfl, F3, N3, hd3, hx3, ET⟩
    case turn =>
      intro s4 T4 oc4 m4 v a E4 K4 hva ha F4 N4 hn4 hT4 hsub ret4
      refine bind_name (comp_store F4 N4 (.head _) hn4 (fun h5 oc5 tk5 F5 N5 hn5 => ?_) rfl rfl)
      have N5' : News h₀ L h5 ((C, oc5) :: T4) := news_new N5 fun q hq => ⟨.tail _ hq, hT4 q hq⟩
      obtain ⟨ra, rvs, rn, rfl, hra, hrp⟩ := hva
      refine told_row (s := { s4 with heap := h5, toks := tk5 }) (Kf := hd.heap_39 w.params) rfl F5 N5' hn5 (if_pos rfl) ⟨ra, rvs, rn, rfl, hsub _ hra, Each.mono (fun _ _ => PairIn.mono hsub) hrp⟩ (hlen2 a ha) (hg a ha) rfl rfl rfl rfl (by decide +kernel) (by decide +kernel) (fun _ => rfl) (fun _ => rfl) (fun h' F' => X.keeps F'.keep) keepLw (fun C9 s9 Q9 E9 F9 q9 => LCgL.ld_global F9 X T nsLw q9) (fun news l tk s9 Q9 E9 F9 N9 z1 z2 q9 => ?call) fun D6 dsV6 n6 h6 tk6 F6 N6 d1 d2 ET => ?fin
      case call => exact lw_call B F9 X N9 T rfl (by omega) (by omega) z1 z2 q9
      case fin =>
        refine ret4 _ h6 tk6 [(D6, listO dsV6 n6)] oc5 _ F6 (news_sub N6 fun q hq => ?_) hn5 (fun e he => ?_) ⟨D6, dsV6, n6, rfl, .head _, ET⟩
        · simp only [List.cons_append, List.nil_append, List.mem_cons] at hq ⊢; grind
        · rcases List.mem_singleton.mp he with rfl
          exact ⟨d1, d2⟩
end
end Mine
-- part XW
namespace Mine
open PySem PySem.W PySem.Calls PyProof.Rows PySem.Builtin
theorem ne_same {prog : Program} {w : World} {A : Around} {E : Value → Shared → Prop} {s : Shared} {x : Str} {t u : Tok} {Q : Value → Shared → Prop} (h : Q (.bool false) s) : wpAny (model prog w) A (compareOp .NotEq (.str x t) (.str x u)) Q E s :=
  ne_str (by simpa using h)
theorem tabJ_65 {h₀ h : Heap} {L : Addr} {l : List (Addr × Obj)} {pos : Pos} {tb : List (Addr × Obj)} (N : News h₀ L h l) (hI : ((65 : Addr), tabObj #[]) ∈ l) (hs : ∀ q ∈ tb, q ∈ l) : TabJ pos tb → ∀ q ∈ tb, @Ne Nat q.1 65
  | .inl e => fun q hq => by
    rw [e] at hq
    rcases List.mem_singleton.mp hq with rfl
    exact fun e => nomatch e
  | .inr ⟨c, oc, vs, t9, e, e1, e2, e3⟩ => fun q hq => by
    have hq' := hq
    rw [e] at hq'
    rcases List.mem_cons.mp hq' with rfl | hq'
    · exact fun e => nomatch e
    · rcases List.mem_singleton.mp hq' with rfl
      intro e'
      have e' : c = 65 := e'
      subst e'
      have := news_uniq N (hs _ hq) hI
      subst this
      injection e1 with e1
      rw [← e1] at e2
      simp at e2
theorem TextsIn.strip {a : Addr} {o : Obj} {l l' : List (Addr × Obj)} {v : Value} {p : List (List Nat)} (hc : o.cls = .none) : TextsIn (l' ++ (a, o) :: l) v p → TextsIn (l' ++ l) v p
  | ⟨x, vs, n, e, b, c⟩ => ⟨x, vs, n, e, by
      rcases List.mem_append.mp b with b | b
      · exact List.mem_append_left _ b
      · exact List.mem_append_right _ ((List.mem_cons.mp b).resolve_left (fun z => by injection z with _ z; rw [← z] at hc; exact nomatch hc)), c⟩
end Mine
-- part XV
namespace Mine
open PySem PySem.W PySem.Calls PyProof.Rows PySem.Builtin PySem.Builtin.Re
theorem quiet_XV : True := by
  w_top off
  trivial
local macro_rules | `(tactic| k_mem) => `(tactic| first | assumption | exact List.Mem.head _ | (refine' List.Mem.tail _ ?_; k_mem))
local macro_rules | `(tactic| k_all) => `(tactic| first | assumption | exact ne_of_allLt (by assumption) | (refine ne_of_allLt ?_; grind))
local macro_rules | `(tactic| walk_at "call builtin:list.append") => `(tactic| (k_here; k_dflt (refine' apd ?F ?N ?U ?z ?_; (case F => k_asm); (case N => k_asm); (case U => k_upd); (case z => omega); k_whole; intro h' F' N'; (try k_sweep))))
local macro_rules | `(tactic| walk_at "getMethod ref") => `(tactic| (k_here; (with_reducible show wpAny _ _ (getMethod (Value.ref _) (Str.ofString "search") _) _ _ _); k_dflt (refine getm_pat (PatAt.keeps (by first | exact pat_tok (by assumption) | exact pat_quo (by assumption) | exact pat_val (by assumption)) (Fr.keep (by k_asm))) slot_search type_search ?_)))
local macro_rules | `(tactic| walk_at "getMethod ref") => `(tactic| (k_here; (with_reducible show wpAny _ _ (getMethod (Value.ref _) (Str.ofString "group") _) _ _ _); k_dflt (refine getm_match (News.get (by k_asm) (by k_mem)) slot_group type_group ?_)))
local macro_rules | `(tactic| walk_at "call builtin:re.Pattern.search") => `(tactic| (k_here; k_dflt (first
  | (refine' find_call ?P ?z ?f ?F ?N ?_; (case P => first | exact pat_tok (by assumption) | exact pat_quo (by assumption) | exact pat_val (by assumption)); (case f => assumption); (case z => assumption); (case F => k_asm); (case N => k_asm); k_whole; intro T' h' F' N' l1; (try k_lt l1); (try k_sweep))
  | (refine' miss_call ?P ?F ?z ?f ?_; (case P => first | exact pat_tok (by assumption) | exact pat_quo (by assumption) | exact pat_val (by assumption)); (case f => assumption); (case z => assumption); (case F => k_asm); k_whole))))
local macro_rules | `(tactic| walk_at "call builtin:re.Match.group") => `(tactic| (k_here; k_dflt (refine' group_L ?N ?m ?t ?z ?_; (case N => k_asm); (case m => k_mem); (case t => k_mem); (case z => assumption); k_whole; intro t' k')))
local macro_rules | `(tactic| walk_at "truthy str") => `(tactic| (k_here; k_dflt (first | (refine' truthy_L ?z ?n ?_; (case n => assumption); (case z => assumption); k_whole; intro k') | (refine' truthy_L0 ?n ?_; (case n => assumption); k_whole; intro k'))))
local macro_rules | `(tactic| walk_at "call ref") => `(tactic| (k_here; (with_reducible show wpAny _ _ (call (Value.ref 43) _) _ _ _); k_dflt (refine' unm_call ?B ?F ?X ?N ?T ?k ?m ?t ?d ?u ?z ?f ?_; (case B => k_asm); (case F => k_asm); (case X => k_asm); (case N => k_asm); (case T => k_asm); (case k => exact rfl); (case m => k_mem); (case t => k_mem); (case d => omega); (case u => omega); (case z => assumption); (case f => assumption); k_whole; intro t' h' k' F' N'; (try k_sweep))))
local macro_rules | `(tactic| walk_at "truthy ref") => `(tactic| (k_here; k_dflt (refine' truthy_N ?N ?m ?_; (case N => k_asm); (case m => k_mem); k_whole)))
local macro_rules | `(tactic| walk_at "getMethod ref") => `(tactic| (k_here; (with_reducible show wpAny _ _ (getMethod (Value.ref _) (Str.ofString "subn") _) _ _ _); k_dflt (refine getm_pat (PatAt.keeps (pat_junk (by assumption)) (Fr.keep (by k_asm))) slot_subn type_subn ?_)))
local macro_rules | `(tactic| walk_at "call builtin:re.Pattern.subn") => `(tactic| (k_here; k_dflt (refine' subn_call1 ?F ?N ?P ?z ?j ?_; (case F => k_asm); (case N => k_asm); (case P => exact pat_junk (by assumption)); (case z => omega); (case j => assumption); k_whole; intro y' t1' t2' h' k' F' N' l1; (try k_lt l1); (try k_sweep))))
local macro_rules | `(tactic| walk_at "call builtin:str.lstrip") => `(tactic| (k_here; k_dflt (refine' lstrip_call ?z ?j ?_; (case z => assumption); (case j => assumption); k_whole; intro t' k')))
local macro_rules | `(tactic| walk_at "call builtin:str.rstrip") => `(tactic| (k_here; k_dflt (refine' rstrip_call ?z ?j ?_; (case z => assumption); (case j => assumption); k_whole; intro t' k')))
local macro_rules | `(tactic| walk_at "call builtin:str.startswith") => `(tactic| (k_here; k_dflt (refine' starts_comma ?j ?_; (case j => assumption); k_whole)))
local macro_rules | `(tactic| walk_at "subscriptTail Call") => `(tactic| (k_here; (with_unfolding_all (refine' sl_from1 ?F ?N ?z ?e ?_ ?s ?t; (case F => k_asm); (case N => k_asm); (case z => assumption); (case e => assumption); (case s => exact rfl); (case t => exact fun _ => rfl); k_whole)); intro h' t' k' F' N'; (try k_sweep)))
local macro_rules | `(tactic| walk_at "getMethod ref") => `(tactic| (k_here; (with_reducible show wpAny _ _ (getMethod (Value.ref _) (Str.ofString "sub") _) _ _ _); k_dflt (refine getm_pat (PatAt.keeps (by first | exact pat_esc (by assumption) | exact pat_je (by assumption)) (Fr.keep (by k_asm))) slot_sub type_sub ?_)))
local macro_rules | `(tactic| walk_at "call ref") => `(tactic| (k_here; (first | (with_reducible show wpAny _ _ (call (Value.ref 87) _) _ _ _) | (with_reducible show wpAny _ _ (call (Value.ref 70) _) _ _ _)); refine held ?_))
local macro_rules | `(tactic| walk_at "compareOp NotEq ref ref") => `(tactic| (k_here; refine held ?_))
local macro_rules | `(tactic| walk_at "compareOp Eq ref ref") => `(tactic| (k_here; refine held ?_))
local macro_rules | `(tactic| walk_at "compareOp NotEq str str") => `(tactic| (k_here; k_dflt (refine' ne_same ?_; k_whole)))
local macro_rules | `(tactic| walk_at "eval ListComp") => `(tactic| (k_here; refine held ?_))
local macro_rules | `(tactic| walk_at "call builtin:str.join") => `(tactic| (k_here; refine held ?_))
section
variable {prog : Program} {w : World} {p : Program} {loose : List Str} {mean : ExcName → Option Value} {mg mb : Str → Option Value} {dp un : Nat} {gd : Option (List Code)} {fa : Addr} {cd : Value} {outer : List Env} {A₀ : Around} {base h₀ : Heap} {L : Addr} {s : Shared} {u : Str → Option Value}
    {E : Value → Shared → Prop} {K : Shared → Prop}
/-- the text -/
theorem law_text {Rr Du To : Addr} {toV : List Value} {to : Nat} {told : List (List (List Nat))} {led : List (Addr × Obj)}
    (B : Below A₀ base outer h₀) (X : (hd.heap_39 w.params).In h₀) (T : Top p loose mean mg mb h₀) (hdp : dp + 60 < recursionLimit) (hun : un + 160 < cLine)
    (F : Fr h₀ L s.heap (kstB u [("rows", .ref Rr), ("due", .ref Du), ("told", .ref To)])) (N : News h₀ L s.heap led) (hT : (To, listO toV to) ∈ led) (hto : Each (TextsIn led) toV told) (hlen : told.length ≤ 1000) (hz : ∀ ls ∈ told, textsLen [59, 32] ls ≤ 1048576) (hz2 : textsLen [44, 32] (told.map fun ls => joinL [59, 32] ls) ≤ 1048576)
    (ret : ∀ u' tx h' tk', Fr h₀ L h' (kstB u' [("rows", .ref Rr), ("due", .ref Du), ("told", .ref To), ("text", .str (ofL (joinL [44, 32] (told.map fun ls => joinL [59, 32] ls))) tx)]) → News h₀ L h' led → K { s with heap := h', toks := tk' }) :
    wpAny (model prog w) (ktrTop dp un gd "law" (lawScope w.params) L fa cd [] outer) (exec (nthS 6 (stmtsOf (fnOfTop w.params 97))) (envX "law" (lawScope w.params) L fa cd [])) (fun f s' => f = .next ∧ K s') E s := by
  have ex1 : nthS 6 (stmtsOf (fnOfTop w.params 97)) = nthS 6 (stmtsOf (fnOfTop w.params 97)) := rfl
  conv at ex1 => rhs; whnf
  have ex3 : lawScope w.params = lawScope w.params := rfl
  conv at ex3 => rhs; whnf
  rw [ex1, ex3]
  clear ex1 ex3
  k_steps
  refine' semi_all (told := told) (duV := toV) rfl F N hT hto hlen hz ?ev ?c1 ?k1 ?n1 ?x1 ?l1 ?he fun D dsV n h1 tk1 F1 N1 ne1 ET => ?_
  case ev => exact fun Q9 q9 => ld F rfl q9
  case c1 => exact rfl
  case k1 => exact rfl
  case n1 => decide +kernel
  case x1 => decide +kernel
  case l1 => exact fun _ => rfl
  case he => exact fun _ => rfl
  clear F N
  k_steps
  refine join_comma N1 (.head _) ET hz2 fun t2 k2 => ?_
  k_steps
  · exact trivial
  exact ret _ _ _ _ (fr_canon _ (by assumption) (List.forall_mem_cons.mpr ⟨by with_unfolding_all rfl, List.forall_mem_cons.mpr ⟨by with_unfolding_all rfl, List.forall_mem_cons.mpr ⟨by with_unfolding_all rfl, List.forall_mem_cons.mpr ⟨by with_unfolding_all rfl, List.forall_mem_nil _⟩⟩⟩⟩)) (news_tail (by assumption))
end
end Mine
-- part XY
namespace Mine
open PySem PySem.W PySem.Calls PyProof.Rows PySem.Builtin PySem.Builtin.Re
theorem quiet_XY : True := by
  w_top off
  trivial
local macro_rules | `(tactic| k_mem) => `(tactic| first | assumption | exact List.Mem.head _ | (refine' List.Mem.tail _ ?_; k_mem))
local macro_rules | `(tactic| k_all) => `(tactic| first | assumption | exact ne_of_allLt (by assumption) | (refine ne_of_allLt ?_; grind))
local macro_rules | `(tactic| walk_at "call builtin:list.append") => `(tactic| (k_here; k_dflt (refine' apd ?F ?N ?U ?z ?_; (case F => k_asm); (case N => k_asm); (case U => k_upd); (case z => omega); k_whole; intro h' F' N'; (try k_sweep))))
local macro_rules | `(tactic| walk_at "getMethod ref") => `(tactic| (k_here; (with_reducible show wpAny _ _ (getMethod (Value.ref _) (Str.ofString "search") _) _ _ _); k_dflt (refine getm_pat (PatAt.keeps (by first | exact pat_tok (by assumption) | exact pat_quo (by assumption) | exact pat_val (by assumption)) (Fr.keep (by k_asm))) slot_search type_search ?_)))
local macro_rules | `(tactic| walk_at "getMethod ref") => `(tactic| (k_here; (with_reducible show wpAny _ _ (getMethod (Value.ref _) (Str.ofString "group") _) _ _ _); k_dflt (refine getm_match (News.get (by k_asm) (by k_mem)) slot_group type_group ?_)))
local macro_rules | `(tactic| walk_at "call builtin:re.Pattern.search") => `(tactic| (k_here; k_dflt (first
  | (refine' find_call ?P ?z ?f ?F ?N ?_; (case P => first | exact pat_tok (by assumption) | exact pat_quo (by assumption) | exact pat_val (by assumption)); (case f => assumption); (case z => assumption); (case F => k_asm); (case N => k_asm); k_whole; intro T' h' F' N' l1; (try k_lt l1); (try k_sweep))
  | (refine' miss_call ?P ?F ?z ?f ?_; (case P => first | exact pat_tok (by assumption) | exact pat_quo (by assumption) | exact pat_val (by assumption)); (case f => assumption); (case z => assumption); (case F => k_asm); k_whole))))
local macro_rules | `(tactic| walk_at "call builtin:re.Match.group") => `(tactic| (k_here; k_dflt (refine' group_L ?N ?m ?t ?z ?_; (case N => k_asm); (case m => k_mem); (case t => k_mem); (case z => assumption); k_whole; intro t' k')))
local macro_rules | `(tactic| walk_at "truthy str") => `(tactic| (k_here; k_dflt (first | (refine' truthy_L ?z ?n ?_; (case n => assumption); (case z => assumption); k_whole; intro k') | (refine' truthy_L0 ?n ?_; (case n => assumption); k_whole; intro k'))))
local macro_rules | `(tactic| walk_at "call ref") => `(tactic| (k_here; (with_reducible show wpAny _ _ (call (Value.ref 43) _) _ _ _); k_dflt (refine' unm_call ?B ?F ?X ?N ?T ?k ?m ?t ?d ?u ?z ?f ?_; (case B => k_asm); (case F => k_asm); (case X => k_asm); (case N => k_asm); (case T => k_asm); (case k => exact rfl); (case m => k_mem); (case t => k_mem); (case d => omega); (case u => omega); (case z => assumption); (case f => assumption); k_whole; intro t' h' k' F' N'; (try k_sweep))))
local macro_rules | `(tactic| walk_at "truthy ref") => `(tactic| (k_here; k_dflt (refine' truthy_N ?N ?m ?_; (case N => k_asm); (case m => k_mem); k_whole)))
local macro_rules | `(tactic| walk_at "getMethod ref") => `(tactic| (k_here; (with_reducible show wpAny _ _ (getMethod (Value.ref _) (Str.ofString "subn") _) _ _ _); k_dflt (refine getm_pat (PatAt.keeps (pat_junk (by assumption)) (Fr.keep (by k_asm))) slot_subn type_subn ?_)))
local macro_rules | `(tactic| walk_at "call builtin:re.Pattern.subn") => `(tactic| (k_here; k_dflt (refine' subn_call1 ?F ?N ?P ?z ?j ?_; (case F => k_asm); (case N => k_asm); (case P => exact pat_junk (by assumption)); (case z => omega); (case j => assumption); k_whole; intro y' t1' t2' h' k' F' N' l1; (try k_lt l1); (try k_sweep))))
local macro_rules | `(tactic| walk_at "call builtin:str.lstrip") => `(tactic| (k_here; k_dflt (refine' lstrip_call ?z ?j ?_; (case z => assumption); (case j => assumption); k_whole; intro t' k')))
local macro_rules | `(tactic| walk_at "call builtin:str.rstrip") => `(tactic| (k_here; k_dflt (refine' rstrip_call ?z ?j ?_; (case z => assumption); (case j => assumption); k_whole; intro t' k')))
local macro_rules | `(tactic| walk_at "call builtin:str.startswith") => `(tactic| (k_here; k_dflt (refine' starts_comma ?j ?_; (case j => assumption); k_whole)))
local macro_rules | `(tactic| walk_at "subscriptTail Call") => `(tactic| (k_here; (with_unfolding_all (refine' sl_from1 ?F ?N ?z ?e ?_ ?s ?t; (case F => k_asm); (case N => k_asm); (case z => assumption); (case e => assumption); (case s => exact rfl); (case t => exact fun _ => rfl); k_whole)); intro h' t' k' F' N'; (try k_sweep)))
local macro_rules | `(tactic| walk_at "getMethod ref") => `(tactic| (k_here; (with_reducible show wpAny _ _ (getMethod (Value.ref _) (Str.ofString "sub") _) _ _ _); k_dflt (refine getm_pat (PatAt.keeps (by first | exact pat_esc (by assumption) | exact pat_je (by assumption)) (Fr.keep (by k_asm))) slot_sub type_sub ?_)))
local macro_rules | `(tactic| walk_at "exec For Name Name cons nil") => `(tactic| (k_here; k_dflt (refine' for_start ?a ?_; (case a => exact fun _ => rfl); k_whole)))
local macro_rules | `(tactic| walk_at "pyIter ref") => `(tactic| (k_here; k_dflt (refine' iter_own ?F ?N ?m ?_; (case F => k_asm); (case N => k_asm); (case m => k_mem); k_whole); intro I' o' h' F' N' d' l1; (try k_lt l1)))
local macro_rules | `(tactic| walk_at "call ref") => `(tactic| (k_here; (first | (with_reducible show wpAny _ _ (call (Value.ref 87) _) _ _ _) | (with_reducible show wpAny _ _ (call (Value.ref 70) _) _ _ _)); refine held ?_))
local macro_rules | `(tactic| walk_at "compareOp NotEq ref ref") => `(tactic| (k_here; refine held ?_))
local macro_rules | `(tactic| walk_at "compareOp Eq ref ref") => `(tactic| (k_here; refine held ?_))
local macro_rules | `(tactic| walk_at "compareOp NotEq str str") => `(tactic| (k_here; k_dflt (refine' ne_same ?_; k_whole)))
local macro_rules | `(tactic| walk_at "eval ListComp") => `(tactic| (k_here; refine held ?_))
local macro_rules | `(tactic| walk_at "call builtin:str.join") => `(tactic| (k_here; refine held ?_))
section
variable {prog : Program} {w : World} {p : Program} {loose : List Str} {mean : ExcName → Option Value} {mg mb : Str → Option Value} {dp un : Nat} {gd : Option (List Code)} {fa : Addr} {cd : Value} {outer : List Env} {A₀ : Around} {base h₀ : Heap} {L : Addr} {s : Shared} {u : Str → Option Value}
    {E : Value → Shared → Prop} {K : Shared → Prop}
/-- the rows joined, and split again -/
theorem law_if1 {Rr Du To : Addr} {rsV duV : List Value} {rn du : Nat} {all due : List (List Pr)} {hs : List (List Nat)} {tx : Tok} {rest : List (Addr × Obj)}
    (B : Below A₀ base outer h₀) (X : (hd.heap_39 w.params).In h₀) (T : Top p loose mean mg mb h₀) (hdp : dp + 60 < recursionLimit) (hun : un + 160 < cLine)
    (F : Fr h₀ L s.heap (kstB u [("rows", .ref Rr), ("due", .ref Du), ("told", .ref To), ("text", .str (ofL (joinL [44, 32] hs)) tx)])) (N : News h₀ L s.heap ((82, tabObj #[]) :: (65, tabObj #[]) :: rest)) (hne : ∀ q ∈ rest, q.1 ≠ 82 ∧ q.1 ≠ 65)
    (hR : (Rr, listO rsV rn) ∈ rest) (ER : Each (RowIn rest) rsV all) (hD : (Du, listO duV du) ∈ rest) (ED : Each (RowIn rest) duV due) (hJ : JoinAll all hs) (hlen : hs.length ≤ 1000) (htl : textsLen [44, 32] hs ≤ 1048576) (hS : SplitAll [joinL [44, 32] hs] [] due) (hg : ∀ ps ∈ due, ∀ p ∈ ps, GoodP p)
    (ret : ∀ u' h' tk' tj ts, Fr h₀ L h' (kstB u' [("due", .ref Du), ("told", .ref To)]) → News h₀ L h' (ts ++ (tj ++ rest)) → TabOk (lamPos (splitLam w.params)) ts → TabJ (lamPos (joinLam w.params)) tj → (∀ q ∈ tj, @Ne Nat q.1 65) → K { s with heap := h', toks := tk' }) :
    wpAny (model prog w) (ktrTop dp un gd "law" (lawScope w.params) L fa cd [] outer) (exec (nthS 7 (stmtsOf (fnOfTop w.params 97))) (envX "law" (lawScope w.params) L fa cd [])) (fun f s' => f = .next ∧ K s') E s := by
  have ex1 : nthS 7 (stmtsOf (fnOfTop w.params 97)) = nthS 7 (stmtsOf (fnOfTop w.params 97)) := rfl
  conv at ex1 => rhs; whnf
  have ex3 : lawScope w.params = lawScope w.params := rfl
  conv at ex3 => rhs; whnf
  rw [ex1, ex3]
  clear ex1 ex3
  have hn82 : ∀ q ∈ ((65 : Addr), tabObj #[]) :: rest, q.1 ≠ 82 := fun q hq => by
    rcases List.mem_cons.mp hq with rfl | hq
    · exact fun e => nomatch e
    · exact (hne q hq).1
  k_steps
  refine join_call (tb := [(82, tabObj #[])]) (rest := ((65 : Addr), tabObj #[]) :: rest) (hs := hs) (rss := all) B F X N T rfl (.inl rfl) hn82 (.tail _ hR) (Each.mono (fun _ _ => RowIn.mono fun q hq => .tail _ hq) ER) hJ hlen htl (by omega) (by omega) fun t1 tj rest1 h1 tk1 F1 N1 TJ n1 k1 => ?_
  have m65 : ((65 : Addr), tabObj #[]) ∈ tj ++ rest1 := List.mem_append_right _ (k1 _ (.head _))
  have j65 := tabJ_65 N1 m65 (fun q hq => List.mem_append_left _ hq) TJ
  have N2 : News h₀ L h1 (((65 : Addr), tabObj #[]) :: (tj ++ rest)) := by
    refine news_sub N1 fun q hq => ?_
    rcases List.mem_cons.mp hq with rfl | hq
    · exact m65
    · rcases List.mem_append.mp hq with hq | hq
      · exact List.mem_append_left _ hq
      · exact List.mem_append_right _ (k1 _ (.tail _ hq))
  clear F N N1 m65 k1
  have n65 : ∀ q ∈ tj ++ rest, @Ne Nat q.1 65 := fun q hq => (List.mem_append.mp hq).elim (j65 q) fun z => (hne q z).2
  k_steps
  rename_i l h2 F2 N3 l1
  have nl : ∀ q ∈ (l, listO [.str (ofL (joinL [44, 32] hs)) tx] 0) :: (tj ++ rest), @Ne Nat q.1 65 := fun q hq => by
    rcases List.mem_cons.mp hq with rfl | hq
    · exact Nat.ne_of_gt l1.1
    · exact n65 q hq
  refine split_call (tb := [((65 : Addr), tabObj #[])]) (rest := (l, listO [.str (ofL (joinL [44, 32] hs)) tx] 0) :: (tj ++ rest)) (vs := [.str (ofL (joinL [44, 32] hs)) tx]) (ts := [joinL [44, 32] hs]) (n := 0) B F2 X (news_sub N3 fun q hq => ?hsub) T rfl (.inl rfl) nl (.head _) ⟨⟨_, rfl⟩, trivial⟩ hS (by omega) (by omega) fun Ra n2 ts rest2 rsV2 h3 tk3 F3 N4 TS a1 a2 ER2 k2 => ?_
  case hsub =>
    simp only [List.cons_append, List.nil_append, List.mem_cons, List.mem_append] at hq ⊢
    grind
  clear F2 N3
  have up : ∀ q ∈ rest, q ∈ (Ra, listO rsV2 n2) :: (ts ++ rest2) := fun q hq => .tail _ (List.mem_append_right _ (k2 _ (.tail _ (List.mem_append_right _ hq))))
  k_steps
  refine (rows_same (led := rest2) (led' := rest) N4 (.head _) (up _ hD) ER2 ED (fun q hq => .tail _ (List.mem_append_right _ hq)) up hg ?u).2 ?_
  case u => (dsimp only [ktrTop]; omega)
  k_steps
  refine ret _ _ _ tj ts (fr_canon _ F3 (List.forall_mem_cons.mpr ⟨by with_unfolding_all rfl, List.forall_mem_cons.mpr ⟨by with_unfolding_all rfl, List.forall_mem_nil _⟩⟩)) (news_sub N4 fun q hq => ?_) TS TJ j65
  rcases List.mem_append.mp hq with hq | hq
  · exact .tail _ (List.mem_append_left _ hq)
  · exact .tail _ (List.mem_append_right _ (k2 _ (.tail _ hq)))
end
end Mine
-- part XZ
namespace Mine
open PySem PySem.W PySem.Calls PyProof.Rows PySem.Builtin PySem.Builtin.Re
local macro_rules | `(tactic| walk_at "nothing so called") => `(tactic| skip)
theorem quiet_XZ : True := by
  w_top off
  trivial
local macro_rules | `(tactic| k_mem) => `(tactic| first | assumption | exact List.Mem.head _ | (refine' List.Mem.tail _ ?_; k_mem))
local macro_rules | `(tactic| k_all) => `(tactic| first | assumption | exact ne_of_allLt (by assumption) | (refine ne_of_allLt ?_; grind))
local macro_rules | `(tactic| walk_at "call builtin:list.append") => `(tactic| (k_here; k_dflt (refine' apd ?F ?N ?U ?z ?_; (case F => k_asm); (case N => k_asm); (case U => k_upd); (case z => omega); k_whole; intro h' F' N'; (try k_sweep))))
local macro_rules | `(tactic| walk_at "getMethod ref") => `(tactic| (k_here; (with_reducible show wpAny _ _ (getMethod (Value.ref _) (Str.ofString "search") _) _ _ _); k_dflt (refine getm_pat (PatAt.keeps (by first | exact pat_tok (by assumption) | exact pat_quo (by assumption) | exact pat_val (by assumption)) (Fr.keep (by k_asm))) slot_search type_search ?_)))
local macro_rules | `(tactic| walk_at "getMethod ref") => `(tactic| (k_here; (with_reducible show wpAny _ _ (getMethod (Value.ref _) (Str.ofString "group") _) _ _ _); k_dflt (refine getm_match (News.get (by k_asm) (by k_mem)) slot_group type_group ?_)))
local macro_rules | `(tactic| walk_at "call builtin:re.Pattern.search") => `(tactic| (k_here; k_dflt (first
  | (refine' find_call ?P ?z ?f ?F ?N ?_; (case P => first | exact pat_tok (by assumption) | exact pat_quo (by assumption) | exact pat_val (by assumption)); (case f => assumption); (case z => assumption); (case F => k_asm); (case N => k_asm); k_whole; intro T' h' F' N' l1; (try k_lt l1); (try k_sweep))
  | (refine' miss_call ?P ?F ?z ?f ?_; (case P => first | exact pat_tok (by assumption) | exact pat_quo (by assumption) | exact pat_val (by assumption)); (case f => assumption); (case z => assumption); (case F => k_asm); k_whole))))
local macro_rules | `(tactic| walk_at "call builtin:re.Match.group") => `(tactic| (k_here; k_dflt (refine' group_L ?N ?m ?t ?z ?_; (case N => k_asm); (case m => k_mem); (case t => k_mem); (case z => assumption); k_whole; intro t' k')))
local macro_rules | `(tactic| walk_at "truthy str") => `(tactic| (k_here; k_dflt (first | (refine' truthy_L ?z ?n ?_; (case n => assumption); (case z => assumption); k_whole; intro k') | (refine' truthy_L0 ?n ?_; (case n => assumption); k_whole; intro k'))))
local macro_rules | `(tactic| walk_at "call ref") => `(tactic| (k_here; (with_reducible show wpAny _ _ (call (Value.ref 43) _) _ _ _); k_dflt (refine' unm_call ?B ?F ?X ?N ?T ?k ?m ?t ?d ?u ?z ?f ?_; (case B => k_asm); (case F => k_asm); (case X => k_asm); (case N => k_asm); (case T => k_asm); (case k => exact rfl); (case m => k_mem); (case t => k_mem); (case d => omega); (case u => omega); (case z => assumption); (case f => assumption); k_whole; intro t' h' k' F' N'; (try k_sweep))))
local macro_rules | `(tactic| walk_at "truthy ref") => `(tactic| (k_here; k_dflt (refine' truthy_N ?N ?m ?_; (case N => k_asm); (case m => k_mem); k_whole)))
local macro_rules | `(tactic| walk_at "getMethod ref") => `(tactic| (k_here; (with_reducible show wpAny _ _ (getMethod (Value.ref _) (Str.ofString "subn") _) _ _ _); k_dflt (refine getm_pat (PatAt.keeps (pat_junk (by assumption)) (Fr.keep (by k_asm))) slot_subn type_subn ?_)))
local macro_rules | `(tactic| walk_at "call builtin:re.Pattern.subn") => `(tactic| (k_here; k_dflt (refine' subn_call1 ?F ?N ?P ?z ?j ?_; (case F => k_asm); (case N => k_asm); (case P => exact pat_junk (by assumption)); (case z => omega); (case j => assumption); k_whole; intro y' t1' t2' h' k' F' N' l1; (try k_lt l1); (try k_sweep))))
local macro_rules | `(tactic| walk_at "call builtin:str.lstrip") => `(tactic| (k_here; k_dflt (refine' lstrip_call ?z ?j ?_; (case z => assumption); (case j => assumption); k_whole; intro t' k')))
local macro_rules | `(tactic| walk_at "call builtin:str.rstrip") => `(tactic| (k_here; k_dflt (refine' rstrip_call ?z ?j ?_; (case z => assumption); (case j => assumption); k_whole; intro t' k')))
local macro_rules | `(tactic| walk_at "call builtin:str.startswith") => `(tactic| (k_here; k_dflt (refine' starts_comma ?j ?_; (case j => assumption); k_whole)))
local macro_rules | `(tactic| walk_at "subscriptTail Call") => `(tactic| (k_here; (with_unfolding_all (refine' sl_from1 ?F ?N ?z ?e ?_ ?s ?t; (case F => k_asm); (case N => k_asm); (case z => assumption); (case e => assumption); (case s => exact rfl); (case t => exact fun _ => rfl); k_whole)); intro h' t' k' F' N'; (try k_sweep)))
local macro_rules | `(tactic| walk_at "getMethod ref") => `(tactic| (k_here; (with_reducible show wpAny _ _ (getMethod (Value.ref _) (Str.ofString "sub") _) _ _ _); k_dflt (refine getm_pat (PatAt.keeps (by first | exact pat_esc (by assumption) | exact pat_je (by assumption)) (Fr.keep (by k_asm))) slot_sub type_sub ?_)))
local macro_rules | `(tactic| walk_at "call ref") => `(tactic| (k_here; (first | (with_reducible show wpAny _ _ (call (Value.ref 87) _) _ _ _) | (with_reducible show wpAny _ _ (call (Value.ref 70) _) _ _ _)); refine held ?_))
local macro_rules | `(tactic| walk_at "compareOp NotEq ref ref") => `(tactic| (k_here; refine held ?_))
local macro_rules | `(tactic| walk_at "compareOp Eq ref ref") => `(tactic| (k_here; refine held ?_))
local macro_rules | `(tactic| walk_at "compareOp NotEq str str") => `(tactic| (k_here; k_dflt (refine' ne_same ?_; k_whole)))
local macro_rules | `(tactic| walk_at "eval ListComp") => `(tactic| (k_here; refine held ?_))
local macro_rules | `(tactic| walk_at "call builtin:str.join") => `(tactic| (k_here; refine held ?_))
local macro_rules | `(tactic| walk_at "pyIter ref") => `(tactic| (k_here; refine held ?_))
local macro_rules | `(tactic| walk_at "call builtin:len") => `(tactic| (k_here; k_dflt (refine' len_own ?N ?m ?z ?_; (case N => k_asm); (case m => k_mem); (case z => first | assumption | (simp only [List.length_append, List.length_cons, List.length_nil]; omega)); k_whole); intro t' k'))
section
variable {prog : Program} {w : World} {p : Program} {loose : List Str} {mean : ExcName → Option Value} {mg mb : Str → Option Value} {dp un : Nat} {gd : Option (List Code)} {fa : Addr} {cd : Value} {outer : List Env} {A₀ : Around} {base h₀ : Heap} {L : Addr} {s : Shared} {u : Str → Option Value}
    {E : Value → Shared → Prop} {K : Shared → Prop} {Q : Flow → Shared → Prop}
/-- an empty list -/
theorem law_new {Du To : Addr} {led : List (Addr × Obj)}
    (B : Below A₀ base outer h₀) (X : (hd.heap_39 w.params).In h₀) (T : Top p loose mean mg mb h₀)
    (F : Fr h₀ L s.heap (kstB u [("due", .ref Du), ("told", .ref To)])) (N : News h₀ L s.heap led)
    (ret : ∀ u' Lo h' tk', Fr h₀ L h' (kstB u' [("loose", .ref Lo), ("due", .ref Du), ("told", .ref To)]) → News h₀ L h' ((Lo, listO [] 0) :: led) → (∀ q ∈ led, @LT.lt Nat _ q.1 Lo) → K { s with heap := h', toks := tk' }) :
    wpAny (model prog w) (ktrTop dp un gd "law" (lawScope w.params) L fa cd [] outer) (exec (nthS 8 (stmtsOf (fnOfTop w.params 97))) (envX "law" (lawScope w.params) L fa cd [])) (fun f s' => f = .next ∧ K s') E s := by
  have ex1 : nthS 8 (stmtsOf (fnOfTop w.params 97)) = nthS 8 (stmtsOf (fnOfTop w.params 97)) := rfl
  conv at ex1 => rhs; whnf
  have ex3 : lawScope w.params = lawScope w.params := rfl
  conv at ex3 => rhs; whnf
  rw [ex1, ex3]
  clear ex1 ex3
  k_steps
  · exact trivial
  rename_i Lo h1 l1 h2 F2 N2
  exact ret _ Lo _ _ (fr_canon _ F2 (List.forall_mem_cons.mpr ⟨by with_unfolding_all rfl, List.forall_mem_cons.mpr ⟨by with_unfolding_all rfl, List.forall_mem_cons.mpr ⟨by with_unfolding_all rfl, List.forall_mem_nil _⟩⟩⟩)) N2 l1
end
section
variable {prog : Program} {w : World} {p : Program} {loose : List Str} {mean : ExcName → Option Value} {mg mb : Str → Option Value} {dp un : Nat} {gd : Option (List Code)} {fa : Addr} {cd : Value} {outer : List Env} {A₀ : Around} {base h₀ : Heap} {L : Addr} {s : Shared} {u : Str → Option Value}
    {E : Value → Shared → Prop} {K : Shared → Prop} {Q : Flow → Shared → Prop}
/-- the loose lines -/
theorem law_loose {Du To Lo : Addr} {duV : List Value} {du : Nat} {due : List (List Pr)} {led : List (Addr × Obj)}
    (B : Below A₀ base outer h₀) (X : (hd.heap_39 w.params).In h₀) (T : Top p loose mean mg mb h₀) (hdp : dp + 60 < recursionLimit) (hun : un + 160 < cLine)
    (hE : PassesOwn (model prog w) (ktrTop dp un gd "law" (lawScope w.params) L fa cd [] outer) (envX "law" (lawScope w.params) L fa cd []) E)
    (F : Fr h₀ L s.heap (kstB u [("loose", .ref Lo), ("due", .ref Du), ("told", .ref To)])) (N : News h₀ L s.heap ((Lo, listO [] 0) :: led)) (hLo : ∀ q ∈ led, @LT.lt Nat _ q.1 Lo) (hD : (Du, listO duV du) ∈ led) (ED : Each (RowIn led) duV due) (hlen : due.length ≤ 900) (hg : ∀ ps ∈ due, (∀ p ∈ ps, GoodV p) ∧ ps.length ≤ 90)
    (ret : ∀ u' loV lo h' tk', Fr h₀ L h' (kstB u' [("loose", .ref Lo), ("due", .ref Du), ("told", .ref To)]) → News h₀ L h' ((Lo, listO loV lo) :: led) → Each TextIs loV (looseFrom 0 due) → K { s with heap := h', toks := tk' }) :
    wpAny (model prog w) (ktrTop dp un gd "law" (lawScope w.params) L fa cd [] outer) (exec (nthS 9 (stmtsOf (fnOfTop w.params 97))) (envX "law" (lawScope w.params) L fa cd [])) (fun f s' => f = .next ∧ K s') E s := by
  have LA := @loose_all prog w
  have ex1 : nthS 9 (stmtsOf (fnOfTop w.params 97)) = nthS 9 (stmtsOf (fnOfTop w.params 97)) := rfl
  conv at ex1 => rhs; whnf
  have ex2 : forBody (lawFor2 w.params) = forBody (lawFor2 w.params) := rfl
  conv at ex2 => rhs; whnf
  have ex3 : lawScope w.params = lawScope w.params := rfl
  conv at ex3 => rhs; whnf
  rw [ex1, ex3]
  rw [ex3] at hE
  rw [ex2, ex3] at LA
  clear ex1 ex2 ex3
  have hvl : duV.length ≤ 900 := by rw [ED.len]; exact hlen
  have hvz : duV.length ≤ 1000 := by omega
  have hD' : (Du, listO duV du) ∈ (Lo, listO [] 0) :: led := .tail _ hD
  refine for_start (fun _ => rfl) ?_
  k_steps
  rename_i t1 k1 h1 tk1 x1 x2 x3 R1 F1 N1 e1
  refine iter_range F1 N1 R1 (by omega) fun I h2 F2 N2 l2 => ?_
  refine LA (Lo := Lo) (Du := Du) (To := To) (duV := duV) (du := du) (rest := led) (I := I) (rem := due) (k := 0) (loV := []) (lo := 0) (left := (duV.length : Int)) (dn := []) (all := looseFrom 0 due) B X T (by omega) (by omega) hE rfl ?hI (fun q hq => Nat.ne_of_lt (hLo q hq)) (Nat.ne_of_lt (l2 (Lo, listO [] 0) (.head _))) hD hvl ED hg (by rw [ED.len]) rfl trivial rfl (by omega) F2 N2 fun u' loV lo h3 tk3 F3 N3 EL => ⟨rfl, ret u' loV lo h3 tk3 F3 N3 EL⟩
  case hI => exact fun q hq => Nat.ne_of_lt (l2 q (.tail _ hq))
end
end Mine
-- part YA
namespace Mine
open PySem PySem.W PySem.Calls PyProof.Rows PySem.Builtin PySem.Builtin.Re
theorem quiet_YA : True := by
  w_top off
  trivial
local macro_rules | `(tactic| k_mem) => `(tactic| first | assumption | exact List.Mem.head _ | (refine' List.Mem.tail _ ?_; k_mem))
local macro_rules | `(tactic| k_all) => `(tactic| first | assumption | exact ne_of_allLt (by assumption) | (refine ne_of_allLt ?_; grind))
local macro_rules | `(tactic| walk_at "call builtin:list.append") => `(tactic| (k_here; k_dflt (refine' apd ?F ?N ?U ?z ?_; (case F => k_asm); (case N => k_asm); (case U => k_upd); (case z => omega); k_whole; intro h' F' N'; (try k_sweep))))
local macro_rules | `(tactic| walk_at "getMethod ref") => `(tactic| (k_here; (with_reducible show wpAny _ _ (getMethod (Value.ref _) (Str.ofString "search") _) _ _ _); k_dflt (refine getm_pat (PatAt.keeps (by first | exact pat_tok (by assumption) | exact pat_quo (by assumption) | exact pat_val (by assumption)) (Fr.keep (by k_asm))) slot_search type_search ?_)))
local macro_rules | `(tactic| walk_at "getMethod ref") => `(tactic| (k_here; (with_reducible show wpAny _ _ (getMethod (Value.ref _) (Str.ofString "group") _) _ _ _); k_dflt (refine getm_match (News.get (by k_asm) (by k_mem)) slot_group type_group ?_)))
local macro_rules | `(tactic| walk_at "call builtin:re.Pattern.search") => `(tactic| (k_here; k_dflt (first
  | (refine' find_call ?P ?z ?f ?F ?N ?_; (case P => first | exact pat_tok (by assumption) | exact pat_quo (by assumption) | exact pat_val (by assumption)); (case f => assumption); (case z => assumption); (case F => k_asm); (case N => k_asm); k_whole; intro T' h' F' N' l1; (try k_lt l1); (try k_sweep))
  | (refine' miss_call ?P ?F ?z ?f ?_; (case P => first | exact pat_tok (by assumption) | exact pat_quo (by assumption) | exact pat_val (by assumption)); (case f => assumption); (case z => assumption); (case F => k_asm); k_whole))))
local macro_rules | `(tactic| walk_at "call builtin:re.Match.group") => `(tactic| (k_here; k_dflt (refine' group_L ?N ?m ?t ?z ?_; (case N => k_asm); (case m => k_mem); (case t => k_mem); (case z => assumption); k_whole; intro t' k')))
local macro_rules | `(tactic| walk_at "truthy str") => `(tactic| (k_here; k_dflt (first | (refine' truthy_L ?z ?n ?_; (case n => assumption); (case z => assumption); k_whole; intro k') | (refine' truthy_L0 ?n ?_; (case n => assumption); k_whole; intro k'))))
local macro_rules | `(tactic| walk_at "call ref") => `(tactic| (k_here; (with_reducible show wpAny _ _ (call (Value.ref 43) _) _ _ _); k_dflt (refine' unm_call ?B ?F ?X ?N ?T ?k ?m ?t ?d ?u ?z ?f ?_; (case B => k_asm); (case F => k_asm); (case X => k_asm); (case N => k_asm); (case T => k_asm); (case k => exact rfl); (case m => k_mem); (case t => k_mem); (case d => omega); (case u => omega); (case z => assumption); (case f => assumption); k_whole; intro t' h' k' F' N'; (try k_sweep))))
local macro_rules | `(tactic| walk_at "truthy ref") => `(tactic| (k_here; k_dflt (refine' truthy_N ?N ?m ?_; (case N => k_asm); (case m => k_mem); k_whole)))
local macro_rules | `(tactic| walk_at "getMethod ref") => `(tactic| (k_here; (with_reducible show wpAny _ _ (getMethod (Value.ref _) (Str.ofString "subn") _) _ _ _); k_dflt (refine getm_pat (PatAt.keeps (pat_junk (by assumption)) (Fr.keep (by k_asm))) slot_subn type_subn ?_)))
local macro_rules | `(tactic| walk_at "call builtin:re.Pattern.subn") => `(tactic| (k_here; k_dflt (refine' subn_call1 ?F ?N ?P ?z ?j ?_; (case F => k_asm); (case N => k_asm); (case P => exact pat_junk (by assumption)); (case z => omega); (case j => assumption); k_whole; intro y' t1' t2' h' k' F' N' l1; (try k_lt l1); (try k_sweep))))
local macro_rules | `(tactic| walk_at "call builtin:str.lstrip") => `(tactic| (k_here; k_dflt (refine' lstrip_call ?z ?j ?_; (case z => assumption); (case j => assumption); k_whole; intro t' k')))
local macro_rules | `(tactic| walk_at "call builtin:str.rstrip") => `(tactic| (k_here; k_dflt (refine' rstrip_call ?z ?j ?_; (case z => assumption); (case j => assumption); k_whole; intro t' k')))
local macro_rules | `(tactic| walk_at "call builtin:str.startswith") => `(tactic| (k_here; k_dflt (refine' starts_comma ?j ?_; (case j => assumption); k_whole)))
local macro_rules | `(tactic| walk_at "subscriptTail Call") => `(tactic| (k_here; (with_unfolding_all (refine' sl_from1 ?F ?N ?z ?e ?_ ?s ?t; (case F => k_asm); (case N => k_asm); (case z => assumption); (case e => assumption); (case s => exact rfl); (case t => exact fun _ => rfl); k_whole)); intro h' t' k' F' N'; (try k_sweep)))
local macro_rules | `(tactic| walk_at "getMethod ref") => `(tactic| (k_here; (with_reducible show wpAny _ _ (getMethod (Value.ref _) (Str.ofString "sub") _) _ _ _); k_dflt (refine getm_pat (PatAt.keeps (by first | exact pat_esc (by assumption) | exact pat_je (by assumption)) (Fr.keep (by k_asm))) slot_sub type_sub ?_)))
local macro_rules | `(tactic| walk_at "call ref") => `(tactic| (k_here; (first | (with_reducible show wpAny _ _ (call (Value.ref 87) _) _ _ _) | (with_reducible show wpAny _ _ (call (Value.ref 70) _) _ _ _)); refine held ?_))
local macro_rules | `(tactic| walk_at "compareOp NotEq ref ref") => `(tactic| (k_here; refine held ?_))
local macro_rules | `(tactic| walk_at "compareOp Eq ref ref") => `(tactic| (k_here; refine held ?_))
local macro_rules | `(tactic| walk_at "compareOp NotEq str str") => `(tactic| (k_here; k_dflt (refine' ne_same ?_; k_whole)))
local macro_rules | `(tactic| walk_at "eval ListComp") => `(tactic| (k_here; refine held ?_))
local macro_rules | `(tactic| walk_at "call builtin:str.join") => `(tactic| (k_here; refine held ?_))
section
variable {prog : Program} {w : World} {p : Program} {loose : List Str} {mean : ExcName → Option Value} {mg mb : Str → Option Value} {dp un : Nat} {gd : Option (List Code)} {fa : Addr} {cd : Value} {outer : List Env} {A₀ : Around} {base h₀ : Heap} {L : Addr} {s : Shared} {u : Str → Option Value}
    {E : Value → Shared → Prop} {K : Shared → Prop}
theorem spc_ofL : Str.ofString " , " = ofL [32, 44, 32] := by decide +kernel
theorem join_spc {A : Around} {news : List (Addr × Obj)} {D : Addr} {vs : List Value} {n : Nat} {ls : List (List Nat)} {t0 : Tok} {Q : Value → Shared → Prop} (N : News h₀ L s.heap news) (hm : (D, listO vs n) ∈ news) (hts : Each TextIs vs ls) (hsz : textsLen [32, 44, 32] ls ≤ 1048576)
    (q : ∀ t' k, Q (.str (ofL (joinL [32, 44, 32] ls)) t') { s with toks := k }) : wpAny (model prog w) A (call (.builtin "str.join") [.str (Str.ofString " , ") t0, .ref D]) Q E s := by
  rw [spc_ofL]; exact join_texts N hm hts hsz q
/-- the loose text split -/
theorem law_if2 {Du To Lo : Addr} {loV duV : List Value} {lo du : Nat} {due : List (List Pr)} {ls : List (List Nat)} {ts rest : List (Addr × Obj)}
    (B : Below A₀ base outer h₀) (X : (hd.heap_39 w.params).In h₀) (T : Top p loose mean mg mb h₀) (hdp : dp + 60 < recursionLimit) (hun : un + 160 < cLine)
    (F : Fr h₀ L s.heap (kstB u [("loose", .ref Lo), ("due", .ref Du), ("told", .ref To)])) (N : News h₀ L s.heap (ts ++ rest)) (TS : TabOk (lamPos (splitLam w.params)) ts) (hne : ∀ q ∈ rest, @Ne Nat q.1 65)
    (hL : (Lo, listO loV lo) ∈ rest) (EL : Each TextIs loV ls) (hD : (Du, listO duV du) ∈ rest) (ED : Each (RowIn rest) duV due) (htl : textsLen [32, 44, 32] ls ≤ 1048576) (hS : SplitAll [joinL [32, 44, 32] ls] [] due) (hg : ∀ ps ∈ due, ∀ p ∈ ps, GoodP p)
    (ret : ∀ u' h' tk' ts', Fr h₀ L h' (kstB u' [("due", .ref Du), ("told", .ref To)]) → News h₀ L h' (ts' ++ rest) → TabOk (lamPos (splitLam w.params)) ts' → K { s with heap := h', toks := tk' }) :
    wpAny (model prog w) (ktrTop dp un gd "law" (lawScope w.params) L fa cd [] outer) (exec (nthS 10 (stmtsOf (fnOfTop w.params 97))) (envX "law" (lawScope w.params) L fa cd [])) (fun f s' => f = .next ∧ K s') E s := by
  have ex1 : nthS 10 (stmtsOf (fnOfTop w.params 97)) = nthS 10 (stmtsOf (fnOfTop w.params 97)) := rfl
  conv at ex1 => rhs; whnf
  have ex3 : lawScope w.params = lawScope w.params := rfl
  conv at ex3 => rhs; whnf
  rw [ex1, ex3]
  clear ex1 ex3
  have hL' : (Lo, listO loV lo) ∈ ts ++ rest := List.mem_append_right _ hL
  k_steps
  refine join_spc N hL' EL htl fun tx k1 => ?_
  k_steps
  rename_i l h2 F2 N3 l1
  obtain ⟨o65, m65⟩ := TS.has
  have nl : ∀ q ∈ (l, listO [.str (ofL (joinL [32, 44, 32] ls)) tx] 0) :: rest, @Ne Nat q.1 65 := fun q hq => by
    rcases List.mem_cons.mp hq with rfl | hq
    · exact Nat.ne_of_gt (l1 _ (List.mem_append_left _ m65))
    · exact hne q hq
  refine split_call (tb := ts) (rest := (l, listO [.str (ofL (joinL [32, 44, 32] ls)) tx] 0) :: rest) (vs := [.str (ofL (joinL [32, 44, 32] ls)) tx]) (ts := [joinL [32, 44, 32] ls]) (n := 0) B F2 X (news_sub N3 fun q hq => ?hsub) T rfl TS nl (.head _) ⟨⟨_, rfl⟩, trivial⟩ hS (by omega) (by omega) fun Ra n2 ts2 rest2 rsV2 h3 tk3 F3 N4 TS2 a1 a2 ER2 k2 => ?_
  case hsub =>
    simp only [List.mem_cons, List.mem_append] at hq ⊢
    grind
  clear F2 N3
  have up : ∀ q ∈ rest, q ∈ (Ra, listO rsV2 n2) :: (ts2 ++ rest2) := fun q hq => .tail _ (List.mem_append_right _ (k2 _ (.tail _ hq)))
  k_steps
  refine (rows_same (led := rest2) (led' := rest) N4 (.head _) (up _ hD) ER2 ED (fun q hq => .tail _ (List.mem_append_right _ hq)) up hg ?u).2 ?_
  case u => (dsimp only [ktrTop]; omega)
  k_steps
  refine ret _ _ _ ts2 (fr_canon _ F3 (List.forall_mem_cons.mpr ⟨by with_unfolding_all rfl, List.forall_mem_cons.mpr ⟨by with_unfolding_all rfl, List.forall_mem_nil _⟩⟩)) (news_sub N4 fun q hq => ?_) TS2
  rcases List.mem_append.mp hq with hq | hq
  · exact .tail _ (List.mem_append_left _ hq)
  · exact up q hq
end
section
variable {prog : Program} {w : World} {p : Program} {loose : List Str} {mean : ExcName → Option Value} {mg mb : Str → Option Value} {dp un : Nat} {gd : Option (List Code)} {fa : Addr} {cd : Value} {outer : List Env} {A₀ : Around} {base h₀ : Heap} {L : Addr} {s : Shared} {u : Str → Option Value}
    {E : Value → Shared → Prop} {Q : Flow → Shared → Prop}
/-- the rows split one by one -/
theorem law_ret {Du To : Addr} {toV duV : List Value} {to du : Nat} {due : List (List Pr)} {told : List (List (List Nat))} {ts rest : List (Addr × Obj)}
    (B : Below A₀ base outer h₀) (X : (hd.heap_39 w.params).In h₀) (T : Top p loose mean mg mb h₀) (hdp : dp + 60 < recursionLimit) (hun : un + 160 < cLine)
    (F : Fr h₀ L s.heap (kstB u [("due", .ref Du), ("told", .ref To)])) (N : News h₀ L s.heap (ts ++ rest)) (TS : TabOk (lamPos (splitLam w.params)) ts) (hne : ∀ q ∈ rest, @Ne Nat q.1 65)
    (hT : (To, listO toV to) ∈ rest) (ET : Each (TextsIn rest) toV told) (hlen : told.length ≤ 1000) (hz : ∀ ls ∈ told, textsLen [59, 32] ls ≤ 1048576) (hD : (Du, listO duV du) ∈ rest) (ED : Each (RowIn rest) duV due) (hS : SplitAll (told.map fun ls => joinL [59, 32] ls) [] due) (hg : ∀ ps ∈ due, ∀ p ∈ ps, GoodP p)
    (ret : ∀ m' h' tk' ts', Fr h₀ L h' m' → News h₀ L h' (ts' ++ rest) → TabOk (lamPos (splitLam w.params)) ts' → Q (.ret (.bool true)) { s with heap := h', toks := tk' }) :
    wpAny (model prog w) (ktrTop dp un gd "law" (lawScope w.params) L fa cd [] outer) (exec (nthS 11 (stmtsOf (fnOfTop w.params 97))) (envX "law" (lawScope w.params) L fa cd [])) Q E s := by
  have ex1 : nthS 11 (stmtsOf (fnOfTop w.params 97)) = nthS 11 (stmtsOf (fnOfTop w.params 97)) := rfl
  conv at ex1 => rhs; whnf
  have ex3 : lawScope w.params = lawScope w.params := rfl
  conv at ex3 => rhs; whnf
  rw [ex1, ex3]
  clear ex1 ex3
  have hT' : (To, listO toV to) ∈ ts ++ rest := List.mem_append_right _ hT
  k_steps
  refine' semi_all (told := told) (duV := toV) rfl F N hT' (Each.mono (fun _ _ z => TextsIn.mono (fun q hq => List.mem_append_right _ hq) z) ET) hlen hz ?ev ?c1 ?k1 ?n1 ?x1 ?l1 ?he fun D dsV n h1 tk1 F1 N1 ne1 EJ => ?_
  case ev => exact fun Q9 q9 => ld F rfl q9
  case c1 => exact rfl
  case k1 => exact rfl
  case n1 => decide +kernel
  case x1 => decide +kernel
  case l1 => exact fun _ => rfl
  case he => exact fun _ => rfl
  clear F N
  k_steps
  obtain ⟨o65, m65⟩ := TS.has
  have nl : ∀ q ∈ (D, listO dsV n) :: rest, @Ne Nat q.1 65 := fun q hq => by
    rcases List.mem_cons.mp hq with rfl | hq
    · exact fun e => ne1 _ (List.mem_append_left _ m65) e.symm
    · exact hne q hq
  refine split_call (tb := ts) (rest := (D, listO dsV n) :: rest) (vs := dsV) (n := n) B F1 X (news_sub N1 fun q hq => ?hsub) T rfl TS nl (.head _) EJ hS (by omega) (by omega) fun Ra n2 ts2 rest2 rsV2 h3 tk3 F3 N4 TS2 a1 a2 ER2 k2 => ?_
  case hsub =>
    simp only [List.mem_cons, List.mem_append] at hq ⊢
    grind
  clear F1 N1
  have up : ∀ q ∈ rest, q ∈ (Ra, listO rsV2 n2) :: (ts2 ++ rest2) := fun q hq => .tail _ (List.mem_append_right _ (k2 _ (.tail _ hq)))
  k_steps
  refine (rows_same (led := rest2) (led' := rest) N4 (.head _) (up _ hD) ER2 ED (fun q hq => .tail _ (List.mem_append_right _ hq)) up hg ?u).1 ?_
  case u => (dsimp only [ktrTop]; omega)
  k_steps
  refine ret _ _ _ ts2 F3 (news_sub N4 fun q hq => ?_) TS2
  rcases List.mem_append.mp hq with hq | hq
  · exact .tail _ (List.mem_append_left _ hq)
  · exact up q hq
end
end Mine
-- part YB
namespace Mine
open PySem PySem.W PySem.Calls PyProof.Rows PySem.Builtin
section
variable {prog : Program} {w : World} {p : Program} {loose : List Str} {mean : ExcName → Option Value} {mg mb : Str → Option Value} {dp un : Nat} {gd : Option (List Code)} {fa : Addr} {cd : Value} {outer : List Env} {A₀ : Around} {base h₀ : Heap} {L : Addr} {s : Shared} {u : Str → Option Value}
    {E : Value → Shared → Prop} {Q : Flow → Shared → Prop} {ax : Addr} {vs : List Value} {ns : List Int}
theorem law_drop4 {P : Params} : (stmtsOf (fnOfTop P 97)).drop 4 = [nthS 4 (stmtsOf (fnOfTop P 97)), nthS 5 (stmtsOf (fnOfTop P 97)), nthS 6 (stmtsOf (fnOfTop P 97)), nthS 7 (stmtsOf (fnOfTop P 97)), nthS 8 (stmtsOf (fnOfTop P 97)), nthS 9 (stmtsOf (fnOfTop P 97)), nthS 10 (stmtsOf (fnOfTop P 97)), nthS 11 (stmtsOf (fnOfTop P 97))] := by kernel_rfl
theorem TabOk.grown {h₀ h : Heap} {L : Addr} {l tb : List (Addr × Obj)} {pos : Pos} (N : News h₀ L h l) (hs : ∀ q ∈ tb, q ∈ l) : TabOk pos tb → GrownAt 65 h
  | .inl e => GrownAt.of N (hs _ (by rw [e]; exact .head _))
  | .inr ⟨_, _, _, _, e, _⟩ => GrownAt.of N (hs _ (by rw [e]; exact .head _))
theorem TabJ.grown {h₀ h : Heap} {L : Addr} {l tb : List (Addr × Obj)} {pos : Pos} (N : News h₀ L h l) (hs : ∀ q ∈ tb, q ∈ l) : TabJ pos tb → GrownAt 82 h
  | .inl e => GrownAt.of N (hs _ (by rw [e]; exact .head _))
  | .inr ⟨_, _, _, _, e, _⟩ => GrownAt.of N (hs _ (by rw [e]; exact .head _))
theorem told_map (due : List (List Pr)) : (due.map fun ps => ps.map toldOne).map (fun ls => joinL [59, 32] ls) = due.map rowText := by rw [List.map_map]; rfl
theorem law_main (B : Below A₀ base outer h₀) (X : (hd.heap_39 w.params).In h₀) (T : Top p loose mean mg mb h₀) (hdp : dp + 60 < recursionLimit) (hun : un + 160 < cLine)
    (hE : PassesOwn (model prog w) (ktrTop dp un gd "law" (lawScope w.params) L fa cd [] outer) (envX "law" (lawScope w.params) L fa cd []) E)
    (hl : h₀.IsList ax vs.toArray) (hi : IntsAre vs ns) (hn : ns.length ≤ 63)
    (F : Fr h₀ L s.heap (kstB u [("script", .ref ax)])) (N : News h₀ L s.heap [(82, tabObj #[]), (65, tabObj #[])]) (h82 : @LT.lt Nat _ 82 L)
    (ret : ∀ m' h' tk', Fr h₀ L h' m' → GrownAt 82 h' → GrownAt 65 h' → Q (.ret (.bool true)) { s with heap := h', toks := tk' }) :
    wpAny (model prog w) (ktrTop dp un gd "law" (lawScope w.params) L fa cd [] outer) (execs (stmtsOf (fnOfTop w.params 97)) (envX "law" (lawScope w.params) L fa cd [])) Q E s := by
  refine law_a B X T hdp hun hE hl hi hn F N h82 fun u1 Rr rsV rn rest h1 tk1 F1 N1 hR ER hne => ?_
  rw [law_drop4]
  obtain ⟨a1, a2⟩ := steps_ok ns [] [] (by simpa using hn) (by simpa using hn) (fun _ h => nomatch h) (fun _ h => nomatch h)
  generalize (ns.foldl stepRows ([], [])).1 ++ [(ns.foldl stepRows ([], [])).2] = all at ER a1 a2
  have R := due_rows a1 a2
  have HJ := join_rows a2
  have gA : ∀ ps ∈ all, ∀ p ∈ ps, GoodP p := fun ps hp p hq => goodP_menu ((a2 ps hp).2 p hq)
  refine execs_step (law_due B X T hdp hun F1 N1 hR ER gA (by omega) fun u2 Du duV du h2 tk2 F2 N2 ED d82 d65 dD => ?_)
  generalize (all.filter fun ps => !ps.isEmpty) = due at ED R HJ
  have few := R.few
  have gP : ∀ ps ∈ due, ∀ p ∈ ps, GoodP p := fun ps hp p hq => goodP_menu ((R.each ps hp).2.2 p hq)
  have gV : ∀ ps ∈ due, ∀ p ∈ ps, GoodV p := fun ps hp p hq => goodV_menu ((R.each ps hp).2.2 p hq)
  have ED2 : Each (RowIn ((Du, listO duV du) :: rest)) duV due := Each.mono (fun _ _ => RowIn.mono fun q hq => .tail _ hq) ED
  refine execs_step (law_told (due := due) (rest := (Du, listO duV du) :: rest) B X T hdp hun F2 N2 (.head _) ED2 (by omega) (fun ps hp => by have := (R.each ps hp).2.1; omega) gV fun u3 To toV to ex h3 tk3 F3 N3 ET t82 t65 tex tne => ?_)
  have ET2 : Each (TextsIn ((To, listO toV to) :: (ex ++ (Du, listO duV du) :: rest))) toV (due.map fun ps => ps.map toldOne) :=
    Each.mono (fun _ _ z => TextsIn.mono (fun q hq => .tail _ hq) (TextsIn.strip rfl (TextsIn.strip rfl z))) ET
  have up3 : ∀ q ∈ (Du, listO duV du) :: rest, q ∈ (To, listO toV to) :: (ex ++ (Du, listO duV du) :: rest) := fun q hq => .tail _ (List.mem_append_right _ hq)
  have ne3 : ∀ q ∈ (To, listO toV to) :: (ex ++ (Du, listO duV du) :: rest), @Ne Nat q.1 82 ∧ @Ne Nat q.1 65 := fun q hq => by
    rcases List.mem_cons.mp hq with rfl | hq
    · exact ⟨t82, t65⟩
    · rcases List.mem_append.mp hq with hq | hq
      · exact tex q hq
      · rcases List.mem_cons.mp hq with rfl | hq
        · exact ⟨d82, d65⟩
        · exact hne q hq
  have hD3 := up3 _ (.head _)
  have hR3 := up3 _ (.tail _ hR)
  have hT3 : (To, listO toV to) ∈ (To, listO toV to) :: (ex ++ (Du, listO duV du) :: rest) := .head _
  have ED3 := Each.mono (fun _ _ => RowIn.mono up3) ED2
  have ER3 := Each.mono (fun _ _ => RowIn.mono fun q hq => up3 q (.tail _ hq)) ER
  generalize (To, listO toV to) :: (ex ++ (Du, listO duV du) :: rest) = rest3 at N3 ET2 ne3 hD3 hR3 hT3 ED3 ER3
  clear up3 ET ED2 ED ER F1 F2 N1 N2
  have lz : ∀ ls ∈ (due.map fun ps => ps.map toldOne), textsLen [59, 32] ls ≤ 1048576 := fun ls hls => by
    obtain ⟨ps, hp, rfl⟩ := List.mem_map.mp hls
    exact Nat.le_trans (told_texts (R.each ps hp).2) (by decide)
  have rz := rows_texts R
  have dl : (due.map fun ps => ps.map toldOne).length ≤ 1000 := by rw [List.length_map]; omega
  refine execs_step (law_text (told := due.map fun ps => ps.map toldOne) B X T hdp hun F3 N3 (.tail _ (.tail _ hT3)) (Each.mono (fun _ _ z => TextsIn.mono (fun q hq => .tail _ (.tail _ hq)) z) ET2) dl lz (by rw [told_map]; omega) fun u4 tx h4 tk4 F4 N4 => ?_)
  rw [told_map] at F4
  refine execs_step (law_if1 (hs := due.map rowText) (all := all) (due := due) (rest := rest3) B X T hdp hun F4 N4 ne3 hR3 ER3 hD3 ED3 HJ (by rw [List.length_map]; omega) (by omega) (split_told R) gP fun u5 h5 tk5 tj ts F5 N5 TS TJ j65 => ?_)
  have up5 : ∀ q ∈ rest3, q ∈ ts ++ (tj ++ rest3) := fun q hq => List.mem_append_right _ (List.mem_append_right _ hq)
  refine execs_step (law_new B X T F5 N5 fun u6 Lo h6 tk6 F6 N6 lLo => ?_)
  refine execs_step (law_loose (due := due) B X T hdp hun hE F6 N6 lLo (up5 _ hD3) (Each.mono (fun _ _ => RowIn.mono up5) ED3) (by omega) (fun ps hp => ⟨gV ps hp, by have := (R.each ps hp).2.1; omega⟩) fun u7 loV lo h7 tk7 F7 N7 EL => ?_)
  obtain ⟨o65, m65⟩ := TS.has
  have up7 : ∀ q ∈ rest3, q ∈ (Lo, listO loV lo) :: (tj ++ rest3) := fun q hq => .tail _ (List.mem_append_right _ hq)
  have ne7 : ∀ q ∈ (Lo, listO loV lo) :: (tj ++ rest3), @Ne Nat q.1 65 := fun q hq => by
    rcases List.mem_cons.mp hq with rfl | hq
    · exact Nat.ne_of_gt (lLo _ (List.mem_append_left _ m65))
    · exact (List.mem_append.mp hq).elim (j65 q) fun z => (ne3 q z).2
  have ED7 := Each.mono (fun _ _ => RowIn.mono up7) ED3
  have tz := loose_texts R
  refine execs_step (law_if2 (due := due) (ls := looseFrom 0 due) (ts := ts) (rest := (Lo, listO loV lo) :: (tj ++ rest3)) B X T hdp hun F7 (news_sub N7 fun q hq => ?hsub) TS ne7 (.head _) EL (up7 _ hD3) ED7 (by omega) (split_loose R) gP fun u8 h8 tk8 ts' F8 N8 TS' => ?_)
  case hsub =>
    simp only [List.mem_cons, List.mem_append] at hq ⊢
    grind
  refine wpAny_execs_cons (law_ret (told := due.map fun ps => ps.map toldOne) (due := due) B X T hdp hun F8 N8 TS' ne7 (up7 _ hT3) (Each.mono (fun _ _ z => TextsIn.mono up7 z) ET2) dl lz (up7 _ hD3) ED7 (by rw [told_map]; exact split_each due [] R.each (by simp only [List.length_nil]; omega)) gP fun m9 h9 tk9 ts9 F9 N9 TS9 => ?_)
  exact ret m9 h9 tk9 F9 (TJ.grown N9 fun _ hq => List.mem_append_right _ (.tail _ (List.mem_append_left _ hq))) (TS9.grown N9 fun q hq => List.mem_append_left _ hq)
end
end Mine
-- part YC
namespace Mine
open PySem PySem.W PySem.Calls PyProof.Rows PySem.Builtin PySem.Builtin.Re
theorem quiet_YC : True := by
  w_top off
  trivial
local macro_rules | `(tactic| k_mem) => `(tactic| first | assumption | exact List.Mem.head _ | (refine' List.Mem.tail _ ?_; k_mem))
local macro_rules | `(tactic| k_all) => `(tactic| first | assumption | exact ne_of_allLt (by assumption) | (refine ne_of_allLt ?_; grind))
local macro_rules | `(tactic| walk_at "call builtin:list.append") => `(tactic| (k_here; k_dflt (refine' apd ?F ?N ?U ?z ?_; (case F => k_asm); (case N => k_asm); (case U => k_upd); (case z => omega); k_whole; intro h' F' N'; (try k_sweep))))
local macro_rules | `(tactic| walk_at "getMethod ref") => `(tactic| (k_here; (with_reducible show wpAny _ _ (getMethod (Value.ref _) (Str.ofString "search") _) _ _ _); k_dflt (refine getm_pat (PatAt.keeps (by first | exact pat_tok (by assumption) | exact pat_quo (by assumption) | exact pat_val (by assumption)) (Fr.keep (by k_asm))) slot_search type_search ?_)))
local macro_rules | `(tactic| walk_at "getMethod ref") => `(tactic| (k_here; (with_reducible show wpAny _ _ (getMethod (Value.ref _) (Str.ofString "group") _) _ _ _); k_dflt (refine getm_match (News.get (by k_asm) (by k_mem)) slot_group type_group ?_)))
local macro_rules | `(tactic| walk_at "call builtin:re.Pattern.search") => `(tactic| (k_here; k_dflt (first
  | (refine' find_call ?P ?z ?f ?F ?N ?_; (case P => first | exact pat_tok (by assumption) | exact pat_quo (by assumption) | exact pat_val (by assumption)); (case f => assumption); (case z => assumption); (case F => k_asm); (case N => k_asm); k_whole; intro T' h' F' N' l1; (try k_lt l1); (try k_sweep))
  | (refine' miss_call ?P ?F ?z ?f ?_; (case P => first | exact pat_tok (by assumption) | exact pat_quo (by assumption) | exact pat_val (by assumption)); (case f => assumption); (case z => assumption); (case F => k_asm); k_whole))))
local macro_rules | `(tactic| walk_at "call builtin:re.Match.group") => `(tactic| (k_here; k_dflt (refine' group_L ?N ?m ?t ?z ?_; (case N => k_asm); (case m => k_mem); (case t => k_mem); (case z => assumption); k_whole; intro t' k')))
local macro_rules | `(tactic| walk_at "truthy str") => `(tactic| (k_here; k_dflt (first | (refine' truthy_L ?z ?n ?_; (case n => assumption); (case z => assumption); k_whole; intro k') | (refine' truthy_L0 ?n ?_; (case n => assumption); k_whole; intro k'))))
local macro_rules | `(tactic| walk_at "call ref") => `(tactic| (k_here; (with_reducible show wpAny _ _ (call (Value.ref 43) _) _ _ _); k_dflt (refine' unm_call ?B ?F ?X ?N ?T ?k ?m ?t ?d ?u ?z ?f ?_; (case B => k_asm); (case F => k_asm); (case X => k_asm); (case N => k_asm); (case T => k_asm); (case k => exact rfl); (case m => k_mem); (case t => k_mem); (case d => omega); (case u => omega); (case z => assumption); (case f => assumption); k_whole; intro t' h' k' F' N'; (try k_sweep))))
local macro_rules | `(tactic| walk_at "truthy ref") => `(tactic| (k_here; k_dflt (refine' truthy_N ?N ?m ?_; (case N => k_asm); (case m => k_mem); k_whole)))
local macro_rules | `(tactic| walk_at "getMethod ref") => `(tactic| (k_here; (with_reducible show wpAny _ _ (getMethod (Value.ref _) (Str.ofString "subn") _) _ _ _); k_dflt (refine getm_pat (PatAt.keeps (pat_junk (by assumption)) (Fr.keep (by k_asm))) slot_subn type_subn ?_)))
local macro_rules | `(tactic| walk_at "call builtin:re.Pattern.subn") => `(tactic| (k_here; k_dflt (refine' subn_call1 ?F ?N ?P ?z ?j ?_; (case F => k_asm); (case N => k_asm); (case P => exact pat_junk (by assumption)); (case z => omega); (case j => assumption); k_whole; intro y' t1' t2' h' k' F' N' l1; (try k_lt l1); (try k_sweep))))
local macro_rules | `(tactic| walk_at "call builtin:str.lstrip") => `(tactic| (k_here; k_dflt (refine' lstrip_call ?z ?j ?_; (case z => assumption); (case j => assumption); k_whole; intro t' k')))
local macro_rules | `(tactic| walk_at "call builtin:str.rstrip") => `(tactic| (k_here; k_dflt (refine' rstrip_call ?z ?j ?_; (case z => assumption); (case j => assumption); k_whole; intro t' k')))
local macro_rules | `(tactic| walk_at "call builtin:str.startswith") => `(tactic| (k_here; k_dflt (refine' starts_comma ?j ?_; (case j => assumption); k_whole)))
local macro_rules | `(tactic| walk_at "subscriptTail Call") => `(tactic| (k_here; (with_unfolding_all (refine' sl_from1 ?F ?N ?z ?e ?_ ?s ?t; (case F => k_asm); (case N => k_asm); (case z => assumption); (case e => assumption); (case s => exact rfl); (case t => exact fun _ => rfl); k_whole)); intro h' t' k' F' N'; (try k_sweep)))
local macro_rules | `(tactic| walk_at "getMethod ref") => `(tactic| (k_here; (with_reducible show wpAny _ _ (getMethod (Value.ref _) (Str.ofString "sub") _) _ _ _); k_dflt (refine getm_pat (PatAt.keeps (by first | exact pat_esc (by assumption) | exact pat_je (by assumption)) (Fr.keep (by k_asm))) slot_sub type_sub ?_)))
theorem final : PySem.Challenge.rw_wy0009_01.Holds := by
  refine hd ?_
  k_go0
  all_goals (try k_fold)
  rename Fr _ _ _ _ => F
  rename News _ _ _ _ => N
  rename Below _ _ _ _ => B
  rename Top _ _ _ _ _ _ => T
  rename Frag.In _ _ => X
  rename IntsAre _ _ => hI
  rename List Int => ns9
  rename Heap.IsList _ _ _ => hl
  rename ¬ (_ < _) => hn
  rename _ < _ ∧ _ < _ => l0
  rename Shared.gens _ = #[] => hgens
  have hn63 : ns9.length ≤ 63 := by first | omega | (simp only [decide_eq_true_eq, not_lt] at hn; omega) | exact_mod_cast not_lt.mp hn
  have LM := fun (w : World) => @law_main PySem.Challenge.rw_wy0009_01.row.prog w
  have ex1 : ∀ w : World, stmtsOf (fnOfTop w.params 97) = stmtsOf (fnOfTop w.params 97) := fun _ => rfl
  conv at ex1 => intro w; rhs; whnf
  have ex3 : ∀ w : World, lawScope w.params = lawScope w.params := fun _ => rfl
  conv at ex3 => intro w; rhs; whnf
  simp only [ex1, ex3] at LM
  clear ex1 ex3
  refine LM _ (dp := 1 + claimMargin + 1) (un := 4 + 3) (gd := some []) (outer := []) B X T ?hdp ?hun ?hE hl hI hn63 (fr_canon [(Str.ofString "script", .ref _)] F (List.forall_mem_cons.mpr ⟨by with_unfolding_all rfl, List.forall_mem_nil _⟩)) N l0.1 ?ret
  case hdp => decide +kernel
  case hun => decide +kernel
  case hE => first | passes_own | with_unfolding_all passes_own
  case ret =>
    intro m9 h9 tk9 F9 g82 g65
    refine ⟨?_, g82, g65, trivial⟩
    clear F N LM
    k_steps
    all_goals (try k_data)
end Mine
theorem PySem.Challenge.cw_wy0009_01_holds : PySem.Challenge.rw_wy0009_01.Holds := by
  exact Mine.final
