import PyProof.Rows.All
import Wide.All
import OpenK.AllK
import Wide.FinOn
import PySem.Sre
import KE.KTupSum
import KE.KxBytes
import PyProof.Rows.StrSplitCount
import PySem.Challenge.RW_pe0216_01
set_option Elab.async false
set_option maxRecDepth 100000
set_option maxHeartbeats 4000000
set_option compiler.extract_closed false
namespace Mine
section 
open PySem PySem.Sre PySem.Sre.M
/-- m comes to m' -/
noncomputable def Steps (m m' : M) : Prop := ∃ k, k ≤ 1000000 ∧ ∀ j, runFor (k + j) m = runFor j m'
noncomputable def StepsN (n : Nat) (m m' : M) : Prop := ∀ j, runFor (n + j) m = runFor j m'
theorem StepsN.refl (m : M) : StepsN 0 m m := fun j => by rw [Nat.zero_add]
theorem StepsN.trans {a b : Nat} {m m' m'' : M} (h1 : StepsN a m m') (h2 : StepsN b m' m'') : StepsN (a + b) m m'' := fun j => by
  rw [Nat.add_assoc, h1, h2]
theorem StepsN.one {m m' : M} (ho : m.outcome = none) (h : m.step = m') : StepsN 1 m m' := fun j => by
  rw [Nat.add_comm]
  show (if m.outcome.isSome then m else runFor j m.step) = _
  rw [ho, h]; rfl
theorem runFor_done {m : M} (h : m.outcome.isSome = true) : ∀ n, runFor n m = m
  | 0 => rfl
  | n + 1 => by show (if m.outcome.isSome then m else _) = m; rw [if_pos h]
theorem step_exec {m : M} (ho : m.outcome = none) (ha : m.answer = none) (hp : m.pc < m.code.size) : m.step = m.exec := by
  unfold M.step
  rw [ho, ha]
  simp [hp]
theorem step_resume {m : M} {yes : Bool} {f : PySem.Sre.Frame} {rest : List PySem.Sre.Frame} (ho : m.outcome = none) (ha : m.answer = some yes) (hf : m.frames = f :: rest) :
    m.step = resume { m with answer := none, frames := rest, weight := m.weight - (1 + f.kept.marks.size), pc := f.pc, pos := f.pos, outermost := f.outermost } f yes := by
  unfold M.step
  rw [ho, ha, hf]
  rfl
theorem step_end {m : M} {yes : Bool} (ho : m.outcome = none) (ha : m.answer = some yes) (hf : m.frames = []) : m.step = { m with outcome := some (if yes then .matched else .failed) } := by
  unfold M.step
  rw [ho, ha, hf]
  rfl
noncomputable def dotC : Array Nat := #[14, 4, 0, 1, 1, 6, 1, 16, 46, 1]
noncomputable def eolC : Array Nat := #[14, 9, 4, 1, 2, 16, 10, 16, 13, 0, 7, 7, 16, 13, 16, 10, 15, 18, 5, 16, 10, 15, 13, 11, 16, 13, 5, 5, 0, 16, 10, 1, 15, 2, 0, 1]
noncomputable def dotM (text : Array Nat) (lim p : Nat) (first : Bool) (seen : Seen) : M :=
  { code := dotC, text, lim, start := p, lastStart := lim, wholeText := false, mustAdvance := false, pc := 5, pos := p, handed := p, outermost := first, marks := #[], lastmark := -1, lastindex := -1, loops := #[], inner := none,
    frames := [{ wait := .nextStart, pc := 5, pos := p, outermost := first }], weight := 1, answer := none, seen, outcome := none }
noncomputable def dotAt (text : Array Nat) (p : Nat) : Bool := (p == 0 || text.getD (p - 1) 0 == 10)
/-- the `AT` word -/
theorem dot_at {text : Array Nat} {lim p : Nat} {first : Bool} {seen : Seen} (b : Bool) (hb : dotAt text p = b) :
    (dotM text lim p first seen).step = (if b then { dotM text lim p first ((seen.add 6).add 44) with pc := 7 } else { dotM text lim p first ((seen.add 6).add 44) with answer := some false }) := by
  rw [step_exec rfl rfl (by show 5 < 10; decide)]
  unfold dotAt at hb
  subst hb
  rfl
theorem dot_lit {text : Array Nat} {lim p : Nat} {first : Bool} {seen : Seen} (b : Bool) (hb : (decide (p < lim) && (text.getD p 0 == 46)) = b) :
    ({ dotM text lim p first seen with pc := 7 } : M).step = (if b then { dotM text lim p first (seen.add 16) with pc := 9, pos := p + 1 } else { dotM text lim p first (seen.add 16) with pc := 7, answer := some false }) := by
  rw [step_exec rfl rfl (by show 7 < 10; decide)]
  by_cases h1 : p ≥ lim
  · have : (decide (p < lim)) = false := by simp; omega
    rw [this] at hb
    subst hb
    show (if p ≥ lim then _ else _) = _
    rw [if_pos h1]
    rfl
  · have : (decide (p < lim)) = true := by simp; omega
    rw [this, Bool.true_and] at hb
    subst hb
    show (if p ≥ lim then _ else _) = _
    rw [if_neg h1]
    show (match (Except.ok ((text.getD p 0 == 46), seen.add 16) : Except String (Bool × Seen)) with | .error why => _ | .ok (false, seen) => _ | .ok (true, seen) => _) = _
    cases h2 : (text.getD p 0 == 46) <;> rfl
theorem dot_hit {text : Array Nat} {lim p : Nat} {first : Bool} {seen : Seen} (hp : p < lim) (h1 : dotAt text p = true) (h2 : text.getD p 0 = 46) :
    ∃ m', StepsN 5 (dotM text lim p first seen) m' ∧ m'.outcome = some .matched ∧ m'.start = p ∧ m'.handed = p + 1 := by
  have s1 := StepsN.one rfl (dot_at (lim := lim) (first := first) (seen := seen) true h1)
  rw [if_pos rfl] at s1
  have s2 := StepsN.one rfl (dot_lit (text := text) (lim := lim) (p := p) (first := first) (seen := (seen.add 6).add 44) true (by simp [hp, h2]))
  rw [if_pos rfl] at s2
  have s3 : StepsN 1 ({ dotM text lim p first ((((seen.add 6).add 44)).add 16) with pc := 9, pos := p + 1 } : M) { dotM text lim p first ((((seen.add 6).add 44).add 16).add 1) with pc := 9, pos := p + 1, handed := p + 1, answer := some true } := by
    refine StepsN.one rfl ?_
    rw [step_exec rfl rfl (by show 9 < 10; decide)]
    cases first <;> rfl
  have s4 : StepsN 1 ({ dotM text lim p first ((((seen.add 6).add 44).add 16).add 1) with pc := 9, pos := p + 1, handed := p + 1, answer := some true } : M) { dotM text lim p first ((((seen.add 6).add 44).add 16).add 1) with pc := 5, handed := p + 1, answer := some true, frames := [], weight := 0 } := by
    refine StepsN.one rfl ?_
    rw [step_resume rfl rfl rfl]
    rfl
  have s5 : StepsN 1 ({ dotM text lim p first ((((seen.add 6).add 44).add 16).add 1) with pc := 5, handed := p + 1, answer := some true, frames := [], weight := 0 } : M) { dotM text lim p first ((((seen.add 6).add 44).add 16).add 1) with pc := 5, handed := p + 1, answer := some true, frames := [], weight := 0, outcome := some .matched } := by
    refine StepsN.one rfl ?_
    rw [step_end rfl rfl rfl]
    rfl
  exact ⟨_, s1.trans (s2.trans (s3.trans (s4.trans s5))), rfl, rfl, rfl⟩
/-- a try that fails: on to the next place, or the end -/
theorem dot_fail {text : Array Nat} {lim p : Nat} {first : Bool} {seen : Seen} (h : (dotAt text p && (decide (p < lim) && (text.getD p 0 == 46))) = false) :
    ∃ k seen' pc', k ≤ 2 ∧ 1 ≤ k ∧ StepsN k (dotM text lim p first seen) { dotM text lim p first seen' with pc := pc', answer := some false } := by
  cases h1 : dotAt text p with
  | false =>
    have s1 := StepsN.one rfl (dot_at (lim := lim) (first := first) (seen := seen) false h1)
    rw [if_neg (by decide)] at s1
    exact ⟨1, _, 5, by omega, by omega, s1⟩
  | true =>
    rw [h1, Bool.true_and] at h
    have s1 := StepsN.one rfl (dot_at (lim := lim) (first := first) (seen := seen) true h1)
    rw [if_pos rfl] at s1
    have s2 := StepsN.one rfl (dot_lit (text := text) (lim := lim) (p := p) (first := first) (seen := (seen.add 6).add 44) false h)
    rw [if_neg (by decide)] at s2
    exact ⟨2, _, 7, by omega, by omega, s1.trans s2⟩
theorem dot_next {text : Array Nat} {lim p pc' : Nat} {first : Bool} {seen : Seen} (hp : p < lim) :
    StepsN 1 ({ dotM text lim p first seen with pc := pc', answer := some false } : M) (dotM text lim (p + 1) false seen) := by
  refine StepsN.one rfl ?_
  rw [step_resume rfl rfl rfl]
  show (if p < lim then _ else _) = _
  rw [if_pos hp]
  rfl
theorem dot_over {text : Array Nat} {lim p pc' : Nat} {first : Bool} {seen : Seen} (hp : ¬ p < lim) :
    ∃ m', StepsN 2 ({ dotM text lim p first seen with pc := pc', answer := some false } : M) m' ∧ m'.outcome = some .failed := by
  have s1 : StepsN 1 ({ dotM text lim p first seen with pc := pc', answer := some false } : M) { dotM text lim p first seen with pc := 5, answer := some false, frames := [], weight := 0 } := by
    refine StepsN.one rfl ?_
    rw [step_resume rfl rfl rfl]
    show (if p < lim then _ else _) = _
    rw [if_neg hp]
    rfl
  have s2 : StepsN 1 ({ dotM text lim p first seen with pc := 5, answer := some false, frames := [], weight := 0 } : M) { dotM text lim p first seen with pc := 5, answer := some false, frames := [], weight := 0, outcome := some .failed } := by
    refine StepsN.one rfl ?_
    rw [step_end rfl rfl rfl]
    rfl
  exact ⟨_, s1.trans s2, rfl⟩
/-- the first place at p or behind it, or none -/
noncomputable def dotFind (text : Array Nat) (lim : Nat) : (n p : Nat) → Option Nat
  | 0, _ => none
  | n + 1, p => if (dotAt text p && (decide (p < lim) && (text.getD p 0 == 46))) = true then some p else dotFind text lim n (p + 1)
theorem dot_search {text : Array Nat} {lim : Nat} : ∀ (n p : Nat) (first : Bool) (seen : Seen), p ≤ lim → n = lim + 1 - p →
    ∃ K m', K ≤ 3 * n + 5 ∧ StepsN K (dotM text lim p first seen) m' ∧ match dotFind text lim n p with
      | some q => m'.outcome = some .matched ∧ m'.start = q ∧ m'.handed = q + 1
      | none => m'.outcome = some .failed
  | 0, p, first, seen, hp, hn => by omega
  | n + 1, p, first, seen, hp, hn => by
    unfold dotFind
    by_cases h : (dotAt text p && (decide (p < lim) && (text.getD p 0 == 46))) = true
    · rw [if_pos h]
      simp only [Bool.and_eq_true, decide_eq_true_eq, beq_iff_eq] at h
      obtain ⟨m', hs, ho, h1, h2⟩ := dot_hit (first := first) (seen := seen) h.2.1 h.1 h.2.2
      exact ⟨5, m', by omega, hs, ho, h1, h2⟩
    · rw [if_neg h]
      rw [Bool.not_eq_true] at h
      obtain ⟨k, seen', pc', hk, hk1, hs⟩ := dot_fail (text := text) (lim := lim) (p := p) (first := first) (seen := seen) h
      by_cases hlt : p < lim
      · obtain ⟨K, m', hK, hs', r⟩ := dot_search (text := text) (lim := lim) n (p + 1) false seen' (by omega) (by omega)
        exact ⟨k + (1 + K), m', by omega, hs.trans ((dot_next hlt).trans hs'), r⟩
      · have hn0 : n = 0 := by omega
        subst hn0
        obtain ⟨m', hs', ho⟩ := dot_over (text := text) (lim := lim) (p := p) (first := first) (seen := seen') (pc' := pc') hlt
        exact ⟨k + 2, m', by omega, hs.trans hs', ho⟩
end 
section 
open PySem PySem.Sre PySem.Sre.M
noncomputable def eM (text : Array Nat) (lim p : Nat) (seen : Seen) (pc pos handed : Nat) (outer : Bool) (frames : List PySem.Sre.Frame) (weight : Nat) (answer : Option Bool) : M :=
  { code := eolC, text, lim, start := p, lastStart := lim, wholeText := false, mustAdvance := false, pc, pos, handed, outermost := outer, marks := #[], lastmark := -1, lastindex := -1, loops := #[], inner := none,
    frames, weight, answer, seen, outcome := none }
noncomputable def fS (p : Nat) (o : Bool) : PySem.Sre.Frame := { wait := .nextStart, pc := 10, pos := p, outermost := o }
noncomputable def kp : PySem.Sre.Kept := { lastmark := -1, lastindex := -1, whole := false, marks := #[] }
noncomputable def fB (alt p : Nat) (o : Bool) : PySem.Sre.Frame := { wait := .nextBranch, pc := alt, pos := p, outermost := o, kept := kp }
noncomputable def fN (p : Nat) (o : Bool) : PySem.Sre.Frame := { wait := .lookNot, pc := 26, pos := p, outermost := o, kept := kp }
section
variable {text : Array Nat} {lim p pos handed wt : Nat} {o : Bool} {seen : Seen} {fr : List PySem.Sre.Frame}
theorem e_lit12 (b : Bool) (hb : (decide (pos < lim) && (text.getD pos 0 == 13)) = b) :
    StepsN 1 (eM text lim p seen 12 pos handed o fr wt none) (if b then eM text lim p (seen.add 16) 14 (pos + 1) handed o fr wt none else eM text lim p (seen.add 16) 12 pos handed o fr wt (some false)) := by
  refine StepsN.one rfl ?_
  rw [step_exec rfl rfl (by show 12 < 36; decide)]
  by_cases h1 : pos ≥ lim
  · have : (decide (pos < lim)) = false := by simp; omega
    rw [this] at hb
    subst hb
    show (if pos ≥ lim then _ else _) = _
    rw [if_pos h1]
    rfl
  · have : (decide (pos < lim)) = true := by simp; omega
    rw [this, Bool.true_and] at hb
    subst hb
    show (if pos ≥ lim then _ else _) = _
    rw [if_neg h1]
    show (match (Except.ok ((text.getD pos 0 == 13), seen.add 16) : Except String (Bool × Seen)) with | .error why => _ | .ok (false, seen) => _ | .ok (true, seen) => _) = _
    cases h2 : (text.getD pos 0 == 13) <;> rfl
theorem e_lit14 (b : Bool) (hb : (decide (pos < lim) && (text.getD pos 0 == 10)) = b) :
    StepsN 1 (eM text lim p seen 14 pos handed o fr wt none) (if b then eM text lim p (seen.add 16) 16 (pos + 1) handed o fr wt none else eM text lim p (seen.add 16) 14 pos handed o fr wt (some false)) := by
  refine StepsN.one rfl ?_
  rw [step_exec rfl rfl (by show 14 < 36; decide)]
  by_cases h1 : pos ≥ lim
  · have : (decide (pos < lim)) = false := by simp; omega
    rw [this] at hb
    subst hb
    show (if pos ≥ lim then _ else _) = _
    rw [if_pos h1]
    rfl
  · have : (decide (pos < lim)) = true := by simp; omega
    rw [this, Bool.true_and] at hb
    subst hb
    show (if pos ≥ lim then _ else _) = _
    rw [if_neg h1]
    show (match (Except.ok ((text.getD pos 0 == 10), seen.add 16) : Except String (Bool × Seen)) with | .error why => _ | .ok (false, seen) => _ | .ok (true, seen) => _) = _
    cases h2 : (text.getD pos 0 == 10) <;> rfl
theorem e_lit19 (b : Bool) (hb : (decide (pos < lim) && (text.getD pos 0 == 10)) = b) :
    StepsN 1 (eM text lim p seen 19 pos handed o fr wt none) (if b then eM text lim p (seen.add 16) 21 (pos + 1) handed o fr wt none else eM text lim p (seen.add 16) 19 pos handed o fr wt (some false)) := by
  refine StepsN.one rfl ?_
  rw [step_exec rfl rfl (by show 19 < 36; decide)]
  by_cases h1 : pos ≥ lim
  · have : (decide (pos < lim)) = false := by simp; omega
    rw [this] at hb
    subst hb
    show (if pos ≥ lim then _ else _) = _
    rw [if_pos h1]
    rfl
  · have : (decide (pos < lim)) = true := by simp; omega
    rw [this, Bool.true_and] at hb
    subst hb
    show (if pos ≥ lim then _ else _) = _
    rw [if_neg h1]
    show (match (Except.ok ((text.getD pos 0 == 10), seen.add 16) : Except String (Bool × Seen)) with | .error why => _ | .ok (false, seen) => _ | .ok (true, seen) => _) = _
    cases h2 : (text.getD pos 0 == 10) <;> rfl
theorem e_lit24 (b : Bool) (hb : (decide (pos < lim) && (text.getD pos 0 == 13)) = b) :
    StepsN 1 (eM text lim p seen 24 pos handed o fr wt none) (if b then eM text lim p (seen.add 16) 26 (pos + 1) handed o fr wt none else eM text lim p (seen.add 16) 24 pos handed o fr wt (some false)) := by
  refine StepsN.one rfl ?_
  rw [step_exec rfl rfl (by show 24 < 36; decide)]
  by_cases h1 : pos ≥ lim
  · have : (decide (pos < lim)) = false := by simp; omega
    rw [this] at hb
    subst hb
    show (if pos ≥ lim then _ else _) = _
    rw [if_pos h1]
    rfl
  · have : (decide (pos < lim)) = true := by simp; omega
    rw [this, Bool.true_and] at hb
    subst hb
    show (if pos ≥ lim then _ else _) = _
    rw [if_neg h1]
    show (match (Except.ok ((text.getD pos 0 == 13), seen.add 16) : Except String (Bool × Seen)) with | .error why => _ | .ok (false, seen) => _ | .ok (true, seen) => _) = _
    cases h2 : (text.getD pos 0 == 13) <;> rfl
theorem e_lit29 (b : Bool) (hb : (decide (pos < lim) && (text.getD pos 0 == 10)) = b) :
    StepsN 1 (eM text lim p seen 29 pos handed o fr wt none) (if b then eM text lim p (seen.add 16) 31 (pos + 1) handed o fr wt none else eM text lim p (seen.add 16) 29 pos handed o fr wt (some false)) := by
  refine StepsN.one rfl ?_
  rw [step_exec rfl rfl (by show 29 < 36; decide)]
  by_cases h1 : pos ≥ lim
  · have : (decide (pos < lim)) = false := by simp; omega
    rw [this] at hb
    subst hb
    show (if pos ≥ lim then _ else _) = _
    rw [if_pos h1]
    rfl
  · have : (decide (pos < lim)) = true := by simp; omega
    rw [this, Bool.true_and] at hb
    subst hb
    show (if pos ≥ lim then _ else _) = _
    rw [if_neg h1]
    show (match (Except.ok ((text.getD pos 0 == 10), seen.add 16) : Except String (Bool × Seen)) with | .error why => _ | .ok (false, seen) => _ | .ok (true, seen) => _) = _
    cases h2 : (text.getD pos 0 == 10) <;> rfl
theorem e_jump16 : StepsN 1 (eM text lim p seen 16 pos handed o fr wt none) (eM text lim p (seen.add 15) 35 pos handed o fr wt none) := by
  refine StepsN.one rfl ?_
  rw [step_exec rfl rfl (by show 16 < 36; decide)]
  rfl
theorem e_jump21 : StepsN 1 (eM text lim p seen 21 pos handed o fr wt none) (eM text lim p (seen.add 15) 35 pos handed o fr wt none) := by
  refine StepsN.one rfl ?_
  rw [step_exec rfl rfl (by show 21 < 36; decide)]
  rfl
theorem e_jump32 : StepsN 1 (eM text lim p seen 32 pos handed o fr wt none) (eM text lim p (seen.add 15) 35 pos handed o fr wt none) := by
  refine StepsN.one rfl ?_
  rw [step_exec rfl rfl (by show 32 < 36; decide)]
  rfl
theorem e_succ : StepsN 1 (eM text lim p seen 35 pos handed o fr wt none) (eM text lim p (seen.add 1) 35 pos pos o fr wt (some true)) := by
  refine StepsN.one rfl ?_
  rw [step_exec rfl rfl (by show 35 < 36; decide)]
  cases o <;> rfl
theorem e_branch (hw : wt ≤ 100) : StepsN 1 (eM text lim p seen 10 pos handed o fr wt none) (eM text lim p (seen.add 7) 12 pos pos o (fB 11 pos o :: fr) (wt + 1) none) := by
  refine StepsN.one rfl ?_
  rw [step_exec rfl rfl (by show 10 < 36; decide)]
  show (if wt + 1 + 0 > 16777216 then _ else _) = _
  rw [if_neg (by omega)]
  rfl
theorem e_not (hw : wt ≤ 100) : StepsN 1 (eM text lim p seen 26 pos handed o fr wt none) (eM text lim p (seen.add 5) 29 pos pos false (fN pos o :: fr) (wt + 1) none) := by
  refine StepsN.one rfl ?_
  rw [step_exec rfl rfl (by show 26 < 36; decide)]
  show (if wt + 1 + 0 > 16777216 then _ else _) = _
  rw [if_neg (by omega)]
  rfl
theorem e_yesB {alt q : Nat} {oo : Bool} {pc : Nat} : StepsN 1 (eM text lim p seen pc pos handed o (fB alt q oo :: fr) (wt + 1) (some true)) (eM text lim p seen alt q handed oo fr wt (some true)) := by
  refine StepsN.one rfl ?_
  rw [step_resume rfl rfl rfl]
  rfl
theorem e_yesS {q : Nat} {oo : Bool} {pc : Nat} : StepsN 1 (eM text lim p seen pc pos handed o [fS q oo] 1 (some true)) (eM text lim p seen 10 q handed oo [] 0 (some true)) := by
  refine StepsN.one rfl ?_
  rw [step_resume rfl rfl rfl]
  rfl
theorem e_end {b : Bool} {pc : Nat} : ∃ m', StepsN 1 (eM text lim p seen pc pos handed o [] 0 (some b)) m' ∧ m'.outcome = some (if b then .matched else .failed) ∧ m'.start = p ∧ m'.handed = handed :=
  ⟨_, StepsN.one rfl (step_end rfl rfl rfl), rfl, rfl, rfl⟩
theorem e_noN {q : Nat} {oo : Bool} {pc : Nat} : StepsN 1 (eM text lim p seen pc pos handed o (fN q oo :: fr) (wt + 1) (some false)) (eM text lim p seen 32 q handed oo fr wt none) := by
  refine StepsN.one rfl ?_
  rw [step_resume rfl rfl rfl]
  rfl
theorem e_noB11 (hw : wt ≤ 100) {q : Nat} {oo : Bool} {pc : Nat} : StepsN 1 (eM text lim p seen pc pos handed o (fB 11 q oo :: fr) (wt + 1) (some false)) (eM text lim p seen 19 q q oo (fB 18 q oo :: fr) (wt + 1) none) := by
  refine StepsN.one rfl ?_
  rw [step_resume rfl rfl rfl]
  show (if wt + 1 + 0 > 16777216 then _ else _) = _
  rw [if_neg (by omega)]
  rfl
theorem e_noB18 (hw : wt ≤ 100) {q : Nat} {oo : Bool} {pc : Nat} : StepsN 1 (eM text lim p seen pc pos handed o (fB 18 q oo :: fr) (wt + 1) (some false)) (eM text lim p seen 24 q q oo (fB 23 q oo :: fr) (wt + 1) none) := by
  refine StepsN.one rfl ?_
  rw [step_resume rfl rfl rfl]
  show (if wt + 1 + 0 > 16777216 then _ else _) = _
  rw [if_neg (by omega)]
  rfl
/-- a try at a line end -/
noncomputable def eTry (text : Array Nat) (lim p : Nat) (first : Bool) (seen : Seen) : M := eM text lim p seen 10 p p first [fS p first] 1 none
theorem eol_crlf {first : Bool} (h0 : p < lim) (h1 : text.getD p 0 = 13) (h2 : p + 1 < lim) (h3 : text.getD (p + 1) 0 = 10) :
    ∃ m', StepsN 8 (eTry text lim p first seen) m' ∧ m'.outcome = some .matched ∧ m'.start = p ∧ m'.handed = p + 2 := by
  have s1 := e_branch (text := text) (lim := lim) (p := p) (pos := p) (handed := p) (o := first) (seen := seen) (fr := [fS p first]) (wt := 1) (by omega)
  have s2 := e_lit12 (text := text) (lim := lim) (p := p) (pos := p) (handed := p) (o := first) (seen := seen.add 7) (fr := fB 11 p first :: [fS p first]) (wt := 2) true (by simp [h0, h1])
  have s3 := e_lit14 (text := text) (lim := lim) (p := p) (pos := p + 1) (handed := p) (o := first) (seen := (seen.add 7).add 16) (fr := fB 11 p first :: [fS p first]) (wt := 2) true (by simp [h2, h3])
  rw [if_pos rfl] at s2 s3
  obtain ⟨m', s8, r⟩ := e_end (text := text) (lim := lim) (p := p) (seen := _) (pc := 10) (pos := p) (handed := p + 1 + 1) (o := first) (b := true)
  exact ⟨m', s1.trans (s2.trans (s3.trans (e_jump16.trans (e_succ.trans (e_yesB.trans (e_yesS.trans s8)))))), r⟩
theorem eol_lf {first : Bool} (h0 : p < lim) (h1 : text.getD p 0 = 10) :
    ∃ m', StepsN 9 (eTry text lim p first seen) m' ∧ m'.outcome = some .matched ∧ m'.start = p ∧ m'.handed = p + 1 := by
  have s1 := e_branch (text := text) (lim := lim) (p := p) (pos := p) (handed := p) (o := first) (seen := seen) (fr := [fS p first]) (wt := 1) (by omega)
  have s2 := e_lit12 (text := text) (lim := lim) (p := p) (pos := p) (handed := p) (o := first) (seen := seen.add 7) (fr := fB 11 p first :: [fS p first]) (wt := 2) false (by simp [h1])
  rw [if_neg (by decide)] at s2
  have s4 := e_lit19 (text := text) (lim := lim) (p := p) (pos := p) (handed := p) (o := first) (seen := (seen.add 7).add 16) (fr := fB 18 p first :: [fS p first]) (wt := 2) true (by simp [h0, h1])
  rw [if_pos rfl] at s4
  obtain ⟨m', s8, r⟩ := e_end (text := text) (lim := lim) (p := p) (seen := _) (pc := 10) (pos := p) (handed := p + 1) (o := first) (b := true)
  exact ⟨m', s1.trans (s2.trans ((e_noB11 (by omega)).trans (s4.trans (e_jump21.trans (e_succ.trans (e_yesB.trans (e_yesS.trans s8))))))), r⟩
theorem eol_cr {first : Bool} (h0 : p < lim) (h1 : text.getD p 0 = 13) (h2 : (decide (p + 1 < lim) && (text.getD (p + 1) 0 == 10)) = false) :
    ∃ m', StepsN 15 (eTry text lim p first seen) m' ∧ m'.outcome = some .matched ∧ m'.start = p ∧ m'.handed = p + 1 := by
  have s1 := e_branch (text := text) (lim := lim) (p := p) (pos := p) (handed := p) (o := first) (seen := seen) (fr := [fS p first]) (wt := 1) (by omega)
  have s2 := e_lit12 (text := text) (lim := lim) (p := p) (pos := p) (handed := p) (o := first) (seen := seen.add 7) (fr := fB 11 p first :: [fS p first]) (wt := 2) true (by simp [h0, h1])
  rw [if_pos rfl] at s2
  have s3 := e_lit14 (text := text) (lim := lim) (p := p) (pos := p + 1) (handed := p) (o := first) (seen := (seen.add 7).add 16) (fr := fB 11 p first :: [fS p first]) (wt := 2) false h2
  rw [if_neg (by decide)] at s3
  have s5 := e_lit19 (text := text) (lim := lim) (p := p) (pos := p) (handed := p) (o := first) (seen := ((seen.add 7).add 16).add 16) (fr := fB 18 p first :: [fS p first]) (wt := 2) false (by simp [h1])
  rw [if_neg (by decide)] at s5
  have s7 := e_lit24 (text := text) (lim := lim) (p := p) (pos := p) (handed := p) (o := first) (seen := (((seen.add 7).add 16).add 16).add 16) (fr := fB 23 p first :: [fS p first]) (wt := 2) true (by simp [h0, h1])
  rw [if_pos rfl] at s7
  have s9 := e_lit29 (text := text) (lim := lim) (p := p) (pos := p + 1) (handed := p + 1) (o := false) (seen := (((((seen.add 7).add 16).add 16).add 16).add 16).add 5) (fr := fN (p + 1) first :: fB 23 p first :: [fS p first]) (wt := 3) false h2
  rw [if_neg (by decide)] at s9
  obtain ⟨m', s15, r⟩ := e_end (text := text) (lim := lim) (p := p) (seen := _) (pc := 10) (pos := p) (handed := p + 1) (o := first) (b := true)
  exact ⟨m', s1.trans (s2.trans (s3.trans ((e_noB11 (by omega)).trans (s5.trans ((e_noB18 (by omega)).trans (s7.trans ((e_not (by omega)).trans (s9.trans (e_noN.trans (e_jump32.trans (e_succ.trans (e_yesB.trans (e_yesS.trans s15))))))))))))), r⟩
end
end 
section 
open PySem PySem.Sre PySem.Sre.M
noncomputable def isEol (c : Nat) : Bool := c == 10 || c == 13
noncomputable def eolFind (text : Array Nat) (lim : Nat) : (n p : Nat) → Option Nat
  | 0, _ => none
  | n + 1, p => if p ≥ lim then none else if isEol (text.getD p 0) then some p else eolFind text lim n (p + 1)
theorem eol_set (c : Nat) (seen : Seen) : ∃ seen', inSet eolC c 36 5 true seen = .ok (isEol c, seen') := by
  unfold isEol
  by_cases h1 : c = 10
  · subst h1; exact ⟨_, rfl⟩
  · by_cases h2 : c = 13
    · subst h2; exact ⟨_, rfl⟩
    · refine ⟨((seen.add 16).add 16).add 0, ?_⟩
      have e1 : (c == 10) = false := by simp [h1]
      have e2 : (c == 13) = false := by simp [h2]
      show (if (c == 10) = true then _ else (if (c == 13) = true then _ else _)) = _
      rw [e1, e2]; rfl
theorem eol_adm (m : M) (hc : m.code = eolC) : ∀ (n p : Nat) (seen : Seen), ∃ seen', admitted m n p seen = .ok (eolFind m.text m.lim n p, seen')
  | 0, p, seen => ⟨seen, rfl⟩
  | n + 1, p, seen => by
    unfold admitted eolFind
    by_cases h : p ≥ m.lim
    · rw [if_pos h, if_pos h]; exact ⟨_, rfl⟩
    · rw [if_neg h, if_neg h]
      obtain ⟨seen', e⟩ := eol_set (m.text.getD p 0) seen
      rw [hc, show eolC.size = 36 from rfl, e]
      cases hb : isEol (m.text.getD p 0) with
      | true => exact ⟨seen', rfl⟩
      | false => exact eol_adm m hc n (p + 1) seen'
theorem eolFind_spec {text : Array Nat} {lim : Nat} : ∀ {n p q : Nat}, eolFind text lim n p = some q → p ≤ q ∧ q < lim ∧ isEol (text.getD q 0) = true ∧ ∀ k, p ≤ k → k < q → isEol (text.getD k 0) = false
  | 0, _, _, h => by cases h
  | n + 1, p, q, h => by
    unfold eolFind at h
    split at h
    · cases h
    · split at h
      · cases h; rename_i h1 h2; exact ⟨Nat.le_refl _, by omega, h2, fun k a b => by omega⟩
      · rename_i h1 h2
        obtain ⟨a, b, c, d⟩ := eolFind_spec h
        refine ⟨by omega, b, c, fun k hk1 hk2 => ?_⟩
        by_cases hk : k = p
        · subst hk; simpa using h2
        · exact d k (by omega) hk2
theorem eolFind_none {text : Array Nat} {lim : Nat} : ∀ {n p : Nat}, n = lim + 1 - p → eolFind text lim n p = none → ∀ k, p ≤ k → k < lim → isEol (text.getD k 0) = false
  | 0, p, hn, h, k, h1, h2 => by omega
  | n + 1, p, hn, h, k, h1, h2 => by
    unfold eolFind at h
    split at h
    · omega
    · split at h
      · cases h
      · rename_i h3 h4
        by_cases hk : k = p
        · subst hk; simpa using h4
        · exact eolFind_none (by omega) h k (by omega) h2
noncomputable def eolEnd (text : Array Nat) (lim q : Nat) : Nat := if text.getD q 0 = 13 ∧ q + 1 < lim ∧ text.getD (q + 1) 0 = 10 then q + 2 else q + 1
theorem eol_search (text : Array Nat) (lim pos : Nat) : ∃ K m', K ≤ 20 ∧ StepsN K (forSearch eolC text 0 pos lim false) m' ∧ match eolFind text lim (lim + 1 - pos) pos with
      | some q => m'.outcome = some .matched ∧ m'.start = q ∧ m'.handed = eolEnd text lim q
      | none => m'.outcome = some .failed := by
  by_cases hp : (pos > lim || lim - pos < 1) = true
  · have e : eolFind text lim (lim + 1 - pos) pos = none := by
      have hp' : pos ≥ lim := by simp at hp; omega
      cases hn : lim + 1 - pos with
      | zero => rfl
      | succ n => unfold eolFind; rw [if_pos hp']
    rw [e]
    have em : forSearch eolC text 0 pos lim false = { code := eolC, text, lim, start := pos, lastStart := 0, pc := 10, pos, handed := pos, marks := #[], answer := some false, seen := ({} : Seen).add 14 } := by
      show (if (pos > lim || lim - pos < 1) = true then _ else _) = _
      rw [if_pos hp]; rfl
    rw [em]
    exact ⟨1, _, by omega, StepsN.one rfl (step_end rfl rfl rfl), rfl⟩
  · have em : forSearch eolC text 0 pos lim false = attemptFrom { code := eolC, text, lim, start := pos, lastStart := lim, pc := 10, pos, handed := pos, marks := #[], seen := ({} : Seen).add 14 } pos true := by
      show (if (pos > lim || lim - pos < 1) = true then _ else _) = _
      rw [if_neg hp]; rfl
    rw [em]
    obtain ⟨seen', ea⟩ := eol_adm { code := eolC, text, lim, start := pos, lastStart := lim, pc := 10, pos, handed := pos, marks := #[], seen := ({} : Seen).add 14 } rfl (lim + 1 - pos) pos (({} : Seen).add 14)
    cases hf : eolFind text lim (lim + 1 - pos) pos with
    | none =>
      have ef : attemptFrom { code := eolC, text, lim, start := pos, lastStart := lim, pc := 10, pos, handed := pos, marks := #[], seen := ({} : Seen).add 14 } pos true = { code := eolC, text, lim, start := pos, lastStart := lim, pc := 10, pos, handed := pos, marks := #[], answer := some false, seen := seen' } := by
        unfold attemptFrom
        show (match admitted _ (lim + 1 - pos) pos _ with | .ok (some s, seen) => _ | .ok (none, seen) => _ | .error why => _) = _
        rw [ea]
        show (match (Except.ok (eolFind text lim (lim + 1 - pos) pos, seen') : Except String (Option Nat × Seen)) with | .ok (some s, seen) => _ | .ok (none, seen) => _ | .error why => _) = _
        rw [hf]
        rfl
      rw [ef]
      exact ⟨1, _, by omega, StepsN.one rfl (step_end rfl rfl rfl), rfl⟩
    | some q =>
      have ef : attemptFrom { code := eolC, text, lim, start := pos, lastStart := lim, pc := 10, pos, handed := pos, marks := #[], seen := ({} : Seen).add 14 } pos true = eTry text lim q true seen' := by
        unfold attemptFrom
        show (match admitted _ (lim + 1 - pos) pos _ with | .ok (some s, seen) => _ | .ok (none, seen) => _ | .error why => _) = _
        rw [ea]
        show (match (Except.ok (eolFind text lim (lim + 1 - pos) pos, seen') : Except String (Option Nat × Seen)) with | .ok (some s, seen) => _ | .ok (none, seen) => _ | .error why => _) = _
        rw [hf]
        rfl
      rw [ef]
      obtain ⟨h1, h2, h3, h4⟩ := eolFind_spec hf
      unfold isEol at h3
      by_cases c1 : text.getD q 0 = 13
      · by_cases c2 : q + 1 < lim ∧ text.getD (q + 1) 0 = 10
        · obtain ⟨m', hs, r⟩ := eol_crlf (first := true) (seen := seen') h2 c1 c2.1 c2.2
          refine ⟨8, m', by omega, hs, r.1, r.2.1, ?_⟩
          unfold eolEnd; rw [if_pos ⟨c1, c2⟩]; exact r.2.2
        · obtain ⟨m', hs, r⟩ := eol_cr (text := text) (lim := lim) (first := true) (seen := seen') h2 c1 (by
            cases hx : (decide (q + 1 < lim) && (text.getD (q + 1) 0 == 10)) with
            | false => rfl
            | true => exact absurd (by simpa using hx) c2)
          refine ⟨15, m', by omega, hs, r.1, r.2.1, ?_⟩
          unfold eolEnd; rw [if_neg (fun h => c2 h.2)]; exact r.2.2
      · have c3 : text.getD q 0 = 10 := by
          rcases Bool.or_eq_true_iff.mp h3 with h | h
          · simpa using h
          · exact absurd (by simpa using h) c1
        obtain ⟨m', hs, r⟩ := eol_lf (first := true) (seen := seen') h2 c3
        refine ⟨9, m', by omega, hs, r.1, r.2.1, ?_⟩
        unfold eolEnd; rw [if_neg (fun h => c1 h.1)]; exact r.2.2
theorem dot_run (text : Array Nat) (lim pos : Nat) : ∃ K m', K ≤ 3 * (lim + 1 - pos) + 5 ∧ StepsN K (forSearch dotC text 0 pos lim false) m' ∧ match dotFind text lim (lim + 1 - pos) pos with
      | some q => m'.outcome = some .matched ∧ m'.start = q ∧ m'.handed = q + 1
      | none => m'.outcome = some .failed := by
  by_cases hp : (pos > lim || lim - pos < 1) = true
  · have hp' : pos ≥ lim := by simp at hp; omega
    have e : dotFind text lim (lim + 1 - pos) pos = none := by
      have : ∀ n p, lim ≤ p → dotFind text lim n p = none := fun n => by
        induction n with
        | zero => intro p _; rfl
        | succ n ih =>
          intro p hp
          unfold dotFind
          rw [if_neg (by simp; intro _ h; omega)]
          exact ih (p + 1) (by omega)
      exact this _ _ hp'
    rw [e]
    have em : forSearch dotC text 0 pos lim false = { code := dotC, text, lim, start := pos, lastStart := 0, pc := 5, pos, handed := pos, marks := #[], answer := some false, seen := ({} : Seen).add 14 } := by
      show (if (pos > lim || lim - pos < 1) = true then _ else _) = _
      rw [if_pos hp]; rfl
    rw [em]
    exact ⟨1, _, by omega, StepsN.one rfl (step_end rfl rfl rfl), rfl⟩
  · have em : forSearch dotC text 0 pos lim false = dotM text lim pos true (({} : Seen).add 14) := by
      show (if (pos > lim || lim - pos < 1) = true then _ else _) = _
      rw [if_neg hp]; rfl
    rw [em]
    have hp' : pos ≤ lim := by simp at hp; omega
    exact dot_search _ pos true _ hp' rfl
end 
end Mine
open PySem PySem.W PyProof.Rows
namespace Mine
section 
open PySem PySem.W PyProof.Rows
set_option maxHeartbeats 8000000 in
open_top hd for PySem.Challenge.rw_pe0216_01
end 
theorem filled : (fun (_ : OpenLaw) (_ : Params → Frag) => True) PySem.Challenge.rw_pe0216_01 Mine.hd.heap_39 := by
  k_fill; trivial
local macro_rules | `(tactic| walk_at "m_kept") => `(tactic| ((rename Fr _ _ _ _ => kF); (rename News _ _ _ _ => kN); intro t' h' tk' hk'; (have kF' := PyProof.Rows.Fr.keeps kF hk'); (have kN' := PyProof.Rows.News.grown kN hk'); (try dsimp only at kF' kN'); (try k_sweep); (try dsimp only)))
local macro_rules | `(tactic| walk_at "m_xta") => `(tactic| ((case X => walk_at "m_cx"); (case T => walk_at "m_cx"); (case hA => (try dsimp only); omega)))
local macro_rules | `(tactic| walk_at "m_one") => `(tactic| ((first | (k_unfold; (try dsimp only)) | walk1 | (dsimp only; first | (k_unfold; (try dsimp only)) | walk1))))
section 
open PySem PySem.W PyProof.Rows
theorem enter {prog : Program} {w : World} {A : Around} {s : Shared} {K : Frag} {E : Value → Shared → Prop} {Q : Value → Shared → Prop}
    {f : Addr} {name qual : Str} {params : Arguments} {body : List Stmt} {scope : Scope} {dV kV doc pm cdv ct oc : Value} {an od : Option Addr} {osl : Array (Option Value)} {args : List Value} {binds : List (Str × Value)}
    (X : K.In s.heap) (hlim : s.heap.NoLimit)
    (ho : K.lookup f = some ⟨oc, od, .func (fnOf name qual params body scope dV kV doc pm an cdv ct), osl⟩) (hcd : codeIn K cdv qual = true) (hroom : A.depth < recursionLimit)
    (hbind : bindArgs (fnOf name qual params body scope dV kV doc pm an cdv ct) ⟨args, []⟩ = pure binds) (hloc : ∀ y ∈ binds, scope.names.lookup y.1 = some .local)
    (h : ∀ L h₁, Fr s.heap L h₁ (fun y => binds.reverse.lookup y) → News s.heap L h₁ [] →
      wpAny (model prog w) (A.deeper (envOf qual scope L f cdv)) (execs body (envOf qual scope L f cdv))
        (fun fl s' => Q (match fl with | .ret v => v | _ => .none) s') (fun _ _ => False) { s with heap := h₁, toks := s.toks + binds.length })
    (hco : scope.isCoroutine = false) (hgen : scope.isGenerator = false) (hk : scope.kind = .function)
    (hcell : ∀ x ∈ scope.names, x.2 ≠ .cell) : wpAny (model prog w) A (call (.ref f) args) Q E s := by
  refine wpAny_call (codeAny_call_def (fd := fnOf name qual params body scope dV kV doc pm an cdv ct) (body := body) (binds := binds) hroom (X _ _ ho) rfl hlim (codeRec_of X hcd) rfl (BindsTo.of_eq hbind) hcell hloc (fun h₁ hns hk₁ => ?_) hco hgen hk)
  exact wpAny_mono (h s.heap.objs.size h₁ ⟨hns, hk₁, Nat.le_refl _⟩ News.nil) (fun _ _ x => x) fun _ _ x => x.elim
theorem room {A : Around} {n : Nat} (h : A.depth < n) (e : n ≤ recursionLimit := by decide) : A.depth < recursionLimit := Nat.lt_of_lt_of_le h e
end 
local macro_rules | `(tactic| walk_at "m_in") => `(tactic| (
  (case X => assumption);
  (case T => exact TopRead.nolimit (by assumption));
  (case ho => k_is);
  (case hcd => k_is);
  (case hr => exact room (by assumption));
  (case hb => exact rfl);
  (case hl => exact locs rfl);
  (case c1 => rfl);
  (case c2 => rfl);
  (case c3 => rfl);
  (case c4 => decide);
  intro L h₁ F N;
  k_fold))
local macro_rules | `(tactic| walk_at "m_go") => `(tactic| repeat' walk_at "m_one")
section 
open PySem PySem.W PyProof.Rows
theorem c_sub {prog : Program} {w : World} {A : Around} {s : Shared} {Q E} {p loose mg mb} (X : (Mine.hd.heap_39 w.params).In s.heap) (T : TopRead p loose mg mb s.heap)
   (hA : A.depth < 450)  {x y : Str} {t u : Tok} (hx : x.length ≤ 1000) (hy : y.length ≤ 1000)
   (h : ∀ v tk h' tk', (∀ b o, s.heap.get? b = some o → h'.get? b = some o) → v = (if x == y then 0 else if Txt.lower x == Txt.lower y then 1 else 2) → Q (Value.int v tk) { s with heap := h', toks := tk' }) :
   wpAny (model prog w) A (call (.ref 147) [.str x t, .str y u]) Q E s := by
  refine' enter (binds := [(Str.ofString "ch_a", Value.str x t), (Str.ofString "ch_b", Value.str y u)]) ?X ?T ?ho ?hcd ?hr ?hb ?hl ?_ ?c1 ?c2 ?c3 ?c4
  walk_at "m_in"
  walk_at "m_go"
  all_goals (refine h _ _ _ _ (Fr.keep (by assumption)) ?_)
  all_goals simp_all
end 
section 
/-! plain functions and laws -/
noncomputable def bump (c : List Int) (b : Int) : List Int :=
  let c' := if (c.length : Int) ≤ b then c ++ (List.replicate (b - c.length + 1).toNat [0]).flatten else c
  c'.set b.toNat (c'.getD b.toNat 0 + 1)
theorem bump_ok {c : List Int} {b : Int} {r L : Nat} (h0 : 0 ≤ b) (h1 : b + ((r + 1 : Nat) : Int) ≤ (L : Nat)) (h2 : c.length + (r + 1) ≤ L + 1) : (bump c b).length + r ≤ L + 1 := by
  unfold bump
  simp only [List.length_set]
  split
  · have e : ∀ k : Nat, (List.replicate k [(0 : Int)]).flatten.length = k := fun k => by
      induction k with
      | zero => rfl
      | succ k ih => simp [List.replicate_succ]
    simp only [List.length_append, e]
    omega
  · omega
structure WS where
  c : List Int
  b : Int
  n : Int
  nt : Int
noncomputable def ws : List Nat → WS → WS
  | [], st => st
  | a :: r, st => if a = 32 then ws r { st with b := st.b + 1, n := st.n + 1 } else if a = 9 then ws r ⟨bump st.c st.b, 0, st.n + 1, st.nt + 1⟩ else st
noncomputable def ws0 : WS := ⟨[], 0, 0, 0⟩
noncomputable def endsOf (st : WS) : Int := st.n - st.nt + (st.c.take 1).sum
noncomputable def rep (e : List Nat) (n : Int) : List Nat := (List.replicate n.toNat e).flatten
noncomputable def formL (e : List Nat) (more : Bool) : Nat → List WS → List Nat
  | _, [] => []
  | k, st :: r => rep e (endsOf st) ++ (match r with | [] => [] | _ :: _ => if more && decide (k = 0 ∨ 0 < st.n) then [46, 46] else [46]) ++ formL e more (k + 1) r
theorem rep_length (e : List Nat) (n : Int) : (rep e n).length = n.toNat * e.length := by
  unfold rep
  generalize n.toNat = k
  induction k with
  | zero => simp
  | succ k ih => simp only [List.replicate_succ, List.flatten_cons, List.length_append, ih]; rw [Nat.succ_mul]; omega
theorem form_step {e : List Nat} {more : Bool} {sts : List WS} {i : Nat} {st0 : WS} (h : sts[i]? = some st0) :
    formL e more i (sts.drop i) = rep e (endsOf st0) ++ (if i + 1 < sts.length then (if more && decide (i = 0 ∨ 0 < st0.n) then [46, 46] else [46]) else []) ++ formL e more (i + 1) (sts.drop (i + 1)) := by
  obtain ⟨hi, rfl⟩ := List.getElem?_eq_some_iff.mp h
  rw [List.drop_eq_getElem_cons hi]
  simp only [formL]
  by_cases hl : i + 1 < sts.length
  · rw [if_pos hl, List.drop_eq_getElem_cons hl]
  · rw [if_neg hl, List.drop_eq_nil_of_le (by omega)]
noncomputable def mailC (c : Nat) : Nat := if c = 32 then 13 else if c = 9 then 10 else c
noncomputable def mail (l : List Nat) : List Nat := l.map mailC
noncomputable def wsL (l : List Nat) : WS := ws l ws0
noncomputable def piecesL : Nat → List Nat → List WS
  | 0, _ => []
  | k + 1, rest => wsL rest :: piecesL k (rest.drop ((wsL rest).n + 1).toNat)
end 
section 
theorem ws_mono : ∀ (l : List Nat) (st : WS), st.n ≤ (ws l st).n
  | [], st => Int.le_refl _
  | a :: r, st => by
    unfold ws
    split
    · have := ws_mono r { st with b := st.b + 1, n := st.n + 1 }; simp only at this; omega
    · split
      · have := ws_mono r ⟨bump st.c st.b, 0, st.n + 1, st.nt + 1⟩; simp only at this; omega
      · exact Int.le_refl _
theorem wsL_n (l : List Nat) : 0 ≤ (wsL l).n := ws_mono l ws0
end 
section 
noncomputable def splitL (c : Nat) : List Nat → List (List Nat)
  | [] => [[]]
  | a :: r => if a = c then [] :: splitL c r else match splitL c r with
    | [] => [[a]]
    | p :: q => (a :: p) :: q
noncomputable def runsL (x : List Nat) : List Int := (splitL 9 x).map (fun l => (l.length : Int))
noncomputable def mxR (A : List Int) : Nat := (A.foldl max (-1) + 1).toNat
noncomputable def cntR (A : List Int) : List Int := (List.range (mxR A)).map (fun a : Nat => ((A.count (a : Int) : Nat) : Int))
noncomputable def aheadL (x : List Nat) : List Int := (runsL x).take ((runsL x).length - 1)
noncomputable def fixGo : Bool → List Nat → List Nat
  | _, [] => []
  | b, c :: r => if c = 13 then 13 :: 10 :: fixGo true r else if c = 10 then (if b then fixGo false r else 13 :: 10 :: fixGo false r) else c :: fixGo false r
noncomputable def fixL (l : List Nat) : List Nat := fixGo false l
noncomputable def qGo : Bool → List Nat → List Nat
  | _, [] => []
  | nl, c :: r => (if nl && c == 46 then [46, 46] else [c]) ++ qGo (c == 10) r
noncomputable def qL (l : List Nat) : List Nat := qGo true l
theorem splitL_ne (c : Nat) : ∀ x, splitL c x ≠ []
  | [] => by simp [splitL]
  | a :: r => by
    unfold splitL
    split
    · simp
    · split <;> simp
theorem splitL_len (c : Nat) : ∀ x, (splitL c x).length ≤ x.length + 1 ∧ ∀ p ∈ splitL c x, p.length ≤ x.length
  | [] => by simp [splitL]
  | a :: r => by
    have ih := splitL_len c r
    unfold splitL
    split
    · refine ⟨by simp; omega, ?_⟩
      intro p hp
      rcases List.mem_cons.mp hp with rfl | hp
      · simp
      · have := ih.2 p hp; simp; omega
    · split
      · simp
      · rename_i p q e
        rw [e] at ih
        refine ⟨by have := ih.1; simp at this ⊢; omega, ?_⟩
        intro z hz
        rcases List.mem_cons.mp hz with rfl | hz
        · have := ih.2 p (.head _); simp; omega
        · have := ih.2 z (.tail _ hz); simp; omega
theorem foldl_max_ge : ∀ (A : List Int) (b : Int), b ≤ A.foldl max b ∧ ∀ a ∈ A, a ≤ A.foldl max b
  | [], b => by simp
  | a :: r, b => by
    have ih := foldl_max_ge r (max b a)
    rw [List.foldl_cons]
    refine ⟨by omega, ?_⟩
    intro z hz
    rcases List.mem_cons.mp hz with rfl | hz
    · omega
    · exact ih.2 z hz
theorem foldl_max_mem : ∀ (A : List Int) (b : Int), A.foldl max b ∈ b :: A
  | [], b => by simp
  | a :: r, b => by
    have ih := foldl_max_mem r (max b a)
    rw [List.foldl_cons]
    rcases List.mem_cons.mp ih with e | e
    · rw [e]
      rcases Int.le_total b a with h | h
      · rw [Int.max_eq_right h]; simp
      · rw [Int.max_eq_left h]; simp
    · simp [e]
theorem max_is {A : List Int} {M : Int} (h1 : M ∈ A ++ [-1]) (h2 : ∀ a ∈ A ++ [-1], a ≤ M) : M = A.foldl max (-1) := by
  have g := foldl_max_ge A (-1)
  have m := foldl_max_mem A (-1)
  have u : A.foldl max (-1) ≤ M := by
    rcases List.mem_cons.mp m with e | e
    · rw [e]; exact h2 (-1) (by simp)
    · exact h2 _ (by simp [e])
  have l : M ≤ A.foldl max (-1) := by
    rcases List.mem_append.mp h1 with e | e
    · exact g.2 M e
    · rw [List.mem_singleton.mp e]; exact g.1
  omega
theorem splitL_free (c : Nat) : ∀ p : List Nat, c ∉ p → splitL c p = [p]
  | [], _ => rfl
  | a :: r, h => by
    have ih := splitL_free c r (fun q => h (.tail _ q))
    unfold splitL
    rw [if_neg (fun e => h (by rw [e]; exact .head _)), ih]
theorem splitL_app (c : Nat) (rest : List Nat) : ∀ p : List Nat, c ∉ p → splitL c (p ++ c :: rest) = p :: splitL c rest
  | [], _ => by
    show splitL c (c :: rest) = _
    rw [splitL, if_pos rfl]
  | a :: r, h => by
    have ih := splitL_app c rest r (fun q => h (.tail _ q))
    show splitL c (a :: (r ++ c :: rest)) = _
    rw [splitL, if_neg (fun e => h (by rw [e]; exact .head _)), ih]
end 
section 
open PySem PySem.W PyProof.Rows
theorem Fr.know {h₀ h : Heap} {L : Addr} {m : Str → Option Value} {x : Str} {v : Value} (F : Fr h₀ L h m) (e : m x = some v) : Fr h₀ L h (fun y => if y = x then some v else m y) := by
  have : (fun y => if y = x then some v else m y) = m := by
    funext y
    by_cases h : y = x
    · subst h; simp [e]
    · simp [h]
  rw [this]; exact F
noncomputable def Knows (m : Str → Option Value) : List (Str × Value) → Prop
  | [] => True
  | p :: r => m p.1 = some p.2 ∧ Knows m r
theorem knows_eq {m : Str → Option Value} : ∀ {ps : List (Str × Value)}, Knows m ps → (fun y => (ps.lookup y).or (m y)) = m
  | [], _ => by funext y; rfl
  | (z, u) :: r, h => by
    have ih := knows_eq h.2
    funext y
    have ih' := congrFun ih y
    simp only [List.lookup_cons]
    by_cases e : y = z
    · subst e
      have h1 := h.1
      dsimp only at h1
      simp [h1]
    · have : (y == z) = false := beq_eq_false_iff_ne.mpr e
      simp only [this]; exact ih'
theorem Fr.knows {h₀ h : Heap} {L : Addr} {m : Str → Option Value} {ps : List (Str × Value)} (F : Fr h₀ L h m) (e : Knows m ps) : Fr h₀ L h (fun y => (ps.lookup y).or (m y)) := by
  rw [knows_eq e]; exact F
theorem Fr.knowsIn {h₀ h : Heap} {L : Addr} {m : Str → Option Value} {ps : List (Str × Value)} {x : Str} {v : Value} (F : Fr h₀ L h (fun y => if y = x then some v else m y)) (e : Knows m ps) : Fr h₀ L h (fun y => if y = x then some v else (ps.lookup y).or (m y)) := by
  have := knows_eq e
  have e' : (fun y => if y = x then some v else (ps.lookup y).or (m y)) = fun y => if y = x then some v else m y := by
    funext y; rw [show (ps.lookup y).or (m y) = m y from congrFun this y]
  rw [e']; exact F
theorem News.sub {h₀ h : Heap} {L : Addr} {a b : List (Addr × Obj)} (N : News h₀ L h a) (hs : ∀ p ∈ b, p ∈ a) : News h₀ L h b := fun p hp => N p (hs p hp)
theorem News.pick {h₀ h : Heap} {L : Addr} {l : List (Addr × Obj)} (N : News h₀ L h l) (idx : List Nat) : News h₀ L h (idx.filterMap (l[·]?)) := fun p hp => by
  obtain ⟨i, _, hi⟩ := List.mem_filterMap.mp hp
  exact N p (List.mem_of_getElem? hi)
theorem News.cut2 {h₀ h : Heap} {L : Addr} {a b : Addr × Obj} {r : List (Addr × Obj)} (N : News h₀ L h (a :: b :: r)) : News h₀ L h (a :: r) := fun p hp => by
  rcases List.mem_cons.mp hp with rfl | hp
  · exact N _ (List.mem_cons_self)
  · exact N _ (List.mem_cons_of_mem _ (List.mem_cons_of_mem _ hp))
theorem News.tail {h₀ h : Heap} {L : Addr} {a : Addr × Obj} {r : List (Addr × Obj)} (N : News h₀ L h (a :: r)) : News h₀ L h r := fun p hp => N _ (List.mem_cons_of_mem _ hp)
theorem News.neAt {h₀ h : Heap} {L : Addr} {l : List (Addr × Obj)} {p q : Addr × Obj} (N : News h₀ L h l) (i j : Nat) (hi : l[i]? = some p) (hj : l[j]? = some q) (hc : p.2.cls ≠ q.2.cls) : @Ne Nat p.1 q.1 := fun e => by
  have h1 := (N p (List.mem_of_getElem? hi)).1
  have h2 := (N q (List.mem_of_getElem? hj)).1
  have e' : p.1 = q.1 := e
  rw [e', h2] at h1
  exact hc (by rw [Option.some.inj h1])
theorem News.add {h₀ h h' : Heap} {L : Addr} {m : Str → Option Value} {news objs : List (Addr × Obj)} (F : Fr h₀ L h m) (N : News h₀ L h news) (hk : ∀ b o, h.get? b = some o → h'.get? b = some o)
    (hob : ∀ q ∈ objs, h'.get? q.1 = some q.2 ∧ h.get? q.1 = none) : News h₀ L h' (objs ++ news) := fun q hq => by
  rcases List.mem_append.mp hq with hq | hq
  · refine ⟨(hob q hq).1, fun e => ?_, ?_⟩
    · obtain ⟨oL, eL, epL, hL, rL⟩ := id F.ns
      have := (hob q hq).2; rw [e, hL] at this; cases this
    · cases e : h₀.get? q.1 with
      | none => rfl
      | some o => have := F.keep _ _ e; rw [(hob q hq).2] at this; cases this
  · exact ⟨hk _ _ (N q hq).1, (N q hq).2⟩
theorem fresh_ne {h h' : Heap} {objs : List (Addr × Obj)} {a : Addr} {o : Obj} (hob : ∀ q ∈ objs, h'.get? q.1 = some q.2 ∧ h.get? q.1 = none) (ha : h.get? a = some o) : ∀ q ∈ objs, q.1 ≠ a := fun q hq e => by
  have := (hob q hq).2; rw [e, ha] at this; cases this
theorem all_app {P : Addr × Obj → Prop} {a b : List (Addr × Obj)} (ha : ∀ q ∈ a, P q) (hb : ∀ q ∈ b, P q) : ∀ q ∈ a ++ b, P q := fun q hq => (List.mem_append.mp hq).elim (ha q) (hb q)
/-- what a turn leaves -/
noncomputable def TurnEnd (h₀ : Heap) (L I : Addr) (oI : Obj) (J D : (Str → Option Value) → List (Addr × Obj) → Prop) (s₂ : Shared) (Q : Flow → Shared → Prop) (f : Flow) (s₃ : Shared) : Prop :=
  match f with
  | .ret v => Q (.ret v) s₃
  | .brk => ∃ h' tk' m₂ news₂, s₃ = { s₂ with heap := h', toks := tk' } ∧ Fr h₀ L h' m₂ ∧ News h₀ L h' news₂ ∧ D m₂ news₂
  | _ => ∃ h' tk' m₂ news₂, s₃ = { s₂ with heap := h', toks := tk' } ∧ Fr h₀ L h' m₂ ∧ News h₀ L h' ((I, oI) :: news₂) ∧ (∀ p ∈ news₂, p.1 ≠ I) ∧ J m₂ news₂
theorem TurnEnd.go {h₀ h' : Heap} {L I : Addr} {oI : Obj} {J D : (Str → Option Value) → List (Addr × Obj) → Prop} {s₂ : Shared} {Q : Flow → Shared → Prop} {m₂ : Str → Option Value} {tk : Nat} {news₂ : List (Addr × Obj)}
    (F : Fr h₀ L h' m₂) (N : News h₀ L h' ((I, oI) :: news₂)) (hn : ∀ p ∈ news₂, p.1 ≠ I) (hJ : J m₂ news₂) : TurnEnd h₀ L I oI J D s₂ Q .next { s₂ with heap := h', toks := tk } :=
  ⟨h', tk, m₂, news₂, rfl, F, N, hn, hJ⟩
theorem TurnEnd.stop {h₀ h' : Heap} {L I : Addr} {oI : Obj} {J D : (Str → Option Value) → List (Addr × Obj) → Prop} {s₂ : Shared} {Q : Flow → Shared → Prop} {m₂ : Str → Option Value} {tk : Nat} {news₂ : List (Addr × Obj)}
    (F : Fr h₀ L h' m₂) (N : News h₀ L h' news₂) (hD : D m₂ news₂) : TurnEnd h₀ L I oI J D s₂ Q .brk { s₂ with heap := h', toks := tk } :=
  ⟨h', tk, m₂, news₂, rfl, F, N, hD⟩
theorem all1 {I a : Nat} {oa : Obj} (ha : a ≠ I) : ∀ p ∈ [((a : Addr), oa)], p.1 ≠ I := List.forall_mem_cons.mpr ⟨ha, List.forall_mem_nil _⟩
theorem all2 {I a b : Nat} {oa ob : Obj} (ha : a ≠ I) (hb : b ≠ I) : ∀ p ∈ [((a : Addr), oa), ((b : Addr), ob)], p.1 ≠ I := List.forall_mem_cons.mpr ⟨ha, all1 hb⟩
theorem all3 {I a b c : Nat} {oa ob oc : Obj} (ha : a ≠ I) (hb : b ≠ I) (hc : c ≠ I) : ∀ p ∈ [((a : Addr), oa), ((b : Addr), ob), ((c : Addr), oc)], p.1 ≠ I := List.forall_mem_cons.mpr ⟨ha, all2 hb hc⟩
theorem drop_at {α : Type} {l : List α} {i : Nat} {c : α} (h : l[i]? = some c) : l.drop i = c :: l.drop (i + 1) := by
  obtain ⟨hi, rfl⟩ := List.getElem?_eq_some_iff.mp h
  exact List.drop_eq_getElem_cons hi
theorem one_is (c k : Nat) (z : Str) (e : z = ⟨#[k]⟩) : (({ cps := #[c] } : Str) == z) = (c == k) := by
  subst e
  by_cases h : c = k
  · subst h; simp
  · have : (({ cps := #[c] } : Str) == ⟨#[k]⟩) = false := by
      rw [beq_eq_false_iff_ne]; intro q; injection q with q; simp at q; exact h q
    rw [this]; simp [h]
theorem sp_is : Str.ofString " " = ⟨#[32]⟩ := by decide +kernel
theorem tb_is : Str.ofString "\t" = ⟨#[9]⟩ := by decide +kernel
theorem dot_is : Str.ofString "." = ⟨#[46]⟩ := by decide +kernel
section
variable {prog : Program} {w : World} {A : Around} {E : Value → Shared → Prop} {s : Shared} {env : Env} {h₀ : Heap} {x : Str} {body : List Stmt} {Q : Flow → Shared → Prop}
theorem loop1 {I : Addr} {n : Nat} {P : Nat → Value → Prop} {St : Nat → Heap → Prop} {m₀ : Str → Option Value} {news : List (Addr × Obj)} (J : Nat → (Str → Option Value) → List (Addr × Obj) → Prop) (D : (Str → Option Value) → List (Addr × Obj) → Prop)
    (W : Walks prog w A I [I] [I] n P St) (hlive : ∀ i h, St i h → ∃ o, h.get? I = some o) (hIL : env.locals ≠ I) (hI : h₀.get? I = none) (hnI : ∀ p ∈ news, p.1 ≠ I) (hst : St 0 s.heap)
    (F : Fr h₀ env.locals s.heap m₀) (N : News h₀ env.locals s.heap news) (hj : J 0 m₀ news)
    (turn : ∀ i v m₁ news₁ h tk oI, i < n → P i v → J i m₁ news₁ → (∀ p ∈ news₁, p.1 ≠ I) → Fr h₀ env.locals h (fun y => if y = x then some v else m₁ y) → News h₀ env.locals h ((I, oI) :: news₁) →
      wpAny (model prog w) A (execs body env) (TurnEnd h₀ env.locals I oI (J (i + 1)) D s Q) E { s with heap := h, toks := tk })
    (done : ∀ m₁ news₁, J n m₁ news₁ → D m₁ news₁)
    (fin : ∀ m₁ news₁ h tk, D m₁ news₁ → Fr h₀ env.locals h m₁ → News h₀ env.locals h news₁ → Q .next { s with heap := h, toks := tk }) :
    LoopAtV prog w A h₀ env x body Q E (.ref I) s := by
  refine ⟨I, [I], [I], n, P, St, m₀, news, J, rfl, W, fun h => hIL (List.mem_singleton.mp h), fun b hb => by rw [List.mem_singleton.mp hb]; exact hI, fun p hp hb => hnI p hp (List.mem_singleton.mp hb), hst, F, N, hj, ?_, ?_⟩
  · rintro i v m₁ news₁ s₁ own ⟨hh', tk', rfl⟩ hin hP hJ hoff hown hget hall hst₁ F₁ N₁
    obtain ⟨oI, hoI⟩ := hlive _ _ hst₁
    have hmem := hall I (by simp) hI oI hoI
    have hoff' : ∀ p ∈ news₁, p.1 ≠ I := fun p hp e => hoff p hp (by simp [e])
    have N₂ : News h₀ env.locals hh' ((I, oI) :: news₁) := fun p hp => by
      rcases List.mem_cons.mp hp with rfl | hp
      · exact N₁ _ (List.mem_append_left _ hmem)
      · exact N₁ _ (List.mem_append_right _ hp)
    refine wpAny_mono (turn i v m₁ news₁ hh' tk' oI hin hP hJ hoff' F₁ N₂) (fun f s₃ t => ?_) fun _ _ e => e
    have stp : (∃ h' tk' m₂ news₂, s₃ = { s with heap := h', toks := tk' } ∧ Fr h₀ env.locals h' m₂ ∧ News h₀ env.locals h' ((I, oI) :: news₂) ∧ (∀ p ∈ news₂, p.1 ≠ I) ∧ J (i + 1) m₂ news₂) →
        LoopStepU h₀ env.locals [I] own (J (i + 1)) { s with heap := hh', toks := tk' } .next s₃ := by
      rintro ⟨h', tk, m', news', e, F', N', hn, hm⟩
      refine ⟨rfl, h', tk, m', news', e, F', fun p hp => ?_, fun p hp hq => hn p hp (List.mem_singleton.mp hq), hm⟩
      rcases List.mem_append.mp hp with hp | hp
      · have e1 : p.1 = I := List.mem_singleton.mp (hown p hp)
        have e2 := hget p hp
        have e2' : hh'.get? I = some p.2 := e1 ▸ e2
        rw [hoI] at e2'
        have : p = (I, oI) := by
          obtain ⟨a, b⟩ := p
          simp only at e1
          subst e1
          rw [Option.some.inj e2']
        rw [this]; exact N' _ (List.mem_cons_self)
      · exact N' _ (List.mem_cons_of_mem _ hp)
    cases f with
    | ret v => exact .ret t
    | brk => obtain ⟨h', tk, m', news', rfl, F', N', hD⟩ := t; exact .brk (fin m' news' h' tk hD F' N')
    | next => exact .next (stp t)
    | cont => exact .cont (stp t)
  · rintro h' tk m' news' F' N' _ hJ
    exact fin m' news' h' tk (done m' news' hJ) F' N'
theorem iter_str {xt : Str} {tx : Tok} {m₀ : Str → Option Value} {news : List (Addr × Obj)} (J : Nat → (Str → Option Value) → List (Addr × Obj) → Prop) (D : (Str → Option Value) → List (Addr × Obj) → Prop)
    (ha : xt.cps.all (· < 128) = true) (hh : A.handled = none) (F : Fr h₀ env.locals s.heap m₀) (N : News h₀ env.locals s.heap news) (hj : J 0 m₀ news)
    (turn : ∀ i c t m₁ news₁ h tk I oI, xt.cps[i]? = some c → J i m₁ news₁ → (∀ p ∈ news₁, p.1 ≠ I) → Fr h₀ env.locals h (fun y => if y = x then some (.str ⟨#[c]⟩ t) else m₁ y) → News h₀ env.locals h ((I, oI) :: news₁) →
      wpAny (model prog w) A (execs body env) (TurnEnd h₀ env.locals I oI (J (i + 1)) D s Q) E { s with heap := h, toks := tk })
    (done : ∀ m₁ news₁, J xt.cps.size m₁ news₁ → D m₁ news₁)
    (fin : ∀ m₁ news₁ h tk, D m₁ news₁ → Fr h₀ env.locals h m₁ → News h₀ env.locals h news₁ → Q .next { s with heap := h, toks := tk }) :
    wpAny (model prog w) A (pyIter (.str xt tx)) (fun it s₂ => LoopAtV prog w A h₀ env x body Q E it s₂) E s := by
  refine wpAny_pyIter_ascii ha ?_
  refine loop1 J D (Walks.strAscii hh _ xt tx) (fun i h st => let ⟨o, ho, _⟩ := st; ⟨o, ho⟩) ?_ (next_is_new F) ?_ ⟨_, Heap.get?_push_size _ rfl, rfl, rfl⟩ (F.push _) (fun p hp => ⟨Heap.get?_push_of_some _ (N p hp).1, (N p hp).2⟩) hj ?_ done ?_
  · exact Nat.ne_of_lt F.ns.lt
  · exact fun p hp e => absurd (Heap.lt_size (N p hp).1) (by rw [e]; exact Nat.lt_irrefl _)
  · rintro i v m₁ news₁ h tk oI hi ⟨c, u, hc, rfl⟩ hJ hn F₁ N₁
    exact turn i c u m₁ news₁ h tk _ oI hc hJ hn F₁ N₁
  · exact fun m₁ news₁ h tk hJ F₁ N₁ => fin m₁ news₁ h tk hJ F₁ N₁
theorem iter_range {r : Addr} {a b c : Int} {t u v : Tok} {n : Nat} {m₀ : Str → Option Value} {news : List (Addr × Obj)} (J : Nat → (Str → Option Value) → List (Addr × Obj) → Prop) (D : (Str → Option Value) → List (Addr × Obj) → Prop)
    (hr : IsRange s.heap r a b c t u v) (hsmall : Builtin.Range.small a b c = true) (hn : Builtin.Range.rangeSize a b c = n)
    (hh : A.handled = none) (F : Fr h₀ env.locals s.heap m₀) (N : News h₀ env.locals s.heap news) (hj : J 0 m₀ news)
    (turn : ∀ i t m₁ news₁ h tk I oI, i < n → J i m₁ news₁ → (∀ p ∈ news₁, p.1 ≠ I) → Fr h₀ env.locals h (fun y => if y = x then some (.int (a + i * c) t) else m₁ y) → News h₀ env.locals h ((I, oI) :: news₁) →
      wpAny (model prog w) A (execs body env) (TurnEnd h₀ env.locals I oI (J (i + 1)) D s Q) E { s with heap := h, toks := tk })
    (done : ∀ m₁ news₁, J n m₁ news₁ → D m₁ news₁)
    (fin : ∀ m₁ news₁ h tk, D m₁ news₁ → Fr h₀ env.locals h m₁ → News h₀ env.locals h news₁ → Q .next { s with heap := h, toks := tk }) :
    wpAny (model prog w) A (pyIter (.ref r)) (fun it s₂ => LoopAtV prog w A h₀ env x body Q E it s₂) E s := by
  refine wpAny_pyIter_range hr hsmall ?_
  refine loop1 J D (Walks.range hh _ a c n) (fun i h st => ⟨_, st⟩) ?_ (next_is_new F) ?_ ?_ (F.push _) (fun p hp => ⟨Heap.get?_push_of_some _ (N p hp).1, (N p hp).2⟩) hj ?_ done ?_
  · exact Nat.ne_of_lt F.ns.lt
  · exact fun p hp e => absurd (Heap.lt_size (N p hp).1) (by rw [e]; exact Nat.lt_irrefl _)
  · show Heap.get? _ _ = _
    rw [hn]
    have := Heap.get?_push_size s.heap (o := { cls := .type "range_iterator", data := .fields #[rawInt a, rawInt (n : Int), rawInt c] }) rfl
    simpa using this
  · rintro i v m₁ news₁ h tk oI hi ⟨t, rfl⟩ hJ hn F₁ N₁
    exact turn i t m₁ news₁ h tk _ oI hi hJ hn F₁ N₁
  · exact fun m₁ news₁ h tk hJ F₁ N₁ => fin m₁ news₁ h tk hJ F₁ N₁
theorem iter_range0 {r : Addr} {n : Nat} {t u v : Tok} {m₀ : Str → Option Value} {news : List (Addr × Obj)} (J : Nat → (Str → Option Value) → List (Addr × Obj) → Prop) (D : (Str → Option Value) → List (Addr × Obj) → Prop)
    (hr : IsRange s.heap r 0 (n : Int) 1 t u v) (hsmall : n ≤ 1000000)
    (hh : A.handled = none) (F : Fr h₀ env.locals s.heap m₀) (N : News h₀ env.locals s.heap news) (hj : J 0 m₀ news)
    (turn : ∀ (i : Nat) t m₁ news₁ h tk I oI, i < n → J i m₁ news₁ → (∀ p ∈ news₁, p.1 ≠ I) → Fr h₀ env.locals h (fun y => if y = x then some (.int (i : Int) t) else m₁ y) → News h₀ env.locals h ((I, oI) :: news₁) →
      wpAny (model prog w) A (execs body env) (TurnEnd h₀ env.locals I oI (J (i + 1)) D s Q) E { s with heap := h, toks := tk })
    (done : ∀ m₁ news₁, J n m₁ news₁ → D m₁ news₁)
    (fin : ∀ m₁ news₁ h tk, D m₁ news₁ → Fr h₀ env.locals h m₁ → News h₀ env.locals h news₁ → Q .next { s with heap := h, toks := tk }) :
    wpAny (model prog w) A (pyIter (.ref r)) (fun it s₂ => LoopAtV prog w A h₀ env x body Q E it s₂) E s := by
  have hsz : Builtin.Range.rangeSize 0 (n : Int) 1 = n := by
    unfold Builtin.Range.rangeSize
    simp
    try omega
  refine iter_range (n := n) J D hr ?_ hsz hh F N hj ?_ done fin
  · unfold Builtin.Range.small
    have q : (2:Int)^63 = 9223372036854775808 := by decide
    have hf : ∀ k : Int, 0 ≤ k → k ≤ 1000000 → Builtin.Range.rangeFitsLong k = true := fun k a b => by
      unfold Builtin.Range.rangeFitsLong; rw [q]; simp; omega
    simp [hf 0 (by omega) (by omega), hf n (by omega) (by omega), hf 1 (by omega) (by omega), hsz]
  · intro i t m₁ news₁ h tk I oI hi hJ hI F N
    refine turn i t m₁ news₁ h tk I oI hi hJ hI ?_ N
    have e : (0 : Int) + (i : Int) * 1 = i := by omega
    rw [e] at F; exact F
end
theorem opq {prog : Program} {w : World} {A : Around} {α : Type} {E : Value → Shared → Prop} {s : Shared} {c : Sem α} {Q : α → Shared → Prop}
    (h : ∀ Qt : α → Shared → Prop, (∀ f s', Q f s' → Qt f s') → wpAny (model prog w) A c Qt E s) : wpAny (model prog w) A c Q E s := h Q fun _ _ h => h
end 
section 
open PySem PySem.W PyProof.Rows
theorem enterC {prog : Program} {w : World} {A : Around} {s : Shared} {K : Frag} {E : Value → Shared → Prop} {Q : Value → Shared → Prop} {C : Addr}
    {f : Addr} {name qual : Str} {params : Arguments} {body : List Stmt} {scope : Scope} {dV kV doc pm cdv ct oc : Value} {an od : Option Addr} {osl : Array (Option Value)} {args : List Value} {bindsOf : Value → List (Str × Value)}
    (X : K.In s.heap) (hlim : s.heap.NoLimit)
    (hm : makesIn K C = true) (hi : findIn K (.ref C) "__init__" = some (some (.ref f))) (hf : typeIn K (.ref f) = some (.type "function"))
    (ho : K.lookup f = some ⟨oc, od, .func (fnOf name qual params body scope dV kV doc pm an cdv ct), osl⟩) (hcd : codeIn K cdv qual = true) (hroom : A.depth + 1 < recursionLimit)
    (hbind : ∀ x, bindArgs (fnOf name qual params body scope dV kV doc pm an cdv ct) ⟨x :: args, []⟩ = pure (bindsOf x)) (hloc : ∀ x, ∀ y ∈ bindsOf x, scope.names.lookup y.1 = some .local)
    (h : ∀ L h₁ x dx, Fr s.heap L h₁ (fun y => (bindsOf (.ref x)).reverse.lookup y) → News s.heap L h₁ [(x, instObj C dx), (dx, dictOf [] 0)] → dx < x → x < L →
      wpAny (model prog w) ((A.under (.builtin "type.__call__" ⟨.ref C :: args, []⟩)).deeper (envOf qual scope L f cdv)) (execs body (envOf qual scope L f cdv))
        (fun fl s' => (match fl with | .ret v => v | _ => .none) = Value.none ∧ Q (.ref x) s') (fun _ _ => False) { s with heap := h₁, toks := s.toks + (bindsOf (.ref x)).length })
    (hco : scope.isCoroutine = false) (hgen : scope.isGenerator = false) (hk : scope.kind = .function)
    (hcell : ∀ x ∈ scope.names, x.2 ≠ .cell) : wpAny (model prog w) A (call (.ref C) args) Q E s := by
  obtain ⟨hh, g, d, t, os⟩ := s
  dsimp only at X hlim h
  refine wpAny_call (make_core (makes_of X hm) (looks_findIn X hi) (fun self => bind_fn X self hf) (.inl rfl) ?_)
  have k : ∀ b o, hh.get? b = some o → ((hh.push emptyDict).push (instObj C hh.objs.size)).get? b = some o := fun b o e => Heap.get?_push_of_some _ (Heap.get?_push_of_some _ e)
  have X' := X.keeps k
  have kx : ((hh.push emptyDict).push (instObj C hh.objs.size)).get? (hh.objs.size + 1) = some (instObj C hh.objs.size) := by
    have := Heap.get?_push_size (hh.push emptyDict) (o := instObj C hh.objs.size) rfl
    rwa [Heap.size_push] at this
  have kd : ((hh.push emptyDict).push (instObj C hh.objs.size)).get? hh.objs.size = some emptyDict := Heap.get?_push_of_some _ (Heap.get?_push_size _ rfl)
  have sz : ((hh.push emptyDict).push (instObj C hh.objs.size)).objs.size = hh.objs.size + 2 := by rw [Heap.size_push, Heap.size_push]
  refine codeAny_call_def (fd := fnOf name qual params body scope dV kV doc pm an cdv ct) (body := body) (binds := bindsOf (.ref (hh.objs.size + 1))) ?_ (X' _ _ ho) rfl (hlim.keeps k) (codeRec_of X' hcd) rfl (BindsTo.of_eq (hbind _)) hcell (hloc _) (fun h₁ hns hk₁ => ?_) hco hgen hk
  · show A.depth + _ < _
    have : (Code.builtin "type.__call__" ⟨.ref C :: args, []⟩).weight = 1 := rfl
    rw [this]; exact hroom
  dsimp only at hns hk₁
  refine wpAny_mono (h ((hh.push emptyDict).push (instObj C hh.objs.size)).objs.size h₁ (hh.objs.size + 1) hh.objs.size ⟨hns, fun b o e => hk₁ b o (k b o e), by rw [sz]; omega⟩ ?_ (Nat.lt_succ_self _) (by rw [sz]; exact Nat.lt_succ_self _)) (fun _ _ x => x) fun _ _ x => x.elim
  intro p hp
  rcases List.mem_cons.mp hp with rfl | hp
  · exact ⟨hk₁ _ _ kx, by rw [sz]; exact Nat.ne_of_lt (Nat.lt_succ_self _), Heap.get?_none_of_le (Nat.le_succ _)⟩
  · rw [List.mem_singleton.mp hp]
    exact ⟨hk₁ _ _ kd, by rw [sz]; exact Nat.ne_of_lt (by omega), Heap.get?_none_of_le (Nat.le_refl _)⟩
end 
local macro_rules | `(tactic| walk_at "m_mem") => `(tactic| first | with_reducible exact List.mem_cons_self | (with_reducible refine List.mem_cons_of_mem _ ?_; walk_at "m_mem"))
local macro_rules | `(tactic| walk_at "m_sub") => `(tactic| repeat' (first | with_reducible exact List.forall_mem_nil _ | (with_reducible refine List.forall_mem_cons.mpr ⟨?_, ?_⟩; walk_at "m_mem")))
section 
open PySem PySem.W PyProof.Rows
noncomputable abbrev tupOf (vs : List Value) : Obj := { cls := .type "tuple", data := .seq vs.toArray }
noncomputable def WsIn (objs : List (Addr × Obj)) (x : Addr) (st : WS) : Prop :=
  ∃ (dx nm ct : Addr) (k : Nat) (vs : List Value) (es : List DictEntry) (tb tn tt : Tok), (x, instObj 136 dx) ∈ objs ∧ (dx, dictOf es k) ∈ objs ∧ (nm, tupOf [.ref ct, .int st.b tb]) ∈ objs ∧ (ct, tupOf vs) ∈ objs ∧ IntsAre vs st.c ∧
    getL (Str.ofString "n") es = some (some (.int st.n tn)) ∧ getL (Str.ofString "nt") es = some (some (.int st.nt tt)) ∧ getL (Str.ofString "norm") es = some (some (.ref nm)) ∧ getL (Str.ofString "is_simple") es = some (some (.bool (decide ((st.c.length : Int) ≤ 1))))
noncomputable def WsAt (h : Heap) (x : Addr) (st : WS) : Prop := ∃ objs : List (Addr × Obj), (∀ p ∈ objs, h.get? p.1 = some p.2) ∧ WsIn objs x st
inductive JWs (w : World) (l : List Nat) (t : Tok) (x dx : Addr) (rest : List Nat) (m : Str → Option Value) (news : List (Addr × Obj)) : Prop
  | mk (st : WS) (cl : Addr) (vs : List Value) (k : Nat) (tb tn tt tk1 : Tok) (hk : Knows m [(Str.ofString "S", .str (Str.ofString " ") 403), (Str.ofString "T", .str (Str.ofString "\t") 404), (Str.ofString "self", .ref x),
      (Str.ofString "count", .ref cl), (Str.ofString "b", .int st.b tb), (Str.ofString "n", .int st.n tn), (Str.ofString "nt", .int st.nt tt)])
    (hnews : news = [(cl, listOf vs.toArray k), (x, instObj 136 dx), (dx, dictOf [⟨PyData.keyHash w.params (Str.ofString "raw"), .str (Str.ofString "raw") tk1, .str ⟨l.toArray⟩ t⟩] 1)])
    (hv : IntsAre vs st.c) (hcl : @LT.lt Nat _ x cl) (hw : ws l ws0 = ws rest st) (hb0 : 0 ≤ st.b) (hb1 : st.b + rest.length ≤ l.length) (hc1 : st.c.length + rest.length ≤ l.length + 1) : JWs w l t x dx rest m news
theorem c_ws {prog : Program} {w : World} {d u : Nat} {fr gs} {s : Shared} {Q E} {p loose mg mb} (X : (Mine.hd.heap_39 w.params).In s.heap) (T : TopRead p loose mg mb s.heap)
   (hA : d < 450) {l : List Nat} {t : Tok} (hl : ∀ c ∈ l, c < 128) (hlen : l.length ≤ 1000)
   (h : ∀ x h' tk' objs, (∀ b o, s.heap.get? b = some o → h'.get? b = some o) → (∀ p ∈ objs, h'.get? p.1 = some p.2 ∧ s.heap.get? p.1 = none) → WsIn objs x (ws l ws0) → Q (Value.ref x) { s with heap := h', toks := tk' }) :
   wpAny (model prog w) ⟨none, d, fr, gs, u⟩ (call (.ref 136) [.str ⟨l.toArray⟩ t]) Q E s := by
  refine' enterC (bindsOf := fun x => [(Str.ofString "self", x), (Str.ofString "ws", .str ⟨l.toArray⟩ t)]) ?X ?T ?hm ?hi ?hf ?ho ?hcd ?hr ?hb ?hl ?_ ?c1 ?c2 ?c3 ?c4
  (case X => assumption)
  (case T => exact TopRead.nolimit (by assumption))
  (case hm => k_is)
  (case hi => k_is)
  (case hf => k_is)
  (case ho => k_is)
  (case hcd => k_is)
  (case hr => have : recursionLimit = 1000 := rfl; show d + 1 < _; omega)
  (case hb => exact fun _ => rfl)
  (case hl => exact fun _ => locs rfl)
  (case c1 => rfl)
  (case c2 => rfl)
  (case c3 => rfl)
  (case c4 => decide)
  intro L h₁ x dx F N hd1 hd2
  k_fold
  k_lt2 hd1
  k_lt2 hd2
  walk_at "m_go"
  rename Fr _ _ _ _ => F
  rename News _ _ _ _ => N
  refine iter_str (fun i => JWs w l t x dx (l.drop i)) (JWs w l t x dx []) ?ha rfl F (News.cut2 N) ?hj ?turn ?done ?fin
  case ha => simpa using hl
  case hj => exact ⟨ws0, _, [], 0, _, _, _, _, ⟨rfl, rfl, rfl, rfl, rfl, rfl, rfl, trivial⟩, rfl, IntsAre.nil, by omega, rfl, by decide, by simp [ws0], by simp [ws0]⟩
  case done =>
    intro m₁ news₁ hJ
    simpa using hJ
  case turn =>
    clear N F
    intro i c tc m₁ news₁ hp tk I oI hc hJ hI F N
    obtain ⟨st, cl, vs, k, tb, tn, tt, tk1, hk, rfl, hv, hcl, hw, hb0, hb1, hc1⟩ := hJ
    k_fold
    have hI1 := neN (hI _ (.head _)); have hI2 := neN (hI _ (.tail _ (.head _))); have hI3 := neN (hI _ (.tail _ (.tail _ (.head _)))); dsimp only at hI1 hI2 hI3
    have hdr : l.drop i = c :: l.drop (i + 1) := drop_at (by simpa using hc)
    have hdl : (l.drop i).length = (l.drop (i + 1)).length + 1 := by rw [hdr]; rfl
    rw [hdr] at hw
    refine opq fun Qt hQt => ?_
    replace F := Fr.knowsIn F hk
    walk_at "m_go"
    · rename Fr _ _ _ _ => F'
      rename News _ _ _ _ => N'
      rename (_ == _) = true => hq
      rw [one_is _ _ _ sp_is, beq_iff_eq] at hq
      subst hq
      refine hQt _ _ (TurnEnd.go F' N' hI ⟨{ st with b := st.b + 1, n := st.n + 1 }, cl, vs, k, _, _, _, _, ⟨rfl, rfl, rfl, rfl, rfl, rfl, rfl, trivial⟩, rfl, hv, hcl, ?_, ?_, ?_, ?_⟩)
      · exact hw
      · show 0 ≤ st.b + 1; omega
      · show st.b + 1 + _ ≤ _; omega
      · show st.c.length + _ ≤ _; omega
    · rename Fr _ _ _ _ => F'
      rename News _ _ _ _ => N'
      rename (_ == Str.ofString "\t") = true => hq
      rw [one_is _ _ _ tb_is, beq_iff_eq] at hq
      subst hq
      rename _ ≤ st.b => hle
      rename IntsAre (List.set _ _ _) _ => hi'
      refine hQt _ _ (TurnEnd.go F' (News.pick N' [3, 0, 5, 6] : News _ _ _ [_, _, _, _]) ?_ ⟨⟨bump st.c st.b, 0, st.n + 1, st.nt + 1⟩, _, _, _, _, _, _, _, ⟨rfl, rfl, rfl, rfl, rfl, rfl, rfl, trivial⟩, rfl, ?_, ?_, ?_, ?_, ?_, ?_⟩)
      · exact all3 (by omega) hI2 hI3
      · show IntsAre _ (bump st.c st.b)
        unfold bump
        simp only [if_pos hle]
        exact hi'
      · omega
      · exact hw
      · exact Int.le_refl 0
      · show (0 : Int) + _ ≤ _; omega
      · exact bump_ok hb0 (by rw [← hdl]; exact hb1) (by rw [← hdl]; exact hc1)
    · rename Fr _ _ _ _ => F'
      rename News _ _ _ _ => N'
      rename (_ == Str.ofString "\t") = true => hq
      rw [one_is _ _ _ tb_is, beq_iff_eq] at hq
      subst hq
      rename ¬ _ ≤ st.b => hle
      rename IntsAre (List.set _ _ _) _ => hi'
      refine hQt _ _ (TurnEnd.go F' (News.pick N' [0, 1, 2, 3] : News _ _ _ [_, _, _, _]) ?_ ⟨⟨bump st.c st.b, 0, st.n + 1, st.nt + 1⟩, _, _, _, _, _, _, _, ⟨rfl, rfl, rfl, rfl, rfl, rfl, rfl, trivial⟩, rfl, ?_, ?_, ?_, ?_, ?_, ?_⟩)
      · exact all3 hI1 hI2 hI3
      · show IntsAre _ (bump st.c st.b)
        unfold bump
        simp only [if_neg hle]
        exact hi'
      · omega
      · exact hw
      · exact Int.le_refl 0
      · show (0 : Int) + _ ≤ _; omega
      · exact bump_ok hb0 (by rw [← hdl]; exact hb1) (by rw [← hdl]; exact hc1)
    · rename (_ == Str.ofString "\t") = false => hq
      rename (_ == Str.ofString " ") = false => hq2
      rw [one_is _ _ _ tb_is] at hq
      rw [one_is _ _ _ sp_is] at hq2
      refine hQt _ _ (TurnEnd.stop F (News.tail N) ⟨st, _, _, _, _, _, _, _, ⟨rfl, rfl, rfl, rfl, rfl, rfl, rfl, trivial⟩, rfl, hv, hcl, ?_, hb0, ?_, ?_⟩)
      · rw [hw]; simp only [ws]; simp at hq hq2; simp [hq, hq2]
      · simp; omega
      · simp; omega
  case fin =>
    clear N F
    intro m₁ news₁ hp tk hJ F N
    obtain ⟨st, cl, vs, k, tb, tn, tt, tk1, hk, rfl, hv, hcl, hw, hb0, hb1, hc1⟩ := hJ
    dsimp only
    replace F := Fr.knows F hk
    have hw : ws l ws0 = st := hw
    have hlc : st.c.length ≤ l.length + 1 := by simpa using hc1
    walk_at "m_go"
    rename News _ _ _ _ => N'
    have q1 := News.neAt N' 1 4 rfl rfl (by intro h; injection h with h; revert h; decide)
    dsimp only at q1
    walk_at "m_go"
    rename News _ _ _ _ => N'
    rename Fr _ _ _ _ => F'
    refine h _ _ _ _ F'.keep (fun p hp => ⟨(N' p hp).1, (N' p hp).2.2⟩) ?_
    rw [hw]
    refine' ⟨dx, _, _, _, vs, _, tb, tn, tt, ?a, ?b, ?c, ?d, hv, ?e, ?f, ?g, ?i⟩
    case a => walk_at "m_mem"
    case b => walk_at "m_mem"
    case c => walk_at "m_mem"
    case d => walk_at "m_mem"
    case e => rfl
    case f => rfl
    case g => rfl
    case i => rfl
end 
section 
open PySem PySem.W PyProof.Rows
theorem WsAt.keeps {h h' : Heap} {x : Addr} {st : WS} (W : WsAt h x st) (k : ∀ b o, h.get? b = some o → h'.get? b = some o) : WsAt h' x st :=
  let ⟨objs, h1, h2⟩ := W; ⟨objs, fun p hp => k _ _ (h1 p hp), h2⟩
theorem WsAt.ofNews {h₀ h : Heap} {L x : Addr} {st : WS} {news : List (Addr × Obj)} (N : News h₀ L h news) (W : WsIn news x st) : WsAt h x st := ⟨news, fun p hp => (N p hp).1, W⟩
theorem WsIn.mono {a b : List (Addr × Obj)} {x : Addr} {st : WS} (W : WsIn a x st) (h : ∀ p ∈ a, p ∈ b) : WsIn b x st := by
  obtain ⟨dx, nm, ct, k, vs, es, tb, tn, tt, h1, h2, h3, h4, r⟩ := W
  exact ⟨dx, nm, ct, k, vs, es, tb, tn, tt, h _ h1, h _ h2, h _ h3, h _ h4, r⟩
structure WsX (h : Heap) (x : Addr) (st : WS) (nm ct : Addr) (vs : List Value) (tb : Tok) : Prop where
  norm : ∃ dx es k, h.get? x = some (instObj 136 dx) ∧ h.get? dx = some (dictOf es k) ∧ getL (Str.ofString "norm") es = some (some (.ref nm))
  nmT : IsTup h nm [.ref ct, .int st.b tb].toArray
  ctT : IsTup h ct vs.toArray
  isI : IntsAre vs st.c
theorem WsX.keeps {h h' : Heap} {x nm ct : Addr} {st : WS} {vs : List Value} {tb : Tok} (W : WsX h x st nm ct vs tb) (k : ∀ b o, h.get? b = some o → h'.get? b = some o) : WsX h' x st nm ct vs tb :=
  ⟨let ⟨dx, es, n, a, b, c⟩ := W.norm; ⟨dx, es, n, k _ _ a, k _ _ b, c⟩, W.nmT.keeps k, W.ctT.keeps k, W.isI⟩
theorem WsAt.open {h : Heap} {x : Addr} {st : WS} (W : WsAt h x st) : ∃ nm ct vs tb, WsX h x st nm ct vs tb := by
  obtain ⟨objs, h1, dx, nm, ct, k, vs, es, tb, tn, tt, a1, a2, a3, a4, hv, g1, g2, g3, g4⟩ := W
  exact ⟨nm, ct, vs, tb, ⟨dx, es, k, h1 _ a1, h1 _ a2, g3⟩, ⟨_, h1 _ a3, rfl, _, rfl⟩, ⟨_, h1 _ a4, rfl, _, rfl⟩, hv⟩
section
variable {prog : Program} {w : World} {A : Around} {E : Value → Shared → Prop} {s : Shared} {h₀ : Heap} {L x : Addr} {m : Str → Option Value} {st : WS} {Q : Value → Shared → Prop} {expr : Bool}
theorem ws_n (F : Fr h₀ L s.heap m) (X : (Mine.hd.heap_39 w.params).In h₀) (W : WsAt s.heap x st) (h : ∀ t, Q (.int st.n t) { s with toks := s.toks + 1 }) : wpAny (model prog w) A (getAttr (.ref x) (Str.ofString "n") expr) Q E s := by
  obtain ⟨objs, h1, dx, nm, ct, k, vs, es, tb, tn, tt, a1, a2, a3, a4, hv, g1, g2, g3, g4⟩ := W
  have I : InstAt s.heap x (instObj 136 dx) 136 (some (dictOf es k)) := ⟨h1 _ a1, rfl, rfl, h1 _ a2⟩
  refine' get_own F X I ?k4 ?k5 ?k6 ?k7 g1 ?k9 (h tn)
  case k4 => k_is
  case k5 => k_is
  case k6 => k_is
  case k7 => k_is
  case k9 => rfl
theorem ws_nt (F : Fr h₀ L s.heap m) (X : (Mine.hd.heap_39 w.params).In h₀) (W : WsAt s.heap x st) (h : ∀ t, Q (.int st.nt t) { s with toks := s.toks + 1 }) : wpAny (model prog w) A (getAttr (.ref x) (Str.ofString "nt") expr) Q E s := by
  obtain ⟨objs, h1, dx, nm, ct, k, vs, es, tb, tn, tt, a1, a2, a3, a4, hv, g1, g2, g3, g4⟩ := W
  have I : InstAt s.heap x (instObj 136 dx) 136 (some (dictOf es k)) := ⟨h1 _ a1, rfl, rfl, h1 _ a2⟩
  refine' get_own F X I ?k4 ?k5 ?k6 ?k7 g2 ?k9 (h tt)
  case k4 => k_is
  case k5 => k_is
  case k6 => k_is
  case k7 => k_is
  case k9 => rfl
theorem ws_simple (F : Fr h₀ L s.heap m) (X : (Mine.hd.heap_39 w.params).In h₀) (W : WsAt s.heap x st) (h : Q (.bool (decide ((st.c.length : Int) ≤ 1))) { s with toks := s.toks + 1 }) : wpAny (model prog w) A (getAttr (.ref x) (Str.ofString "is_simple") expr) Q E s := by
  obtain ⟨objs, h1, dx, nm, ct, k, vs, es, tb, tn, tt, a1, a2, a3, a4, hv, g1, g2, g3, g4⟩ := W
  have I : InstAt s.heap x (instObj 136 dx) 136 (some (dictOf es k)) := ⟨h1 _ a1, rfl, rfl, h1 _ a2⟩
  refine' get_own F X I ?k4 ?k5 ?k6 ?k7 g4 ?k9 h
  case k4 => k_is
  case k5 => k_is
  case k6 => k_is
  case k7 => k_is
  case k9 => rfl
theorem ws_norm {nm ct : Addr} {vs : List Value} {tb : Tok} (F : Fr h₀ L s.heap m) (X : (Mine.hd.heap_39 w.params).In h₀) (W : WsX s.heap x st nm ct vs tb)
    (h : Q (.ref nm) { s with toks := s.toks + 1 }) : wpAny (model prog w) A (getAttr (.ref x) (Str.ofString "norm") expr) Q E s := by
  obtain ⟨dx, es, k, a1, a2, g3⟩ := W.norm
  have I : InstAt s.heap x (instObj 136 dx) 136 (some (dictOf es k)) := ⟨a1, rfl, rfl, a2⟩
  refine' get_own F X I ?k4 ?k5 ?k6 ?k7 g3 ?k9 h
  case k4 => k_is
  case k5 => k_is
  case k6 => k_is
  case k7 => k_is
  case k9 => rfl
end
end 
section 
open PySem PySem.W PySem.Calls PyProof.Rows PyProof.V
section
variable {prog : Program} {w : World} {A : Around} {E : Value → Shared → Prop} {s : Shared} {h₀ : Heap} {L : Addr} {m : Str → Option Value} {news : List (Addr × Obj)}
theorem sum_tup {t : Addr} {vs : List Value} {ns : List Int} {Q : Value → Shared → Prop} (hh : A.handled = none) (F : Fr h₀ L s.heap m) (N : News h₀ L s.heap news) (ht : IsTup s.heap t vs.toArray) (hi : IntsAre vs ns)
    (h : ∀ h' tk t', Fr h₀ L h' m → News h₀ L h' news → Q (.int ns.sum t') { s with heap := h', toks := tk }) :
    wpAny (model prog w) A (call (.builtin "sum") [.ref t]) Q E s := by
  have hl : s.heap.IsTuple t vs.toArray := ht
  obtain ⟨xs, hx⟩ := hi.allInts.items
  have hn : numsOf vs.toArray.toList = ns := by rw [show vs.toArray.toList = vs from rfl, hi.numsOf]
  rw [hx] at hl hn
  rw [nums_intItems] at hn
  refine ktm_sumG hh hl fun h' tk t' hk => ?_
  have := h h' tk t' (F.keeps hk) (N.grown hk)
  rw [preSum_eq, List.take_of_length_le (by simp), hn]
  exact this
theorem sliceApplied_1 {sl : Addr} {n : Nat} {u : Tok} {Q : Int × Int × Nat → Shared → Prop} (hs : s.heap.IsSliceOf sl .none (.int 1 u) .none) (h : Q (0, 1, min 1 n) s) :
    wpAny (model prog w) A (Builtin.Slice.sliceApplied (.ref sl) (pure (n : Int))) Q E s := by
  obtain ⟨os, hos, hcs, hds⟩ := id hs
  unfold Builtin.Slice.sliceApplied Builtin.Slice.sliceFields
  refine wpAny_bind (wpAny_bind (wpAny_field hos hds (x := .none) rfl (wpAny_bind (wpAny_field hos hds (x := .int 1 u) rfl (wpAny_bind (wpAny_field hos hds (x := .none) rfl (wpAny_pure ?_)))))))
  refine wpAny_bind (slicePart_none ?_)
  show wpAny _ _ (if ((1 : Int) == 0) = true then _ else _) _ _ s
  rw [if_neg (by decide)]
  refine wpAny_bind (slicePart_none (wpAny_bind (slicePart_int (wpAny_bind (wpAny_pure ?_)))))
  show wpAny _ _ (match Builtin.Slice.sliceAdjust none (some 1) 1 (n : Int) with | (lo, hi) => pure (lo, (1 : Int), Builtin.Slice.slicePlaces lo hi 1)) _ _ s
  have e1 : Builtin.Slice.sliceAdjust none (some 1) 1 (n : Int) = (0, min 1 (n : Int)) := by
    unfold Builtin.Slice.sliceAdjust; simp
  rw [e1]
  show wpAny _ _ (pure ((0 : Int), (1 : Int), Builtin.Slice.slicePlaces 0 (min 1 (n : Int)) 1)) _ _ s
  have e2 : Builtin.Slice.slicePlaces 0 (min 1 (n : Int)) 1 = min 1 n := by
    unfold Builtin.Slice.slicePlaces
    have h1 : (1 : Int) > 0 := by omega
    simp only [h1, if_true, Int.ediv_one]
    split <;> omega
  rw [e2]
  exact wpAny_pure h
theorem getItem_tup1 {t sl : Addr} {vs : List Value} {u : Tok} {Q : Value → Shared → Prop} (ht : IsTup s.heap t vs.toArray) (hs : s.heap.IsSliceOf sl .none (.int 1 u) .none)
    (h : ∀ r h', (∀ b o, s.heap.get? b = some o → h'.get? b = some o) → IsTup h' r (vs.take 1).toArray → Q (.ref r) { s with heap := h' }) : wpAny (model prog w) A (getItem (.ref t) (.ref sl)) Q E s := by
  obtain ⟨os, hos, hcs, hds⟩ := id hs
  have hTs : s.TypeIs (.ref sl) "slice" := ⟨os, hos, hcs⟩
  unfold getItem
  refine wpAny_holding ?_
  refine wpAny_bind (wpAny_sequenceKey ht.typeIs (by decide) ?_)
  refine wpAny_bind (wpAny_callSpecial?_slot (name := Str.ofString "__getitem__") ht.typeIs slot_tuple_getitem
    (wpAny_call_entry slot_tuple_getitem ht.typeIs entry_tuple_getitem ?_ (args_tuple_getitem _ _)))
  show wpAny _ _ (Builtin.Tuple.tupleItemsOf (.ref t) >>= _) _ _ s
  refine wpAny_bind (tupleItemsOf_ ht ?_)
  refine wpAny_bind (wpAny_typeOf hTs ?_)
  rw [if_pos (by decide)]
  refine wpAny_bind (sliceApplied_1 hs ?_)
  dsimp only
  have pk : (List.filterMap (fun (k : Nat) => vs.toArray[((0 : Int) + (k : Int) * 1).toNat]?) (List.range (min 1 vs.toArray.size))).toArray = (vs.take 1).toArray := by
    cases vs with
    | nil => rfl
    | cons v r =>
      have : min 1 (v :: r).toArray.size = 1 := by simp
      rw [this]; rfl
  rw [pk]
  by_cases hw : ((0 : Int) == 0 && (1 : Int) == 1 && min 1 vs.toArray.size == vs.toArray.size) = true
  · rw [if_pos hw]
    refine wpAny_bind (wpAny_bind (wpAny_typeOf ht.typeIs (wpAny_pure ?_)))
    rw [if_pos (by decide)]
    refine wpAny_bind (wpAny_rule (wpAny_pure ⟨_, rfl, wpAny_pure (h t s.heap (fun _ _ e => e) ?_)⟩))
    have hl : vs.length ≤ 1 := by simp at hw; omega
    rw [List.take_of_length_le hl]; exact ht
  · rw [if_neg hw]
    have hz : sizeOk (.seq (vs.take 1).toArray) := by
      show (vs.take 1).toArray.size ≤ sizeLine
      rw [List.size_toArray, List.length_take, sizeLine_eq]; omega
    exact wpAny_bind (m := Builtin.Tuple.tupleExact _) (wpAny_newObj_type (wpAny_pure ⟨_, rfl, wpAny_pure (h _ _ (fun _ _ e => Heap.get?_push_of_some _ e) ⟨_, Heap.get?_push_size _ rfl, rfl, _, rfl⟩)⟩) hz)
theorem slice_tup1 {value slice : Expr} {t : Addr} {vs : List Value} {u : Tok} {Q : Value → Shared → Prop} {hh : Heap} {g : Array GenState} {dr : Drawn} {tk : Nat} {os : OsState}
    (F : Fr h₀ L hh m) (N : News h₀ L hh news) (ht : IsTup hh t vs.toArray)
    (h : ∀ r h', Fr h₀ L h' m → News h₀ L h' news → IsTup h' r (vs.take 1).toArray → Q (.ref r) ⟨h', g, dr, tk, os⟩)
    (hs : subscripted slice false (.ref t) (.ref hh.objs.size) = operate [.ref hh.objs.size, .ref t] (getItem (.ref t) (.ref hh.objs.size)))
    (hg : ∀ r, letTemporaryGo value (.ref t) r = pure ()) :
    wpAny (model prog w) A (subscriptTail value slice (.ref t) (.ref hh.objs.size)) Q E ⟨hh.push { cls := .type "slice", data := .fields #[.none, .int 1 u, .none] }, g, dr, tk, os⟩ := by
  have k : ∀ b o, hh.get? b = some o → (hh.push { cls := .type "slice", data := .fields #[.none, .int 1 u, .none] }).get? b = some o := fun _ _ e => Heap.get?_push_of_some _ e
  have ht' := ht.keeps k
  refine subscriptTail_ops (s := ⟨hh.push { cls := .type "slice", data := .fields #[.none, .int 1 u, .none] }, g, dr, tk, os⟩) ht'.typeIs slot_tuple_getitem.lookup
    (getItem_tup1 ht' (Heap.IsSliceOf.new ..) fun r h' hk hT => ?_) hs hg
  have hk' : ∀ b o, hh.get? b = some o → h'.get? b = some o := fun b o e => hk b o (k b o e)
  exact h r h' (F.keeps hk') (N.grown hk') hT
end
end 
section 
open PySem PySem.W PySem.Calls PyProof.Rows PyProof.V
noncomputable def Spaces (h : Heap) (l : Addr) (sts : List WS) : Prop :=
  ∃ (xs : List Addr) (k : Nat), h.get? l = some (listOf (xs.map Value.ref).toArray k) ∧ xs.length = sts.length ∧ ∀ (i : Nat) (x : Addr), xs[i]? = some x → ∃ st, sts[i]? = some st ∧ WsAt h x st
theorem Spaces.keeps {h h' : Heap} {l : Addr} {sts : List WS} (S : Spaces h l sts) (k : ∀ b o, h.get? b = some o → h'.get? b = some o) : Spaces h' l sts := by
  obtain ⟨xs, n, h1, h2, h3⟩ := S
  exact ⟨xs, n, k _ _ h1, h2, fun i x e => let ⟨st, a, b⟩ := h3 i x e; ⟨st, a, b.keeps k⟩⟩
theorem sp_item {prog : Program} {w : World} {A : Around} {E : Value → Shared → Prop} {s : Shared} {value slice : PySem.Expr} {l : Addr} {k : Int} {u : Tok} {sts : List WS} {Q : Value → Shared → Prop}
    (S : Spaces s.heap l sts) (h0 : 0 ≤ k) (h1 : k < (sts.length : Int)) (hb : sts.length ≤ 1000) (h : ∀ x st, sts[k.toNat]? = some st → WsAt s.heap x st → Q (.ref x) s)
    (hs : subscripted slice false (.ref l) (.int k u) = operate [.ref l, .int k u] (getItem (.ref l) (.int k u))) :
    wpAny (model prog w) A (subscriptTail value slice (.ref l) (.int k u)) Q E s := by
  obtain ⟨xs, n, a1, a2, a3⟩ := S
  have hl : s.heap.IsList l (xs.map Value.ref).toArray := ⟨_, a1, rfl, _, rfl⟩
  have hk : k.toNat < xs.length := by omega
  obtain ⟨st, b1, b2⟩ := a3 k.toNat xs[k.toNat] (by simp [hk])
  have hfit : k < 2 ^ 63 := by
    have : (2:Int)^63 = 9223372036854775808 := by decide
    omega
  exact tail_any hl.typeIs slot_list_getitem.lookup (wpAny_getItem_list hl h0 hfit (x := .ref xs[k.toNat]) (by simp [hk]) (h _ st b1 b2)) hs
theorem sp_len {prog : Program} {w : World} {A : Around} {E : Value → Shared → Prop} {s : Shared} {l : Addr} {sts : List WS} {Q : Value → Shared → Prop}
    (S : Spaces s.heap l sts) (hb : sts.length ≤ 1000) (h : Q (.int (sts.length : Int) (s.toks + 1)) { s with toks := s.toks + 1 + 1 }) : wpAny (model prog w) A (call (.builtin "len") [.ref l]) Q E s := by
  obtain ⟨xs, n, a1, a2, a3⟩ := S
  have hl : s.heap.IsList l (xs.map Value.ref).toArray := ⟨_, a1, rfl, _, rfl⟩
  have e : (xs.map Value.ref).toArray.size = sts.length := by simp [a2]
  exact len_list hl (by rw [e]; have : (2:Int)^63 = 9223372036854775808 := by decide
                        omega) (by rw [e]; exact h)
end 
section 
open PySem PySem.W PySem.Calls PyProof.Rows PyProof.V
theorem foldl_app (n : Nat) (e : List Nat) : ∀ acc : List Nat, ((List.replicate n e.toArray).foldl (· ++ ·) acc.toArray) = (acc ++ (List.replicate n e).flatten).toArray := by
  induction n with
  | zero => intro acc; simp
  | succ n ih =>
    intro acc
    rw [List.replicate_succ, List.replicate_succ, List.foldl_cons, List.flatten_cons, List.append_toArray, ih, List.append_assoc]
theorem mul_is (e : List Nat) (n : Int) : Txt.mul ⟨e.toArray⟩ n = ⟨(rep e n).toArray⟩ := by
  unfold Txt.mul rep
  by_cases h1 : n < 1
  · rw [if_pos h1]
    have : n.toNat = 0 := by omega
    rw [this]; rfl
  · rw [if_neg h1]
    by_cases h2 : (n == 1 || (Str.mk e.toArray).length == 0) = true
    · rw [if_pos h2]
      rcases Bool.or_eq_true_iff.mp h2 with h | h
      · have : n = 1 := by simpa using h
        subst this; simp
      · have : e.length = 0 := by simpa [Str.length] using h
        have : e = [] := List.eq_nil_of_length_eq_zero this
        subst this; simp
    · rw [if_neg h2]
      have := foldl_app n.toNat e []
      simp only [List.nil_append] at this
      exact congrArg Str.mk this
section
variable {prog : Program} {w : World} {A : Around} {E : Value → Shared → Prop} {s : Shared} {t u : Tok} {Q : Value → Shared → Prop}
theorem mul_l {e : List Nat} {n : Int} (he : e.length ≤ 2) (h0 : 0 ≤ n) (hn : n ≤ 100000) (h : ∀ t' k, Q (.str ⟨(rep e n).toArray⟩ t') { s with toks := k }) : wpAny (model prog w) A (binaryOp .Mult (.str ⟨e.toArray⟩ t) (.int n u)) Q E s :=
  SB.mul (mulOk_of 2 100000 (by simpa [Str.length] using he) hn (by have : (2:Int)^63 = 9223372036854775808 := by decide
                                                                    omega) (by decide) (by decide)) (by rw [mul_is]; exact h)
theorem add_l {a : List Nat} {y : Str} (ha : a.length ≤ 1000000) (hy : y.length ≤ 1000000) (h : ∀ t' k, Q (.str ⟨(a ++ y.cps.toList).toArray⟩ t') { s with toks := k }) : wpAny (model prog w) A (binaryOp .Add (.str ⟨a.toArray⟩ t) (.str y u)) Q E s :=
  SB.add (fun t' k => by
    have e : (({ cps := a.toArray } : Str) ++ y) = ⟨(a ++ y.cps.toList).toArray⟩ := by
      show Str.mk _ = _
      simp
    rw [e]; exact h t' k) (by
      have : (Str.mk a.toArray).length = a.length := by simp [Str.length]
      rw [sizeLine_eq]; omega)
end
theorem dd_l : (Str.ofString "..").cps.toList = [46, 46] := by decide +kernel
theorem d_l : (Str.ofString ".").cps.toList = [46] := by decide +kernel
theorem cnt_count (c : Nat) : ∀ l : List Nat, cnt c l = ((l.count c : Nat) : Int)
  | [] => rfl
  | n :: r => by
    rw [cnt_cons, cnt_count c r, List.count_cons]
    by_cases h : n = c <;> simp [h]
    omega
theorem count_l (l : List Nat) (c : Nat) (y : Str) (hy : y = ⟨#[c]⟩) : Txt.count ⟨l.toArray⟩ y = ((l.count c : Nat) : Int) := by
  subst hy
  rw [count_cnt, cnt_count]
end 
local macro_rules | `(tactic| walk_at "m_wsat") => `(tactic| first | assumption | exact WsAt.keeps (by assumption) (Fr.keep (by assumption)) | exact WsAt.ofNews (by assumption) (by assumption))
local macro_rules | `(tactic| walk_at "getAttr ref") => `(tactic| (k_dflt (first
  | (with_reducible refine' ws_n ?k1 ?k2 ?k3 ?_; (case k1 => k_asm); (case k2 => k_asm); (case k3 => walk_at "m_wsat"); intro t'; (try dsimp only))
  | (with_reducible refine' ws_nt ?k1 ?k2 ?k3 ?_; (case k1 => k_asm); (case k2 => k_asm); (case k3 => walk_at "m_wsat"); intro t'; (try dsimp only))
  | (with_reducible refine' ws_simple ?k1 ?k2 ?k3 ?_; (case k1 => k_asm); (case k2 => k_asm); (case k3 => walk_at "m_wsat"); (try dsimp only))
  | (with_reducible refine' ws_norm ?k1 ?k2 ?k3 ?_; (case k1 => k_asm); (case k2 => k_asm); (case k3 => exact WsX.keeps (by assumption) (Fr.keep (by assumption))); (try dsimp only)))))
local macro_rules | `(tactic| walk_at "m_sp") => `(tactic| first | assumption | exact Spaces.keeps (by assumption) (Fr.keep (by assumption)))
local macro_rules | `(tactic| walk_at "call builtin:len") => `(tactic| ((with_reducible show wpAny _ _ (call (Value.builtin "len") [Value.ref _]) _ _ _); (refine' sp_len ?k1 ?k2 ?_; (case k1 => walk_at "m_sp"); (case k2 => assumption)); (try dsimp only)))
local macro_rules | `(tactic| walk_at "subscriptTail") => `(tactic| ((with_reducible show wpAny _ _ (subscriptTail _ _ (Value.ref _) (Value.int _ _)) _ _ _); (refine' sp_item ?k1 ?k2 ?k3 ?k4 ?_ ?k5; (case k1 => walk_at "m_sp"); (case k2 => omega); (case k3 => omega); (case k4 => assumption); (case k5 => with_unfolding_all rfl)); intro x' st' hst' W'; (try dsimp only at W' ⊢)))
section 
open PySem PySem.W PyProof.Rows
theorem c_doub {prog : Program} {w : World} {d u : Nat} {fr gs} {s : Shared} {Q E} {p loose mg mb} (X : (Mine.hd.heap_39 w.params).In s.heap) (T : TopRead p loose mg mb s.heap)
   (hA : d < 450) {l : Addr} {sts : List WS} {k : Int} {tk0 : Tok} (S : Spaces s.heap l sts) (hs : sts.length ≤ 1000) (h0 : 0 ≤ k) (h1 : k < (sts.length : Int))
   (h : ∀ v h' tk', (∀ b o, s.heap.get? b = some o → h'.get? b = some o) → (∀ st, sts[k.toNat]? = some st → v = decide (k = 0 ∨ 0 < st.n)) → Q (Value.bool v) { s with heap := h', toks := tk' }) :
   wpAny (model prog w) ⟨none, d, fr, gs, u⟩ (call (.ref 190) [.ref l, .int k tk0]) Q E s := by
  refine' enter (binds := [(Str.ofString "spaces", Value.ref l), (Str.ofString "k", Value.int k tk0)]) ?X ?T ?ho ?hcd ?hr ?hb ?hl ?_ ?c1 ?c2 ?c3 ?c4
  walk_at "m_in"
  walk_at "m_go"
  · rename Fr _ _ _ _ => F'
    exact h _ _ _ F'.keep (fun st e => by simp_all)
  · rename Fr _ _ _ _ => F'
    rename _ = some _ => e1
    refine h _ _ _ F'.keep (fun st e => ?_)
    rw [e1] at e
    cases e
    simp_all
end 
section 
open PySem PySem.W PyProof.Rows
local macro_rules | `(tactic| walk_at "subscriptTail") => `(tactic| ((with_reducible show wpAny _ _ (subscriptTail _ (Expr.Slice none (some _) none _) (Value.ref _) (Value.ref _)) _ _ _); dsimp only; k_dflt (refine' slice_tup1 ?k1 ?k2 ?k3 ?_ ?h1 ?h2; (case k1 => k_asm); (case k2 => k_asm); (case k3 => exact IsTup.keeps (by assumption) (Fr.keep (by assumption))); (case h1 => with_unfolding_all rfl); (case h2 => intro _; with_unfolding_all rfl)); intro r' h' F' N' hT'; (try k_sweep)))
local macro_rules | `(tactic| walk_at "call builtin:sum") => `(tactic| (refine' sum_tup rfl ?k1 ?k2 ?k3 ?k4 ?_; (case k1 => k_asm); (case k2 => k_asm); (case k3 => assumption); (case k4 => exact IntsAre.take (by assumption) 1); intro h' tk' t' F' N'; (try k_sweep)))
theorem c_ends {prog : Program} {w : World} {d u : Nat} {fr gs} {s : Shared} {Q E} {p loose mg mb} (X : (Mine.hd.heap_39 w.params).In s.heap) (T : TopRead p loose mg mb s.heap)
   (hA : d < 450) {x : Addr} {st : WS} (W : WsAt s.heap x st) 
   (h : ∀ v tk h' tk', (∀ b o, s.heap.get? b = some o → h'.get? b = some o) → v = endsOf st → Q (Value.int v tk) { s with heap := h', toks := tk' }) :
   wpAny (model prog w) ⟨none, d, fr, gs, u⟩ (call (.ref 183) [.ref x]) Q E s := by
  obtain ⟨nm, ct, vs, tb, WX⟩ := W.open
  have WT1 := WX.nmT
  have WT2 := WX.ctT
  have WI := WX.isI
  refine' enter (binds := [(Str.ofString "space", Value.ref x)]) ?X ?T ?ho ?hcd ?hr ?hb ?hl ?_ ?c1 ?c2 ?c3 ?c4
  walk_at "m_in"
  walk_at "m_go"
  rename Fr _ _ _ _ => F'
  exact h _ _ _ _ F'.keep rfl
end 
local macro_rules | `(tactic| walk_at "m_gop") => `(tactic| repeat' ((fail_if_success (with_reducible show wpAny _ _ (pyIter (Value.ref _)) _ _ _)); walk_at "m_one"))
local macro_rules | `(tactic| walk_at "m_cx") => `(tactic| first | assumption | exact Frag.In.keeps (by assumption) (Fr.keep (by assumption)) | exact TopRead.keeps (by assumption) (Fr.keep (by assumption)))
local macro_rules | `(tactic| walk_at "call ref") => `(tactic| ((with_reducible show wpAny _ _ (call (Value.ref 183) _) _ _ _); (refine' c_ends ?X ?T ?hA ?W ?_; walk_at "m_xta"; (case W => walk_at "m_wsat")); (rename Fr _ _ _ _ => kF); (rename News _ _ _ _ => kN); intro v' tv' h' tk' hk' hv'; (have kF' := PyProof.Rows.Fr.keeps kF hk'); (have kN' := PyProof.Rows.News.grown kN hk'); (try dsimp only at kF' kN'); (try k_sweep); (try dsimp only)))
local macro_rules | `(tactic| walk_at "call ref") => `(tactic| ((with_reducible show wpAny _ _ (call (Value.ref 190) _) _ _ _); (refine' c_doub ?X ?T ?hA ?S ?hs ?h0 ?h1 ?_; walk_at "m_xta"; (case S => walk_at "m_sp"); (case hs => assumption); (case h0 => omega); (case h1 => omega)); (rename Fr _ _ _ _ => kF); (rename News _ _ _ _ => kN); intro v' h' tk' hk' hv'; (have kF' := PyProof.Rows.Fr.keeps kF hk'); (have kN' := PyProof.Rows.News.grown kN hk'); (try dsimp only at kF' kN'); (try k_sweep); (try dsimp only)))
local macro_rules | `(tactic| walk_at "m_len") => `(tactic| first | omega | (simp only [Str.length, List.size_toArray, Array.size_toArray]; omega) | (simp [Str.length]; omega) | decide)
local macro_rules | `(tactic| walk_at "binaryOp Mult str int") => `(tactic| ((refine' mul_l ?k1 ?k2 ?k3 ?_; (case k1 => omega); (case k2 => omega); (case k3 => omega)); intro t' k'; (try dsimp only)))
local macro_rules | `(tactic| walk_at "binaryOp Add str str") => `(tactic| ((with_reducible show wpAny _ _ (binaryOp Operator.Add (Value.str (Str.mk (List.toArray _)) _) (Value.str _ _)) _ _ _); (refine' add_l ?k1 ?k2 ?_; (case k1 => walk_at "m_len"); (case k2 => walk_at "m_len")); intro t' k'; (try dsimp only)))
section 
open PySem PySem.W PyProof.Rows
theorem c_form {prog : Program} {w : World} {d u : Nat} {fr gs} {s : Shared} {Q E} {p loose mg mb} (X : (Mine.hd.heap_39 w.params).In s.heap) (T : TopRead p loose mg mb s.heap)
   (hA : d < 440) {l : Addr} {sts : List WS} {e : List Nat} {te : Tok} {more : Bool} (S : Spaces s.heap l sts) (hs : sts.length ≤ 1000) (he : e.length ≤ 2) (hw : ∀ st ∈ sts, 0 ≤ endsOf st ∧ endsOf st ≤ 100)
   (h : ∀ v t h' tk', (∀ b o, s.heap.get? b = some o → h'.get? b = some o) → v = ⟨(formL e more 0 sts).toArray⟩ → Q (Value.str v t) { s with heap := h', toks := tk' }) :
   wpAny (model prog w) ⟨none, d, fr, gs, u⟩ (call (.ref 197) [.ref l, .str ⟨e.toArray⟩ te, .bool more]) Q E s := by
  refine' enter (binds := [(Str.ofString "spaces", Value.ref l), (Str.ofString "end", Value.str ⟨e.toArray⟩ te), (Str.ofString "more", Value.bool more)]) ?X ?T ?ho ?hcd ?hr ?hb ?hl ?_ ?c1 ?c2 ?c3 ?c4
  walk_at "m_in"
  walk_at "m_gop"
  dsimp only
  rename IsRange _ _ _ _ _ _ _ _ => hR
  dsimp only at hR
  rename Fr _ _ _ _ => F
  rename News _ _ _ _ => N
  refine iter_range0 (n := sts.length) (fun i m news => news = [] ∧ ∃ (a : List Nat) (t : Tok), Knows m [(Str.ofString "spaces", Value.ref l), (Str.ofString "end", Value.str ⟨e.toArray⟩ te), (Str.ofString "more", Value.bool more), (Str.ofString "text", .str ⟨a.toArray⟩ t)] ∧ a ++ formL e more i (sts.drop i) = formL e more 0 sts ∧ a.length ≤ 202 * i) 
     (fun m news => ∃ t, Knows m [(Str.ofString "text", .str ⟨(formL e more 0 sts).toArray⟩ t)]) hR ?hsm rfl F N ?hj ?turn ?done ?fin
  case hsm => omega
  case hj => exact ⟨rfl, [], _, ⟨rfl, rfl, rfl, rfl, trivial⟩, rfl, by simp⟩
  case done =>
    rintro m₁ news₁ ⟨-, a, t, hk, ha, -⟩
    refine ⟨t, ?_, trivial⟩
    simp [formL] at ha
    rw [← ha]
    exact hk.2.2.2.1
  case turn =>
    clear F N
    rintro i t m₁ news₁ hp tk I oI hi ⟨rfl, a, ta, hk, ha, hz⟩ hI F N
    k_fold
    obtain ⟨st0, hst0⟩ : ∃ st, sts[i]? = some st := ⟨sts[i], by simp [hi]⟩
    have hb := hw _ (List.mem_of_getElem? hst0)
    obtain ⟨hb0, hb1⟩ := hb
    replace F := Fr.knowsIn F hk
    walk_at "m_go"
    rename _ = some _ => hst
    rename _ = endsOf _ => hv
    have hidx : (i : Int).toNat = i := by omega
    rw [hidx, hst0] at hst
    cases hst
    subst hv
    have hrl : (rep e (endsOf st0)).length ≤ 200 := by
      rw [rep_length]
      exact Nat.le_trans (Nat.mul_le_mul (show (endsOf st0).toNat ≤ 100 by omega) he) (by decide)
    have hstep := form_step (e := e) (more := more) hst0
    walk_at "m_go"
    · rename Fr _ _ _ _ => F'
      rename News _ _ _ _ => N'
      rename (_ + 1 < _) => hlt
      rename ∀ st, _ → _ = decide _ => hd
      have hd := hd st0 (by rw [hidx]; exact hst0)
      refine TurnEnd.go F' N' hI ⟨rfl, _, _, ⟨rfl, rfl, rfl, rfl, trivial⟩, ?_, ?_⟩
      · rw [← ha, hstep, dd_l, if_pos (by omega)]
        have : (more && decide (i = 0 ∨ 0 < st0.n)) = true := by simp_all
        rw [this]; simp
      · rw [dd_l]; simp; omega
    · rename Fr _ _ _ _ => F'
      rename News _ _ _ _ => N'
      rename (_ + 1 < _) => hlt
      rename ∀ st, _ → _ = decide _ => hd
      have hd := hd st0 (by rw [hidx]; exact hst0)
      refine TurnEnd.go F' N' hI ⟨rfl, _, _, ⟨rfl, rfl, rfl, rfl, trivial⟩, ?_, ?_⟩
      · rw [← ha, hstep, d_l, if_pos (by omega)]
        have : (more && decide (i = 0 ∨ 0 < st0.n)) = false := by simp_all
        rw [this]; simp
      · rw [d_l]; simp; omega
    · rename Fr _ _ _ _ => F'
      rename News _ _ _ _ => N'
      rename (_ + 1 < _) => hlt
      rename (more = false) => hm
      refine TurnEnd.go F' N' hI ⟨rfl, _, _, ⟨rfl, rfl, rfl, rfl, trivial⟩, ?_, ?_⟩
      · rw [← ha, hstep, d_l, if_pos (by omega), hm]; simp
      · rw [d_l]; simp; omega
    · rename Fr _ _ _ _ => F'
      rename News _ _ _ _ => N'
      rename ¬ (_ + 1 < _) => hlt
      refine TurnEnd.go F' N' hI ⟨rfl, _, _, ⟨rfl, rfl, rfl, rfl, trivial⟩, ?_, ?_⟩
      · rw [← ha, hstep, if_neg (by omega)]; simp
      · simp; omega
  case fin =>
    clear F N
    rintro m₁ news₁ hp tk ⟨t, hk⟩ F N
    dsimp only
    replace F := Fr.knows F hk
    walk_at "m_go"
    exact h _ _ _ _ F.keep rfl
end 
section 
open PySem PySem.W PySem.Calls PyProof.Rows PyProof.V
/-- the state's other parts stay -/
noncomputable def Same (s s' : Shared) : Prop := ∃ h tk, s' = { s with heap := h, toks := tk }
theorem Same.refl (s : Shared) : Same s s := ⟨s.heap, s.toks, rfl⟩
abbrev Rel := Value → Value → List (Addr × Obj) → Prop
noncomputable def EltPost (F : Rel) (v : Value) (s₂ : Shared) (y : Value) (s₃ : Shared) : Prop :=
  Keeps s₂ s₃ ∧ ∃ objs : List (Addr × Obj), F v y objs ∧ ∀ q ∈ objs, s₃.heap.get? q.1 = some q.2 ∧ s₂.heap.get? q.1 = none
theorem Paired.mono {α β : Type} {F G : α → β → Prop} (h : ∀ a b, F a b → G a b) : ∀ {l₁ : List α} {l₂ : List β}, Paired F l₁ l₂ → Paired G l₁ l₂
  | _, _, .nil => .nil
  | _, _, .cons a t => .cons (h _ _ a) (Paired.mono h t)
section
variable {prog : Program} {w : World} {A : Around} {R : Result → Shared → Prop} {s : Shared}
theorem comp_loop {elt iter : Expr} {x : Str} {px : Pos} {ifs : List Expr} {scope : Scope} {pos : Pos} {I D : Addr} {fp wr : List Addr} {n : Nat} {P : Nat → Value → Prop} {St : Nat → Heap → Prop}
    {cenv : Env} {m : Str → Option Value} (W : Walks prog w A I fp wr n P St) (hlive : ∀ i h, St i h → ∀ b ∈ wr, ∃ o, h.get? b = some o) (p : Value → Bool) (F : Rel) (hmono : ∀ v y a b, (∀ q ∈ a, q ∈ b) → F v y a → F v y b)
    (hx : cenv.kindOf x = some .local) (hp : (cenv.scope.kind == .class || (cenv.scope.kind == .module && cenv.locals != cenv.globals)) = false)
    (hDC : D ≠ cenv.locals) (hDf : D ∉ fp) (hCf : cenv.locals ∉ fp)
    (hst : St 0 s.heap) (hacc : s.heap.PlainList D #[]) (hn : s.heap.Ns cenv.locals m)
    (htests : ∀ i v s₂ m₂, i < n → P i v → s₂.heap.Ns cenv.locals m₂ → m₂ x = some v → (∀ b o, b ≠ cenv.locals → b ∉ wr → b ≠ D → s.heap.get? b = some o → s₂.heap.get? b = some o) → Same s s₂ →
      wpAny (model prog w) A (forIn ifs true fun c r => if r = true then do let ok ← isTrue c cenv (eval c cenv); pure (ForInStep.yield ok) else pure (ForInStep.yield r))
        (fun ok s₃ => ok = p v ∧ Keeps s₂ s₃) (fun _ _ => False) s₂)
    (helt : ∀ i v s₂ m₂, i < n → P i v → p v = true → s₂.heap.Ns cenv.locals m₂ → m₂ x = some v → (∀ b o, b ≠ cenv.locals → b ∉ wr → b ≠ D → s.heap.get? b = some o → s₂.heap.get? b = some o) → Same s s₂ →
      wpAny (model prog w) A (eval elt cenv) (EltPost F v s₂) (fun _ _ => False) s₂)
    (hR : ∀ h' tk m' ys (vs : List Value) (all : List (Addr × Obj)), h'.Ns cenv.locals m' → h'.PlainList D ys → vs.length = n → (∀ j v, vs[j]? = some v → P j v) → Paired (fun v y => F v y all) (vs.filter p) ys.toList →
      (∀ q ∈ all, h'.get? q.1 = some q.2 ∧ s.heap.get? q.1 = none) →
      (∀ b o, b ≠ cenv.locals → b ∉ wr → b ≠ D → s.heap.get? b = some o → h'.get? b = some o) → R (.ok .next) { s with heap := h', toks := tk })
    (hsz : n ≤ sizeLine) :
    codeAny (model prog w) A (.compLoop (.ListComp elt [⟨.Name x px, iter, ifs, 0⟩] scope pos) 0 (.ref I) (.ref D) cenv) R s := by
  have hCw : cenv.locals ∉ wr := fun h => hCf (W.sub _ h)
  have hDw : D ∉ wr := fun h => hDf (W.sub _ h)
  obtain ⟨nD, hD0⟩ := id hacc
  obtain ⟨oC, eC, epC, hC0, _⟩ := id hn
  refine codeAny_compLoop_tests
    (fun k s' => ∃ h' tk m' ys, ∃ vs : List Value, ∃ all : List (Addr × Obj), s' = { s with heap := h', toks := tk } ∧ St vs.length h' ∧ h'.PlainList D ys ∧ h'.Ns cenv.locals m' ∧ (∀ j v, vs[j]? = some v → P j v) ∧
      Paired (fun v y => F v y all) (vs.filter p) ys.toList ∧ (∀ q ∈ all, h'.get? q.1 = some q.2 ∧ s.heap.get? q.1 = none) ∧ vs.length ≤ n ∧ k = n + 1 - vs.length ∧
      (∀ b o, b ≠ cenv.locals → b ∉ wr → b ≠ D → s.heap.get? b = some o → h'.get? b = some o)) ?_ (n + 1)
    ⟨s.heap, s.toks, m, #[], [], [], rfl, hst, hacc, hn, by simp, by simpa using Paired.nil, (fun _ hq => (nomatch hq)), Nat.zero_le _, rfl, fun _ _ _ _ _ e => e⟩
  rintro k s' ⟨H, tk, m', ys, vs, all, rfl, hst', hacc', hn', hP, hF, hall, hi, rfl, hk⟩
  by_cases hlt : vs.length < n
  · refine W.item vs.length _ _ _ hlt hst' fun v h₁ tk₁ hPv hst₁ hk₁ => ?_
    refine wpAny_assign_Name (wpAny_storeName_local hx (hn'.at' fun o e => hk₁ _ o hCw e) (fun h₂ hn₂ hs₂ => ?_) hp)
    have up₂ : ∀ b o, b ≠ cenv.locals → b ∉ wr → H.get? b = some o → h₂.get? b = some o := fun b o hbC hbf e => hs₂.extBut b o hbC (hk₁ b o hbf e)
    have hst₂ : St (vs.length + 1) h₂ := W.frame _ _ _ hst₁ fun b hb o e => hs₂.extBut b o (fun h => hCf (h ▸ hb)) e
    refine wpAny_mono (htests vs.length v _ _ hlt hPv hn₂ (by simp) (fun b o hbC hbf hbD e => up₂ b o hbC hbf (hk b o hbC hbf hbD e)) ⟨_, _, rfl⟩) (fun ok s₃ h₃ => ?_) fun _ _ e => e.elim
    obtain ⟨rfl, h₃, tk₃, rfl, hk₃⟩ := h₃
    have hst₃ : St (vs.length + 1) h₃ := W.frame _ _ _ hst₂ fun b _ o e => hk₃ b o e
    have hacc₃ : h₃.PlainList D ys := hacc'.at fun o e => hk₃ _ o (up₂ D o hDC hDw e)
    have hn₃ := hn₂.keeps hk₃
    have hlw : ∀ q ∈ all, q.1 ≠ cenv.locals ∧ q.1 ∉ wr ∧ q.1 ≠ D := fun q hq => by
      refine ⟨fun e => ?_, fun e => ?_, fun e => ?_⟩
      · have := (hall q hq).2; rw [e, hC0] at this; cases this
      · obtain ⟨o, ho⟩ := hlive _ _ hst _ e
        have := (hall q hq).2; rw [ho] at this; cases this
      · have := (hall q hq).2; rw [e, hD0] at this; cases this
    have hall₃ : ∀ q ∈ all, h₃.get? q.1 = some q.2 := fun q hq => hk₃ _ _ (up₂ _ _ (hlw q hq).1 (hlw q hq).2.1 (hall q hq).1)
    have hP' : ∀ j u, (vs ++ [v])[j]? = some u → P j u := fun j u hj => by
      rcases Nat.lt_trichotomy j vs.length with h | h | h
      · exact hP j u (by rwa [List.getElem?_append_left h] at hj)
      · subst h; simp at hj; subst hj; exact hPv
      · have hnone : (vs ++ [v])[j]? = none := List.getElem?_eq_none (by rw [List.length_append, List.length_singleton]; omega)
        rw [hnone] at hj; cases hj
    cases hpv : p v with
    | false =>
      simp only [Bool.false_eq_true, if_false]
      refine ⟨n + 1 - (vs.length + 1), by omega, h₃, tk₃, _, ys, vs ++ [v], all, rfl, by simpa using hst₃, hacc₃, hn₃, hP', ?_, fun q hq => ⟨hall₃ q hq, (hall q hq).2⟩, (by rw [List.length_append, List.length_singleton]; exact hlt), (by rw [List.length_append, List.length_singleton]), fun b o hbC hbf hbD e => hk₃ b o (up₂ b o hbC hbf (hk b o hbC hbf hbD e))⟩
      rw [List.filter_append]; simpa [hpv] using hF
    | true =>
      simp only [if_true]
      refine wpAny_mono (helt vs.length v _ _ hlt hPv hpv hn₃ (by simp) (fun b o hbC hbf hbD e => hk₃ b o (up₂ b o hbC hbf (hk b o hbC hbf hbD e))) ⟨_, _, rfl⟩) (fun y s₄ h₄ => ?_) fun _ _ e => e.elim
      obtain ⟨⟨h₄, tk₄, rfl, hk₄⟩, objs, hFy, hob⟩ := h₄
      dsimp only at hob hk₄
      have hys : ys.size ≤ sizeLine := by
        have e1 := hF.length
        have e2 : (vs.filter p).length ≤ vs.length := List.length_filter_le _ _
        have e4 : ys.toList.length = ys.size := by simp
        omega
      refine wpAny_list_append_plain (hsz := hys) (hacc₃.at fun o e => hk₄ _ o e) fun h₅ hl₅ hs₅ => ?_
      have hnew : ∀ q ∈ objs, s.heap.get? q.1 = none ∧ q.1 ≠ D := fun q hq => by
        have h0 := (hob q hq).2
        have hD : q.1 ≠ D := fun e => by
          obtain ⟨nn, e3⟩ := id hacc₃
          rw [e, e3] at h0; cases h0
        refine ⟨?_, hD⟩
        cases e : s.heap.get? q.1 with
        | none => rfl
        | some o =>
          exfalso
          by_cases c1 : q.1 = cenv.locals
          · obtain ⟨o3, _, _, e3, _⟩ := hn₃
            rw [c1, e3] at h0; cases h0
          by_cases c2 : q.1 ∈ wr
          · obtain ⟨o3, e3⟩ := hlive _ _ hst₃ _ c2
            rw [e3] at h0; cases h0
          have := hk₃ _ _ (up₂ q.1 o c1 c2 (hk q.1 o c1 c2 hD e))
          rw [this] at h0; cases h0
      refine ⟨n + 1 - (vs.length + 1), by omega, h₅, tk₄, _, ys.push y, vs ++ [v], objs ++ all, rfl, ?_, hl₅, (hn₃.keeps hk₄).sameBut hs₅ (Ne.symm hDC), hP', ?_, ?_, (by rw [List.length_append, List.length_singleton]; exact hlt), (by rw [List.length_append, List.length_singleton]),
        fun b o hbC hbf hbD e => hs₅.extBut b o hbD (hk₄ b o (hk₃ b o (up₂ b o hbC hbf (hk b o hbC hbf hbD e))))⟩
      · have := W.frame _ _ h₅ hst₃ fun b hb o e => hs₅.extBut b o (fun h => hDf (h ▸ hb)) (hk₄ b o e)
        simpa using this
      · rw [List.filter_append]
        have h1 : Paired (fun v y => F v y (objs ++ all)) (vs.filter p) ys.toList := Paired.mono (fun a b => hmono a b _ _ fun q hq => List.mem_append_right _ hq) hF
        have h2 : F v y (objs ++ all) := hmono v y _ _ (fun q hq => List.mem_append_left _ hq) hFy
        simpa [hpv] using Paired.snoc h1 h2
      · intro q hq
        rcases List.mem_append.mp hq with hq | hq
        · exact ⟨hs₅.extBut _ _ (hnew q hq).2 (hob q hq).1, (hnew q hq).1⟩
        · exact ⟨hs₅.extBut _ _ (hlw q hq).2.2 (hk₄ _ _ (hall₃ q hq)), (hall q hq).2⟩
  · have hin : vs.length = n := by omega
    have hlw : ∀ q ∈ all, q.1 ∉ wr := fun q hq e => by
      obtain ⟨o, ho⟩ := hlive _ _ hst _ e
      have := (hall q hq).2; rw [ho] at this; cases this
    refine W.done _ _ _ (hin ▸ hst') fun h₁ tk₁ hk₁ => ?_
    exact hR h₁ tk₁ m' ys vs all (hn'.at' fun o e => hk₁ _ o hCw e) (hacc'.at fun o e => hk₁ _ o hDw e) hin hP hF (fun q hq => ⟨hk₁ _ _ (hlw q hq) (hall q hq).1, (hall q hq).2⟩) fun b o hbC hbf hbD e => hk₁ b o hbf (hk b o hbC hbf hbD e)
end
end 
section 
open PySem PySem.W PySem.Calls PyProof.Rows PyProof.V
theorem leN {a b : Nat} (h : a ≤ b) : a ≤ b := h
section
variable {prog : Program} {w : World} {A : Around} {E : Value → Shared → Prop} {env : Env} {s : Shared}
noncomputable def CompAt (prog : Program) (w : World) (A : Around) (E : Value → Shared → Prop) (env : Env) (e : Expr) (scope : Scope) (cl : List (Str × Addr)) (use : Option (Value → Sem Unit)) (Q : Value → Shared → Prop) (it : Value) (s₂ : Shared) : Prop :=
  wpAny (model prog w) A (newList []) (fun acc s₃ => wpAny (model prog w) A (newFunctionEnv scope env.globals cl [] env.qual none .none (some env)) (fun cenv s₄ =>
    codeAny (model prog w) A (.compStart e 0 it acc { cenv with scope := relabel scope env }) (compPost (model prog w) A E use Q acc cenv.locals) s₄) E s₃) E s₂
theorem comp_expr {elt iter : Expr} {x : Str} {px : Pos} {ifs : List Expr} {scope : Scope} {cl : List (Str × Addr)} {pos : Pos} {Q : Value → Shared → Prop}
    (hclos : closureFor scope env = pure cl) (hkind : scope.kind = .function) (hnames : ∀ y ∈ scope.names, y.2 = .local → scope.names.lookup y.1 = some .local) (hs : ∀ x, foldedSetIterable iter env x = pure x)
    (h : wpAny (model prog w) A (eval iter env) (fun xv s₁ => wpAny (model prog w) A (pyIter xv) (fun it s₂ => CompAt prog w A E env (.ListComp elt [⟨.Name x px, iter, ifs, 0⟩] scope pos) scope cl none Q it s₂) E s₁) E s) :
    wpAny (model prog w) A (eval (.ListComp elt [⟨.Name x px, iter, ifs, 0⟩] scope pos) env) Q E s := by
  rw [eval_ListComp]
  exact wpAny_comprehension_free (use := none) rfl hs hclos hkind hnames h
theorem comp_assign {elt iter : Expr} {x y : Str} {px py : Pos} {ifs : List Expr} {scope : Scope} {cl : List (Str × Addr)} {pos spos : Pos} {Q : Flow → Shared → Prop}
    (hsw : swapsWith (.ListComp elt [⟨.Name x px, iter, ifs, 0⟩] scope pos) (some (.Name y py)) spos.line env = pure true)
    (hclos : closureFor scope env = pure cl) (hkind : scope.kind = .function) (hnames : ∀ y ∈ scope.names, y.2 = .local → scope.names.lookup y.1 = some .local) (hs : ∀ x, foldedSetIterable iter env x = pure x)
    (h : wpAny (model prog w) A (eval iter env) (fun xv s₁ => wpAny (model prog w) A (pyIter xv) (fun it s₂ => CompAt prog w A E env (.ListComp elt [⟨.Name x px, iter, ifs, 0⟩] scope pos) scope cl (some (assign (.Name y py) env)) (fun _ s' => Q .next s') it s₂) E s₁) E s) :
    wpAny (model prog w) A (exec (.Assign [.Name y py] (.ListComp elt [⟨.Name x px, iter, ifs, 0⟩] scope pos) spos) env) Q E s := by
  rw [exec_Assign_Name_used _ _ _ _ hsw]
  refine wpAny_bind (wpAny_standAt (wpAny_bind ?_))
  show wpAny _ A (do let _ ← comprehension (.ListComp elt [⟨.Name x px, iter, ifs, 0⟩] scope pos) scope env _ (newList []) false (eval iter env) (some (assign (.Name y py) env))) _ _ s
  exact wpAny_bind (wpAny_mono (wpAny_comprehension_free (use := some (assign (.Name y py) env)) (Q := fun _ s' => Q .next s') rfl hs hclos hkind hnames h) (fun _ s' hq => wpAny_pure (wpAny_pure hq)) fun _ _ e => e)
/-- the block over an iterator that is the newest object; s is the state ahead of it -/
theorem comp_core {elt iter : Expr} {x : Str} {px : Pos} {ifs : List Expr} {scope : Scope} {cl : List (Str × Addr)} {pos : Pos} {use : Option (Value → Sem Unit)} {Q : Value → Shared → Prop} {oI : Obj} {fp : List Addr} {n : Nat} {P : Nat → Value → Prop} {St : Nat → Heap → Prop}
    (p : Value → Bool) (F : Rel) (hmono : ∀ v y a b, (∀ q ∈ a, q ∈ b) → F v y a → F v y b)
    (W : Walks prog w A s.heap.objs.size fp [s.heap.objs.size] n P St) (hsz : n ≤ sizeLine) (hlive : ∀ i h, St i h → ∃ o, h.get? s.heap.objs.size = some o) (hfp : ∀ b ∈ fp, b ≤ s.heap.objs.size)
    (hcell : ∀ y ∈ scope.names, y.2 ≠ .cell) (hkind : scope.kind = .function) (hx : scope.names.lookup x = some .local) (hst : St 0 (s.heap.push oI))
    (htests : ∀ (C : Addr) (i : Nat) (v : Value) (h : Heap) (tk : Nat) (m₂ : Str → Option Value), i < n → P i v → Fr s.heap C h (fun y => if y = x then some v else m₂ y) → News s.heap C h [] →
      wpAny (model prog w) A (forIn ifs true fun c r => if r = true then do let ok ← isTrue c (compEnvC scope cl C env) (eval c (compEnvC scope cl C env)); pure (ForInStep.yield ok) else pure (ForInStep.yield r))
        (fun ok s₃ => ok = p v ∧ Keeps { s with heap := h, toks := tk } s₃) (fun _ _ => False) { s with heap := h, toks := tk })
    (helt : ∀ (C : Addr) (i : Nat) (v : Value) (h : Heap) (tk : Nat) (m₂ : Str → Option Value), i < n → P i v → p v = true → Fr s.heap C h (fun y => if y = x then some v else m₂ y) → News s.heap C h [] →
      wpAny (model prog w) A (eval elt (compEnvC scope cl C env)) (EltPost F v { s with heap := h, toks := tk }) (fun _ _ => False) { s with heap := h, toks := tk })
    (hfin : ∀ D C k h' tk m' ys (vs : List Value) all, s.heap.get? D = none → s.heap.get? C = none → D ≠ C → h'.Ns C m' → h'.get? D = some (listOf ys k) → vs.length = n → (∀ j v, vs[j]? = some v → P j v) → Paired (fun v y => F v y all) (vs.filter p) ys.toList →
      (∀ q ∈ all, h'.get? q.1 = some q.2 ∧ s.heap.get? q.1 = none ∧ q.1 ≠ D ∧ q.1 ≠ C) →
      (∀ b o, s.heap.get? b = some o → h'.get? b = some o) → compPost (model prog w) A E use Q (.ref D) C (.ok .next) { s with heap := h', toks := tk }) :
    CompAt prog w A E env (.ListComp elt [⟨.Name x px, iter, ifs, 0⟩] scope pos) scope cl use Q (.ref s.heap.objs.size) { s with heap := s.heap.push oI } := by
  obtain ⟨hh, g, dr, tk0, os⟩ := s
  dsimp only at *
  unfold CompAt
  refine wpAny_newObj_type (wpAny_newFunctionEnv hcell (by intro y hy; simp at hy) (fun h₁ hns₁ hsb₁ => ?_) hkind)
  dsimp only at hns₁ hsb₁ ⊢
  generalize hH2 : (hh.push oI).push { cls := .type "list", dict := none, data := .seq ([] : List Value).toArray } = H2 at hns₁ hsb₁ ⊢
  have hS : (hh.push oI).objs.size = hh.objs.size + 1 := Heap.size_push ..
  have hC : H2.objs.size = hh.objs.size + 2 := by rw [← hH2, Heap.size_push, hS]
  have hDC : (hh.push oI).objs.size ≠ H2.objs.size := by rw [hC, hS]; omega
  have hIn : ∀ b ∈ [hh.objs.size], b = hh.objs.size := fun b hb => List.mem_singleton.mp hb
  have hDf : (hh.push oI).objs.size ∉ fp := fun hm => by have := leN (hfp _ hm); rw [hS] at this; omega
  have hCf : H2.objs.size ∉ fp := fun hm => by have := leN (hfp _ hm); rw [hC] at this; omega
  have old : ∀ b o, (hh.push oI).get? b = some o → h₁.get? b = some o := fun b o e => hsb₁.extBut b o (by have := ltN (Heap.lt_size e); rw [hS] at this; rw [hC]; exact Nat.ne_of_lt (by omega)) (Heap.get?_push_of_some _ (hH2 ▸ Heap.get?_push_of_some _ e))
  have old0 : ∀ b o, hh.get? b = some o → h₁.get? b = some o := fun b o e => old b o (Heap.get?_push_of_some _ e)
  have hD1 : h₁.get? (hh.push oI).objs.size = some (listOf #[] 0) := hsb₁.extBut _ _ hDC (Heap.get?_push_of_some _ (hH2 ▸ Heap.get?_push_size _ rfl))
  have hacc : h₁.PlainList (hh.push oI).objs.size #[] := ⟨_, hD1⟩
  have hst₁ : St 0 h₁ := W.frame _ _ _ hst fun b _ o e => old b o e
  have fresh : ∀ a, hh.objs.size ≤ a → hh.get? a = none := fun a ha => Heap.get?_none_of_le ha
  have lows : ∀ b o, hh.get? b = some o → b ≠ H2.objs.size ∧ b ∉ [hh.objs.size] ∧ b ≠ (hh.push oI).objs.size := fun b o e => by
    have hb := ltN (Heap.lt_size e)
    refine ⟨by rw [hC]; exact Nat.ne_of_lt (by omega), fun hm => Nat.ne_of_lt hb (hIn b hm), by rw [hS]; exact Nat.ne_of_lt (by omega)⟩
  have fr : ∀ h m₂, h.Ns H2.objs.size m₂ → (∀ b o, b ≠ H2.objs.size → b ∉ [hh.objs.size] → b ≠ (hh.push oI).objs.size → h₁.get? b = some o → h.get? b = some o) → ∀ v, m₂ x = some v → Fr hh H2.objs.size h (fun y => if y = x then some v else m₂ y) := fun h m₂ hn hk v hv =>
    Fr.know ⟨hn, fun b o e => let l := lows b o e; hk b o l.1 l.2.1 l.2.2 (old0 b o e), by rw [hC]; omega⟩ hv
  have loop : codeAny (model prog w) A (.compLoop (.ListComp elt [⟨.Name x px, iter, ifs, 0⟩] scope pos) 0 (.ref hh.objs.size) (.ref (hh.push oI).objs.size) (compEnvC scope cl H2.objs.size env))
        (compPost (model prog w) A E use Q (.ref (hh.push oI).objs.size) H2.objs.size) ⟨h₁, g, dr, tk0 + ([] : List (Str × Value)).length, os⟩ := by
    refine comp_loop (cenv := compEnvC scope cl H2.objs.size env) W (fun i h st b hb => by rw [hIn b hb]; exact hlive i h st) p F hmono (lookup_relabel_local hx) (by simp [compEnvC, relabel, hkind]) hDC hDf hCf hst₁ hacc hns₁ ?_ ?_ ?_ hsz
    · rintro i v s₃ m₃ hi hv hn hm hk ⟨h3, tk3, rfl⟩
      exact htests _ i v h3 tk3 m₃ hi hv (fr h3 m₃ hn hk v hm) News.nil
    · rintro i v s₃ m₃ hi hv hpv hn hm hk ⟨h3, tk3, rfl⟩
      exact helt _ i v h3 tk3 m₃ hi hv hpv (fr h3 m₃ hn hk v hm) News.nil
    · intro h' tk m' ys vs all hn ⟨k, hpl⟩ hlen hP hF hall hk
      obtain ⟨oC, _, _, hoC, _⟩ := id hns₁
      refine hfin _ _ k h' tk m' ys vs all (fresh _ (by rw [hS]; omega)) (fresh _ (by rw [hC]; omega)) hDC hn hpl hlen hP hF (fun q hq => ⟨(hall q hq).1, ?_, ?_, ?_⟩) fun b o e => let l := lows b o e; hk b o l.1 l.2.1 l.2.2 (old0 b o e)
      · cases e : hh.get? q.1 with
        | none => rfl
        | some o => have := (hall q hq).2; dsimp only at this; rw [old0 _ _ e] at this; cases this
      · intro e; have := (hall q hq).2; dsimp only at this; rw [e, hD1] at this; cases this
      · intro e; have := (hall q hq).2; dsimp only at this; rw [e] at this; rw [show h₁.get? H2.objs.size = some oC from hoC] at this; cases this
  exact codeAny_compStart_list loop (W.self 0 _ _ _ hst₁ loop)
end
end 
section 
open PySem PySem.W PySem.Calls PyProof.Rows PyProof.V
theorem paired_items {α : Type} {G : α → Value → Prop} {H : Value → Value → Prop} : ∀ {l : List α} {vs ys : List Value}, vs.length = l.length → (∀ (j : Nat) v, vs[j]? = some v → ∃ a, l[j]? = some a ∧ G a v) → Paired H vs ys → Paired (fun a y => ∃ v, G a v ∧ H v y) l ys
  | [], [], [], _, _, _ => .nil
  | [], _ :: _, _, h, _, _ => by simp at h
  | _ :: _, [], _, h, _, _ => by simp at h
  | a :: l, v :: vs, _, h, hp, .cons hv t => by
    refine .cons ?_ (paired_items (by simpa using h) (fun j u hj => hp (j + 1) u (by simpa using hj)) t)
    obtain ⟨b, hb, hg⟩ := hp 0 v rfl
    simp at hb; subst hb
    exact ⟨v, hg, hv⟩
section
variable {prog : Program} {w : World} {A : Around} {E : Value → Shared → Prop} {env : Env} {s : Shared} {h₀ : Heap} {L : Addr} {m : Str → Option Value} {news : List (Addr × Obj)}
theorem fin_expr {Q : Value → Shared → Prop} {D C : Addr} {k : Nat} {h' : Heap} {tk : Nat} {m' : Str → Option Value} {ys : Array Value} {all : List (Addr × Obj)}
    (F₀ : Fr h₀ L s.heap m) (N₀ : News h₀ L s.heap news)
    (hD : s.heap.get? D = none) (hC : s.heap.get? C = none) (hDC : D ≠ C) (hn : h'.Ns C m') (hl : h'.get? D = some (listOf ys k)) (hall : ∀ q ∈ all, h'.get? q.1 = some q.2 ∧ s.heap.get? q.1 = none ∧ q.1 ≠ D ∧ q.1 ≠ C)
    (hk : ∀ b o, s.heap.get? b = some o → h'.get? b = some o)
    (hQ : ∀ h'', Fr h₀ L h'' m → News h₀ L h'' ((D, listOf ys k) :: (all ++ news)) → (∀ q ∈ all ++ news, q.1 ≠ D) → Q (.ref D) { s with heap := h'', toks := tk }) :
    compPost (model prog w) A E none Q (.ref D) C (.ok .next) { s with heap := h', toks := tk } := by
  refine ⟨m', hn, fun h'' hs => ?_⟩
  have up : ∀ b o, s.heap.get? b = some o → h''.get? b = some o := fun b o e => hs.extBut b o (fun q => by rw [q, hC] at e; cases e) (hk b o e)
  obtain ⟨oL, eL, epL, hL, rL⟩ := id F₀.ns
  refine hQ h'' (F₀.keeps up) ?_ ?_
  · intro q hq
    have base : ∀ b, s.heap.get? b = none → b ≠ L ∧ h₀.get? b = none := fun b hb => ⟨fun e => (by rw [e, hL] at hb; cases hb), by
      cases e : h₀.get? b with
      | none => rfl
      | some o => have := F₀.keep _ _ e; rw [hb] at this; cases this⟩
    rcases List.mem_cons.mp hq with rfl | hq
    · exact ⟨hs.extBut _ _ hDC hl, base _ hD⟩
    · rcases List.mem_append.mp hq with hq | hq
      · exact ⟨hs.extBut _ _ (hall q hq).2.2.2 (hall q hq).1, base _ (hall q hq).2.1⟩
      · exact ⟨up _ _ (N₀ q hq).1, (N₀ q hq).2⟩
  · intro q hq e
    rcases List.mem_append.mp hq with hq | hq
    · exact (hall q hq).2.2.1 e
    · have := (N₀ q hq).1; rw [e, hD] at this; cases this
theorem fin_assign {Q : Value → Shared → Prop} {y : Str} {py : Pos} {D C : Addr} {k : Nat} {h' : Heap} {tk : Nat} {m' : Str → Option Value} {ys : Array Value} {all : List (Addr × Obj)}
    (hy : env.kindOf y = some .local) (hp : (env.scope.kind == .class || (env.scope.kind == .module && env.locals != env.globals)) = false)
    (F₀ : Fr h₀ env.locals s.heap m) (N₀ : News h₀ env.locals s.heap news)
    (hD : s.heap.get? D = none) (hC : s.heap.get? C = none) (hDC : D ≠ C) (hn : h'.Ns C m') (hl : h'.get? D = some (listOf ys k)) (hall : ∀ q ∈ all, h'.get? q.1 = some q.2 ∧ s.heap.get? q.1 = none ∧ q.1 ≠ D ∧ q.1 ≠ C)
    (hk : ∀ b o, s.heap.get? b = some o → h'.get? b = some o)
    (hQ : ∀ h'' tk, Fr h₀ env.locals h'' (fun z => if z = y then some (.ref D) else m z) → News h₀ env.locals h'' ((D, listOf ys k) :: (all ++ news)) → (∀ q ∈ all ++ news, q.1 ≠ D) → Q .none { s with heap := h'', toks := tk }) :
    compPost (model prog w) A E (some (assign (.Name y py) env)) Q (.ref D) C (.ok .next) { s with heap := h', toks := tk } := by
  obtain ⟨oL, eL, epL, hL, rL⟩ := id F₀.ns
  have hLC : env.locals ≠ C := fun e => by rw [e, hC] at hL; cases hL
  have hLD : env.locals ≠ D := fun e => by rw [e, hD] at hL; cases hL
  show wpAny _ A (assign (.Name y py) env (.ref D)) _ _ _
  refine wpAny_assign_Name (wpAny_storeName_local hy ((F₀.keeps hk).ns) (fun h₂ hn₂ hs₂ => ?_) hp)
  refine ⟨m', hn.sameBut hs₂ (Ne.symm hLC), fun h₃ hs₃ => ?_⟩
  have F₂ := (F₀.keeps hk).set hn₂ hs₂
  have nC : h₀.get? C = none := by
    cases e : h₀.get? C with
    | none => rfl
    | some o => have := F₀.keep _ _ e; rw [hC] at this; cases this
  refine hQ h₃ _ ⟨F₂.ns.sameBut hs₃ hLC, fun b o e => hs₃.extBut b o (fun q => by rw [q, nC] at e; cases e) (F₂.keep b o e), F₂.above⟩ ?_ ?_
  · intro q hq
    have base : ∀ b, s.heap.get? b = none → b ≠ env.locals ∧ h₀.get? b = none := fun b hb => ⟨fun e => (by rw [e, hL] at hb; cases hb), by
      cases e : h₀.get? b with
      | none => rfl
      | some o => have := F₀.keep _ _ e; rw [hb] at this; cases this⟩
    rcases List.mem_cons.mp hq with rfl | hq
    · exact ⟨hs₃.extBut _ _ hDC (hs₂.extBut _ _ (Ne.symm hLD) hl), base _ hD⟩
    · rcases List.mem_append.mp hq with hq | hq
      · exact ⟨hs₃.extBut _ _ (hall q hq).2.2.2 (hs₂.extBut _ _ (base _ (hall q hq).2.1).1 (hall q hq).1), base _ (hall q hq).2.1⟩
      · have hqC : q.1 ≠ C := fun e => by have := (N₀ q hq).1; rw [e, hC] at this; cases this
        exact ⟨hs₃.extBut _ _ hqC (hs₂.extBut _ _ (N₀ q hq).2.1 (hk _ _ (N₀ q hq).1)), (N₀ q hq).2⟩
  · intro q hq e
    rcases List.mem_append.mp hq with hq | hq
    · exact (hall q hq).2.2.1 e
    · have := (N₀ q hq).1; rw [e, hD] at this; cases this
/-- an iterator that gives the items of l -/
structure Gives (prog : Program) (w : World) (A : Around) (s : Shared) (xv : Value) {α : Type} (l : List α) (G : α → Value → Prop) : Prop where
  run : ∀ (Q : Value → Shared → Prop) (E : Value → Shared → Prop), (∀ oI fp P St, Walks prog w A s.heap.objs.size fp [s.heap.objs.size] l.length P St → (∀ i h, St i h → ∃ o, h.get? s.heap.objs.size = some o) → (∀ b ∈ fp, b ≤ s.heap.objs.size) → St 0 (s.heap.push oI) →
      (∀ (j : Nat) v, j < l.length → P j v → ∃ a, l[j]? = some a ∧ G a v) → Q (.ref s.heap.objs.size) { s with heap := s.heap.push oI }) → wpAny (model prog w) A (pyIter xv) Q E s
theorem gives_str {xt : Str} {tx : Tok} (hh : A.handled = none) (ha : xt.cps.all (· < 128) = true) : Gives prog w A s (.str xt tx) xt.cps.toList (fun c v => ∃ u, v = .str ⟨#[c]⟩ u) := ⟨fun Q E h => by
  have W := Walks.strAscii (prog := prog) (w := w) hh s.heap.objs.size xt tx
  rw [← Array.length_toList] at W
  refine wpAny_pyIter_ascii ha (h _ _ _ _ W (fun i hp st => let ⟨o, ho, _⟩ := st; ⟨o, ho⟩) ?_ ⟨_, Heap.get?_push_size _ rfl, rfl, rfl⟩ ?_)
  · intro b hb; rw [List.mem_singleton.mp hb]; exact Nat.le_refl _
  · rintro j v _ ⟨c, u, hc, rfl⟩; exact ⟨c, by simpa using hc, u, rfl⟩⟩
theorem gives_list {ax : Addr} {items : List Value} (hh : A.handled = none) (hl : s.heap.IsList ax items.toArray) : Gives prog w A s (.ref ax) items (fun a v => v = a) := ⟨fun Q E h => by
  have hlt : ax < s.heap.objs.size := let ⟨o, ho, _⟩ := hl; Heap.lt_size ho
  have W := Walks.list (prog := prog) (w := w) hh s.heap.objs.size ax (Nat.ne_of_lt hlt) items.toArray
  rw [List.size_toArray] at W
  refine wpAny_pyIter_list hl (h _ _ _ _ W (fun i hp st => ?_) ?_ ⟨⟨_, Heap.get?_push_size _ rfl, rfl, rfl⟩, hl.at fun o e => Heap.get?_push_of_some _ e⟩ ?_)
  · obtain ⟨⟨o, ho, _⟩, _⟩ := st; exact ⟨o, ho⟩
  · intro b hb
    rcases List.mem_cons.mp hb with rfl | hb
    · exact Nat.le_refl _
    · rw [List.mem_singleton.mp hb]; exact Nat.le_of_lt hlt
  · intro j v _ hv; exact ⟨v, by simpa using hv, rfl⟩⟩
theorem gives_range {r : Addr} {n : Nat} {t u v : Tok} (hh : A.handled = none) (hr : IsRange s.heap r 0 (n : Int) 1 t u v) (hsmall : n ≤ 1000000) : Gives prog w A s (.ref r) (List.range n) (fun i v => ∃ t, v = .int (i : Int) t) := ⟨fun Q E h => by
  have hsz : Builtin.Range.rangeSize 0 (n : Int) 1 = n := by
    unfold Builtin.Range.rangeSize
    simp
    try omega
  have hsm : Builtin.Range.small 0 (n : Int) 1 = true := by
    unfold Builtin.Range.small
    have q : (2:Int)^63 = 9223372036854775808 := by decide
    have hf : ∀ k : Int, 0 ≤ k → k ≤ 1000000 → Builtin.Range.rangeFitsLong k = true := fun k a b => by
      unfold Builtin.Range.rangeFitsLong; rw [q]; simp; omega
    simp [hf 0 (by omega) (by omega), hf n (by omega) (by omega), hf 1 (by omega) (by omega), hsz]
  have W := Walks.range (prog := prog) (w := w) hh s.heap.objs.size 0 1 (List.range n).length
  refine wpAny_pyIter_range hr hsm (h _ _ _ _ W (fun i hp st => ⟨_, st⟩) ?_ ?_ ?_)
  · intro b hb; rw [List.mem_singleton.mp hb]; exact Nat.le_refl _
  · show Heap.get? _ _ = _
    rw [hsz, List.length_range]
    have := Heap.get?_push_size s.heap (o := { cls := .type "range_iterator", data := .fields #[rawInt 0, rawInt (n : Int), rawInt 1] }) rfl
    simpa using this
  · rintro j v hj ⟨t, rfl⟩
    rw [List.length_range] at hj
    exact ⟨j, by simp [hj], t, by simp⟩⟩
theorem comp_x {α : Type} {l : List α} {G : α → Value → Prop} {xv : Value} {elt iter : Expr} {x : Str} {px : Pos} {scope : Scope} {cl : List (Str × Addr)} {pos : Pos} {Q : Value → Shared → Prop}
    (F : Rel) (hmono : ∀ v y a b, (∀ q ∈ a, q ∈ b) → F v y a → F v y b) (F₀ : Fr h₀ L s.heap m) (N₀ : News h₀ L s.heap news) (hg : Gives prog w A s xv l G) (hsz : l.length ≤ sizeLine)
    (hcell : ∀ y ∈ scope.names, y.2 ≠ .cell) (hkind : scope.kind = .function) (hx : scope.names.lookup x = some .local)
    (helt : ∀ (C : Addr) (a : α) (v : Value) (h : Heap) (tk : Nat) (m₂ : Str → Option Value), a ∈ l → G a v → Fr s.heap C h (fun y => if y = x then some v else m₂ y) → News s.heap C h [] →
      wpAny (model prog w) A (eval elt (compEnvC scope cl C env)) (EltPost F v { s with heap := h, toks := tk }) (fun _ _ => False) { s with heap := h, toks := tk })
    (hQ : ∀ D k (ys : List Value) all h'' tk, Paired (fun a y => ∃ v, G a v ∧ F v y all) l ys → Fr h₀ L h'' m → News h₀ L h'' ((D, listOf ys.toArray k) :: (all ++ news)) → (∀ q ∈ all ++ news, q.1 ≠ D) → Q (.ref D) { s with heap := h'', toks := tk }) :
    wpAny (model prog w) A (pyIter xv) (fun it s₂ => CompAt prog w A E env (.ListComp elt [⟨.Name x px, iter, [], 0⟩] scope pos) scope cl none Q it s₂) E s := by
  refine hg.run _ _ fun oI fp P St W hlive hfp hst hP => ?_
  refine comp_core (fun _ => true) F hmono W hsz hlive hfp hcell hkind hx hst ?_ ?_ ?_
  · intro C i v h tk m₂ _ _ _ _
    exact wpAny_tests_nil ⟨rfl, h, tk, rfl, fun _ _ e => e⟩
  · intro C i v h tk m₂ hi hv _ FC NC
    obtain ⟨a, ha, hga⟩ := hP i v hi hv
    exact helt C a v h tk m₂ (List.mem_of_getElem? ha) hga FC NC
  · intro D C k h' tk m' ys vs all hD hC hDC hn hl hlen hPv hF hall hk
    refine fin_expr F₀ N₀ hD hC hDC hn hl hall hk fun h'' FF NN hne => ?_
    have hF' : Paired (fun v y => F v y all) vs ys.toList := by rwa [List.filter_eq_self.mpr (fun _ _ => rfl)] at hF
    exact hQ D k ys.toList all h'' tk (paired_items hlen (fun j v hv => hP j v (hlen ▸ (List.getElem?_eq_some_iff.mp hv).1) (hPv j v hv)) hF') FF (by simpa using NN) hne
theorem comp_a {α : Type} {l : List α} {G : α → Value → Prop} {xv : Value} {elt iter : Expr} {x y : Str} {px py : Pos} {scope : Scope} {cl : List (Str × Addr)} {pos : Pos} {Q : Value → Shared → Prop}
    (F : Rel) (hmono : ∀ v y a b, (∀ q ∈ a, q ∈ b) → F v y a → F v y b) (F₀ : Fr h₀ env.locals s.heap m) (N₀ : News h₀ env.locals s.heap news) (hg : Gives prog w A s xv l G) (hsz : l.length ≤ sizeLine)
    (hy : env.kindOf y = some .local) (hp : (env.scope.kind == .class || (env.scope.kind == .module && env.locals != env.globals)) = false)
    (hcell : ∀ y ∈ scope.names, y.2 ≠ .cell) (hkind : scope.kind = .function) (hx : scope.names.lookup x = some .local)
    (helt : ∀ (C : Addr) (a : α) (v : Value) (h : Heap) (tk : Nat) (m₂ : Str → Option Value), a ∈ l → G a v → Fr s.heap C h (fun y => if y = x then some v else m₂ y) → News s.heap C h [] →
      wpAny (model prog w) A (eval elt (compEnvC scope cl C env)) (EltPost F v { s with heap := h, toks := tk }) (fun _ _ => False) { s with heap := h, toks := tk })
    (hQ : ∀ D k (ys : List Value) all h'' tk, Paired (fun a y => ∃ v, G a v ∧ F v y all) l ys → Fr h₀ env.locals h'' (fun z => if z = y then some (.ref D) else m z) → News h₀ env.locals h'' ((D, listOf ys.toArray k) :: (all ++ news)) → (∀ q ∈ all ++ news, q.1 ≠ D) → Q .none { s with heap := h'', toks := tk }) :
    wpAny (model prog w) A (pyIter xv) (fun it s₂ => CompAt prog w A E env (.ListComp elt [⟨.Name x px, iter, [], 0⟩] scope pos) scope cl (some (assign (.Name y py) env)) Q it s₂) E s := by
  refine hg.run _ _ fun oI fp P St W hlive hfp hst hP => ?_
  refine comp_core (fun _ => true) F hmono W hsz hlive hfp hcell hkind hx hst ?_ ?_ ?_
  · intro C i v h tk m₂ _ _ _ _
    exact wpAny_tests_nil ⟨rfl, h, tk, rfl, fun _ _ e => e⟩
  · intro C i v h tk m₂ hi hv _ FC NC
    obtain ⟨a, ha, hga⟩ := hP i v hi hv
    exact helt C a v h tk m₂ (List.mem_of_getElem? ha) hga FC NC
  · intro D C k h' tk m' ys vs all hD hC hDC hn hl hlen hPv hF hall hk
    refine fin_assign hy hp F₀ N₀ hD hC hDC hn hl hall hk fun h'' tk'' FF NN hne => ?_
    have hF' : Paired (fun v y => F v y all) vs ys.toList := by rwa [List.filter_eq_self.mpr (fun _ _ => rfl)] at hF
    exact hQ D k ys.toList all h'' tk'' (paired_items hlen (fun j v hv => hP j v (hlen ▸ (List.getElem?_eq_some_iff.mp hv).1) (hPv j v hv)) hF') FF (by simpa using NN) hne
end
end 
section 
open PySem PySem.W PySem.Calls PyProof.Rows PyProof.V
section
variable {prog : Program} {w : World} {A : Around} {E : Value → Shared → Prop} {env : Env} {s : Shared} {h₀ : Heap} {L : Addr} {m : Str → Option Value} {news : List (Addr × Obj)}
theorem comp_xf {α : Type} {l : List α} {G : α → Value → Prop} {xv : Value} {elt iter : Expr} {ifs : List Expr} {x : Str} {px : Pos} {scope : Scope} {cl : List (Str × Addr)} {pos : Pos} {Q : Value → Shared → Prop}
    (p : Value → Bool) (F : Rel) (hmono : ∀ v y a b, (∀ q ∈ a, q ∈ b) → F v y a → F v y b) (F₀ : Fr h₀ L s.heap m) (N₀ : News h₀ L s.heap news) (hg : Gives prog w A s xv l G) (hsz : l.length ≤ sizeLine)
    (hcell : ∀ y ∈ scope.names, y.2 ≠ .cell) (hkind : scope.kind = .function) (hx : scope.names.lookup x = some .local)
    (htests : ∀ (C : Addr) (a : α) (v : Value) (h : Heap) (tk : Nat) (m₂ : Str → Option Value), a ∈ l → G a v → Fr s.heap C h (fun y => if y = x then some v else m₂ y) → News s.heap C h [] →
      wpAny (model prog w) A (forIn ifs true fun c r => if r = true then do let ok ← isTrue c (compEnvC scope cl C env) (eval c (compEnvC scope cl C env)); pure (ForInStep.yield ok) else pure (ForInStep.yield r))
        (fun ok s₃ => ok = p v ∧ Keeps { s with heap := h, toks := tk } s₃) (fun _ _ => False) { s with heap := h, toks := tk })
    (helt : ∀ (C : Addr) (a : α) (v : Value) (h : Heap) (tk : Nat) (m₂ : Str → Option Value), a ∈ l → G a v → p v = true → Fr s.heap C h (fun y => if y = x then some v else m₂ y) → News s.heap C h [] →
      wpAny (model prog w) A (eval elt (compEnvC scope cl C env)) (EltPost F v { s with heap := h, toks := tk }) (fun _ _ => False) { s with heap := h, toks := tk })
    (hQ : ∀ D k (ys : List Value) (vs : List Value) all h'' tk, vs.length = l.length → (∀ (j : Nat) v, vs[j]? = some v → ∃ a, l[j]? = some a ∧ G a v) → Paired (fun v y => F v y all) (vs.filter p) ys → Fr h₀ L h'' m → News h₀ L h'' ((D, listOf ys.toArray k) :: (all ++ news)) → (∀ q ∈ all ++ news, q.1 ≠ D) → Q (.ref D) { s with heap := h'', toks := tk }) :
    wpAny (model prog w) A (pyIter xv) (fun it s₂ => CompAt prog w A E env (.ListComp elt [⟨.Name x px, iter, ifs, 0⟩] scope pos) scope cl none Q it s₂) E s := by
  refine hg.run _ _ fun oI fp P St W hlive hfp hst hP => ?_
  refine comp_core p F hmono W hsz hlive hfp hcell hkind hx hst ?_ ?_ ?_
  · intro C i v h tk m₂ hi hv FC NC
    obtain ⟨a, ha, hga⟩ := hP i v hi hv
    exact htests C a v h tk m₂ (List.mem_of_getElem? ha) hga FC NC
  · intro C i v h tk m₂ hi hv hpv FC NC
    obtain ⟨a, ha, hga⟩ := hP i v hi hv
    exact helt C a v h tk m₂ (List.mem_of_getElem? ha) hga hpv FC NC
  · intro D C k h' tk m' ys vs all hD hC hDC hn hl hlen hPv hF hall hk
    refine fin_expr F₀ N₀ hD hC hDC hn hl hall hk fun h'' FF NN hne => ?_
    exact hQ D k ys.toList vs all h'' tk hlen (fun j v hv => hP j v (hlen ▸ (List.getElem?_eq_some_iff.mp hv).1) (hPv j v hv)) hF FF (by simpa using NN) hne
end
theorem filter_range {p : Value → Bool} {q : Nat → Bool} (hpq : ∀ (i : Nat) (t : Tok), p (.int (i : Int) t) = q i) : ∀ {l : List Nat} {vs : List Value}, vs.length = l.length → (∀ (j : Nat) v, vs[j]? = some v → ∃ a, l[j]? = some a ∧ ∃ t, v = .int (a : Int) t) → (vs.filter p).length = (l.filter q).length
  | [], [], _, _ => rfl
  | [], _ :: _, h, _ => by simp at h
  | _ :: _, [], h, _ => by simp at h
  | a :: l, v :: vs, h, hv => by
    have ih := filter_range hpq (l := l) (vs := vs) (by simpa using h) (fun j u hj => hv (j + 1) u (by simpa using hj))
    obtain ⟨b, hb, t, e⟩ := hv 0 v rfl
    simp at hb
    subst hb
    subst e
    rw [List.filter_cons, List.filter_cons, hpq]
    split <;> simp [ih]
theorem Paired.len {α β : Type} {F : α → β → Prop} : ∀ {l : List α} {m : List β}, Paired F l m → l.length = m.length
  | _, _, .nil => rfl
  | _, _, .cons _ t => by simp [Paired.len t]
end 
section 
open PySem PySem.W PySem.Calls PyProof.Rows PyProof.V
theorem lookup_relabel_same {env : Env} {k₀ : NameKind} (hk : (k₀ == .free) = false) : ∀ {names : List (Str × NameKind)} {x : Str}, names.lookup x = some k₀ →
    (names.map fun (n, k) => if (k == NameKind.free && env.scope.kind == .function && env.kindOf n == some .cell) then (n, NameKind.cell) else (n, k)).lookup x = some k₀
  | [], _, h => by simp at h
  | (n, k) :: r, x, h => by
    have ih := @lookup_relabel_same env k₀ hk r x
    show List.lookup x ((if (k == NameKind.free && env.scope.kind == .function && env.kindOf n == some .cell) = true then (n, NameKind.cell) else (n, k)) :: _) = _
    cases hx : x == n with
    | true =>
      simp only [List.lookup_cons, hx] at h
      cases h
      simp [List.lookup_cons, hx, hk]
    | false =>
      simp only [List.lookup_cons, hx] at h
      by_cases hc : (k == NameKind.free && env.scope.kind == .function && env.kindOf n == some .cell) = true
      · rw [if_pos hc]; simp only [List.lookup_cons, hx]; exact ih h
      · rw [if_neg hc]; simp only [List.lookup_cons, hx]; exact ih h
theorem lookup_relabel_free {env : Env} (he : env.scope.kind = .function) {x : Str} (hc0 : env.kindOf x = some .cell) : ∀ {names : List (Str × NameKind)}, names.lookup x = some .free →
    (names.map fun (n, k) => if (k == NameKind.free && env.scope.kind == .function && env.kindOf n == some .cell) then (n, NameKind.cell) else (n, k)).lookup x = some .cell
  | [], h => by simp at h
  | (n, k) :: r, h => by
    have ih := @lookup_relabel_free env he x hc0 r
    show List.lookup x ((if (k == NameKind.free && env.scope.kind == .function && env.kindOf n == some .cell) = true then (n, NameKind.cell) else (n, k)) :: _) = _
    cases hx : x == n with
    | true =>
      simp only [List.lookup_cons, hx] at h
      cases h
      have : x = n := by simpa using hx
      subst this
      rw [if_pos (by rw [he, hc0]; rfl)]
      simp [List.lookup_cons]
    | false =>
      simp only [List.lookup_cons, hx] at h
      by_cases hc : (k == NameKind.free && env.scope.kind == .function && env.kindOf n == some .cell) = true
      · rw [if_pos hc]; simp only [List.lookup_cons, hx]; exact ih h
      · rw [if_neg hc]; simp only [List.lookup_cons, hx]; exact ih h
section
variable {M : Model} {A : Around} {E : Value → Shared → Prop} {s : Shared} {h₀ : Heap} {m mg mb : Str → Option Value} {env : Env} {K : Frag} {p : Program} {loose : List Str} {x : Str} {pos : Pos} {v : Value} {Q : Value → Shared → Prop} {L C : Addr} {scope : Scope} {cl : List (Str × Addr)}
theorem nm_loc (F : Fr h₀ C s.heap m) (hv : m x = some v) (h : Q v s) (hk : scope.kind = .function) (hx : scope.names.lookup x = some .local) (hd : (x == ("__debug__" : Str)) = false) :
    wpAny M A (eval (.Name x pos) (compEnvC scope cl C env)) Q E s := wpAny_Name (wpAny_loadName_local (env := compEnvC scope cl C env) hk (lookup_relabel_same rfl hx) F.ns hv h) hd
theorem nm_glob (F : Fr h₀ C s.heap m) (X : K.In h₀) (T : TopRead p loose mg mb h₀) (e : nsIn K mainGlobals x = some (some v)) (h : Q v s) (hg : env.globals = mainGlobals) (hk : scope.kind = .function) (hx : scope.names.lookup x = some .globalImplicit) (hd : (x == ("__debug__" : Str)) = false) :
    wpAny M A (eval (.Name x pos) (compEnvC scope cl C env)) Q E s :=
  Name_function_global (env := compEnvC scope cl C env) hk (lookup_relabel_same rfl hx) (loadGlobal_global (env := compEnvC scope cl C env) (by rw [show (compEnvC scope cl C env).globals = mainGlobals from hg]; exact T.g.keeps F.keep) (mg_of X T.g e) h) hd
theorem nm_blt (F : Fr h₀ C s.heap m) (X : K.In h₀) (T : TopRead p loose mg mb h₀) (e : nsIn K mainGlobals x = some none) (hv : bootBuiltins x = some v) (hn : x ≠ "__name__") (h : Q v s)
    (hg : env.globals = mainGlobals) (hb : env.builtins = builtinsNs) (hk : scope.kind = .function) (hx : scope.names.lookup x = some .globalImplicit) (hd : (x == ("__debug__" : Str)) = false) :
    wpAny M A (eval (.Name x pos) (compEnvC scope cl C env)) Q E s :=
  Name_function_global (env := compEnvC scope cl C env) hk (lookup_relabel_same rfl hx) (loadGlobal_builtin (env := compEnvC scope cl C env) (by rw [show (compEnvC scope cl C env).globals = mainGlobals from hg]; exact T.g.keeps F.keep) (mg_none_of X T.g e) (by rw [show (compEnvC scope cl C env).builtins = builtinsNs from hb]; exact T.b.keeps F.keep) ((T.builtins x hn).trans hv) h) hd
theorem nm_cell {c : Addr} {o : Obj} (F : Fr h₀ C s.heap m) (hc : cl.lookup x = some c) (ho : h₀.get? c = some o) (hd : o.data = .cell (some v)) (h : Q v s) (hk : scope.kind = .function) (hx : scope.names.lookup x = some .free) (he : env.scope.kind = .function) (hxe : env.kindOf x = some .cell) (hb : (x == ("__debug__" : Str)) = false) :
    wpAny M A (eval (.Name x pos) (compEnvC scope cl C env)) Q E s := wpAny_Name (wpAny_loadName_cell (env := compEnvC scope cl C env) hk (lookup_relabel_free he hxe hx) hc ⟨o, F.keep _ _ ho, hd⟩ h) hb
end
end 
section 
open PySem PySem.W PySem.Calls PyProof.Rows PyProof.V
section
variable {prog : Program} {w : World} {A : Around} {E : Value → Shared → Prop} {s : Shared} {h₀ : Heap} {m : Str → Option Value} {env : Env} {L : Addr}
theorem dict3 {k1 k2 k3 v1 v2 v3 : Str} {p1 p2 p3 q1 q2 q3 pos : Pos} {Q : Value → Shared → Prop} (F : Fr h₀ L s.heap m) (h12 : k1 ≠ k2) (h13 : k1 ≠ k3) (h23 : k2 ≠ k3)
    (h : ∀ d h' tk t1 t2 t3, h'.DictOf (PySem.strKind prog w) d [(k1, .str v1 t1), (k2, .str v2 t2), (k3, .str v3 t3)] → (∀ b o, s.heap.get? b = some o → h'.get? b = some o) → Q (.ref d) { s with heap := h', toks := tk }) :
    wpAny (model prog w) A (eval (.Dict [some (.Constant (.str k1) 0 p1), some (.Constant (.str k2) 0 p2), some (.Constant (.str k3) 0 p3)] [.Constant (.str v1) 0 q1, .Constant (.str v2) 0 q2, .Constant (.str v3) 0 q3] pos) env) Q E s := by
  refine Dict_made_str rfl F rfl rfl (List.cons_ne_nil _ _) (by simp) fun F1 => ?_
  refine evalPairs_cons (wpAny_Constant_str (wpAny_bind (wpAny_Constant_str (wpAny_bind (wpAny_standAt (wpAny_pure ?_))))))
  refine evalPairs_cons (wpAny_Constant_str (wpAny_bind (wpAny_Constant_str (wpAny_bind (wpAny_standAt (wpAny_pure ?_))))))
  refine evalPairs_cons (wpAny_Constant_str (wpAny_bind (wpAny_Constant_str (wpAny_bind (wpAny_standAt (wpAny_pure ?_))))))
  refine evalPairs_nil ?_
  have isS : ∀ (k : Str) (t : Tok), (PySem.strKind prog w).is k (.str k t) = true := fun k t => by show Value.isStrOf k (.str k t) = true; simp [Value.isStrOf]
  refine ⟨[(k1, _), (k2, _), (k3, _)], ⟨isS _ _, rfl, isS _ _, rfl, isS _ _, rfl, trivial⟩, Heap.DictOf.new _, fun h' hd hs => ?_⟩
  have hm : merged [] [(k1, Value.str v1 (s.toks + 1)), (k2, Value.str v2 (s.toks + 1 + 1 + 1)), (k3, Value.str v3 (s.toks + 1 + 1 + 1 + 1 + 1))] = [(k1, .str v1 (s.toks + 1)), (k2, .str v2 (s.toks + 1 + 1 + 1)), (k3, .str v3 (s.toks + 1 + 1 + 1 + 1 + 1))] := by
    simp [merged, stored, h12, h13, h23]
  have hd' := hd
  dsimp only at hd'
  rw [hm] at hd'
  exact h _ h' _ _ _ _ hd' fun b o e => hs.extBut b o (Nat.ne_of_lt (Heap.lt_size e)) (Heap.get?_push_of_some _ e)
theorem dict_item {d : Addr} {kvs : List (Str × Value)} {k : Str} {t : Tok} {v : Value} {value slice : Expr} {Q : Value → Shared → Prop} (hd : s.heap.DictOf (PySem.strKind prog w) d kvs) (hv : valueAt kvs k = some v) (h : Q v { s with toks := s.toks + 1 })
    (hs : subscripted slice false (.ref d) (.str k t) = operate [.ref d, .str k t] (getItem (.ref d) (.str k t))) :
    wpAny (model prog w) A (subscriptTail value slice (.ref d) (.str k t)) Q E s :=
  tail_any hd.mapOf.typeIs slot_dict_getitem.lookup (wpAny_getItem_of (knd := PySem.strKind prog w) (by show Value.isStrOf k (.str k t) = true; simp [Value.isStrOf]) hd.mapOf hv h) hs
end
end 
section 
open PySem PySem.W PySem.Calls PyProof.Rows PyProof.V
theorem paired_strs {α : Type} {f : α → Nat} : ∀ {l : List α} {ys : List Value}, Paired (fun a y => ∃ t, y = Value.str ⟨#[f a]⟩ t) l ys → ∃ lt : List (Str × Tok), ys = strValues lt ∧ lt.map (·.1) = l.map (fun a => (⟨#[f a]⟩ : Str))
  | _, _, .nil => ⟨[], rfl, rfl⟩
  | _, _, .cons ⟨t, e⟩ r => by
    obtain ⟨lt, h1, h2⟩ := paired_strs r
    exact ⟨(_, t) :: lt, by rw [e, h1]; rfl, by simp [h2]⟩
theorem empty_is : Str.ofString "" = ⟨#[]⟩ := by decide +kernel
theorem join_one {α : Type} (f : α → Nat) : ∀ l : List α, Str.join (Str.ofString "") (l.map (fun a => (⟨#[f a]⟩ : Str))) = ⟨(l.map f).toArray⟩
  | [] => rfl
  | [a] => rfl
  | a :: b :: r => by
    have ih := join_one f (b :: r)
    show (⟨#[f a]⟩ : Str) ++ Str.ofString "" ++ Str.join (Str.ofString "") ((b :: r).map (fun a => (⟨#[f a]⟩ : Str))) = _
    rw [ih, empty_is]
    show Str.mk ((#[f a] ++ #[]) ++ ((b :: r).map f).toArray) = _
    simp
section
variable {prog : Program} {w : World} {A : Around} {E : Value → Shared → Prop} {s : Shared}
theorem join_chars {α : Type} {f : α → Nat} {l : List α} {ys : List Value} {D : Addr} {t : Tok} {Q : Value → Shared → Prop} (hl : s.heap.IsList D ys.toArray) (hp : Paired (fun a y => ∃ t, y = Value.str ⟨#[f a]⟩ t) l ys) (hn : l.length ≤ 1000000)
    (h : ∀ t' k, Q (.str ⟨(l.map f).toArray⟩ t') { s with toks := k }) : wpAny (model prog w) A (call (.builtin "str.join") [.str (Str.ofString "") t, .ref D]) Q E s := by
  obtain ⟨lt, rfl, h2⟩ := paired_strs hp
  refine SC.join hl h2 ?_ fun t' k => ?_
  · unfold JoinOk
    rw [StrLaws.joinTotal]
    have e1 : ((l.map (fun a => (⟨#[f a]⟩ : Str))).map (·.length)).sum = l.length := by
      clear h2 hp hn h hl
      induction l with
      | nil => rfl
      | cons a r ih => simp only [List.map_cons, List.sum_cons, ih, List.length_cons]; show 1 + r.length = _; omega
    have e2 : (Str.ofString "").length = 0 := by rw [empty_is]; rfl
    rw [e1, e2]
    unfold Builtin.Str.tooLong
    rw [sizeLine_eq]; simp; omega
  · show Q (.str (Builtin.Str.glued (Str.ofString "") (l.map (fun a => (⟨#[f a]⟩ : Str)))) t') _
    rw [StrLaws.glued_eq_join, join_one]
    exact h t' k
end
end 
local macro_rules | `(tactic| walk_at "eval Name") => `(tactic| ((with_reducible show wpAny _ _ (eval (Expr.Name _ _) (compEnvC _ _ _ _)) _ _ _); k_dflt (first
  | (refine' nm_loc ?F ?v ?_ ?k ?x ?d; (case F => k_asm); (case k => exact rfl); (case x => exact rfl); (case v => exact rfl); (case d => decide); k_whole)
  | (refine' nm_glob ?F ?X ?T ?e ?_ ?g ?k ?x ?d; (case F => k_asm); (case X => k_asm); (case T => k_asm); (case g => exact rfl); (case k => exact rfl); (case x => exact rfl); (case e => k_is); (case d => decide); k_whole)
  | (refine' nm_blt ?F ?X ?T ?e ?v ?n ?_ ?g ?b ?k ?x ?d; (case F => k_asm); (case X => k_asm); (case T => k_asm); (case g => exact rfl); (case b => exact rfl); (case k => exact rfl); (case x => exact rfl); (case e => k_is); (case v => boot_by_name); (case n => decide); (case d => decide); k_whole)
  | (refine' nm_cell ?F ?c ?o ?dd ?_ ?k ?x ?he ?hxe ?d; (case F => k_asm); (case k => exact rfl); (case x => exact rfl); (case he => exact rfl); (case hxe => exact rfl); (case c => exact rfl); (case o => assumption); (case dd => assumption); (case d => decide); k_whole))))
local macro_rules | `(tactic| walk_at "m_goc") => `(tactic| repeat' ((fail_if_success (with_reducible show wpAny _ _ (pyIter _) _ _ _)); (fail_if_success (with_reducible show wpAny _ _ (eval (Expr.ListComp _ _ _ _) _) _ _ _)); (fail_if_success (with_reducible show wpAny _ _ (exec (Stmt.Assign _ (Expr.ListComp _ _ _ _) _) _) _ _ _)); walk_at "m_one"))
local macro_rules | `(tactic| walk_at "m_comp") => `(tactic| ((with_reducible refine' comp_expr ?hclos ?hkind ?hnames ?hs ?_); (case hclos => with_unfolding_all rfl); (case hkind => exact rfl); (case hnames => decide); (case hs => intro _; with_unfolding_all rfl)))
section 
open PySem PySem.W PyProof.Rows
theorem cr_is : Str.ofString "\x0d" = ⟨#[13]⟩ := by decide +kernel
theorem lf_is : Str.ofString "\n" = ⟨#[10]⟩ := by decide +kernel
local macro_rules | `(tactic| walk_at "eval Dict") => `(tactic| ((rename Fr _ _ _ _ => kF); (rename News _ _ _ _ => kN); (refine' dict3 kF ?a ?b ?c ?_; (case a => decide); (case b => decide); (case c => decide)); intro d' h' tk' t1 t2 t3 hd' hk'; (have kF' := PyProof.Rows.Fr.keeps kF hk'); (have kN' := PyProof.Rows.News.grown kN hk'); (try dsimp only at kF' kN'); (try k_sweep); (try dsimp only)))
theorem mail_elt {prog : Program} {w : World} {A : Around} {s : Shared} {h₀ : Heap} {C : Addr} {m₂ : Str → Option Value} {c : Nat} {u : Tok} {scope : Scope} {env : Env} {p1 p2 p3 q1 q2 q3 pos px pp : Pos}
   (hc : c = 32 ∨ c = 9 ∨ c = 46) (FC : Fr h₀ C s.heap (fun y => if y = Str.ofString "sign" then some (.str ⟨#[c]⟩ u) else m₂ y)) (hk : scope.kind = .function) (hx : scope.names.lookup (Str.ofString "sign") = some .local) :
   wpAny (model prog w) A (eval (Expr.Subscript (.Dict [some (.Constant (.str (Str.ofString " ")) 0 p1), some (.Constant (.str (Str.ofString "\t")) 0 p2), some (.Constant (.str (Str.ofString ".")) 0 p3)] [.Constant (.str (Str.ofString "\x0d")) 0 q1, .Constant (.str (Str.ofString "\n")) 0 q2, .Constant (.str (Str.ofString ".")) 0 q3] pos) (.Name (Str.ofString "sign") px) pp) (compEnvC scope [] C env))
     (EltPost (fun v y _ => ∃ c u t, v = .str ⟨#[c]⟩ u ∧ y = .str ⟨#[mailC c]⟩ t) (.str ⟨#[c]⟩ u) s) (fun _ _ => False) s := by
  refine Subscript_ ?_
  with_reducible refine dict3 FC ?a ?b ?c ?_
  case a => decide
  case b => decide
  case c => decide
  intro dd h' tk' t1 t2 t3 hd' hk'
  refine nm_loc (FC.keeps hk') rfl ?_ hk hx (by decide)
  rcases hc with rfl | rfl | rfl
  · refine dict_item hd' (v := .str (Str.ofString "\x0d") t1) ?_ ?_ (by with_unfolding_all rfl)
    · simp [valueAt, sp_is]
    · exact ⟨⟨_, _, rfl, hk'⟩, [], ⟨32, u, t1, rfl, by rw [cr_is]; rfl⟩, (fun _ hq => (nomatch hq))⟩
  · refine dict_item hd' (v := .str (Str.ofString "\n") t2) ?_ ?_ (by with_unfolding_all rfl)
    · simp [valueAt, sp_is, tb_is]
    · exact ⟨⟨_, _, rfl, hk'⟩, [], ⟨9, u, t2, rfl, by rw [lf_is]; rfl⟩, (fun _ hq => (nomatch hq))⟩
  · refine dict_item hd' (v := .str (Str.ofString ".") t3) ?_ ?_ (by with_unfolding_all rfl)
    · simp [valueAt, sp_is, tb_is, dot_is]
    · exact ⟨⟨_, _, rfl, hk'⟩, [], ⟨46, u, t3, rfl, by rw [dot_is]; rfl⟩, (fun _ hq => (nomatch hq))⟩
theorem c_mail {prog : Program} {w : World} {d u : Nat} {fr gs} {s : Shared} {Q E} {p loose mg mb} (X : (Mine.hd.heap_39 w.params).In s.heap) (T : TopRead p loose mg mb s.heap)
   (hA : d < 440) {row : List Nat} {t : Tok} (hs : row.length ≤ 1000) (hr : ∀ c ∈ row, c = 32 ∨ c = 9 ∨ c = 46)
   (h : ∀ t h' tk', (∀ b o, s.heap.get? b = some o → h'.get? b = some o) → Q (Value.str ⟨(mail row).toArray⟩ t) { s with heap := h', toks := tk' }) :
   wpAny (model prog w) ⟨none, d, fr, gs, u⟩ (call (.ref 159) [.str ⟨row.toArray⟩ t]) Q E s := by
  refine' enter (binds := [(Str.ofString "row", Value.str ⟨row.toArray⟩ t)]) ?X ?T ?ho ?hcd ?hr ?hb ?hl ?_ ?c1 ?c2 ?c3 ?c4
  walk_at "m_in"
  walk_at "m_goc"
  walk_at "m_comp"
  walk_at "m_goc"
  rename Fr _ _ _ _ => F
  rename News _ _ _ _ => N
  refine comp_x (fun v y _ => ∃ c u t, v = .str ⟨#[c]⟩ u ∧ y = .str ⟨#[mailC c]⟩ t) (fun _ _ _ _ _ h => h) F N (gives_str rfl ?ha) ?hz ?hcell rfl ?hx ?helt ?hQ
  case ha => simp; intro c hc; rcases hr c hc with h | h | h <;> omega
  case hz => simp; rw [sizeLine_eq]; omega
  case hcell => decide
  case hx => decide
  case helt =>
    intro C c v hp tk m₂ hc ⟨u, hv⟩ FC NC
    subst hv
    with_reducible refine mail_elt ?_ FC ?_ ?_
    · exact hr c (by simpa using hc)
    · rfl
    · rfl
  case hQ =>
    intro D k ys all h'' tk hP F N hne
    dsimp only at F N ⊢
    walk_at "m_goc"
    refine join_chars (f := mailC) (l := row) ⟨_, (N _ (.head _)).1, rfl, _, rfl⟩ ?_ (by omega) ?_
    · refine Paired.mono ?_ hP
      rintro a y ⟨v, ⟨u, rfl⟩, c, u', t', e2, rfl⟩
      injection e2 with e2
      injection e2 with e2
      have : a = c := by simpa using e2
      exact ⟨t', by rw [this]⟩
    intro t' k'
    walk_at "m_goc"
    exact h _ _ _ F.keep
end 
section 
open PySem PySem.W PySem.Calls PyProof.Rows PyProof.V
open PySem.Builtin PySem.Builtin.Str
theorem len_l (l : List Nat) : (Str.mk l.toArray).length = l.length := by simp [Str.length]
theorem slice_congr {x : Str} {a b c d : Option Int} (h : strSliceIndices a b 1 x.length = strSliceIndices c d 1 x.length) : Txt.slice x a b = Txt.slice x c d := by
  unfold Txt.slice; rw [h]
theorem sl_from {l : List Nat} {i : Int} (h0 : 0 ≤ i) : Txt.slice ⟨l.toArray⟩ (some i) none = ⟨(l.drop i.toNat).toArray⟩ := by
  by_cases h : i ≤ (l.length : Int)
  · rw [slice_from_eq (b := (l.length : Int)) h0 (by rw [len_l]; exact h) (by rw [len_l])]
    simp only [List.toList_toArray]
    congr 2
    rw [List.take_of_length_le]
    rw [List.length_drop]; omega
  · have e : Txt.slice ⟨l.toArray⟩ (some i) none = Txt.slice ⟨l.toArray⟩ (some (l.length : Int)) none := by
      apply slice_congr
      unfold strSliceIndices
      rw [len_l]
      dsimp only
      congr 1
      simp only [show (1 : Int) > 0 by decide, if_true]
      split <;> split <;> omega
    rw [e, slice_from_eq (b := (l.length : Int)) (by omega) (by rw [len_l]; omega) (by rw [len_l])]
    simp only [List.toList_toArray]
    congr 2
    rw [List.drop_eq_nil_of_le (by omega), List.drop_eq_nil_of_le (by omega)]
    simp
theorem sl_from_neg {l : List Nat} {i : Int} (h0 : i < 0) : Txt.slice ⟨l.toArray⟩ (some i) none = ⟨(l.drop (l.length - (-i).toNat)).toArray⟩ := by
  have e : Txt.slice ⟨l.toArray⟩ (some i) none = Txt.slice ⟨l.toArray⟩ (some ((l.length - (-i).toNat : Nat) : Int)) none := by
    apply slice_congr
    unfold strSliceIndices
    rw [len_l]
    dsimp only
    congr 1
    simp only [show (1 : Int) > 0 by decide, if_true, h0]
    split <;> omega
  rw [e, sl_from (by omega)]
  simp
theorem sl_to {l : List Nat} {j : Int} (h0 : 0 ≤ j) (h1 : j ≤ (l.length : Int)) : Txt.slice ⟨l.toArray⟩ none (some j) = ⟨(l.take j.toNat).toArray⟩ := by
  have := slice_closes_to (x := ⟨l.toArray⟩) (j := j) ⟨h0, by simpa using h1⟩
  rw [beq_iff_eq] at this
  rw [this]
  simp
theorem sl_to_neg {l : List Nat} {j : Int} (h0 : j < 0) : Txt.slice ⟨l.toArray⟩ none (some j) = ⟨(l.take (l.length - (-j).toNat)).toArray⟩ := by
  have e : Txt.slice ⟨l.toArray⟩ none (some j) = Txt.slice ⟨l.toArray⟩ none (some ((l.length - (-j).toNat : Nat) : Int)) := by
    apply slice_congr
    unfold strSliceIndices
    rw [len_l]
    dsimp only
    congr 1
    simp only [show (1 : Int) > 0 by decide, if_true, h0]
    split <;> omega
  rw [e, sl_to (by omega) (by omega)]
  simp
theorem sl_all {l : List Nat} : Txt.slice ⟨l.toArray⟩ none none = ⟨l.toArray⟩ := by
  have e : Txt.slice ⟨l.toArray⟩ none none = Txt.slice ⟨l.toArray⟩ (some 0) none := by
    apply slice_congr
    unfold strSliceIndices
    rw [len_l]
    dsimp only
    congr 1
  rw [e, sl_from (by omega)]
  simp
end 
section 
open PySem PySem.W PyProof.Rows
local macro_rules | `(tactic| k_all) => `(tactic| assumption)
noncomputable def WsAll (objs : List (Addr × Obj)) (xs : List Addr) (sts : List WS) : Prop := xs.length = sts.length ∧ ∀ (i : Nat) (x : Addr), xs[i]? = some x → ∃ st, sts[i]? = some st ∧ WsIn objs x st
noncomputable def SpIn (objs : List (Addr × Obj)) (l : Addr) (sts : List WS) : Prop := ∀ h : Heap, (∀ p ∈ objs, h.get? p.1 = some p.2) → Spaces h l sts
noncomputable def JPc (row : List Nat) (tr0 : Tok) (i : Nat) (m : Str → Option Value) (news : List (Addr × Obj)) : Prop :=
  ∃ (lst : Addr) (xs : List Addr) (objs : List (Addr × Obj)) (k : Nat) (rest : List Nat) (tr : Tok) (done : List WS), Knows m [(Str.ofString "row", .str ⟨row.toArray⟩ tr0), (Str.ofString "spaces", .ref lst), (Str.ofString "rest", .str ⟨rest.toArray⟩ tr)] ∧
    news = (lst, listOf (xs.map Value.ref).toArray k) :: objs ∧ (∀ q ∈ objs, q.1 ≠ lst) ∧ WsAll objs xs done ∧ done.length = i ∧
    done ++ piecesL (row.count 46 + 1 - i) rest = piecesL (row.count 46 + 1) row ∧ (∀ c ∈ rest, c < 128) ∧ rest.length ≤ 1000
theorem c_pieces {prog : Program} {w : World} {d u : Nat} {fr gs} {s : Shared} {Q E} {p loose mg mb} (X : (Mine.hd.heap_39 w.params).In s.heap) (T : TopRead p loose mg mb s.heap)
   (hA : d < 430) {row : List Nat} {t : Tok} (hs : row.length ≤ 1000) (hr : ∀ c ∈ row, c < 128)
   (h : ∀ l h' tk' objs, (∀ b o, s.heap.get? b = some o → h'.get? b = some o) → (∀ q ∈ objs, h'.get? q.1 = some q.2 ∧ s.heap.get? q.1 = none) → SpIn objs l (piecesL (row.count 46 + 1) row) → Q (Value.ref l) { s with heap := h', toks := tk' }) :
   wpAny (model prog w) ⟨none, d, fr, gs, u⟩ (call (.ref 166) [.str ⟨row.toArray⟩ t]) Q E s := by
  refine' enter (binds := [(Str.ofString "row", Value.str ⟨row.toArray⟩ t)]) ?X ?T ?ho ?hcd ?hr ?hb ?hl ?_ ?c1 ?c2 ?c3 ?c4
  walk_at "m_in"
  walk_at "m_goc"
  dsimp only
  rename IsRange _ _ _ _ _ _ _ _ => hR
  dsimp only at hR
  rename Fr _ _ _ _ => F
  rename News _ _ _ _ => N
  rw [count_l row 46 _ dot_is, show ((row.count 46 : Nat) : Int) + 1 = ((row.count 46 + 1 : Nat) : Int) by omega] at hR
  refine iter_range0 (n := row.count 46 + 1) (JPc row t) (JPc row t (row.count 46 + 1)) hR ?hsm rfl F N ?hj ?turn ?done ?fin
  case hsm => have := List.count_le_length (a := 46) (l := row); omega
  case hj => exact ⟨_, [], [], 0, row, _, [], ⟨rfl, rfl, rfl, trivial⟩, rfl, (fun _ hq => (nomatch hq)), ⟨rfl, (fun i x e => by simp at e)⟩, rfl, rfl, hr, hs⟩
  case done => exact fun _ _ hJ => hJ
  case turn =>
    clear F N
    rintro i ti m₁ news₁ hp tk I oI hi ⟨lst, xs, objs, k, rest, tr, done, hk, rfl, hlo, hW, hdl, hpc, hra, hrl⟩ hI F N
    k_fold
    have hI1 := neN (hI _ (.head _))
    dsimp only at hI1
    replace F := Fr.knowsIn F hk
    walk_at "m_go"
    refine c_ws (X.keeps F.keep) (T.keeps F.keep) ?hd hra hrl ?_
    case hd => dsimp only; omega
    intro x h' tk' objs' hkp hob hWx
    dsimp only at hkp hob
    have hlst := (N _ (.tail _ (.head _))).1
    have hIal := (N _ (.head _)).1
    have hne : ∀ q ∈ objs' ++ objs, q.1 ≠ lst := all_app (fresh_ne hob hlst) hlo
    have hneI : ∀ q ∈ objs' ++ objs, q.1 ≠ I := all_app (fresh_ne hob hIal) (fun q hq => hI q (.tail _ hq))
    have N' : News s.heap _ h' ((I, oI) :: (lst, listOf (xs.map Value.ref).toArray k) :: (objs' ++ objs)) := News.sub (News.add F N hkp hob) (fun q hq => by
      rcases List.mem_cons.mp hq with rfl | hq
      · exact List.mem_append_right _ (.head _)
      rcases List.mem_cons.mp hq with rfl | hq
      · exact List.mem_append_right _ (.tail _ (.head _))
      rcases List.mem_append.mp hq with hq | hq
      · exact List.mem_append_left _ hq
      · exact List.mem_append_right _ (.tail _ (.tail _ hq)))
    have F' := PyProof.Rows.Fr.keeps F hkp
    clear N F
    walk_at "m_go"
    clear N' F'
    rename Fr _ _ _ _ => F
    rename News _ _ _ _ => N
    have hxl : xs.length = i := by rw [hW.1]; exact hdl
    have hcl := List.count_le_length (a := 46) (l := row)
    refine append_K F N (.tail (Ne.symm hI1) (.head hne)) ?_ ?hz
    case hz => simp; rw [sizeLine_eq]; omega
    intro h2 F2 N2
    clear F N
    have WX : WsAt h2 x (wsL rest) := WsAt.ofNews (News.sub N2 (fun q hq => .tail _ (.tail _ (List.mem_append_left _ hq)))) hWx
    walk_at "m_go"
    rename Fr _ _ _ _ => F3
    rename News _ _ _ _ => N3
    have e1 : ((xs.map Value.ref).toArray.push (.ref x)) = ((xs ++ [x]).map Value.ref).toArray := by simp
    have hn0 := wsL_n rest
    rw [e1] at N3
    rw [sl_from (by omega)] at F3
    refine TurnEnd.go F3 N3 (List.forall_mem_cons.mpr ⟨hI1, hneI⟩) ⟨lst, xs ++ [x], objs' ++ objs, k + 1, _, _, done ++ [wsL rest], ⟨rfl, rfl, rfl, trivial⟩, rfl, hne, ⟨by simp [hW.1], ?_⟩, by simp [hdl], ?_, ?_, ?_⟩
    · intro j y hy
      by_cases hj : j < xs.length
      · rw [List.getElem?_append_left hj] at hy
        obtain ⟨st, h1, h2⟩ := hW.2 j y hy
        exact ⟨st, by rw [List.getElem?_append_left (by rw [← hW.1]; exact hj)]; exact h1, h2.mono (fun q hq => List.mem_append_right _ hq)⟩
      · have hj2 : j = xs.length := by
          have := (List.getElem?_eq_some_iff.mp hy).1
          simp at this; omega
        subst hj2
        simp at hy
        subst hy
        exact ⟨wsL rest, by rw [hW.1]; simp, hWx.mono (fun q hq => List.mem_append_left _ hq)⟩
    · rw [← hpc]
      have e2 : row.count 46 + 1 - i = (row.count 46 + 1 - (i + 1)) + 1 := by omega
      rw [e2, List.append_assoc]
      rfl
    · exact fun c hc => hra c (List.mem_of_mem_drop hc)
    · rw [List.length_drop]; omega
  case fin =>
    clear F N
    rintro m₁ news₁ hp tk ⟨lst, xs, objs, k, rest, tr, done, hk, rfl, hlo, hW, hdl, hpc, hra, hrl⟩ F N
    dsimp only
    replace F := Fr.knows F hk
    walk_at "m_go"
    refine h _ _ _ _ F.keep (fun q hq => ⟨(N q hq).1, (N q hq).2.2⟩) ?_
    have hd : done = piecesL (row.count 46 + 1) row := by
      rw [← hpc]; simp [piecesL]
    rw [← hd]
    intro hh hal
    refine ⟨xs, k, hal _ (.head _), hW.1, fun j y hy => ?_⟩
    obtain ⟨st, h1, h2⟩ := hW.2 j y hy
    exact ⟨st, h1, objs, fun q hq => hal q (.tail _ hq), h2⟩
end 
section 
open PySem PySem.W PySem.Calls PyProof.Rows PyProof.V
open PySem.Builtin PySem.Builtin.Re
theorem plainAttrs_re : PlainAttrs "re.Pattern" :=
  ⟨⟨"object.__getattribute__", by rw [typeLookup_type, builtinLookup_eq_fast]; kernel_rfl, by decide +kernel⟩, by rw [typeLookup_type, builtinLookup_eq_fast]; kernel_rfl⟩
theorem slot_re_sub : Slot "re.Pattern" "sub" "re.Pattern.sub" :=
  .of (owner := "re.Pattern") (n := "sub") (by rw [typeLookup_type, builtinLookup_eq_fast]; kernel_rfl) (by decide +kernel) (by decide +kernel) (by decide +kernel)
    (by first | exact .inl (by decide +kernel) | exact .inr (by decide +kernel)) (by rw [isSubtype_type]; kernel_rfl)
theorem type_re_sub : typeOf (.builtin "re.Pattern.sub") = pure (.type "method_descriptor") := by show builtinType _ = _; rw [builtinType_eq_fast]; kernel_rfl
theorem entry_re_sub : entryFor table "re.Pattern.sub" = some Builtin.«re.Pattern.sub» := entryFor_of_tree (by kernel_rfl)
theorem entry_re_loop : entryFor table "re.Pattern.sub.loop" = some Builtin.«re.Pattern.sub.loop» := entryFor_of_tree (by kernel_rfl)
theorem plain_re_loop : plainId "re.Pattern.sub.loop" = true := by decide +kernel
theorem args_re_sub (a b c : Value) : argsOk "re.Pattern.sub" ⟨[a, b, c], []⟩ := by
  unfold argsOk
  kernel_rfl
end 
section 
open PySem PySem.W PySem.Calls PyProof.Rows PyProof.V
open PySem.Builtin PySem.Builtin.Re
theorem runFor_add (b : Nat) : ∀ (a : Nat) (m : Sre.M), Sre.M.runFor (a + b) m = Sre.M.runFor b (Sre.M.runFor a m)
  | 0, m => by rw [Nat.zero_add]; rfl
  | a + 1, m => by
    rw [Nat.succ_add]
    show (if m.outcome.isSome then m else Sre.M.runFor (a + b) m.step) = Sre.M.runFor b (if m.outcome.isSome then m else Sre.M.runFor a m.step)
    by_cases h : m.outcome.isSome = true
    · rw [if_pos h, if_pos h, runFor_done h]
    · rw [if_neg h, if_neg h, runFor_add b a]
section
variable {M : Model} {A : Around} {E : Value → Shared → Prop} {s : Shared}
theorem drive {m' : Sre.M} (ho : m'.outcome.isSome = true) {Q : Sre.M → Shared → Prop} (h : Q m' s) : ∀ (turns K : Nat) (m : Sre.M), StepsN K m m' → K ≤ 4 * turns → 0 < turns → wpAny M A (reDrive turns m) Q E s
  | 0, _, _, _, _, ht => by omega
  | turns + 1, K, m, hs, hK, _ => by
    have hfin : ∀ j, Sre.M.runFor (K + j) m = m' := fun j => by rw [hs j, runFor_done ho]
    have e : reDrive (turns + 1) m = (if (m.runFor 4).outcome.isSome then pure (m.runFor 4) else do rule "sre.turn"; reDrive turns (m.runFor 4)) := rfl
    rw [e]
    by_cases h4 : (m.runFor 4).outcome.isSome = true
    · rw [if_pos h4]
      have : m.runFor 4 = m' := by
        by_cases hk : K ≤ 4
        · have := hfin (4 - K); rwa [show K + (4 - K) = 4 by omega] at this
        · have := hfin 0
          rw [Nat.add_zero, show K = 4 + (K - 4) by omega, runFor_add, runFor_done h4] at this
          exact this
      rw [this]; exact wpAny_pure h
    · rw [if_neg h4]
      have hk : 4 < K := by
        refine Nat.lt_of_not_le fun hk => h4 ?_
        have := hfin (4 - K); rw [show K + (4 - K) = 4 by omega] at this
        rw [this]; exact ho
      refine wpAny_bind (wpAny_rule (drive ho h turns (K - 4) _ (fun j => ?_) (by omega) (by omega)))
      rw [← runFor_add, ← hs j]
      congr 1; omega
theorem run_tail {m' : Sre.M} {Q : Option Sre.M → Shared → Prop} {r : Option Sre.M} (h : wpAny M A (match m'.outcome with | some Sre.Outcome.matched => pure (some m') | some Sre.Outcome.failed => pure none | some (Sre.Outcome.stuck why) => unsupported (toString "_sre:" ++ toString why) | none => unsupported "internal:sre:no-outcome") Q E s)
    {m : Sre.M} {K : Nat} (hs : StepsN K m m') (hK : K ≤ 4 * 2 ^ 64) (ho : m'.outcome.isSome = true) : wpAny M A (reRunToEnd m) Q E s := by
  unfold reRunToEnd
  refine wpAny_bind (drive (m' := m') ho ?_ (2 ^ 64) K m hs hK (by decide))
  refine wpAny_bind (wpAny_forIn_list _ (fun _ _ s' => s' = s) _ ?_ ?_ _ _ rfl)
  · rintro i rest b s' rfl
    cases m'.seen.has i
    · exact wpAny_pure rfl
    · exact wpAny_bind (wpAny_rule (wpAny_pure rfl))
  · rintro b s' rfl; exact h
theorem run_yes {m m' : Sre.M} {K : Nat} {Q : Option Sre.M → Shared → Prop} (hs : StepsN K m m') (hK : K ≤ 4 * 2 ^ 64) (ho : m'.outcome = some .matched) (h : Q (some m') s) : wpAny M A (reRunToEnd m) Q E s :=
  run_tail (r := none) (by rw [ho]; exact wpAny_pure h) hs hK (by rw [ho]; rfl)
theorem run_no {m m' : Sre.M} {K : Nat} {Q : Option Sre.M → Shared → Prop} (hs : StepsN K m m') (hK : K ≤ 4 * 2 ^ 64) (ho : m'.outcome = some .failed) (h : Q none s) : wpAny M A (reRunToEnd m) Q E s :=
  run_tail (r := none) (by rw [ho]; exact wpAny_pure h) hs hK (by rw [ho]; rfl)
/-- the pattern's object and its code -/
structure PatAt (h : Heap) (pa : Addr) (code : Array Nat) (kind : Int) : Prop where
  at_ : ∃ op src fl ca oc items n, h.get? pa = some op ∧ op.cls = .type "re.Pattern" ∧ op.dict = none ∧ op.data = .fields #[src, fl, .int 0 0, .none, .none, .ref ca, .int kind 0] ∧ h.get? ca = some oc ∧ oc.data = .seq items n ∧ (items.map reRawOf).map (·.toNat) = code
theorem PatAt.keeps {h h' : Heap} {pa : Addr} {code : Array Nat} {kind : Int} (P : PatAt h pa code kind) (k : ∀ b o, h.get? b = some o → h'.get? b = some o) : PatAt h' pa code kind :=
  ⟨let ⟨op, src, fl, ca, oc, items, n, a, b, c, d, e, f, g⟩ := P.at_; ⟨op, src, fl, ca, oc, items, n, k _ _ a, b, c, d, k _ _ e, f, g⟩⟩
theorem whole_str {pa : Addr} {code : Array Nat} {x : Str} {t : Tok} {Q : ReTarget → Shared → Prop} (P : PatAt s.heap pa code 0)
    (h : Q { pattern := .ref pa, string := .str x t, code, text := x.cps, kind := 0, groups := 0, pos := 0, lim := x.cps.size } s) : wpAny M A (reWholeTarget (.ref pa) (.str x t)) Q E s := by
  obtain ⟨op, src, fl, ca, oc, items, n, h1, h2, h3, h4, h5, h6, h7⟩ := P.at_
  unfold reWholeTarget
  refine wpAny_bind (wpAny_fieldsOf h1 h4 ?_)
  refine wpAny_bind (wpAny_bind (wpAny_pure (wpAny_pure ?_)))
  show wpAny M A (reNoCollectionInside (.str x t) 0 >>= _) Q E s
  refine wpAny_bind (wpAny_pure ?_)
  refine wpAny_bind (wpAny_bind (wpAny_seqItems h5 h6 (wpAny_pure ?_)))
  refine wpAny_pure ?_
  subst h7
  exact h
end
end 
section 
open PySem PySem.W PySem.Calls PyProof.Rows PyProof.V
open PySem.Builtin PySem.Builtin.Re
structure Finds (code text : Array Nat) (find : Nat → Option (Nat × Nat)) : Prop where
  run : ∀ pos, pos ≤ text.size → ∃ K m', K ≤ 4 * 2 ^ 64 ∧ StepsN K (Sre.forSearch code text 0 pos text.size false) m' ∧ match find pos with
    | some qe => m'.outcome = some .matched ∧ m'.start = qe.1 ∧ m'.handed = qe.2
    | none => m'.outcome = some .failed
  ok : ∀ pos q e, find pos = some (q, e) → pos ≤ q ∧ q < e ∧ e ≤ text.size
noncomputable def subL (find : Nat → Option (Nat × Nat)) (l rp : List Nat) : Nat → Nat → List Nat
  | 0, _ => []
  | f + 1, done => match find done with
    | some qe => (l.drop done).take (qe.1 - done) ++ rp ++ subL find l rp f qe.2
    | none => l.drop done
noncomputable def catV (vs : List (Str × Tok)) : List Nat := (vs.map (·.1.cps.toList)).flatten
theorem catV_app (a b : List (Str × Tok)) : catV (a ++ b) = catV a ++ catV b := by simp [catV]
theorem extract_l (l : List Nat) (b e : Nat) : (l.toArray.extract b e) = ((l.drop b).take (e - b)).toArray := by
  simp [List.extract_eq_take_drop]
theorem join_cat : ∀ vs : List (Str × Tok), Str.join ⟨#[]⟩ (vs.map (·.1)) = ⟨(catV vs).toArray⟩
  | [] => rfl
  | [a] => by simp [catV, Str.join]
  | a :: b :: r => by
    have ih := join_cat (b :: r)
    show a.1 ++ (⟨#[]⟩ : Str) ++ Str.join ⟨#[]⟩ ((b :: r).map (·.1)) = _
    rw [ih]
    show Str.mk ((a.1.cps ++ #[]) ++ (catV (b :: r)).toArray) = _
    have : catV (a :: b :: r) = a.1.cps.toList ++ catV (b :: r) := by simp [catV]
    rw [this]
    simp
theorem join_sum : ∀ vs : List (Str × Tok), ((vs.map (·.1)).map (·.length)).sum = (catV vs).length
  | [] => rfl
  | a :: r => by
    have ih := join_sum r
    simp only [List.map_cons, List.sum_cons, ih, catV, List.flatten_cons, List.length_append]
    rfl
theorem push_seq {M : Model} {A : Around} {E : Value → Shared → Prop} {s : Shared} {lst : Addr} {xs : List Value} {k : Nat} {v : Value} {Q : Unit → Shared → Prop} (hls : s.heap.get? lst = some (listOf xs.toArray k)) (hz : xs.length ≤ 100000)
    (h : ∀ h', h'.get? lst = some (listOf (xs ++ [v]).toArray (k + 1)) → (∀ b o, b ≠ lst → s.heap.get? b = some o → h'.get? b = some o) → Q () { s with heap := h' }) : wpAny M A (updateSeq lst fun x => x.push v) Q E s := by
  refine wpAny_updateSeq hls rfl (h _ ?_ fun b o hb e => (Heap.get?_update_ne _ _ _ _ hb).trans e) (by rw [List.size_toArray, sizeLine_eq]; omega) (by rw [Array.size_push, List.size_toArray, sizeLine_eq]; omega)
  have e : Obj.mapSeq (fun x => x.push v) (listOf xs.toArray k) = listOf (xs ++ [v]).toArray (k + 1) := by
    simp [Obj.mapSeq]
  rw [← e]
  exact Heap.get?_update_self _ hls (by rw [e]; rfl)
section
variable {prog : Program} {w : World} {A : Around}
noncomputable def loopArgs (pa lst : Addr) (x rp : Value) (n done : Int) : Args :=
  ⟨[.ref pa, x, rp, rawInt 0, rawInt 0, rawInt n, rawInt done, rawInt done, .bool false, .ref lst, .bool false], []⟩
theorem sub_loop_str {pa lst : Addr} {code : Array Nat} {l rp : List Nat} {find : Nat → Option (Nat × Nat)} {tx tr : Tok} {h₀ : Heap} (P : PatAt h₀ pa code 0) (Fi : Finds code l.toArray find) (hl : l.length ≤ 1000) (hrp : rp.length ≤ 2) (hlst : h₀.get? lst = none) :
    ∀ (fuel done : Nat) (n : Int) (vs : List (Str × Tok)) (k : Nat) (s : Shared) (R : Result → Shared → Prop), l.length + 1 - done ≤ fuel → done ≤ l.length → (∀ b o, h₀.get? b = some o → s.heap.get? b = some o) →
      s.heap.get? lst = some (listOf (strValues vs).toArray k) → (catV vs).length ≤ 3 * done → vs.length ≤ 2 * done →
      (∀ h' tk u, (∀ b o, h₀.get? b = some o → h'.get? b = some o) → R (.ok (.ret (.str ⟨(catV vs ++ subL find l rp fuel done).toArray⟩ u))) { s with heap := h', toks := tk }) →
      codeAny (model prog w) A (.builtin "re.Pattern.sub.loop" (loopArgs pa lst (.str ⟨l.toArray⟩ tx) (.str ⟨rp.toArray⟩ tr) n done)) R s
  | 0, done, n, vs, k, s, R, hf, hd, hk, hls, hc, hv, hR => by omega
  | fuel + 1, done, n, vs, k, s, R, hf, hd, hk, hls, hc, hv, hR => by
    refine codeAny_builtin entry_re_loop ?_
    rw [Around.under_plainId plain_re_loop]
    have hsz : (strValues vs).toArray.size ≤ sizeLine := by
      rw [List.size_toArray, strValues, List.length_map, sizeLine_eq]; omega
    unfold Builtin.«re.Pattern.sub.loop» loopArgs
    refine wpAny_bind (whole_str (P.keeps hk) ?_)
    show wpAny _ _ (reLiteralCannotBeTurned (.str ⟨rp.toArray⟩ tr) >>= _) _ _ s
    refine wpAny_bind (wpAny_bind (wpAny_pure (wpAny_pure ?_)))
    obtain ⟨K, m', hK, hs, hm⟩ := Fi.run done (by simpa using hd)
    refine wpAny_bind ?_
    show wpAny _ _ (reRunToEnd (Sre.forSearch code l.toArray 0 done l.toArray.size false)) _ _ s
    cases hfd : find done with
    | none =>
      rw [hfd] at hm
      refine run_no hs hK hm ?_
      have hlsz : vs.length ≤ 100000 := by omega
      have fin : ∀ (s1 : Shared) (vs1 : List (Str × Tok)) (k1 : Nat), (∃ h1 tk1, s1 = { s with heap := h1, toks := tk1 }) → (∀ b o, h₀.get? b = some o → s1.heap.get? b = some o) → s1.heap.get? lst = some (listOf (strValues vs1).toArray k1) →
          catV vs1 = catV vs ++ l.drop done → (vs1 = [] → catV vs ++ l.drop done = []) →
          wpAny (model prog w) A.in1 (do
            let joiner ← reSlice l.toArray 0 0 0
            let text ← if ((← seqItems? (.ref lst)).getD #[]).isEmpty then pure joiner else call (.builtin (if (0 : Nat) == 0 then "str.join" else "bytes.join")) [joiner, .ref lst]
            if false then ret (← holding [text] do newTuple [text, ← mkInt n]) else ret text)
            (fun fin s' => match fin with | .done f => R (.ok f) s' | .again c' => c'.quiet = true ∧ codeAny (model prog w) A c' R s') (fun e s' => R (.error e) s') s1 := by
        rintro s1 vs1 k1 ⟨h1, tk1, rfl⟩ hk1 hls1 hcat hemp
        refine wpAny_bind (wpAny_mkStr ?_ (by rw [sizeLine_eq]; simp [Str.length]))
        refine wpAny_bind (wpAny_seqItems (s := { s with heap := h1, toks := tk1 + 1 }) hls1 rfl ?_)
        have hR' := fun h' tk u => hR h' tk u
        have hsub : subL find l rp (fuel + 1) done = l.drop done := by unfold subL; rw [hfd]
        rw [hsub] at hR'
        cases vs1 with
        | nil =>
          have hE := hemp rfl
          refine wpAny_bind (wpAny_pure (wpAny_pure ?_))
          have := hR' h1 (tk1 + 1) tk1 hk1
          rw [hE] at this
          have e0 : (⟨l.toArray.extract 0 0⟩ : Str) = ⟨([] : List Nat).toArray⟩ := by simp
          rw [e0]
          exact this
        | cons a r =>
          have hne : ((some ((strValues (a :: r)).toArray)).getD #[]).isEmpty = false := by simp [strValues]
          rw [hne]
          have e0 : (⟨l.toArray.extract 0 0⟩ : Str) = ⟨#[]⟩ := by simp
          rw [e0]
          refine wpAny_bind ?_
          show wpAny _ _ (call (.builtin "str.join") [.str ⟨#[]⟩ tk1, .ref lst]) _ _ _
          refine SC.join (l := a :: r) ⟨_, hls1, rfl, _, rfl⟩ rfl ?_ fun t' k' => ?_
          · unfold JoinOk
            rw [StrLaws.joinTotal, join_sum, hcat]
            have : (Str.mk #[]).length = 0 := rfl
            rw [this]
            unfold Builtin.Str.tooLong
            rw [sizeLine_eq]
            simp
            omega
          · show wpAny _ _ (ret (.str (Builtin.Str.glued ⟨#[]⟩ ((a :: r).map (·.1))) t')) _ _ _
            rw [StrLaws.glued_eq_join, join_cat, hcat]
            exact wpAny_pure (hR' h1 k' t' hk1)
      by_cases hlt : done < l.length
      · show wpAny _ _ (if (done : Int).toNat < l.toArray.size then _ else _) _ _ s
        rw [if_pos (by simp; omega)]
        refine wpAny_bind (wpAny_mkStr ?_ (by rw [sizeLine_eq]; simp [Str.length]; omega))
        refine wpAny_bind (push_seq (s := { s with toks := s.toks + 1 }) hls (by rw [strValues, List.length_map]; exact hlsz) fun h1 hl1 hk1 => ?_)
        have e1 : (⟨l.toArray.extract (done : Int).toNat l.toArray.size⟩ : Str) = ⟨(l.drop done).toArray⟩ := by
          rw [extract_l]
          simp
          rw [List.take_of_length_le (by simp)]
        rw [e1] at hl1
        refine fin { s with heap := h1, toks := s.toks + 1 } (vs ++ [(⟨(l.drop done).toArray⟩, s.toks)]) (k + 1) ⟨_, _, rfl⟩ (fun b o e => hk1 b o (fun q => by rw [q, hlst] at e; cases e) (hk b o e)) ?_ ?_ ?_
        · rw [hl1]; simp [strValues]
        · rw [catV_app]; simp [catV]
        · intro h; simp at h
      · show wpAny _ _ (if (done : Int).toNat < l.toArray.size then _ else _) _ _ s
        rw [if_neg (by simp; omega)]
        have hd0 : l.drop done = [] := List.drop_eq_nil_of_le (by omega)
        exact fin s vs k ⟨_, _, rfl⟩ hk hls (by rw [hd0]; simp) (by intro h; subst h; rw [hd0]; rfl)
    | some qe =>
      rw [hfd] at hm
      obtain ⟨m1, m2, m3⟩ := hm
      refine run_yes hs hK m1 ?_
      obtain ⟨h1, h2, h3⟩ := Fi.ok done qe.1 qe.2 hfd
      have h3' : qe.2 ≤ l.length := by simpa using h3
      dsimp only
      rw [m2, m3, show (qe.2 == qe.1) = false by simp; omega]
      have tail : ∀ (s1 : Shared) (vs1 : List (Str × Tok)) (k1 : Nat), (∃ h1 tk1, s1 = { s with heap := h1, toks := tk1 }) → (∀ b o, h₀.get? b = some o → s1.heap.get? b = some o) → s1.heap.get? lst = some (listOf (strValues vs1).toArray k1) →
          catV vs1 = catV vs ++ (l.drop done).take (qe.1 - done) → vs1.length ≤ vs.length + 1 →
          wpAny (model prog w) A.in1 (do updateSeq lst (fun x => x.push (.str ⟨rp.toArray⟩ tr)); again (.builtin "re.Pattern.sub.loop" (loopArgs pa lst (.str ⟨l.toArray⟩ tx) (.str ⟨rp.toArray⟩ tr) (n + 1) (qe.2 : Nat))))
            (fun fin s' => match fin with | .done f => R (.ok f) s' | .again c' => c'.quiet = true ∧ codeAny (model prog w) A c' R s') (fun e s' => R (.error e) s') s1 := by
        rintro s1 vs1 k1 ⟨hh, tk1, rfl⟩ hk1 hls1 hcat hv1
        refine wpAny_bind (push_seq (s := { s with heap := hh, toks := tk1 }) hls1 (by rw [strValues, List.length_map]; omega) fun h2 hl2 hk2 => ?_)
        refine wpAny_pure ⟨plainId_quiet plain_re_loop _, ?_⟩
        have hcl : (catV (vs1 ++ [(⟨rp.toArray⟩, tr)])).length ≤ 3 * qe.2 := by
          rw [catV_app, hcat]
          simp [catV]
          have := hc
          simp [catV] at this
          omega
        refine sub_loop_str P Fi hl hrp hlst fuel qe.2 (n + 1) (vs1 ++ [(⟨rp.toArray⟩, tr)]) (k1 + 1) _ R (by omega) h3' (fun b o e => hk2 b o (fun q => by rw [q, hlst] at e; cases e) (hk1 b o e)) ?_ hcl ?_ ?_
        · rw [hl2]; simp [strValues]
        · simp; omega
        · intro h' tk u hk'
          have := hR h' tk u hk'
          have e2 : subL find l rp (fuel + 1) done = (l.drop done).take (qe.1 - done) ++ rp ++ subL find l rp fuel qe.2 := by
            rw [subL, hfd]
          rw [e2] at this
          rw [catV_app, hcat]
          simp only [catV, List.map_cons, List.map_nil, List.flatten_cons, List.flatten_nil, List.append_nil]
          simpa [catV] using this
      by_cases hlt : done < qe.1
      · rw [if_pos (by simpa using hlt)]
        refine wpAny_bind (wpAny_mkStr ?_ (by rw [sizeLine_eq]; simp [Str.length]; omega))
        refine wpAny_bind (push_seq (s := { s with toks := s.toks + 1 }) hls (by rw [strValues, List.length_map]; omega) fun h1 hl1 hk1 => ?_)
        have e1 : (⟨l.toArray.extract (done : Int).toNat qe.1⟩ : Str) = ⟨((l.drop done).take (qe.1 - done)).toArray⟩ := by
          rw [extract_l]
          simp
        rw [e1] at hl1
        refine tail { s with heap := h1, toks := s.toks + 1 } (vs ++ [(⟨((l.drop done).take (qe.1 - done)).toArray⟩, s.toks)]) (k + 1) ⟨_, _, rfl⟩ (fun b o e => hk1 b o (fun q => by rw [q, hlst] at e; cases e) (hk b o e)) ?_ ?_ ?_
        · rw [hl1]; simp [strValues]
        · rw [catV_app]; simp [catV]
        · simp
      · rw [if_neg (by simpa using hlt)]
        have hd0 : (l.drop done).take (qe.1 - done) = [] := by rw [show qe.1 - done = 0 by omega]; rfl
        exact tail s vs k ⟨_, _, rfl⟩ hk hls (by rw [hd0]; simp) (by omega)
end
end 
section 
open PySem PySem.W PySem.Calls PyProof.Rows PyProof.V
open PySem.Builtin PySem.Builtin.Re
theorem noCall_str : typeLookup (.type "str") (Str.ofString "__call__") = pure none := by rw [typeLookup_type, builtinLookup_eq_fast]; kernel_rfl
theorem noCall_bytes : typeLookup (.type "bytes") (Str.ofString "__call__") = pure none := by rw [typeLookup_type, builtinLookup_eq_fast]; kernel_rfl
theorem named_re (a b : Value) : reNamed "re.Pattern.sub" "sub" ["repl", "string", "count"] 2 [a, b] [] = pure [some a, some b, none] := by rfl
section
variable {prog : Program} {w : World} {A : Around} {E : Value → Shared → Prop} {s : Shared}
theorem sub_str {pa : Addr} {code : Array Nat} {l rp : List Nat} {find : Nat → Option (Nat × Nat)} {tx tr : Tok} {Q : Value → Shared → Prop} (P : PatAt s.heap pa code 0) (Fi : Finds code l.toArray find) (hl : l.length ≤ 1000) (hrp : rp.length ≤ 2)
    (hlit : rp.contains 92 = false)
    (h : ∀ h' tk u, (∀ b o, s.heap.get? b = some o → h'.get? b = some o) → Q (.str ⟨(subL find l rp (l.length + 1) 0).toArray⟩ u) { s with heap := h', toks := tk }) :
    wpAny (model prog w) A (call (.builtin "re.Pattern.sub") [.ref pa, .str ⟨rp.toArray⟩ tr, .str ⟨l.toArray⟩ tx]) Q E s := by
  obtain ⟨op, src, fl, ca, oc, items, n, h1, h2, h3, h4, h5, h6, h7⟩ := id P.at_
  have hT : s.TypeIs (.ref pa) "re.Pattern" := ⟨_, h1, h2⟩
  refine wpAny_call (codeAny_call_builtin slot_re_sub.plain entry_re_sub (slot_re_sub.check _ _ _ _ _ _ _ _ hT (args_re_sub _ _ _) ?_))
  unfold Builtin.«re.Pattern.sub» reSubstitute
  refine wpAny_bind (wpAny_of_eq (named_re _ _) ?_)
  refine wpAny_bind (wpAny_pure ?_)
  refine wpAny_bind (wpAny_bind (wpAny_of_eq (a := .type "str") rfl (wpAny_of_eq noCall_str ?_)))
  show wpAny _ _ (asStr? (.str ⟨rp.toArray⟩ tr) >>= _) _ _ s
  refine wpAny_bind (wpAny_pure ?_)
  have e92 : ((⟨rp.toArray⟩ : Str).cps.contains 92) = false := by simpa using hlit
  dsimp only
  rw [e92]
  show wpAny _ _ (holding [Value.str ⟨rp.toArray⟩ tr] (reWholeTarget (.ref pa) (.str ⟨l.toArray⟩ tx)) >>= _) _ _ s
  refine wpAny_bind (wpAny_holding (whole_str P ?_))
  show wpAny _ _ (newList [] >>= _) _ _ s
  refine wpAny_bind (wpAny_newObj_type ?_)
  refine wpAny_pure ⟨plainId_quiet plain_re_loop _, ?_⟩
  refine sub_loop_str (h₀ := s.heap) P Fi hl hrp (Heap.get?_none_of_le (Nat.le_refl _)) (l.length + 1) 0 0 [] 0 _ _ (by omega) (by omega) (fun b o e => Heap.get?_push_of_some _ e) (Heap.get?_push_size _ rfl) (by simp [catV]) (by simp) ?_
  intro h' tk u hk
  have := h h' tk u hk
  simpa [catV] using this
end
end 
section 
theorem getD_l (l : List Nat) (k : Nat) (hk : k < l.length) : l.toArray.getD k 0 = l[k] := by simp [hk]
/-! line ends -/
noncomputable def eolF (l : List Nat) (pos : Nat) : Option (Nat × Nat) := (eolFind l.toArray l.length (l.length + 1 - pos) pos).map fun q => (q, eolEnd l.toArray l.length q)
theorem finds_eol (l : List Nat) : Finds eolC l.toArray (eolF l) where
  run := fun pos hp => by
    obtain ⟨K, m', hK, hs, hm⟩ := eol_search l.toArray l.toArray.size pos
    refine ⟨K, m', Nat.le_trans hK (by decide), hs, ?_⟩
    unfold eolF
    rw [List.size_toArray] at hm
    cases h : eolFind l.toArray l.length (l.length + 1 - pos) pos with
    | none => rw [h] at hm; exact hm
    | some q => rw [h] at hm; exact hm
  ok := fun pos q e h => by
    unfold eolF at h
    obtain ⟨q', hq, he⟩ := Option.map_eq_some_iff.mp h
    cases he
    obtain ⟨a, b, _, _⟩ := eolFind_spec hq
    refine ⟨a, ?_, ?_⟩
    · unfold eolEnd; split <;> omega
    · rw [List.size_toArray]
      unfold eolEnd
      split
      · rename_i h; omega
      · omega
theorem fix_pre : ∀ (pre r : List Nat), (∀ c ∈ pre, isEol c = false) → fixGo false (pre ++ r) = pre ++ fixGo false r
  | [], r, _ => rfl
  | c :: p, r, h => by
    have hc := h c (List.mem_cons_self)
    unfold isEol at hc
    have h1 : ¬ c = 13 := by intro e; subst e; simp at hc
    have h2 : ¬ c = 10 := by intro e; subst e; simp at hc
    show fixGo false (c :: (p ++ r)) = _
    rw [fixGo, if_neg h1, if_neg h2, fix_pre p r fun c hc => h c (List.mem_cons_of_mem _ hc)]
    rfl
theorem fix_flag : ∀ r : List Nat, (∀ c, r.head? = some c → c ≠ 10) → fixGo true r = fixGo false r
  | [], _ => rfl
  | c :: r, h => by
    have := h c rfl
    rw [fixGo, fixGo]
    simp [this]
theorem mid_free {l : List Nat} {done q : Nat} (hq : q ≤ l.length) (h : ∀ k, done ≤ k → k < q → isEol (l.toArray.getD k 0) = false) : ∀ c ∈ (l.drop done).take (q - done), isEol c = false := fun c hc => by
  obtain ⟨j, hj⟩ := List.getElem?_of_mem hc
  rw [List.getElem?_take] at hj
  split at hj
  · rename_i hlt
    rw [List.getElem?_drop] at hj
    have hk := h (done + j) (by omega) (by omega)
    have : l.toArray.getD (done + j) 0 = c := by
      obtain ⟨hlt2, he⟩ := List.getElem?_eq_some_iff.mp hj
      rw [getD_l _ _ hlt2, he]
    rwa [this] at hk
  · cases hj
theorem sub_eol (l : List Nat) : ∀ (fuel done : Nat), l.length + 1 - done ≤ fuel → done ≤ l.length → subL (eolF l) l [13, 10] fuel done = fixGo false (l.drop done)
  | 0, done, h, hd => by omega
  | fuel + 1, done, h, hd => by
    unfold subL
    cases hf : eolFind l.toArray l.length (l.length + 1 - done) done with
    | none =>
      have e : eolF l done = none := by unfold eolF; rw [hf]; rfl
      rw [e]
      have hn := eolFind_none rfl hf
      have hfree : ∀ c ∈ l.drop done, isEol c = false := by
        have := mid_free (Nat.le_refl _) hn
        rwa [List.take_of_length_le (by simp)] at this
      have := fix_pre (l.drop done) [] hfree
      rw [List.append_nil] at this
      rw [this]; simp [fixGo]
    | some q =>
      have e : eolF l done = some (q, eolEnd l.toArray l.length q) := by unfold eolF; rw [hf]; rfl
      rw [e]
      obtain ⟨h1, h2, h3, h4⟩ := eolFind_spec hf
      have hle : eolEnd l.toArray l.length q ≤ l.length := by
        unfold eolEnd
        split
        · rename_i hh; omega
        · omega
      have hgt : q < eolEnd l.toArray l.length q := by unfold eolEnd; split <;> omega
      dsimp only
      rw [sub_eol l fuel _ (by omega) hle]
      have hsplit : l.drop done = (l.drop done).take (q - done) ++ l.drop q := by
        conv => lhs; rw [← List.take_append_drop (q - done) (l.drop done)]
        rw [List.drop_drop, show done + (q - done) = q by omega]
      conv => rhs; rw [hsplit]
      rw [fix_pre _ _ (mid_free (by omega) h4), List.append_assoc]
      congr 1
      rw [List.drop_eq_getElem_cons h2]
      have hg := getD_l l q h2
      unfold isEol at h3
      rw [hg] at h3
      by_cases c1 : l[q] = 13
      · rw [fixGo, if_pos c1]
        show 13 :: 10 :: _ = _
        congr 2
        by_cases c2 : q + 1 < l.length ∧ l.toArray.getD (q + 1) 0 = 10
        · have e2 : eolEnd l.toArray l.length q = q + 2 := by unfold eolEnd; rw [if_pos ⟨by rw [hg]; exact c1, c2⟩]
          have hg2 := getD_l l (q + 1) c2.1
          rw [e2, List.drop_eq_getElem_cons c2.1, fixGo]
          have : l[q + 1] = 10 := by rw [← hg2]; exact c2.2
          rw [this]
          simp
        · have e2 : eolEnd l.toArray l.length q = q + 1 := by unfold eolEnd; rw [if_neg (fun h => c2 h.2)]
          rw [e2]
          refine (fix_flag _ ?_).symm
          intro c hc e10
          apply c2
          cases hdr : l.drop (q + 1) with
          | nil => rw [hdr] at hc; cases hc
          | cons a b =>
            have hlt : q + 1 < l.length := by
              have := congrArg List.length hdr
              simp at this; omega
            refine ⟨hlt, ?_⟩
            rw [getD_l _ _ hlt]
            rw [List.drop_eq_getElem_cons hlt] at hc
            have hc' : some l[q + 1] = some c := hc
            rw [Option.some.inj hc', e10]
      · have c3 : l[q] = 10 := by
          rcases Bool.or_eq_true_iff.mp h3 with h | h
          · simpa using h
          · exact absurd (by simpa using h) c1
        have e2 : eolEnd l.toArray l.length q = q + 1 := by unfold eolEnd; rw [if_neg (fun h => c1 (by rw [← hg]; exact h.1))]
        rw [e2, fixGo, if_neg c1, if_pos c3]
        simp
/-! dots -/
theorem dotFind_spec {text : Array Nat} {lim : Nat} : ∀ {n p q : Nat}, dotFind text lim n p = some q → p ≤ q ∧ q < lim ∧ dotAt text q = true ∧ text.getD q 0 = 46 ∧ ∀ k, p ≤ k → k < q → (dotAt text k && (text.getD k 0 == 46)) = false
  | 0, _, _, h => by cases h
  | n + 1, p, q, h => by
    unfold dotFind at h
    split at h
    · rename_i h1
      cases h
      simp only [Bool.and_eq_true, decide_eq_true_eq, beq_iff_eq] at h1
      exact ⟨Nat.le_refl _, h1.2.1, h1.1, h1.2.2, fun k a b => by omega⟩
    · rename_i h1
      obtain ⟨a, b, c, d, e⟩ := dotFind_spec h
      refine ⟨by omega, b, c, d, fun k hk1 hk2 => ?_⟩
      by_cases hk : k = p
      · subst hk
        have hlt : k < lim := by omega
        simp only [hlt, decide_true, Bool.true_and] at h1
        simpa using h1
      · exact e k (by omega) hk2
theorem dotFind_none {text : Array Nat} {lim : Nat} : ∀ {n p : Nat}, n = lim + 1 - p → dotFind text lim n p = none → ∀ k, p ≤ k → k < lim → (dotAt text k && (text.getD k 0 == 46)) = false
  | 0, p, hn, h, k, h1, h2 => by omega
  | n + 1, p, hn, h, k, h1, h2 => by
    unfold dotFind at h
    split at h
    · cases h
    · rename_i h3
      by_cases hk : k = p
      · subst hk
        simp only [h2, decide_true, Bool.true_and] at h3
        simpa using h3
      · exact dotFind_none (by omega) h k (by omega) h2
noncomputable def dotF (l : List Nat) (pos : Nat) : Option (Nat × Nat) := (dotFind l.toArray l.length (l.length + 1 - pos) pos).map fun q => (q, q + 1)
theorem finds_dot (l : List Nat) (hl : l.length ≤ 100000) : Finds dotC l.toArray (dotF l) where
  run := fun pos hp => by
    obtain ⟨K, m', hK, hs, hm⟩ := dot_run l.toArray l.toArray.size pos
    rw [List.size_toArray] at hK
    refine ⟨K, m', Nat.le_trans hK (Nat.le_trans (show 3 * (l.length + 1 - pos) + 5 ≤ 1000000 by omega) (by decide)), hs, ?_⟩
    unfold dotF
    rw [List.size_toArray] at hm
    cases h : dotFind l.toArray l.length (l.length + 1 - pos) pos with
    | none => rw [h] at hm; exact hm
    | some q => rw [h] at hm; exact hm
  ok := fun pos q e h => by
    unfold dotF at h
    obtain ⟨q', hq, he⟩ := Option.map_eq_some_iff.mp h
    cases he
    obtain ⟨a, b, _, _⟩ := dotFind_spec hq
    rw [List.size_toArray]
    exact ⟨a, by omega, by omega⟩
theorem q_pre {l : List Nat} : ∀ (n done q : Nat), n = q - done → done ≤ q → q ≤ l.length → (∀ k, done ≤ k → k < q → (dotAt l.toArray k && (l.toArray.getD k 0 == 46)) = false) →
    qGo (dotAt l.toArray done) (l.drop done) = (l.drop done).take (q - done) ++ qGo (dotAt l.toArray q) (l.drop q)
  | 0, done, q, hn, h1, h2, h => by
    have : done = q := by omega
    subst this; simp
  | n + 1, done, q, hn, h1, h2, h => by
    have hlt : done < l.length := by omega
    have hg := getD_l l done hlt
    have h0 := h done (by omega) (by omega)
    rw [hg] at h0
    conv => lhs; rw [List.drop_eq_getElem_cons hlt]
    rw [qGo]
    have hfl : (if (dotAt l.toArray done && l[done] == 46) = true then [46, 46] else [l[done]]) = [l[done]] := by rw [h0]; rfl
    rw [hfl]
    have hat : (l[done] == 10) = dotAt l.toArray (done + 1) := by
      unfold dotAt
      simp [hlt]
    rw [hat, q_pre n (done + 1) q (by omega) (by omega) h2 (fun k a b => h k (by omega) b)]
    conv => rhs; rw [List.drop_eq_getElem_cons hlt, show q - done = (q - (done + 1)) + 1 by omega, List.take_succ_cons]
    rfl
theorem sub_dot (l : List Nat) : ∀ (fuel done : Nat), l.length + 1 - done ≤ fuel → done ≤ l.length → subL (dotF l) l [46, 46] fuel done = qGo (dotAt l.toArray done) (l.drop done)
  | 0, done, h, hd => by omega
  | fuel + 1, done, h, hd => by
    unfold subL
    cases hf : dotFind l.toArray l.length (l.length + 1 - done) done with
    | none =>
      have e : dotF l done = none := by unfold dotF; rw [hf]; rfl
      rw [e]
      have := q_pre _ done l.length rfl hd (Nat.le_refl _) (dotFind_none rfl hf)
      rw [this, List.take_of_length_le (by simp), List.drop_length]
      simp [qGo]
    | some q =>
      have e : dotF l done = some (q, q + 1) := by unfold dotF; rw [hf]; rfl
      rw [e]
      obtain ⟨h1, h2, h3, h4, h5⟩ := dotFind_spec hf
      dsimp only
      rw [sub_dot l fuel _ (by omega) (by omega)]
      rw [q_pre _ done q rfl h1 (by omega) h5, List.append_assoc]
      congr 1
      have hg := getD_l l q h2
      conv => rhs; rw [List.drop_eq_getElem_cons h2]
      rw [qGo, h3]
      have h46 : l[q] = 46 := by rw [← hg]; exact h4
      have hat : (l[q] == 10) = dotAt l.toArray (q + 1) := by
        unfold dotAt
        simp [h2]
      rw [hat, h46]
      rfl
end 
section 
open PySem PySem.W PyProof.Rows PySem.Builtin PySem.Builtin.Re
theorem crlf_is : Str.ofString "\x0d\n" = ⟨[13, 10].toArray⟩ := by decide +kernel
theorem dd_is : Str.ofString ".." = ⟨[46, 46].toArray⟩ := by decide +kernel
theorem mkPat {w : World} {h : Heap} {pa ca : Addr} {op oc : Obj} {src fl n} {items : Array Value} {code : Array Nat} {kind : Int} (X : (Mine.hd.heap_39 w.params).In h)
   (e1 : List.lookup pa (Mine.hd.heap_39 w.params) = some op) (e2 : List.lookup ca (Mine.hd.heap_39 w.params) = some oc)
   (c1 : op.cls = .type "re.Pattern") (c2 : op.dict = none) (c3 : op.data = .fields #[src, fl, .int 0 0, .none, .none, .ref ca, .int kind 0])
   (c4 : oc.data = .seq items n) (c5 : (items.map reRawOf).map (·.toNat) = code) : PatAt h pa code kind :=
  ⟨⟨op, src, fl, ca, oc, items, n, X pa op e1, c1, c2, c3, X ca oc e2, c4, c5⟩⟩
theorem pat1 {w : World} {h : Heap} (X : (Mine.hd.heap_39 w.params).In h) : PatAt h 43 dotC 0 := by
  refine' mkPat (ca := 42) X ?a ?b ?c1 ?c2 ?c3 ?c4 ?c5
  case a => k_is
  case b => k_is
  case c1 => exact rfl
  case c2 => exact rfl
  case c3 => exact rfl
  case c4 => exact rfl
  case c5 => decide +kernel
theorem pat2 {w : World} {h : Heap} (X : (Mine.hd.heap_39 w.params).In h) : PatAt h 48 dotC 1 := by
  refine' mkPat (ca := 47) X ?a ?b ?c1 ?c2 ?c3 ?c4 ?c5
  case a => k_is
  case b => k_is
  case c1 => exact rfl
  case c2 => exact rfl
  case c3 => exact rfl
  case c4 => exact rfl
  case c5 => decide +kernel
theorem pat3 {w : World} {h : Heap} (X : (Mine.hd.heap_39 w.params).In h) : PatAt h 53 eolC 0 := by
  refine' mkPat (ca := 52) X ?a ?b ?c1 ?c2 ?c3 ?c4 ?c5
  case a => k_is
  case b => k_is
  case c1 => exact rfl
  case c2 => exact rfl
  case c3 => exact rfl
  case c4 => exact rfl
  case c5 => decide +kernel
theorem gm_pat {M : Model} {A : Around} {E : Value → Shared → Prop} {s : Shared} {pa : Addr} {code : Array Nat} {kind : Int} {pl : Sem Bool} {Q : Value × List Value → Shared → Prop} (P : PatAt s.heap pa code kind) (h : Q (.builtin "re.Pattern.sub", [.ref pa]) s) :
    wpAny M A (getMethod (.ref pa) (Str.ofString "sub") pl) Q E s := by
  obtain ⟨op, src, fl, ca, oc, items, n, h1, h2, h3, h4, h5, h6, h7⟩ := id P.at_
  exact getMethod_builtin ⟨_, h1, h2⟩ plainAttrs_re slot_re_sub type_re_sub (fun a e => by cases e; exact ⟨_, h1, h3⟩) h
end 
local macro_rules | `(tactic| walk_at "getMethod ref") => `(tactic| ((with_reducible show wpAny _ _ (getMethod (Value.ref 53) _ _) _ _ _); (with_reducible refine' gm_pat (pat3 ?X) ?_); (case X => walk_at "m_cx"); (try dsimp only)))
section 
open PySem PySem.W PyProof.Rows PySem.Builtin PySem.Builtin.Re
end 
local macro_rules | `(tactic| walk_at "getMethod ref") => `(tactic| ((with_reducible show wpAny _ _ (getMethod (Value.ref 43) _ _) _ _ _); (with_reducible refine' gm_pat (pat1 ?X) ?_); (case X => walk_at "m_cx"); (try dsimp only)))
section 
open PySem PySem.W PyProof.Rows PySem.Builtin PySem.Builtin.Re
end 
local macro_rules | `(tactic| walk_at "getMethod ref") => `(tactic| ((with_reducible show wpAny _ _ (getMethod (Value.ref 48) _ _) _ _ _); (with_reducible refine' gm_pat (pat2 ?X) ?_); (case X => walk_at "m_cx"); (try dsimp only)))
section 
open PySem PySem.W PyProof.Rows PySem.Builtin PySem.Builtin.Re
theorem c_fix {prog : Program} {w : World} {d u : Nat} {fr gs} {s : Shared} {Q E} {p loose mg mb} (X : (Mine.hd.heap_39 w.params).In s.heap) (T : TopRead p loose mg mb s.heap)
   (hA : d < 430) {x : List Nat} {t : Tok} (hs : x.length ≤ 1000) 
   (h : ∀ t h' tk', (∀ b o, s.heap.get? b = some o → h'.get? b = some o) → Q (Value.str ⟨(fixL x).toArray⟩ t) { s with heap := h', toks := tk' }) :
   wpAny (model prog w) ⟨none, d, fr, gs, u⟩ (call (.ref 74) [.str ⟨x.toArray⟩ t]) Q E s := by
  refine' enter (binds := [(Str.ofString "data", Value.str ⟨x.toArray⟩ t)]) ?X ?T ?ho ?hcd ?hr ?hb ?hl ?_ ?c1 ?c2 ?c3 ?c4
  walk_at "m_in"
  walk_at "m_goc"
  rename Fr _ _ _ _ => F
  rw [crlf_is]
  refine sub_str (pat3 (X.keeps F.keep)) (finds_eol x) hs (by decide) (by decide) ?_
  intro h' tk' u hk
  dsimp only at hk
  rw [sub_eol x _ 0 (by omega) (by omega), List.drop_zero]
  walk_at "m_goc"
  exact h _ _ _ (fun b o e => hk b o (F.keep b o e))
theorem c_quote {prog : Program} {w : World} {d u : Nat} {fr gs} {s : Shared} {Q E} {p loose mg mb} (X : (Mine.hd.heap_39 w.params).In s.heap) (T : TopRead p loose mg mb s.heap)
   (hA : d < 430) {x : List Nat} {t : Tok} (hs : x.length ≤ 400) (hf : (fixL x).length ≤ 1000)
   (h : ∀ t h' tk', (∀ b o, s.heap.get? b = some o → h'.get? b = some o) → Q (Value.str ⟨(qL (fixL x)).toArray⟩ t) { s with heap := h', toks := tk' }) :
   wpAny (model prog w) ⟨none, d, fr, gs, u⟩ (call (.ref 60) [.str ⟨x.toArray⟩ t]) Q E s := by
  refine' enter (binds := [(Str.ofString "data", Value.str ⟨x.toArray⟩ t)]) ?X ?T ?ho ?hcd ?hr ?hb ?hl ?_ ?c1 ?c2 ?c3 ?c4
  walk_at "m_in"
  walk_at "m_goc"
  rename Fr _ _ _ _ => F
  rename News _ _ _ _ => N
  rw [crlf_is]
  refine sub_str (pat3 (X.keeps F.keep)) (finds_eol x) (by omega) (by decide) (by decide) ?_
  intro h' tk' u hk
  dsimp only at hk
  rw [sub_eol x _ 0 (by omega) (by omega), List.drop_zero]
  have F' := PyProof.Rows.Fr.keeps F hk
  have N' := PyProof.Rows.News.grown N hk
  clear F N
  walk_at "m_goc"
  rw [dd_is]
  refine sub_str (pat1 (X.keeps F'.keep)) (finds_dot (fixGo false x) (Nat.le_trans hf (by decide))) hf (by decide) (by decide) ?_
  intro h2 tk2 u2 hk2
  dsimp only at hk2
  rw [sub_dot (fixGo false x) _ 0 (by omega) (by omega), List.drop_zero]
  walk_at "m_goc"
  exact h _ _ _ (fun b o e => hk2 b o (F'.keep b o e))
end 
section 
open PySem PySem.W PySem.Calls PyProof.Rows PyProof.V
open PySem.Builtin PySem.Builtin.Re
theorem slot_bytes_join : Slot "bytes" "join" "bytes.join" :=
  .of (owner := "bytes") (n := "join") (by rw [typeLookup_type, builtinLookup_eq_fast]; kernel_rfl) (by decide +kernel) (by decide +kernel) (by decide +kernel)
    (by first | exact .inl (by decide +kernel) | exact .inr (by decide +kernel)) (by rw [isSubtype_type]; kernel_rfl)
theorem entry_bytes_join : entryFor table "bytes.join" = some Builtin.«bytes.join» := entryFor_of_tree (by kernel_rfl)
theorem args_bytes_join (a b : Value) : argsOk "bytes.join" ⟨[a, b], []⟩ := by
  unfold argsOk
  kernel_rfl
noncomputable def bvals (vs : List (Array UInt8 × Tok)) : List Value := vs.map (fun p => Value.bytes p.1 p.2)
noncomputable def bheld (vs : List (Array UInt8 × Tok)) : List (Value × Option Value) := vs.map (fun p => (Value.bytes p.1 p.2, none))
theorem take_buf {id : String} {b : Array UInt8} {t : Tok} : Bytes.takeBufferQuiet? id (.bytes b t) 0 = pure (some (b, none)) := by
  unfold Bytes.takeBufferQuiet? Bytes.takeBuffer?
  rw [KBy.special_eq KBy.look_buffer, KBy.own_buffer]
  have e : ∀ f, Bytes.buffer? id (.bytes b t) f = pure (some b) := by
    intro f
    unfold Bytes.buffer?
    rw [KBy.special_eq KBy.look_buffer, KBy.own_buffer, KBy.own_release]
    kernel_rfl
  simp only [pure_bind, Bool.not_true, e]
  rfl
theorem onHeap_held (vs : List (Array UInt8 × Tok)) : (bheld vs).any (·.1.onHeap) = false := by
  unfold bheld
  rw [List.any_map]
  apply List.any_eq_false.2
  intro p _
  show ¬ (Value.onHeap (.bytes p.1 p.2) = true)
  simp [Value.onHeap]
theorem letgo_held {M : Model} {A : Around} {E : Value → Shared → Prop} {s : Shared} {keep : List Value} {Q : Unit → Shared → Prop} (h : Q () s) : ∀ vs : List (Array UInt8 × Tok), wpAny M A (Bytes.joinLetGo (bheld vs) keep) Q E s
  | [] => wpAny_pure h
  | p :: r => by
    show wpAny M A (Bytes.joinLetGo ((Value.bytes p.1 p.2, none) :: bheld r) keep) Q E s
    unfold Bytes.joinLetGo
    refine wpAny_bind (wpAny_letGo ?_)
    exact letgo_held h r
theorem folded (sep : Array UInt8) : ∀ (l : List (Array UInt8)) (k : Nat) (acc : Array UInt8), sep = #[] → (List.foldl (fun out (x : Array UInt8 × Nat) => (if x.2 > 0 then out ++ sep else out) ++ x.1) acc (l.zipIdx k)) = acc ++ (l.map Array.toList).flatten.toArray
  | [], _, acc, _ => by simp
  | a :: r, k, acc, h => by
    rw [List.zipIdx_cons, List.foldl_cons, folded sep r (k + 1) _ h]
    subst h
    simp
    rw [← List.append_toArray]
theorem joined_is (l : List (Array UInt8)) : Bytes.joined #[] l = (l.map Array.toList).flatten.toArray := by
  have := folded #[] l 0 #[] rfl
  unfold Bytes.joined
  rw [Array.empty_append] at this
  exact this
theorem size_fold : ∀ (l : List (Array UInt8)) (k : Nat), l.foldl (fun n p => n + p.size) k = k + (l.map Array.toList).flatten.length
  | [], k => by simp
  | a :: r, k => by
    rw [List.foldl_cons, size_fold r]
    simp
    omega
section
variable {prog : Program} {w : World} {A : Around} {E : Value → Shared → Prop} {s : Shared}
theorem bytes_join {D : Addr} {vs : List (Array UInt8 × Tok)} {t : Tok} {k : Nat} {Q : Value → Shared → Prop} (hl : s.heap.get? D = some (listOf (bvals vs).toArray k)) (hne : vs ≠ []) (hn : ((vs.map (·.1.toList)).flatten).length ≤ 100000)
    (h : ∀ t' k, Q (.bytes ((vs.map (·.1.toList)).flatten).toArray t') { s with toks := k }) : wpAny (model prog w) A (call (.builtin "bytes.join") [.bytes #[] t, .ref D]) Q E s := by
  refine wpAny_call (codeAny_call_builtin slot_bytes_join.plain entry_bytes_join (slot_bytes_join.check _ _ _ _ _ _ _ _ (typeIs_bytes _ _ _) (args_bytes_join _ _) ?_))
  unfold Builtin.«bytes.join» Bytes.joinM
  refine wpAny_bind (wpAny_pure ?_)
  refine wpAny_bind ?_
  show wpAny _ _ (Bytes.joinItems (.ref D)) _ _ s
  unfold Bytes.joinItems
  refine wpAny_bind (wpAny_typeOf (T := "list") ⟨_, hl, rfl⟩ ?_)
  refine wpAny_pure ?_
  refine wpAny_bind (wpAny_seqItems hl rfl ?_)
  dsimp only
  rw [if_pos (show (Bytes.Kind.bytes == Bytes.Kind.bytes) = true from rfl)]
  have h1or : (∃ a, vs = [a]) ∨ vs.length ≠ 1 := by
    match vs with
    | [a] => exact .inl ⟨a, rfl⟩
    | [] => exact .inr (by simp)
    | _ :: _ :: _ => exact .inr (by simp)
  rcases h1or with ⟨a, rfl⟩ | hn1
  · show wpAny _ _ (typeOf (Value.bytes a.1 a.2) >>= _) _ _ s
    refine wpAny_bind (wpAny_typeOf (typeIs_bytes _ _ _) ?_)
    dsimp only
    rw [if_pos (by rfl)]
    refine wpAny_bind (wpAny_rule (wpAny_pure ?_))
    have := h a.2 s.toks
    have h2 : Q (Value.bytes a.1 a.2) s := by simpa using this
    exact h2
  have hvs : ∃ a b r, vs = a :: b :: r := by
    match vs, hne, hn1 with
    | a :: b :: r, _, _ => exact ⟨a, b, r, rfl⟩
  obtain ⟨a, b, r, hvs⟩ := hvs
  generalize hw : (bvals vs).toArray = W
  rw [hw] at hl
  have hW : ∃ a b r, W = ((a : Value) :: b :: r).toArray := by
    subst hvs
    exact ⟨_, _, _, hw.symm⟩
  obtain ⟨a', b', r', rfl⟩ := hW
  rw [← hw] at hl
  show wpAny _ _ (forIn _ _ _ >>= _) _ _ s
  rw [← hw]
  · refine wpAny_bind ?_
    rw [Std.Legacy.Range.forIn_eq_forIn_range']
    refine wpAny_forIn_list _ (fun rest b s' => s' = s ∧ ∃ i, i ≤ vs.length ∧ rest = List.range' i (vs.length - i) 1 ∧ b.1 = ((vs.take i).map (·.1)).toArray ∧ b.2 = bheld (vs.take i)) _ ?_ ?_ _ _ ⟨rfl, 0, by omega, by simp [bvals, Std.Legacy.Range.size], by simp, by simp [bheld]⟩
    · rintro x rest ⟨b1, b2⟩ s' ⟨rfl, i, hi, hr, h1, h2⟩
      have hlt : i < vs.length := by
        rcases Nat.lt_or_ge i vs.length with h | h
        · exact h
        · rw [show vs.length - i = 0 by omega] at hr; simp at hr
      rw [show vs.length - i = (vs.length - i - 1) + 1 by omega, List.range'_succ] at hr
      injection hr with hr1 hr2
      subst hr1
      dsimp only at h1 h2
      subst h1 h2
      refine wpAny_bind (wpAny_seqItems hl rfl ?_)
      dsimp only
      rw [onHeap_held, if_neg (by decide)]
      have hx : (bvals vs).toArray.getD x Value.none = .bytes (vs[x]).1 (vs[x]).2 := by
        simp [bvals, Array.getD, hlt]
      rw [hx]
      refine wpAny_bind (wpAny_holding (wpAny_of_eq take_buf ?_))
      dsimp only
      refine wpAny_bind (wpAny_seqItems hl rfl ?_)
      dsimp only
      rw [if_neg (by simp)]
      refine wpAny_pure ⟨rfl, x + 1, hlt, ?_, ?_, ?_⟩
      · rw [hr2, show vs.length - (x + 1) = vs.length - x - 1 by omega]
      · rw [List.take_succ_eq_append_getElem hlt, List.map_append]; simp only [List.map_cons, List.map_nil, List.push_toArray]
      · rw [List.take_succ_eq_append_getElem hlt]; unfold bheld; rw [List.map_append]; rfl
    · rintro ⟨b1, b2⟩ s' ⟨rfl, i, hi, hr, h1, h2⟩
      have hi2 : i = vs.length := by
        rcases Nat.lt_or_ge i vs.length with h | h
        · rw [show vs.length - i = (vs.length - i - 1) + 1 by omega, List.range'_succ] at hr; simp at hr
        · omega
      subst hi2
      dsimp only at h1 h2
      subst h1 h2
      rw [List.take_length]
      refine wpAny_bind (wpAny_pure ?_)
      dsimp only
      have hm : (vs.map (·.1)).map Array.toList = vs.map (·.1.toList) := by rw [List.map_map]; rfl
      rw [if_neg (by
        rw [← Array.foldl_toList, size_fold, hm, Array.size_empty]
        rw [KBy.tooLong_not (by omega)]; exact Bool.false_ne_true)]
      refine wpAny_bind (wpAny_mkBytes ?_ ?_)
      · refine wpAny_bind (wpAny_holding (wpAny_point ?_))
        refine wpAny_bind (letgo_held ?_ _)
        refine wpAny_pure ?_
        have := h s'.toks (s'.toks + 1)
        rw [joined_is, hm]
        exact this
      · rw [joined_is, hm, List.size_toArray, sizeLine_eq]; omega
end
end 
section 
open PySem PySem.W PySem.Calls PyProof.Rows PyProof.V
open PySem.Builtin PySem.Builtin.Re
noncomputable def U (l : List Nat) : List UInt8 := l.map (·.toUInt8)
theorem U_nat (l : List Nat) (h : ∀ c ∈ l, c < 256) : (U l).toArray.map (·.toNat) = l.toArray := by
  simp only [U, List.map_toArray, List.map_map]
  congr 1
  conv => rhs; rw [← List.map_id l]
  apply List.map_congr_left
  intro c hc
  have := h c hc
  simp [Nat.toUInt8]
  omega
theorem U_app (a b : List Nat) : U (a ++ b) = U a ++ U b := by simp [U]
theorem U_len (a : List Nat) : (U a).length = a.length := by simp [U]
noncomputable def catB (vs : List (Array UInt8 × Tok)) : List UInt8 := (vs.map (·.1.toList)).flatten
theorem catB_app (a b : List (Array UInt8 × Tok)) : catB (a ++ b) = catB a ++ catB b := by simp [catB]
theorem catB_one (l : List UInt8) (t : Tok) : catB [(l.toArray, t)] = l := by simp [catB]
theorem bvals_app (a b : List (Array UInt8 × Tok)) : bvals (a ++ b) = bvals a ++ bvals b := by simp [bvals]
theorem bvals_len (a : List (Array UInt8 × Tok)) : (bvals a).length = a.length := by simp [bvals]
theorem lit_bytes {M : Model} {A : Around} {E : Value → Shared → Prop} {s : Shared} {b : Array UInt8} {t : Tok} {Q : Unit → Shared → Prop} (h : Q () s) : wpAny M A (reLiteralCannotBeTurned (.bytes b t)) Q E s := by
  unfold reLiteralCannotBeTurned
  refine wpAny_bind (wpAny_pure ?_)
  show wpAny M A (isInstance (.bytes b t) (.type "bytes") >>= _) Q E s
  exact wpAny_bind (wpAny_of_eq KBy.isInstance_eq (wpAny_pure h))
section
variable {prog : Program} {w : World} {A : Around} {E : Value → Shared → Prop} {s : Shared}
theorem whole_bytes {pa : Addr} {code : Array Nat} {x : List Nat} {t : Tok} {Q : ReTarget → Shared → Prop} (hx : ∀ c ∈ x, c < 256) (P : PatAt s.heap pa code 1)
    (h : Q { pattern := .ref pa, string := .bytes (U x).toArray t, code, text := x.toArray, kind := 1, groups := 0, pos := 0, lim := x.toArray.size } s) : wpAny (model prog w) A (reWholeTarget (.ref pa) (.bytes (U x).toArray t)) Q E s := by
  obtain ⟨op, src, fl, ca, oc, items, n, h1, h2, h3, h4, h5, h6, h7⟩ := P.at_
  unfold reWholeTarget
  refine wpAny_bind (wpAny_fieldsOf h1 h4 ?_)
  refine wpAny_bind ?_
  unfold reTextOf
  refine wpAny_bind (wpAny_pure ?_)
  show wpAny _ _ (Bytes.bufferQuiet? "_sre" (.bytes (U x).toArray t) >>= _) _ _ s
  refine wpAny_bind (wpAny_of_eq KBy.quiet_eq ?_)
  refine wpAny_pure ?_
  rw [U_nat x hx]
  show wpAny _ _ (reNoCollectionInside (.bytes (U x).toArray t) 1 >>= _) Q _ s
  refine wpAny_bind ?_
  show wpAny _ _ (isInstance (.bytes (U x).toArray t) (.type "bytes") >>= _) _ _ s
  refine wpAny_bind (wpAny_of_eq KBy.isInstance_eq (wpAny_pure ?_))
  refine wpAny_bind (wpAny_bind (wpAny_seqItems h5 h6 (wpAny_pure ?_)))
  refine wpAny_pure ?_
  subst h7
  exact h
end
section
variable {prog : Program} {w : World} {A : Around}
theorem sub_loop_bytes {pa lst : Addr} {code : Array Nat} {l rp : List Nat} {find : Nat → Option (Nat × Nat)} {tx tr : Tok} {h₀ : Heap} (hx : ∀ c ∈ l, c < 256) (P : PatAt h₀ pa code 1) (Fi : Finds code l.toArray find) (hl : l.length ≤ 1000) (hrp : rp.length ≤ 2) (hlst : h₀.get? lst = none) :
    ∀ (fuel done : Nat) (n : Int) (vs : List (Array UInt8 × Tok)) (k : Nat) (s : Shared) (R : Result → Shared → Prop), l.length + 1 - done ≤ fuel → done ≤ l.length → (∀ b o, h₀.get? b = some o → s.heap.get? b = some o) →
      s.heap.get? lst = some (listOf (bvals vs).toArray k) → (catB vs).length ≤ 3 * done → vs.length ≤ 2 * done →
      (∀ h' tk u, (∀ b o, h₀.get? b = some o → h'.get? b = some o) → R (.ok (.ret (.bytes (catB vs ++ U (subL find l rp fuel done)).toArray u))) { s with heap := h', toks := tk }) →
      codeAny (model prog w) A (.builtin "re.Pattern.sub.loop" (loopArgs pa lst (.bytes (U l).toArray tx) (.bytes (U rp).toArray tr) n done)) R s
  | 0, done, n, vs, k, s, R, hf, hd, hk, hls, hc, hv, hR => by omega
  | fuel + 1, done, n, vs, k, s, R, hf, hd, hk, hls, hc, hv, hR => by
    refine codeAny_builtin entry_re_loop ?_
    rw [Around.under_plainId plain_re_loop]
    unfold Builtin.«re.Pattern.sub.loop» loopArgs
    refine wpAny_bind (whole_bytes hx (P.keeps hk) ?_)
    show wpAny _ _ (reLiteralCannotBeTurned (.bytes (U rp).toArray tr) >>= _) _ _ s
    refine wpAny_bind (lit_bytes ?_)
    obtain ⟨K, m', hK, hs, hm⟩ := Fi.run done (by simpa using hd)
    refine wpAny_bind ?_
    show wpAny _ _ (reRunToEnd (Sre.forSearch code l.toArray 0 done l.toArray.size false)) _ _ s
    have hlsz : vs.length ≤ 100000 := by omega
    cases hfd : find done with
    | none =>
      rw [hfd] at hm
      refine run_no hs hK hm ?_
      have fin : ∀ (s1 : Shared) (vs1 : List (Array UInt8 × Tok)) (k1 : Nat), (∃ h1 tk1, s1 = { s with heap := h1, toks := tk1 }) → (∀ b o, h₀.get? b = some o → s1.heap.get? b = some o) → s1.heap.get? lst = some (listOf (bvals vs1).toArray k1) →
          catB vs1 = catB vs ++ U (l.drop done) → (vs1 = [] → catB vs ++ U (l.drop done) = []) →
          wpAny (model prog w) A.in1 (do
            let joiner ← reSlice l.toArray 1 0 0
            let text ← if ((← seqItems? (.ref lst)).getD #[]).isEmpty then pure joiner else call (.builtin (if (1 : Nat) == 0 then "str.join" else "bytes.join")) [joiner, .ref lst]
            if false then ret (← holding [text] do newTuple [text, ← mkInt n]) else ret text)
            (fun fin s' => match fin with | .done f => R (.ok f) s' | .again c' => c'.quiet = true ∧ codeAny (model prog w) A c' R s') (fun e s' => R (.error e) s') s1 := by
        rintro s1 vs1 k1 ⟨h1, tk1, rfl⟩ hk1 hls1 hcat hemp
        refine wpAny_bind (wpAny_mkBytes ?_ (by rw [sizeLine_eq]; simp))
        refine wpAny_bind (wpAny_seqItems (s := { s with heap := h1, toks := tk1 + 1 }) hls1 rfl ?_)
        have hR' := fun h' tk u => hR h' tk u
        have hsub : subL find l rp (fuel + 1) done = l.drop done := by unfold subL; rw [hfd]
        rw [hsub] at hR'
        have e0 : ((l.toArray.extract 0 0).map (·.toUInt8)) = (#[] : Array UInt8) := by simp
        rw [e0]
        cases vs1 with
        | nil =>
          have hE := hemp rfl
          refine wpAny_bind (wpAny_pure (wpAny_pure ?_))
          have := hR' h1 (tk1 + 1) tk1 hk1
          rw [hE] at this
          exact this
        | cons a r =>
          have hne : ((some ((bvals (a :: r)).toArray)).getD #[]).isEmpty = false := by simp [bvals]
          rw [hne]
          refine wpAny_bind ?_
          show wpAny _ _ (call (.builtin "bytes.join") [.bytes #[] tk1, .ref lst]) _ _ _
          refine bytes_join (vs := a :: r) hls1 (by simp) ?_ fun t' k' => ?_
          · show (catB (a :: r)).length ≤ 100000
            rw [hcat, List.length_append, U_len, List.length_drop]
            omega
          · show wpAny _ _ (ret (.bytes (catB (a :: r)).toArray t')) _ _ _
            rw [hcat]
            exact wpAny_pure (hR' h1 k' t' hk1)
      by_cases hlt : done < l.length
      · show wpAny _ _ (if (done : Int).toNat < l.toArray.size then _ else _) _ _ s
        rw [if_pos (by simp; omega)]
        refine wpAny_bind (wpAny_mkBytes ?_ (by rw [sizeLine_eq]; simp; omega))
        refine wpAny_bind (push_seq (s := { s with toks := s.toks + 1 }) hls (by rw [bvals_len]; exact hlsz) fun h1 hl1 hk1 => ?_)
        have e1 : ((l.toArray.extract (done : Int).toNat l.toArray.size).map (·.toUInt8)) = (U (l.drop done)).toArray := by
          rw [extract_l]
          simp [U]
          rw [List.take_of_length_le (by simp)]
        rw [e1] at hl1
        refine fin { s with heap := h1, toks := s.toks + 1 } (vs ++ [((U (l.drop done)).toArray, s.toks)]) (k + 1) ⟨_, _, rfl⟩ (fun b o e => hk1 b o (fun q => by rw [q, hlst] at e; cases e) (hk b o e)) ?_ ?_ ?_
        · rw [hl1, bvals_app]; rfl
        · rw [catB_app, catB_one]
        · intro h; simp at h
      · show wpAny _ _ (if (done : Int).toNat < l.toArray.size then _ else _) _ _ s
        rw [if_neg (by simp; omega)]
        have hd0 : l.drop done = [] := List.drop_eq_nil_of_le (by omega)
        exact fin s vs k ⟨_, _, rfl⟩ hk hls (by rw [hd0]; simp [U]) (by intro h; subst h; rw [hd0]; rfl)
    | some qe =>
      rw [hfd] at hm
      obtain ⟨m1, m2, m3⟩ := hm
      refine run_yes hs hK m1 ?_
      obtain ⟨h1, h2, h3⟩ := Fi.ok done qe.1 qe.2 hfd
      have h3' : qe.2 ≤ l.length := by simpa using h3
      dsimp only
      rw [m2, m3, show (qe.2 == qe.1) = false by simp; omega]
      have tail : ∀ (s1 : Shared) (vs1 : List (Array UInt8 × Tok)) (k1 : Nat), (∃ h1 tk1, s1 = { s with heap := h1, toks := tk1 }) → (∀ b o, h₀.get? b = some o → s1.heap.get? b = some o) → s1.heap.get? lst = some (listOf (bvals vs1).toArray k1) →
          catB vs1 = catB vs ++ U ((l.drop done).take (qe.1 - done)) → vs1.length ≤ vs.length + 1 →
          wpAny (model prog w) A.in1 (do updateSeq lst (fun x => x.push (.bytes (U rp).toArray tr)); again (.builtin "re.Pattern.sub.loop" (loopArgs pa lst (.bytes (U l).toArray tx) (.bytes (U rp).toArray tr) (n + 1) (qe.2 : Nat))))
            (fun fin s' => match fin with | .done f => R (.ok f) s' | .again c' => c'.quiet = true ∧ codeAny (model prog w) A c' R s') (fun e s' => R (.error e) s') s1 := by
        rintro s1 vs1 k1 ⟨hh, tk1, rfl⟩ hk1 hls1 hcat hv1
        refine wpAny_bind (push_seq (s := { s with heap := hh, toks := tk1 }) hls1 (by rw [bvals_len]; omega) fun h2 hl2 hk2 => ?_)
        refine wpAny_pure ⟨plainId_quiet plain_re_loop _, ?_⟩
        have hcl : (catB (vs1 ++ [((U rp).toArray, tr)])).length ≤ 3 * qe.2 := by
          rw [catB_app, catB_one, hcat, List.length_append, List.length_append, U_len, U_len, List.length_take, List.length_drop]
          omega
        refine sub_loop_bytes hx P Fi hl hrp hlst fuel qe.2 (n + 1) (vs1 ++ [((U rp).toArray, tr)]) (k1 + 1) _ R (by omega) h3' (fun b o e => hk2 b o (fun q => by rw [q, hlst] at e; cases e) (hk1 b o e)) ?_ hcl ?_ ?_
        · rw [hl2, bvals_app]; rfl
        · simp; omega
        · intro h' tk u hk'
          have := hR h' tk u hk'
          have e2 : subL find l rp (fuel + 1) done = (l.drop done).take (qe.1 - done) ++ rp ++ subL find l rp fuel qe.2 := by
            rw [subL, hfd]
          rw [e2, U_app, U_app, ← List.append_assoc, ← List.append_assoc] at this
          rw [catB_app, catB_one, hcat]
          exact this
      by_cases hlt : done < qe.1
      · rw [if_pos (by simpa using hlt)]
        refine wpAny_bind (wpAny_mkBytes ?_ (by rw [sizeLine_eq]; simp; omega))
        refine wpAny_bind (push_seq (s := { s with toks := s.toks + 1 }) hls (by rw [bvals_len]; omega) fun h1 hl1 hk1 => ?_)
        have e1 : ((l.toArray.extract (done : Int).toNat qe.1).map (·.toUInt8)) = (U ((l.drop done).take (qe.1 - done))).toArray := by
          rw [extract_l]
          simp [U]
        rw [e1] at hl1
        refine tail { s with heap := h1, toks := s.toks + 1 } (vs ++ [((U ((l.drop done).take (qe.1 - done))).toArray, s.toks)]) (k + 1) ⟨_, _, rfl⟩ (fun b o e => hk1 b o (fun q => by rw [q, hlst] at e; cases e) (hk b o e)) ?_ ?_ ?_
        · rw [hl1, bvals_app]; rfl
        · rw [catB_app, catB_one]
        · simp
      · rw [if_neg (by simpa using hlt)]
        have hd0 : (l.drop done).take (qe.1 - done) = [] := by rw [show qe.1 - done = 0 by omega]; rfl
        exact tail s vs k ⟨_, _, rfl⟩ hk hls (by rw [hd0]; simp [U]) (by omega)
end
section
variable {prog : Program} {w : World} {A : Around} {E : Value → Shared → Prop} {s : Shared}
theorem sub_bytes {pa : Addr} {code : Array Nat} {l rp : List Nat} {find : Nat → Option (Nat × Nat)} {tx tr : Tok} {Q : Value → Shared → Prop} (hx : ∀ c ∈ l, c < 256) (P : PatAt s.heap pa code 1) (Fi : Finds code l.toArray find) (hl : l.length ≤ 1000) (hrp : rp.length ≤ 2)
    (hlit : (U rp).contains 92 = false)
    (h : ∀ h' tk u, (∀ b o, s.heap.get? b = some o → h'.get? b = some o) → Q (.bytes (U (subL find l rp (l.length + 1) 0)).toArray u) { s with heap := h', toks := tk }) :
    wpAny (model prog w) A (call (.builtin "re.Pattern.sub") [.ref pa, .bytes (U rp).toArray tr, .bytes (U l).toArray tx]) Q E s := by
  obtain ⟨op, src, fl, ca, oc, items, n, h1, h2, h3, h4, h5, h6, h7⟩ := id P.at_
  have hT : s.TypeIs (.ref pa) "re.Pattern" := ⟨_, h1, h2⟩
  refine wpAny_call (codeAny_call_builtin slot_re_sub.plain entry_re_sub (slot_re_sub.check _ _ _ _ _ _ _ _ hT (args_re_sub _ _ _) ?_))
  unfold Builtin.«re.Pattern.sub» reSubstitute
  refine wpAny_bind (wpAny_of_eq (named_re _ _) ?_)
  refine wpAny_bind (wpAny_pure ?_)
  refine wpAny_bind (wpAny_bind (wpAny_of_eq (a := .type "bytes") rfl (wpAny_of_eq noCall_bytes ?_)))
  show wpAny _ _ (asStr? (.bytes (U rp).toArray tr) >>= _) _ _ s
  refine wpAny_bind (wpAny_pure ?_)
  dsimp only
  refine wpAny_bind (wpAny_of_eq KBy.quiet_eq ?_)
  refine wpAny_bind (wpAny_pure ?_)
  have e92 : ((U rp).toArray.contains 92) = false := by simpa using hlit
  rw [e92]
  show wpAny _ _ (holding [Value.bytes (U rp).toArray tr] (reWholeTarget (.ref pa) (.bytes (U l).toArray tx)) >>= _) _ _ s
  refine wpAny_bind (wpAny_holding (whole_bytes hx P ?_))
  show wpAny _ _ (newList [] >>= _) _ _ s
  refine wpAny_bind (wpAny_newObj_type ?_)
  refine wpAny_pure ⟨plainId_quiet plain_re_loop _, ?_⟩
  refine sub_loop_bytes (h₀ := s.heap) hx P Fi hl hrp (Heap.get?_none_of_le (Nat.le_refl _)) (l.length + 1) 0 0 [] 0 _ _ (by omega) (by omega) (fun b o e => Heap.get?_push_of_some _ e) (Heap.get?_push_size _ rfl) (by simp [catB]) (by simp) ?_
  intro h' tk u hk
  have := h h' tk u hk
  simpa [catB] using this
end
end 
section 
open PySem PySem.W PyProof.Rows
theorem bdd_is : (#[46, 46] : Array UInt8) = (U [46, 46]).toArray := by decide
theorem c_qp {prog : Program} {w : World} {d u : Nat} {fr gs} {s : Shared} {Q E} {p loose mg mb} (X : (Mine.hd.heap_39 w.params).In s.heap) (T : TopRead p loose mg mb s.heap)
   (hA : d < 430) {x : List Nat} {t : Tok} (hx : ∀ c ∈ x, c < 256) (hs : x.length ≤ 1000) 
   (h : ∀ t h' tk', (∀ b o, s.heap.get? b = some o → h'.get? b = some o) → Q (Value.bytes (U (qL x)).toArray t) { s with heap := h', toks := tk' }) :
   wpAny (model prog w) ⟨none, d, fr, gs, u⟩ (call (.ref 67) [.bytes (U x).toArray t]) Q E s := by
  refine' enter (binds := [(Str.ofString "bindata", Value.bytes (U x).toArray t)]) ?X ?T ?ho ?hcd ?hr ?hb ?hl ?_ ?c1 ?c2 ?c3 ?c4
  walk_at "m_in"
  walk_at "m_goc"
  rename Fr _ _ _ _ => F
  rw [bdd_is]
  refine sub_bytes hx (pat2 (X.keeps F.keep)) (finds_dot x (Nat.le_trans hs (by decide))) hs (by decide) (by decide) ?_
  intro h' tk' u hk
  dsimp only at hk
  rw [sub_dot x _ 0 (by omega) (by omega), List.drop_zero]
  walk_at "m_goc"
  exact h _ _ _ (fun b o e => hk b o (F.keep b o e))
end 
section 
open PySem PySem.W PySem.Calls PyProof.Rows
theorem enterX {prog : Program} {w : World} {A : Around} {s : Shared} {K : Frag} {E : Value → Shared → Prop} {Q : Value → Shared → Prop}
    {f : Addr} {name qual : Str} {params : Arguments} {body : List Stmt} {scope : Scope} {dV kV doc pm cdv ct oc : Value} {an od : Option Addr} {osl : Array (Option Value)} {args : List Value} {binds : List (Str × Value)}
    (X : K.In s.heap) (hlim : s.heap.NoLimit)
    (ho : K.lookup f = some ⟨oc, od, .func (fnOf name qual params body scope dV kV doc pm an cdv ct), osl⟩) (hcd : codeIn K cdv qual = true) (hroom : A.depth < recursionLimit)
    (hbind : bindArgs (fnOf name qual params body scope dV kV doc pm an cdv ct) ⟨args, []⟩ = pure binds)
    (hkind : ∀ n, ∀ x ∈ binds, scope.names.lookup x.1 = some .local ∨ (scope.names.lookup x.1 = some .cell ∧ ((cellsFrom n scope.names []).lookup x.1).isSome = true))
    (h : ∀ L h₁ tk cells, Fr s.heap L h₁ (bindL (envOfC qual scope L f cdv).kindOf binds fun _ => none) → News s.heap L h₁ cells →
      CellsAre (bindC (envOfC qual scope L f cdv).kindOf binds fun _ => none) (cellsFrom (L + 1) scope.names []) cells →
      wpAny (model prog w) (A.deeper (envOfC qual scope L f cdv)) (execs body (envOfC qual scope L f cdv))
        (fun fl s' => Q (match fl with | .ret v => v | _ => .none) s') (fun _ _ => False) { s with heap := h₁, toks := tk })
    (hnd : ((cellsFrom 0 scope.names []).map (·.1)).Nodup)
    (hco : scope.isCoroutine = false) (hgen : scope.isGenerator = false) (hk : scope.kind = .function) : wpAny (model prog w) A (call (.ref f) args) Q E s := by
  refine wpAny_call ?_
  refine codeAny_call_function (fd := fnOf name qual params body scope dV kV doc pm an cdv ct) hroom (X _ _ ho) rfl hco hgen rfl (codeRec_of X hcd) (BindsTo.of_eq hbind _ _ _ _ ?_)
  refine wpAny_newFunctionEnv_cells hk (hkind _) fun env' he s' x => ?_
  subst he
  refine ⟨hlim.keeps x.toInCall.keep, codeAny_func ?_⟩
  obtain ⟨h₁, tk, rfl, _⟩ := x.done
  have hk₁ := x.toInCall.keep
  obtain ⟨cells, NC, Y⟩ := Cl.news (h₀ := s.heap) (Nat.le_refl _) fun n c hm => ⟨x.cell n c (lookup_of_mem_nodup (cellsFrom_names scope.names 0 (s.heap.objs.size + 1) [] [] rfl ▸ hnd) hm), x.above n c hm⟩
  exact wpAny_mono (h s.heap.objs.size h₁ tk cells ⟨x.toInCall.ns, hk₁, Nat.le_refl _⟩ NC Y) (fun _ _ y => y) fun _ _ y => y.elim
end 
section 
open PySem PySem.W PySem.Calls PyProof.Rows
noncomputable def memD (x : List Nat) : PyData :=
  .tuple [.int x.length, .int (aheadL x).length, .tuple [.tuple ((cntR (aheadL x)).map .int), .int ((runsL x).getD ((runsL x).length - 1) 0)], .bool (decide ((cntR (aheadL x)).length ≤ 1))]
noncomputable def ReadsBy (objs : List (Addr × Obj)) (v : Value) (d : PyData) : Prop := ∀ h : Heap, (∀ q ∈ objs, h.get? q.1 = some q.2) → ∃ as, Reads h v d as
theorem split_uni (c : Nat) : ∀ ps : List Str, ps ≠ [] → (∀ p ∈ ps, c ∉ p.cps.toList) → splitL c (Str.join ⟨#[c]⟩ ps).cps.toList = ps.map (·.cps.toList)
  | [], h, _ => absurd rfl h
  | [a], _, h => by
    show splitL c a.cps.toList = _
    rw [splitL_free c _ (h a (.head _))]; rfl
  | a :: b :: r, _, h => by
    have ih := split_uni c (b :: r) (by simp) (fun p hp => h p (.tail _ hp))
    have e : (Str.join ⟨#[c]⟩ (a :: b :: r)).cps.toList = a.cps.toList ++ c :: (Str.join ⟨#[c]⟩ (b :: r)).cps.toList := by
      show ((a.cps ++ #[c]) ++ (Str.join ⟨#[c]⟩ (b :: r)).cps).toList = _
      simp
    rw [e, splitL_app c _ _ (h a (.head _)), ih]
    rfl
theorem split_is (x : List Nat) (c : Nat) : Txt.split ⟨x.toArray⟩ ⟨#[c]⟩ = (splitL c x).map (fun l => ⟨l.toArray⟩) := by
  have h := split_uni c (Txt.split ⟨x.toArray⟩ ⟨#[c]⟩) (by
    intro e
    have := PyProof.Rows.split_pos ⟨x.toArray⟩ ⟨#[c]⟩
    rw [e] at this
    simp at this) (StrLaws.split_free ⟨x.toArray⟩ c)
  rw [StrLaws.join_split] at h
  have h2 : splitL c x = (Txt.split ⟨x.toArray⟩ ⟨#[c]⟩).map (·.cps.toList) := h
  rw [h2, List.map_map]
  conv => lhs; rw [← List.map_id (Txt.split ⟨x.toArray⟩ ⟨#[c]⟩)]
  apply List.map_congr_left
  intro p _
  simp
end 
section 
open PySem PySem.W PyProof.Rows
end 
local macro_rules | `(tactic| walk_at "m_compa") => `(tactic| ((with_reducible refine' comp_assign ?hsw ?hclos ?hkind ?hnames ?hs ?_); (case hsw => with_unfolding_all rfl); (case hclos => with_unfolding_all rfl); (case hkind => exact rfl); (case hnames => decide); (case hs => intro _; with_unfolding_all rfl)))
section 
open PySem PySem.W PyProof.Rows
end 
local macro_rules | `(tactic| walk_at "m_inx") => `(tactic| (
  (case X => assumption);
  (case T => exact TopRead.nolimit (by assumption));
  (case ho => k_is);
  (case hcd => k_is);
  (case hr => exact room (by assumption));
  (case hb => exact rfl);
  (case hl => (intro n; exact List.forall_mem_cons.mpr ⟨by first | exact .inl rfl | exact .inr ⟨rfl, rfl⟩, List.forall_mem_nil _⟩));
  (case c0 => decide);
  (case c1 => rfl);
  (case c2 => rfl);
  (case c3 => rfl);
  intro L h₁ tk cells F N hC;
  k_fold))
section 
open PySem PySem.W PyProof.Rows
theorem len_lst {prog : Program} {w : World} {A : Around} {E : Value → Shared → Prop} {s : Shared} {Q : Value → Shared → Prop} {x : List Nat} {t : Tok} (hx : x.length ≤ 1000000) (h : ∀ u k, Q (.int (x.length : Nat) u) { s with toks := k }) : wpAny (model prog w) A (call (.builtin "len") [.str ⟨x.toArray⟩ t]) Q E s := by
  have e : (⟨x.toArray⟩ : Str).length = x.length := by simp [Str.length]
  refine len_str (by omega) ?_
  rw [e]
  exact h _ _
local macro_rules | `(tactic| walk_at "call builtin:len") => `(tactic| ((with_reducible show wpAny _ _ (call (Value.builtin "len") [Value.str (Str.mk (List.toArray _)) _]) _ _ _); (refine' len_lst ?k1 ?_; (case k1 => omega)); intro u' k'; (try dsimp only)))
theorem tuple_mk {prog : Program} {w : World} {A : Around} {E : Value → Shared → Prop} {s : Shared} {h₀ : Heap} {L : Addr} {m : Str → Option Value} {Q : Value → Shared → Prop} {l : Addr} {vs : List Value} {news : List (Addr × Obj)} (Fh : Fr h₀ L s.heap m) (N : News h₀ L s.heap news) (hl : s.heap.IsList l vs.toArray)
    (hQ : ∀ (D : Addr) h', Fr h₀ L h' m → News h₀ L h' ((D, { cls := .type "tuple", data := .seq vs.toArray }) :: news) → (∀ b o, s.heap.get? b = some o → h'.get? b = some o) → (∀ q ∈ news, q.1 < D) → Q (.ref D) { s with heap := h' })
    (hsz : vs.length ≤ sizeLine) :
    wpAny (model prog w) A (call (.type "tuple") [.ref l]) Q E s := by
  refine call_tuple_list hl (fun h' hk => ?_) (by rw [List.size_toArray]; exact hsz)
  have F' : Fr h₀ L h' m := Fh.keeps hk
  have N' : News h₀ L h' news := fun p hp => ⟨hk _ _ (N p hp).1, (N p hp).2⟩
  exact hQ _ _ (F'.push _) (N'.push F' _) (fun b o e => Heap.get?_push_of_some _ (hk b o e)) fun q hq => Heap.lt_size (N' q hq).1
theorem gm_count {M : Model} {A : Around} {E : Value → Shared → Prop} {s : Shared} {pa : Addr} {o : Obj} {pl : Sem Bool} {Q : Value × List Value → Shared → Prop} (ho : s.heap.get? pa = some o) (hc : o.cls = .type "list") (hd : o.dict = none) (h : Q (.builtin "list.count", [.ref pa]) s) :
    wpAny M A (getMethod (.ref pa) (Str.ofString "count") pl) Q E s :=
  getMethod_builtin ⟨_, ho, hc⟩ PySem.F.plainAttrs_list PySem.F.slot_list_count PySem.F.type_list_count (fun a e => by cases e; exact ⟨_, ho, hd⟩) h
theorem ints_of_counts {R : List Int} : ∀ {l : List Nat} {ys : List Value}, Paired (fun (a : Nat) y => ∃ v, (∃ t, v = Value.int (a : Int) t) ∧ ∃ i u c, v = Value.int i u ∧ y = Value.int ((R.count i : Nat) : Int) c) l ys → IntsAre ys (l.map (fun a : Nat => ((R.count (a : Int) : Nat) : Int)))
  | [], _, h => by cases h; exact .nil
  | p :: r, _, h => by
    cases h with
    | cons a t =>
      obtain ⟨v, ⟨t0, e1⟩, i, u, n, e2, rfl⟩ := a
      have e3 := e1.symm.trans e2
      injection e3 with e3 e4
      subst e3
      exact .cons _ _ (ints_of_counts t)
theorem ints_of_lens : ∀ {l : List (Str × Tok)} {ys : List Value}, Paired (fun a y => ∃ v, v = a ∧ ∃ st u n, v = Value.str st u ∧ y = Value.int (st.length : Int) n) (strValues l) ys → IntsAre ys (l.map (fun p => (p.1.length : Int)))
  | [], _, h => by cases h; exact .nil
  | p :: r, _, h => by
    cases h with
    | cons a t =>
      obtain ⟨v, e1, st, u, n, e2, rfl⟩ := a
      have e3 := e1.symm.trans e2
      injection e3 with e3 e4
      subst e3
      exact .cons _ _ (ints_of_lens t)
theorem tab_is : Str.ofString "\t" = ⟨#[9]⟩ := by decide +kernel
theorem reads_ints (h : Heap) : ∀ {ys : List Value} {ns : List Int}, IntsAre ys ns → ∃ as, ReadsAll h ys (ns.map .int) as
  | _, _, .nil => ⟨_, .nil⟩
  | _, _, .cons n t r => let ⟨as, e⟩ := reads_ints h r; ⟨_, .cons (.int n t) e⟩
theorem fin3 {h₀ h : Heap} {L : Addr} {a b c : Addr × Obj} {r : List (Addr × Obj)} (N : News h₀ L h (a :: b :: c :: r)) : ∀ q ∈ [a, b, c], h.get? q.1 = some q.2 ∧ h₀.get? q.1 = none := by
  intro q hq
  have : q ∈ a :: b :: c :: r := List.mem_append_left r hq
  exact ⟨(N q this).1, (N q this).2.2⟩
theorem c_members {prog : Program} {w : World} {d u : Nat} {fr gs} {s : Shared} {Q E} {p loose mg mb} (X : (Mine.hd.heap_39 w.params).In s.heap) (T : TopRead p loose mg mb s.heap)
   (hA : d < 430) {x : List Nat} {t : Tok} (hs : x.length ≤ 1000) 
   (h : ∀ v objs h' tk', (∀ b o, s.heap.get? b = some o → h'.get? b = some o) → (∀ q ∈ objs, h'.get? q.1 = some q.2 ∧ s.heap.get? q.1 = none) → ReadsBy objs v (memD x) → Q v { s with heap := h', toks := tk' }) :
   wpAny (model prog w) ⟨none, d, fr, gs, u⟩ (call (.ref 171) [.str ⟨x.toArray⟩ t]) Q E s := by
  refine' enterX (binds := [(Str.ofString "piece", Value.str ⟨x.toArray⟩ t)]) ?X ?T ?ho ?hcd ?hr ?hb ?hl ?_ ?c0 ?c1 ?c2 ?c3
  walk_at "m_inx"
  rename_i L h₁ tk₁ cells F N hC
  obtain ⟨o, rfl, hd⟩ := CellsAre.one hC
  clear hC
  replace F : Fr _ _ _ (fun y => if y = Str.ofString "piece" then some (Value.str ⟨x.toArray⟩ t) else none) := F
  replace hd : o.data = Data.cell none := hd
  walk_at "m_goc"
  walk_at "m_compa"
  walk_at "m_goc"
  rename_i l hh kk hsp hst hlen hL F N
  have hrl : l.map (fun p => (p.1.length : Int)) = runsL x := by
    rw [tab_is, split_is] at hsp
    have : l.map (fun p => (p.1.length : Int)) = (l.map (fun p => p.1)).map (fun z : Str => (z.length : Int)) := by rw [List.map_map]; rfl
    rw [this, hsp, List.map_map, runsL]
    apply List.map_congr_left
    intro z _
    simp [Str.length]
  have X' := X.keeps F.keep
  have T' := T.keeps F.keep
  refine comp_a (fun v y _ => ∃ st u n, v = .str st u ∧ y = .int (st.length : Int) n) (fun _ _ _ _ _ h => h) F N (gives_list rfl hL) ?hz ?hy ?hp ?hcell rfl ?hx ?helt ?hQ
  case hz => rw [strValues, List.length_map, ← List.length_map (f := fun p : Str × Tok => (p.1.length : Int)), hrl, runsL, List.length_map, sizeLine_eq]; have := (splitL_len 9 x).1; omega
  case hy => rfl
  case hp => rfl
  case hcell => decide
  case hx => decide
  case helt =>
    intro C a v hp tk m₂ ha hv FC NC
    subst hv
    dsimp only at FC NC ⊢
    obtain ⟨p, hp1, hp2⟩ := List.mem_map.mp ha
    subst hp2
    have hpl := hlen p.1 (List.mem_map_of_mem hp1)
    walk_at "m_goc"
    refine len_str ?_ ?_
    · have : (⟨x.toArray⟩ : Str).length = x.length := by simp [Str.length]
      omega
    · exact ⟨⟨_, _, rfl, fun _ _ e => e⟩, [], ⟨_, _, _, rfl, rfl⟩, by simp⟩
  case hQ =>
    intro D k ys all h'' tk hP F N hne
    have hne1 : L + 1 ≠ D := hne (L + 1, o) (by simp)
    replace N : News s.heap L h'' [(D, listOf ys.toArray k), (L + 1, o)] := News.sub N (by simp)
    replace F : Fr s.heap L h'' (fun z => if z = Str.ofString "runs" then some (.ref D) else if z = Str.ofString "piece" then some (.str ⟨x.toArray⟩ t) else none) := F
    clear hne
    dsimp only
    have hI := ints_of_lens hP
    clear hP
    have hRn : (l.map (fun p => (p.1.length : Int))) ≠ [] := by rw [hrl]; simp [runsL, splitL_ne]
    have hR0 : ∀ r ∈ (l.map (fun p => (p.1.length : Int))), 0 ≤ r ∧ r ≤ 1000 := by
      rw [hrl]
      intro r hr
      obtain ⟨p, hp, rfl⟩ := List.mem_map.mp hr
      have := (splitL_len 9 x).2 p hp
      omega
    have hRl : (l.map (fun p => (p.1.length : Int))).length ≤ 1001 := by
      rw [hrl, runsL, List.length_map]
      have := (splitL_len 9 x).1
      omega
    generalize hR : (l.map (fun p => (p.1.length : Int))) = R at hI hRn hR0 hRl
    rw [hrl] at hR
    walk_at "m_goc"
    rename_i D₂ ws h1 F₀ N₀ hI₂ hC₂ hL₂ l1 h2 o₂ F N hd₂
    clear F₀ N₀
    replace N : News s.heap L h2 [(D₂, listOf ws.toArray 0), (D, listOf ys.toArray k), (L + 1, o₂)] := N
    walk_at "m_comp"
    walk_at "m_goc"
    rename_i D₃ h3 l2 D₄ ws4 h4 hI₄ l3 h5 M t5 k5 F₀ N₀ hM hM2 h6 tk6 ta tb tc hRg F N hk6
    clear F₀ N₀ hk6
    have hM0 : -1 ≤ M := hM2 (-1) (by simp)
    have hM1 : M ≤ 1000 := by
      rcases List.mem_append.mp hM with q | q
      · exact (hR0 M (List.mem_of_mem_take q)).2
      · rw [List.mem_singleton.mp q]; decide
    obtain ⟨n, hn⟩ : ∃ n : Nat, M + 1 = n := ⟨(M + 1).toNat, by omega⟩
    rw [hn] at hRg
    replace N : News s.heap L h6 [(D₂, listOf ws.toArray 0), (D, listOf ys.toArray k), (L + 1, o₂)] := News.sub N (by simp)
    clear X' T'
    have X' := X.keeps F.keep
    have T' := T.keeps F.keep
    refine comp_x (fun v y _ => ∃ i u c, v = .int i u ∧ y = .int (((R.take (R.length - 1)).count i : Nat) : Int) c) (fun _ _ _ _ _ h => h) F N (gives_range rfl hRg (by omega)) ?hz ?hcell rfl ?hx ?helt ?hQ
    case hz => rw [List.length_range, sizeLine_eq]; omega
    case hcell => decide
    case hx => decide
    case helt =>
      intro C a v hp tk m₂ ha ⟨u, hv⟩ FC NC
      subst hv
      dsimp only at FC NC ⊢
      have hD2 : hp.IsList D₂ ws.toArray := ⟨_, FC.keep _ _ (N (D₂, listOf ws.toArray 0) (by simp)).1, rfl, _, rfl⟩
      have hc2 : h6.get? (L + 1) = some o₂ := (N (L + 1, o₂) (by simp)).1
      have hD3 := FC.keep _ _ (N (D₂, listOf ws.toArray 0) (by simp)).1
      walk_at "m_goc"
      refine gm_count hD3 rfl rfl ?_
      walk_at "m_goc"
      exact ⟨⟨_, _, rfl, fun _ _ e => e⟩, [], ⟨_, _, _, rfl, rfl⟩, by simp⟩
    case hQ =>
      intro D₅ k₅ ys₅ all h'' tk hP F N hne
      have hne1 : D₂ ≠ D₅ := hne (D₂, listOf ws.toArray 0) (by simp)
      have hne2 : D ≠ D₅ := hne (D, listOf ys.toArray k) (by simp)
      have hne3 : L + 1 ≠ D₅ := hne (L + 1, o₂) (by simp)
      replace N : News s.heap L h'' [(D₅, listOf ys₅.toArray k₅), (D₂, listOf ws.toArray 0), (D, listOf ys.toArray k), (L + 1, o₂)] := News.sub N (by simp)
      clear hne
      dsimp only
      have hI₅ := ints_of_counts hP
      clear hP
      walk_at "m_goc"
      have hl5 : ys₅.length ≤ 1001 := by
        rw [hI₅.length, List.length_map, List.length_range]; omega
      refine tuple_mk F N ⟨_, (N _ (.head _)).1, rfl, _, rfl⟩ ?_ (by rw [sizeLine_eq]; omega)
      intro D₆ h7 F N hk7 hlt
      dsimp only
      have l4 : D₅ < D₆ ∧ D₂ < D₆ ∧ D < D₆ ∧ L + 1 < D₆ := ⟨hlt _ (.head _), hlt _ (.tail _ (.head _)), hlt _ (.tail _ (.tail _ (.head _))), hlt _ (.tail _ (.tail _ (.tail _ (.head _))))⟩
      clear hlt hk7
      walk_at "m_goc"
      rename_i h8 F N u' k'
      have hD9 : h8.IsList D ys.toArray := ⟨_, (N (D, listOf ys.toArray k) (by simp)).1, rfl, _, rfl⟩
      have hRp : 0 < R.length := List.length_pos_iff.mpr hRn
      refine item_list_ints_negR hD9 hI (by decide) (by omega) (by decide) ?_
      intro t9
      walk_at "m_goc"
      rename_i D₇ h9 F N l5
      refine len_tuple (items := ys₅.toArray) (News.isTup N (.tail _ (.head _))) (by simp; omega) ?_
      walk_at "m_goc"
      rename_i D₈ h10 F N l6
      have hMx : M = (R.take (R.length - 1)).foldl max (-1) := max_is hM hM2
      have hmn : mxR (R.take (R.length - 1)) = n := by unfold mxR; omega
      have hlen5 : ys₅.length = n := by rw [hI₅.length, List.length_map, List.length_range]
      have hD : memD x = .tuple [.int x.length, .int ((R.take (R.length - 1)).length : Nat), .tuple [.tuple (((List.range n).map (fun a : Nat => (((R.take (R.length - 1)).count (a : Int) : Nat) : Int))).map .int), .int (R.getD (-1 + (R.length : Int)).toNat 0)], .bool (decide ((ys₅.toArray.size : Int) ≤ 1))] := by
        unfold memD aheadL
        rw [hR]
        have e1 : (-1 + (R.length : Int)).toNat = R.length - 1 := by omega
        have e2 : cntR (R.take (R.length - 1)) = (List.range n).map (fun a : Nat => (((R.take (R.length - 1)).count (a : Int) : Nat) : Int)) := by unfold cntR; rw [hmn]
        rw [e1, e2]
        have e3 : (decide (((List.range n).map (fun a : Nat => (((R.take (R.length - 1)).count (a : Int) : Nat) : Int))).length ≤ 1)) = decide ((ys₅.toArray.size : Int) ≤ 1) := by
          rw [List.length_map, List.length_range, List.size_toArray, hlen5]
          exact decide_eq_decide.mpr (by omega)
        rw [e3]
      have N3 := fin3 N
      refine h _ _ _ _ F.keep N3 ?_
      rw [hD]
      intro hh hq
      obtain ⟨as, hra⟩ := reads_ints hh hI₅
      exact ⟨_, .tuple (hq _ (.head _)) rfl rfl (.cons (.int _ _) (.cons (.int _ _) (.cons (.tuple (hq _ (.tail _ (.head _))) rfl rfl (.cons (.tuple (hq _ (.tail _ (.tail _ (.head _)))) rfl rfl hra) (.cons (.int _ _) .nil))) (.cons (.bool _) .nil))))⟩
end 
section 
open PySem PySem.W PyProof.Rows
theorem ints_uni : ∀ {vs : List Value} {a b : List Int}, IntsAre vs a → IntsAre vs b → a = b
  | _, _, _, .nil, .nil => rfl
  | _, _, _, .cons n t r, .cons _ _ r' => by rw [ints_uni r r']
theorem WsAt.uni {h : Heap} {x : Addr} {st st' : WS} (W : WsAt h x st) (W' : WsAt h x st') : st = st' := by
  obtain ⟨objs, h1, dx, nm, ct, k, vs, es, tb, tn, tt, a1, a2, a3, a4, hv, g1, g2, g3, g4⟩ := W
  obtain ⟨objs', h1', dx', nm', ct', k', vs', es', tb', tn', tt', a1', a2', a3', a4', hv', g1', g2', g3', g4'⟩ := W'
  have e1' : instObj 136 dx = instObj 136 dx' := Option.some.inj ((h1 (x, instObj 136 dx) a1).symm.trans (h1' (x, instObj 136 dx') a1'))
  have edx : dx = dx' := by simpa [instObj] using e1'
  subst edx
  have e2 : dictOf es k = dictOf es' k' := Option.some.inj ((h1 (dx, dictOf es k) a2).symm.trans (h1' (dx, dictOf es' k') a2'))
  have ees : es = es' := by
    have := congrArg Obj.data e2
    simp [dictOf] at this
    exact this.1
  subst ees
  have en : st.n = st'.n := by have := g1.symm.trans g1'; simp at this; exact this.1
  have ent : st.nt = st'.nt := by have := g2.symm.trans g2'; simp at this; exact this.1
  have enm : nm = nm' := by have := g3.symm.trans g3'; simpa using this
  subst enm
  have e3 : tupOf [.ref ct, .int st.b tb] = tupOf [.ref ct', .int st'.b tb'] := Option.some.inj ((h1 (nm, tupOf [.ref ct, .int st.b tb]) a3).symm.trans (h1' (nm, tupOf [.ref ct', .int st'.b tb']) a3'))
  have e3' : ct = ct' ∧ st.b = st'.b := by
    have := congrArg Obj.data e3
    simp [tupOf] at this
    exact ⟨this.1, this.2.1⟩
  obtain ⟨ect, eb⟩ := e3'
  subst ect
  have e4 : tupOf vs = tupOf vs' := Option.some.inj ((h1 (ct, tupOf vs) a4).symm.trans (h1' (ct, tupOf vs') a4'))
  have evs : vs = vs' := by
    have := congrArg Obj.data e4
    simpa [tupOf] using this
  subst evs
  have ec := ints_uni hv hv'
  cases st; cases st'
  simp only at en ent eb ec
  rw [en, ent, eb, ec]
noncomputable def wsD (st : WS) : PyData := .tuple [.int st.n, .int st.nt, .tuple [.tuple (st.c.map .int), .int st.b], .bool (decide ((st.c.length : Int) ≤ 1))]
noncomputable def ReadsOn (h₁ : Heap) (objs : List (Addr × Obj)) (v : Value) (d : PyData) : Prop := ∀ h : Heap, (∀ b o, h₁.get? b = some o → h.get? b = some o) → (∀ q ∈ objs, h.get? q.1 = some q.2) → ∃ as, Reads h v d as
theorem gives_sp {prog : Program} {w : World} {A : Around} {s : Shared} {h₀ : Heap} {ax : Addr} {sts : List WS} (hh : A.handled = none) (hk : ∀ b o, h₀.get? b = some o → s.heap.get? b = some o) (S : Spaces h₀ ax sts) : Gives prog w A s (.ref ax) sts (fun st v => ∃ x, v = .ref x ∧ WsAt h₀ x st) := by
  obtain ⟨xs, k, h1, h2, h3⟩ := S
  have g : Gives prog w A s (.ref ax) (xs.map Value.ref) (fun a v => v = a) := gives_list hh ⟨_, hk _ _ h1, rfl, _, rfl⟩
  refine ⟨fun Q E h => g.run Q E fun oI fp P St W a b c hP => h oI fp P St (by rw [List.length_map, h2] at W; exact W) a b c (fun j v hj hv => ?_)⟩
  obtain ⟨a, ha, rfl⟩ := hP j v (by rw [List.length_map, h2]; exact hj) hv
  rw [List.getElem?_map] at ha
  cases hx : xs[j]? with
  | none => rw [hx] at ha; cases ha
  | some x =>
    rw [hx] at ha
    obtain ⟨st, e1, e2⟩ := h3 j x hx
    exact ⟨st, e1, x, (Option.some.inj ha).symm, e2⟩
theorem lay_ints : ∀ l : List Int, PyData.canLayAll0 (l.map .int) = true ∧ PyData.depthAll (l.map .int) = 0
  | [] => ⟨rfl, rfl⟩
  | a :: r => by
    obtain ⟨h1, h2⟩ := lay_ints r
    simp only [List.map_cons, PyData.canLayAll0, PyData.canLay0, PyData.depthAll, PyData.depth, h1, h2]
    exact ⟨rfl, rfl⟩
noncomputable def quadD (a b : Int) (l : List Int) (c : Int) (z : Bool) : PyData := .tuple [.int a, .int b, .tuple [.tuple (l.map .int), .int c], .bool z]
theorem lay_quad (a b : Int) (l : List Int) (c : Int) (z : Bool) : (quadD a b l c z).canLay0 = true ∧ (quadD a b l c z).depth ≤ 3 := by
  obtain ⟨h1, h2⟩ := lay_ints l
  unfold quadD
  simp only [PyData.canLayAll0, PyData.canLay0, PyData.depthAll, PyData.depth, h1, h2]
  exact ⟨rfl, by decide⟩
theorem lay_list : ∀ ds : List PyData, (∀ d ∈ ds, d.canLay0 = true ∧ d.depth ≤ 3) → PyData.canLayAll0 ds = true ∧ PyData.depthAll ds ≤ 3
  | [], _ => ⟨rfl, by decide⟩
  | d :: r, h => by
    obtain ⟨h1, h2⟩ := lay_list r (fun x hx => h x (.tail _ hx))
    obtain ⟨h3, h4⟩ := h d (.head _)
    simp only [PyData.canLayAll0, PyData.depthAll, h1, h3]
    exact ⟨rfl, by omega⟩
theorem shaped_list {ds : List PyData} (h : ∀ d ∈ ds, d.canLay0 = true ∧ d.depth ≤ 3) : PySem.SeqAt.shaped (.list ds) = true := by
  obtain ⟨h1, h2⟩ := lay_list ds h
  unfold PySem.SeqAt.shaped
  simp only [PyData.canLay0, PyData.depth, h1, Bool.true_and]
  exact decide_eq_true (by omega)
theorem shaped_ws (sts : List WS) : PySem.SeqAt.shaped (.list (sts.map wsD)) = true := shaped_list fun d hd => by
  obtain ⟨st, _, rfl⟩ := List.mem_map.mp hd
  exact lay_quad st.n st.nt st.c st.b _
theorem shaped_mem (ps : List (List Nat)) : PySem.SeqAt.shaped (.list (ps.map memD)) = true := shaped_list fun d hd => by
  obtain ⟨x, _, rfl⟩ := List.mem_map.mp hd
  exact lay_quad _ _ _ _ _
theorem reads_pairs {α : Type} {h : Heap} {f : α → PyData} : ∀ {l : List α} {ys : List Value}, Paired (fun a y => ∃ as, Reads h y (f a) as) l ys → ∃ as, ReadsAll h ys (l.map f) as
  | _, _, .nil => ⟨_, .nil⟩
  | _, _, .cons ⟨_, e⟩ t => let ⟨_, r⟩ := reads_pairs t; ⟨_, .cons e r⟩
theorem paired_map {α β : Type} {F : β → Value → Prop} (f : α → β) : ∀ {l : List α} {ys : List Value}, Paired F (l.map f) ys → Paired (fun a y => F (f a) y) l ys
  | [], _, h => by cases h; exact .nil
  | a :: r, _, h => by
    cases h with
    | cons e t => exact .cons e (paired_map f t)
theorem c_memr {prog : Program} {w : World} {d u : Nat} {fr gs} {s : Shared} {Q E} {p loose mg mb} (X : (Mine.hd.heap_39 w.params).In s.heap) (T : TopRead p loose mg mb s.heap)
   (hA : d < 420) (hu : u < 1000) {x : List Nat} {t : Tok} {l : Addr} {sts : List WS} (hs : x.length ≤ 1000) (S : Spaces s.heap l sts) (hb : sts.length ≤ 1000)
   (h : ∀ h' tk', (∀ b o, s.heap.get? b = some o → h'.get? b = some o) → Q (.bool (PyData.eqv (.list (sts.map wsD)) (.list ((splitL 46 x).map memD)))) { s with heap := h', toks := tk' }) :
   wpAny (model prog w) ⟨none, d, fr, gs, u⟩ (call (.ref 176) [.str ⟨x.toArray⟩ t, .ref l]) Q E s := by
  refine' enter (binds := [(Str.ofString "row", Value.str ⟨x.toArray⟩ t), (Str.ofString "spaces", .ref l)]) ?X ?T ?ho ?hcd ?hr ?hb ?hl ?_ ?c1 ?c2 ?c3 ?c4
  walk_at "m_in"
  walk_at "m_goc"
  walk_at "m_compa"
  walk_at "m_goc"
  rename_i ps hh kk hsp hst hlen hL F N
  have X' := X.keeps F.keep
  have T' := T.keeps F.keep
  have hps : ps.map (fun p => p.1) = (splitL 46 x).map (fun l => ⟨l.toArray⟩) := by rw [hsp, dot_is, split_is]
  refine comp_a (fun v y objs => ∃ st u, v = .str st u ∧ ReadsBy objs y (memD st.cps.toList)) (fun v y a b hab h => let ⟨st, u, e, r⟩ := h; ⟨st, u, e, fun hh hq => r hh (fun q h => hq q (hab q h))⟩) F N (gives_list rfl hL) ?hz ?hy ?hp ?hcell rfl ?hx ?helt ?hQ
  case hz => rw [strValues, List.length_map, ← List.length_map (f := fun p : Str × Tok => p.1), hps, List.length_map, sizeLine_eq]; have := (splitL_len 46 x).1; omega
  case hy => rfl
  case hp => rfl
  case hcell => decide
  case hx => decide
  case helt =>
    intro C a v hp tk m₂ ha hv FC NC
    subst hv
    dsimp only at FC NC ⊢
    obtain ⟨⟨⟨z⟩, tz⟩, hp1, hp2⟩ := List.mem_map.mp ha
    subst hp2
    have hpl := hlen ⟨z⟩ (List.mem_map_of_mem (f := fun p : Str × Tok => p.1) hp1)
    walk_at "m_goc"
    obtain ⟨zl⟩ := z
    have hpl' : zl.length ≤ x.length := hpl
    refine' c_members (x := zl) ?X ?T ?hA ?hs ?_
    case X => exact X'.keeps FC.keep
    case T => exact T'.keeps FC.keep
    case hA => (try dsimp only); omega
    case hs => omega
    intro v' objs h' tk' hk' hn' hr'
    dsimp only at hk' hn'
    walk_at "m_goc"
    exact ⟨⟨_, _, rfl, hk'⟩, objs, ⟨_, _, rfl, hr'⟩, hn'⟩
  case hQ =>
    intro D k ys all h'' tk hP F N hne
    dsimp only
    have hneA : ∀ q ∈ all, q.1 ≠ D := fun q hq => hne q (List.mem_append_left _ hq)
    have hall : ∀ q ∈ all, h''.get? q.1 = some q.2 := fun q hq => (N q (.tail _ (List.mem_append_left _ hq))).1
    have hD := (N _ (.head _)).1
    have N0 := N
    replace N : News s.heap _ h'' [(D, listOf ys.toArray k)] := News.sub N (by simp)
    clear hne
    clear X' T'
    walk_at "m_goc"
    walk_at "m_comp"
    walk_at "m_goc"
    have X' := X.keeps F.keep
    have T' := T.keeps F.keep
    refine comp_x (fun v y objs => ∃ x st, v = .ref x ∧ WsAt s.heap x st ∧ ReadsOn s.heap objs y (wsD st)) (fun v y a b hab h => let ⟨x, st, e, W, r⟩ := h; ⟨x, st, e, W, fun hh hk hq => r hh hk (fun q h => hq q (hab q h))⟩) F N0 (gives_sp rfl F.keep S) ?hz ?hcell rfl ?hx ?helt ?hQ
    case hz => rw [sizeLine_eq]; omega
    case hcell => decide
    case hx => decide
    case helt =>
      intro C st v hp tk m₂ hst ⟨x', hv, W⟩ FC NC
      subst hv
      dsimp only at FC NC W ⊢
      have hk1 : ∀ b o, s.heap.get? b = some o → hp.get? b = some o := fun b o e => FC.keep b o (F.keep b o e)
      obtain ⟨nm, ct, vs, tb, WX⟩ := W.open
      have W2 := W.keeps hk1
      have WX2 := WX.keeps F.keep
      iterate 18 walk1
      rename_i tn tt
      refine wpAny_newTuple ?_ (by rw [sizeLine_eq]; simp)
      refine ⟨⟨_, _, rfl, fun b o e => Heap.get?_push_of_some _ e⟩, [(hp.objs.size, { cls := .type "tuple", data := .seq [.int st.n tn, .int st.nt tt, .ref nm, .bool (decide ((st.c.length : Int) ≤ 1))].toArray })], ⟨x', st, rfl, W, ?_⟩, ?_⟩
      · intro hh hk hq
        obtain ⟨o1, a1, a2, n1, a3⟩ := WX.nmT
        obtain ⟨o2, b1, b2, n2, b3⟩ := WX.ctT
        obtain ⟨as, hra⟩ := reads_ints hh WX.isI
        exact ⟨_, .tuple (hq _ (.head _)) rfl rfl (.cons (.int _ _) (.cons (.int _ _) (.cons (.tuple (hk _ _ a1) a2 a3 (.cons (.tuple (hk _ _ b1) b2 b3 hra) (.cons (.int _ _) .nil))) (.cons (.bool _) .nil))))⟩
      · intro q hq
        rw [List.mem_singleton.mp hq]
        exact ⟨Heap.get?_push_size _ rfl, Heap.get?_none_of_le (Nat.le_refl _)⟩
    case hQ =>
      intro D₂ k₂ ys₂ all₂ h₂ tk₂ hP₂ F N hne
      have hk2 : ∀ q ∈ all₂ ++ (D, listOf ys.toArray k) :: all, h₂.get? q.1 = some q.2 := by
        intro q hq
        refine (N q (.tail _ ?_)).1
        rcases List.mem_append.mp hq with hq | hq
        · exact List.mem_append_left _ hq
        · refine List.mem_append_right _ ?_
          rcases List.mem_cons.mp hq with rfl | hq
          · exact .head _
          · exact .tail _ (List.mem_append_left _ hq)
      have hkeep : ∀ b o, s.heap.get? b = some o → h₂.get? b = some o := F.keep
      have ra : ∃ as, Reads h₂ (.ref D₂) (.list (sts.map wsD)) as := by
        have hp := Paired.mono (G := fun st y => ∃ as, Reads h₂ y (wsD st) as) (fun st y ⟨v, ⟨x1, e1, W1⟩, x2, st2, e2, W2, r⟩ => by
          subst e1
          cases e2
          rw [WsAt.uni W1 W2]
          exact r h₂ hkeep (fun q hq => hk2 q (List.mem_append_left _ hq))) hP₂
        obtain ⟨as, hra⟩ := reads_pairs hp
        exact ⟨_, .list (N _ (.head _)).1 rfl rfl hra⟩
      have rb : ∃ bs, Reads h₂ (.ref D) (.list ((splitL 46 x).map memD)) bs := by
        have hp := paired_map (fun p : Str × Tok => Value.str p.1 p.2) hP
        have hp2 := Paired.mono (G := fun (p : Str × Tok) y => ∃ as, Reads h₂ y (memD p.1.cps.toList) as) (fun p y ⟨v, e, st, u, e2, r⟩ => by
          subst e
          cases e2
          exact r h₂ (fun q hq => hk2 q (List.mem_append_right _ (.tail _ hq)))) hp
        obtain ⟨bs, hrb⟩ := reads_pairs hp2
        have e : ps.map (fun p => memD p.1.cps.toList) = (splitL 46 x).map memD := by
          have : ps.map (fun p => memD p.1.cps.toList) = (ps.map (fun p => p.1)).map (fun z : Str => memD z.cps.toList) := by rw [List.map_map]; rfl
          rw [this, hps, List.map_map]
          apply List.map_congr_left
          intro z _
          rfl
        rw [e] at hrb
        exact ⟨_, .list (hk2 (D, listOf ys.toArray k) (List.mem_append_right _ (.head _))) rfl rfl hrb⟩
      clear hP hP₂ N0 hne hk2 hkeep hall hneA
      replace N : News s.heap _ h₂ [(D₂, listOf ys₂.toArray k₂)] := News.sub N (by simp)
      obtain ⟨as, ra⟩ := ra
      obtain ⟨bs, rb⟩ := rb
      dsimp only
      walk1
      refine eq_dataH ra rb (shaped_ws _) (shaped_mem _) ?_ ?_
      · show u + 3 + 64 < 9900; omega
      · k_unfold
        exact h _ _ F.keep
end 
section 
noncomputable def Pc (p : List Nat) : Prop := ∀ c ∈ p, c = 32 ∨ c = 9
theorem ws_app (r : List Nat) : ∀ (p : List Nat) (st : WS), Pc p → ws (p ++ 46 :: r) st = ws p st
  | [], st, _ => by simp [ws]
  | a :: p, st, h => by
    have hp : Pc p := fun c hc => h c (.tail _ hc)
    show ws (a :: (p ++ 46 :: r)) st = _
    unfold ws
    rw [ws_app r p _ hp, ws_app r p _ hp]
theorem wsP_n : ∀ (p : List Nat) (st : WS), Pc p → (ws p st).n = st.n + p.length
  | [], st, _ => by simp [ws]
  | a :: p, st, h => by
    have hp : Pc p := fun c hc => h c (.tail _ hc)
    rcases h a (.head _) with rfl | rfl
    · rw [ws, if_pos rfl, wsP_n p _ hp]; simp; omega
    · rw [ws, if_neg (by decide), if_pos rfl, wsP_n p _ hp]; simp; omega
theorem wsL_len {p : List Nat} (h : Pc p) : (wsL p).n = p.length := by
  unfold wsL; rw [wsP_n p _ h]; simp [ws0]
noncomputable def joinD : List (List Nat) → List Nat
  | [] => []
  | [p] => p
  | p :: q :: r => p ++ 46 :: joinD (q :: r)
theorem join_split : ∀ x, joinD (splitL 46 x) = x
  | [] => rfl
  | a :: r => by
    have ih := join_split r
    unfold splitL
    split
    · rename_i e
      subst e
      cases h : splitL 46 r with
      | nil => exact absurd h (splitL_ne 46 r)
      | cons p q => rw [h] at ih; simp [joinD, ih]
    · split
      · rename_i h; exact absurd h (splitL_ne 46 r)
      · rename_i p q h
        rw [h] at ih
        cases q with
        | nil => simp only [joinD] at ih ⊢; rw [ih]
        | cons q1 q2 => simp only [joinD] at ih ⊢; rw [List.cons_append, ih]
theorem split_in (c : Nat) : ∀ x, ∀ p ∈ splitL c x, ∀ z ∈ p, z ∈ x ∧ z ≠ c
  | [], p, hp, z, hz => by simp [splitL] at hp; subst hp; cases hz
  | a :: r, p, hp, z, hz => by
    have ih := split_in c r
    unfold splitL at hp
    split at hp
    · rcases List.mem_cons.mp hp with rfl | hp
      · cases hz
      · exact ⟨.tail _ (ih p hp z hz).1, (ih p hp z hz).2⟩
    · rename_i hne
      split at hp
      · rename_i h; exact absurd h (splitL_ne c r)
      · rename_i p1 q1 h
        rw [h] at ih
        rcases List.mem_cons.mp hp with rfl | hp
        · rcases List.mem_cons.mp hz with rfl | hz
          · exact ⟨.head _, hne⟩
          · exact ⟨.tail _ (ih p1 (.head _) z hz).1, (ih p1 (.head _) z hz).2⟩
        · exact ⟨.tail _ (ih p (.tail _ hp) z hz).1, (ih p (.tail _ hp) z hz).2⟩
noncomputable def Row (x : List Nat) : Prop := ∀ c ∈ x, c = 32 ∨ c = 9 ∨ c = 46
theorem row_pc {x : List Nat} (h : Row x) : ∀ p ∈ splitL 46 x, Pc p := fun p hp c hc => by
  obtain ⟨a, b⟩ := split_in 46 x p hp c hc
  rcases h c a with h | h | h
  · exact .inl h
  · exact .inr h
  · exact absurd h b
theorem pc_count {p : List Nat} (h : Pc p) : p.count 46 = 0 := List.count_eq_zero.mpr fun hm => by
  rcases h _ hm with h | h <;> exact absurd h (by decide)
theorem pieces_join : ∀ (ps : List (List Nat)), ps ≠ [] → (∀ p ∈ ps, Pc p) → piecesL ((joinD ps).count 46 + 1) (joinD ps) = ps.map wsL
  | [], h, _ => absurd rfl h
  | [p], _, h => by
    have := h p (.head _)
    simp only [joinD, pc_count this, piecesL, List.map]
  | p :: q :: r, _, h => by
    have hp := h p (.head _)
    have ih := pieces_join (q :: r) (by simp) (fun p hp => h p (.tail _ hp))
    have hc : (joinD (p :: q :: r)).count 46 + 1 = ((joinD (q :: r)).count 46 + 1) + 1 := by
      simp [joinD, pc_count hp]
    have hw : wsL (joinD (p :: q :: r)) = wsL p := ws_app _ _ _ hp
    rw [hc, piecesL, hw, wsL_len hp, List.map_cons, ← ih]
    congr 2
    show List.drop _ (p ++ 46 :: joinD (q :: r)) = _
    rw [show ((p.length : Int) + 1).toNat = p.length + 1 by omega]
    simp
theorem pieces_split {x : List Nat} (h : Row x) : piecesL (x.count 46 + 1) x = (splitL 46 x).map wsL := by
  have := pieces_join (splitL 46 x) (splitL_ne 46 x) (row_pc h)
  rwa [join_split] at this
/-! members -/
theorem mxR_snoc (A : List Int) (b : Int) : mxR (A ++ [b]) = max (mxR A) (b + 1).toNat := by
  unfold mxR
  rw [List.foldl_append]
  simp only [List.foldl_cons, List.foldl_nil]
  omega
theorem mxR_lt {A : List Int} {i : Nat} (h : mxR A ≤ i) : A.count (i : Int) = 0 := List.count_eq_zero.mpr fun hm => by
  have := (foldl_max_ge A (-1)).2 _ hm
  unfold mxR at h
  omega
theorem cntR_getD (A : List Int) (i : Nat) : (cntR A).getD i 0 = (A.count (i : Int) : Nat) := by
  unfold cntR
  by_cases h : i < mxR A
  · simp [h]
  · rw [mxR_lt (by omega)]
    simp [h]
theorem cntR_len (A : List Int) : (cntR A).length = mxR A := by simp [cntR]
theorem flat_zero (k : Nat) : (List.replicate k [(0 : Int)]).flatten = List.replicate k 0 := by
  induction k with
  | zero => rfl
  | succ k ih => simp [List.replicate_succ, ih]
theorem bump_cnt (A : List Int) (b : Int) (hb : 0 ≤ b) : bump (cntR A) b = cntR (A ++ [b]) := by
  have hlen : (bump (cntR A) b).length = (cntR (A ++ [b])).length := by
    rw [cntR_len, mxR_snoc]
    unfold bump
    simp only [List.length_set, flat_zero]
    split
    · rename_i h; rw [cntR_len] at h; rw [List.length_append, List.length_replicate, cntR_len]; omega
    · rename_i h; rw [cntR_len] at h; rw [cntR_len]; omega
  apply List.ext_getElem hlen
  intro i h1 h2
  have e1 : (cntR (A ++ [b]))[i] = ((A ++ [b]).count (i : Int) : Nat) := by
    rw [← cntR_getD]; simp [h2]
  rw [e1]
  have key : ∀ c' : List Int, (∀ j : Nat, c'.getD j 0 = (A.count (j : Int) : Nat)) → ∀ (hi : i < (c'.set b.toNat (c'.getD b.toNat 0 + 1)).length), (c'.set b.toNat (c'.getD b.toNat 0 + 1))[i] = ((A ++ [b]).count (i : Int) : Nat) := by
    intro c' hc hi
    rw [List.getElem_set]
    have hb2 : ((b.toNat : Nat) : Int) = b := by omega
    split
    · rename_i e
      subst e
      rw [hc, List.count_append, hb2]
      simp
    · rename_i e
      have hi' : i < c'.length := by simpa using hi
      have : c'[i] = c'.getD i 0 := by simp [hi']
      rw [this, hc, List.count_append]
      have : List.count (i : Int) [b] = 0 := by
        rw [List.count_eq_zero]; simp; omega
      omega
  have hc' : ∀ j : Nat, (if ((cntR A).length : Int) ≤ b then cntR A ++ (List.replicate (b - (cntR A).length + 1).toNat [0]).flatten else cntR A).getD j 0 = (A.count (j : Int) : Nat) := by
    intro j
    split
    · rename_i hle
      by_cases hj : j < (cntR A).length
      · rw [← cntR_getD, List.getD_eq_getElem?_getD, List.getD_eq_getElem?_getD, List.getElem?_append_left hj]
      · rw [mxR_lt (by rw [← cntR_len]; omega), flat_zero, List.getD_eq_getElem?_getD, List.getElem?_append_right (by omega)]
        by_cases hk : j - (cntR A).length < (b - (cntR A).length + 1).toNat
        · simp [hk]
        · simp [hk]
    · exact cntR_getD A j
  exact key _ hc' h1
noncomputable def hdR (b : Int) : List Int → List Int
  | [] => []
  | r :: R => (b + r) :: R
theorem hdR_len (b : Int) (R : List Int) : (hdR b R).length = R.length := by cases R <;> rfl
theorem hdR_hdR (a b : Int) (R : List Int) : hdR a (hdR b R) = hdR (a + b) R := by
  cases R with
  | nil => rfl
  | cons r R => simp only [hdR]; rw [Int.add_assoc]
theorem runs_nil : runsL [] = [0] := rfl
theorem runs_sp (p : List Nat) : runsL (32 :: p) = hdR 1 (runsL p) := by
  unfold runsL
  rw [splitL, if_neg (by decide)]
  split
  · rename_i h; exact absurd h (splitL_ne 9 p)
  · rename_i a q h
    rw [h]
    simp [hdR]; omega
theorem runs_tab (p : List Nat) : runsL (9 :: p) = 0 :: runsL p := by
  unfold runsL
  rw [splitL, if_pos rfl]
  simp
theorem runs_ne (p : List Nat) : runsL p ≠ [] := by simp [runsL, splitL_ne]
theorem ws_runs : ∀ (p : List Nat) (A : List Int) (b n nt : Int), Pc p → 0 ≤ b →
    ws p ⟨cntR A, b, n, nt⟩ = ⟨cntR (A ++ (hdR b (runsL p)).take ((runsL p).length - 1)), (hdR b (runsL p)).getD ((runsL p).length - 1) 0, n + p.length, nt + ((runsL p).length - 1 : Nat)⟩
  | [], A, b, n, nt, _, hb => by simp [ws, runs_nil, hdR]
  | a :: p, A, b, n, nt, h, hb => by
    have hp : Pc p := fun c hc => h c (.tail _ hc)
    rcases h a (.head _) with rfl | rfl
    · rw [ws, if_pos rfl]
      show ws p ⟨cntR A, b + 1, n + 1, nt⟩ = _
      rw [ws_runs p A (b + 1) (n + 1) nt hp (by omega), runs_sp, hdR_hdR, hdR_len]
      simp only [List.length_cons]
      congr 1
      omega
    · rw [ws, if_neg (by decide), if_pos rfl]
      show ws p ⟨bump (cntR A) b, 0, n + 1, nt + 1⟩ = _
      rw [bump_cnt A b hb, ws_runs p (A ++ [b]) 0 (n + 1) (nt + 1) hp (by omega), runs_tab]
      have hh : hdR 0 (runsL p) = runsL p := by cases runsL p <;> simp [hdR]
      obtain ⟨r, R, hR⟩ : ∃ r R, runsL p = r :: R := by
        cases e : runsL p with
        | nil => exact absurd e (runs_ne p)
        | cons r R => exact ⟨r, R, rfl⟩
      rw [hh, hR]
      simp only [hdR, List.length_cons, Int.add_zero, Nat.add_sub_cancel, List.take_succ_cons, List.append_assoc, List.cons_append, List.nil_append, List.getD_cons_succ]
      congr 1
      · omega
      · omega
theorem ws_is {p : List Nat} (h : Pc p) : wsL p = ⟨cntR (aheadL p), (runsL p).getD ((runsL p).length - 1) 0, p.length, (aheadL p).length⟩ := by
  have := ws_runs p [] 0 0 0 h (by omega)
  have hh : hdR 0 (runsL p) = runsL p := by cases runsL p <;> simp [hdR]
  rw [hh] at this
  unfold wsL aheadL
  have e0 : cntR [] = [] := rfl
  rw [e0] at this
  rw [ws0, this]
  simp only [List.nil_append, Int.zero_add, List.length_take]
  congr 1
  omega
end 
section 
noncomputable def ec : Bool → List Nat → Nat
  | _, [] => 0
  | b, a :: r => if a = 32 then 1 + ec true r else (if b then 0 else 1) + ec false r
noncomputable def octL : Nat → List (List Nat × WS) → List Nat
  | _, [] => []
  | k, (p, st) :: r => p ++ (match r with | [] => [] | _ :: _ => if decide (st.b = 0 ∧ (0 < st.n ∨ k = 0)) then [46, 46] else [46]) ++ octL (k + 1) r
theorem mail_app (a b : List Nat) : mail (a ++ b) = mail a ++ mail b := by simp [mail]
theorem mail_cons (a : Nat) (b : List Nat) : mail (a :: b) = mailC a :: mail b := rfl
theorem rep_succ (e : List Nat) (n : Nat) : rep e ((n + 1 : Nat) : Int) = e ++ rep e (n : Nat) := by
  unfold rep
  rw [show ((n + 1 : Nat) : Int).toNat = n + 1 by omega, show ((n : Nat) : Int).toNat = n by omega, List.replicate_succ, List.flatten_cons]
theorem rep_zero (e : List Nat) : rep e ((0 : Nat) : Int) = [] := rfl
theorem fix_ec (r : List Nat) : ∀ (p : List Nat) (b : Bool), Pc p → fixGo b (mail p ++ 46 :: r) = rep [13, 10] (ec b p : Nat) ++ 46 :: fixGo false r
  | [], b, _ => by simp [mail, fixGo, ec, rep]
  | a :: p, b, h => by
    have hp : Pc p := fun c hc => h c (.tail _ hc)
    rcases h a (.head _) with rfl | rfl
    · show fixGo b (13 :: (mail p ++ 46 :: r)) = _
      rw [fixGo, if_pos rfl, fix_ec r p true hp, ec, if_pos rfl, Nat.add_comm, rep_succ]; rfl
    · show fixGo b (10 :: (mail p ++ 46 :: r)) = _
      have e9 : ∀ b, ec b (9 :: p) = (if b then 0 else 1) + ec false p := fun b => rfl
      rw [fixGo, if_neg (show ¬ (10 = 13) by decide), if_pos rfl, fix_ec r p false hp, e9]
      cases b with
      | true => simp
      | false =>
        have : (if false = true then 0 else 1) + ec false p = ec false p + 1 := Nat.add_comm _ _
        rw [this, rep_succ]; rfl
theorem fix_ec' : ∀ (p : List Nat) (b : Bool), Pc p → fixGo b (mail p) = rep [13, 10] (ec b p : Nat)
  | [], b, _ => by simp [mail, fixGo, ec, rep]
  | a :: p, b, h => by
    have hp : Pc p := fun c hc => h c (.tail _ hc)
    rcases h a (.head _) with rfl | rfl
    · show fixGo b (13 :: mail p) = _
      rw [fixGo, if_pos rfl, fix_ec' p true hp, ec, if_pos rfl, Nat.add_comm, rep_succ]; rfl
    · show fixGo b (10 :: mail p) = _
      have e9 : ∀ b, ec b (9 :: p) = (if b then 0 else 1) + ec false p := fun b => rfl
      rw [fixGo, if_neg (show ¬ (10 = 13) by decide), if_pos rfl, fix_ec' p false hp, e9]
      cases b with
      | true => simp
      | false =>
        have : (if false = true then 0 else 1) + ec false p = ec false p + 1 := Nat.add_comm _ _
        rw [this, rep_succ]; rfl
theorem bump_head (c : List Int) (b : Int) (hb : 0 ≤ b) : ((bump c b).take 1).sum = (c.take 1).sum + (if b = 0 then 1 else 0) := by
  unfold bump
  simp only [flat_zero]
  by_cases h0 : b = 0
  · subst h0
    cases c with
    | nil => simp [List.replicate_succ]
    | cons x xs =>
      have : ¬ (((x :: xs).length : Nat) : Int) ≤ 0 := by simp
      rw [if_neg this]
      simp
  · rw [if_neg h0]
    obtain ⟨k, hk⟩ : ∃ k, b.toNat = k + 1 := ⟨b.toNat - 1, by omega⟩
    rw [hk]
    cases c with
    | nil =>
      rw [if_pos (by simpa using hb)]
      have : (b - (([] : List Int).length : Int) + 1).toNat = k + 2 := by simp; omega
      rw [this]
      simp [List.replicate_succ]
    | cons x xs =>
      split <;> simp
theorem ends_ec : ∀ (p : List Nat) (st : WS), Pc p → 0 ≤ st.b → endsOf (ws p st) = endsOf st + (ec (decide (0 < st.b)) p : Nat)
  | [], st, _, _ => by simp [ws, ec]
  | a :: p, st, h, hb => by
    have hp : Pc p := fun c hc => h c (.tail _ hc)
    rcases h a (.head _) with rfl | rfl
    · rw [ws, if_pos rfl, ends_ec p _ hp (by show 0 ≤ st.b + 1; omega), ec, if_pos rfl]
      have : decide ((0 : Int) < st.b + 1) = true := decide_eq_true (by omega)
      show endsOf { st with b := st.b + 1, n := st.n + 1 } + ((ec (decide (0 < st.b + 1)) p : Nat) : Int) = _
      rw [this]
      unfold endsOf
      simp only
      omega
    · rw [ws, if_neg (by decide), if_pos rfl, ends_ec p _ hp (Int.le_refl 0), ec, if_neg (by decide)]
      show endsOf ⟨bump st.c st.b, 0, st.n + 1, st.nt + 1⟩ + ((ec (decide ((0 : Int) < 0)) p : Nat) : Int) = _
      have : decide ((0 : Int) < 0) = false := rfl
      rw [this]
      unfold endsOf
      simp only
      rw [bump_head _ _ hb]
      by_cases h0 : st.b = 0
      · simp [h0]; omega
      · have : decide ((0 : Int) < st.b) = true := decide_eq_true (by omega)
        rw [this, if_neg h0]; simp; omega
theorem ends_wsL {p : List Nat} (h : Pc p) : endsOf (wsL p) = (ec false p : Nat) := by
  have := ends_ec p ws0 h (by decide)
  unfold wsL
  rw [this]
  simp [endsOf, ws0]
theorem ec_pos {p : List Nat} : 0 < ec false p ↔ 0 < p.length := by
  cases p with
  | nil => simp [ec]
  | cons a r => simp only [ec, List.length_cons]; split <;> simp <;> omega
theorem ec_le : ∀ (p : List Nat) (b : Bool), ec b p ≤ p.length
  | [], _ => Nat.le_refl _
  | a :: r, b => by
    have h1 := ec_le r true
    have h2 := ec_le r false
    simp only [ec, List.length_cons]
    split
    · omega
    · split <;> omega
theorem formL_two (e : List Nat) (more : Bool) (k : Nat) (a b : WS) (r : List WS) : formL e more k (a :: b :: r) = rep e (endsOf a) ++ (if more && decide (k = 0 ∨ 0 < a.n) then [46, 46] else [46]) ++ formL e more (k + 1) (b :: r) := rfl
theorem octL_two (k : Nat) (p : List Nat) (a : WS) (b : List Nat × WS) (r : List (List Nat × WS)) : octL k ((p, a) :: b :: r) = p ++ (if decide (a.b = 0 ∧ (0 < a.n ∨ k = 0)) then [46, 46] else [46]) ++ octL (k + 1) (b :: r) := rfl
theorem fix_join : ∀ (ps : List (List Nat)) (k : Nat), ps ≠ [] → (∀ p ∈ ps, Pc p) → fixGo false (mail (joinD ps)) = formL [13, 10] false k (ps.map wsL)
  | [], _, h, _ => absurd rfl h
  | [p], k, _, h => by
    have hp := h p (.head _)
    simp only [joinD, List.map, formL, ends_wsL hp, fix_ec' p false hp, List.append_nil]
  | p :: q :: r, k, _, h => by
    have hp := h p (.head _)
    have ih := fix_join (q :: r) (k + 1) (by simp) (fun p hp => h p (.tail _ hp))
    show fixGo false (mail (p ++ 46 :: joinD (q :: r))) = _
    rw [mail_app, mail_cons]
    show fixGo false (mail p ++ 46 :: mail (joinD (q :: r))) = _
    rw [fix_ec _ p false hp, ih]
    show _ = formL [13, 10] false k (wsL p :: wsL q :: r.map wsL)
    rw [formL_two, ends_wsL hp]
    simp only [List.map_cons, Bool.false_and, Bool.false_eq_true, if_false, List.append_assoc, List.cons_append, List.nil_append]
theorem q_rep : ∀ (n : Nat) (nl : Bool), qGo nl (rep [13, 10] (n : Nat)) = rep [13, 10] (n : Nat)
  | 0, nl => by rw [rep_zero]; rfl
  | n + 1, nl => by
    rw [rep_succ]
    show qGo nl (13 :: 10 :: rep [13, 10] (n : Nat)) = _
    simp only [qGo]
    rw [q_rep n]
    cases nl <;> rfl
theorem q_rep_dot (rest : List Nat) : ∀ (n : Nat) (nl : Bool), qGo nl (rep [13, 10] (n : Nat) ++ 46 :: rest) = rep [13, 10] (n : Nat) ++ ((if nl || decide (0 < n) then [46, 46] else [46]) ++ qGo false rest)
  | 0, nl => by rw [rep_zero]; simp only [List.nil_append, qGo]; cases nl <;> rfl
  | n + 1, nl => by
    rw [rep_succ]
    show qGo nl (13 :: 10 :: (rep [13, 10] (n : Nat) ++ 46 :: rest)) = _
    simp only [qGo]
    rw [q_rep_dot rest n]
    cases nl <;> simp
theorem q_join : ∀ (ps : List (List Nat)) (k : Nat), ps ≠ [] → (∀ p ∈ ps, Pc p) → qGo (decide (k = 0)) (formL [13, 10] false k (ps.map wsL)) = formL [13, 10] true k (ps.map wsL)
  | [], _, h, _ => absurd rfl h
  | [p], k, _, h => by
    have hp := h p (.head _)
    simp only [List.map, formL, ends_wsL hp, List.append_nil]
    exact q_rep _ _
  | p :: q :: r, k, _, h => by
    have hp := h p (.head _)
    have ih := q_join (q :: r) (k + 1) (by simp) (fun p hp => h p (.tail _ hp))
    show qGo _ (formL [13, 10] false k (wsL p :: wsL q :: r.map wsL)) = formL [13, 10] true k (wsL p :: wsL q :: r.map wsL)
    rw [formL_two, formL_two, ends_wsL hp]
    simp only [List.map_cons] at ih ⊢
    simp only [Bool.false_and, Bool.false_eq_true, if_false, List.append_assoc, List.cons_append, List.nil_append, Bool.true_and]
    rw [q_rep_dot]
    have e1 : decide (k + 1 = 0) = false := rfl
    rw [e1] at ih
    rw [ih]
    have e2 : (decide (k = 0) || decide (0 < ec false p)) = decide (k = 0 ∨ 0 < (wsL p).n) := by
      rw [wsL_len hp]
      have := @ec_pos p
      by_cases hk : k = 0 <;> by_cases hl : 0 < p.length <;> simp_all <;> omega
    rw [e2]
noncomputable def qf : Bool → List Nat → Bool
  | nl, [] => nl
  | _, a :: r => qf (a == 9) r
theorem q_mail (rest : List Nat) : ∀ (p : List Nat) (nl : Bool), Pc p → qGo nl (mail p ++ 46 :: rest) = mail p ++ ((if qf nl p then [46, 46] else [46]) ++ qGo false rest)
  | [], nl, _ => by simp only [mail, List.map_nil, List.nil_append, qGo, qf]; cases nl <;> rfl
  | a :: p, nl, h => by
    have hp : Pc p := fun c hc => h c (.tail _ hc)
    rcases h a (.head _) with rfl | rfl
    · show qGo nl (13 :: (mail p ++ 46 :: rest)) = _
      rw [qGo, q_mail rest p _ hp]
      cases nl <;> rfl
    · show qGo nl (10 :: (mail p ++ 46 :: rest)) = _
      rw [qGo, q_mail rest p _ hp]
      cases nl <;> rfl
theorem q_mail' : ∀ (p : List Nat) (nl : Bool), Pc p → qGo nl (mail p) = mail p
  | [], nl, _ => rfl
  | a :: p, nl, h => by
    have hp : Pc p := fun c hc => h c (.tail _ hc)
    rcases h a (.head _) with rfl | rfl
    · show qGo nl (13 :: mail p) = _
      rw [qGo, q_mail' p _ hp]
      cases nl <;> rfl
    · show qGo nl (10 :: mail p) = _
      rw [qGo, q_mail' p _ hp]
      cases nl <;> rfl
theorem qf_b : ∀ (p : List Nat) (st : WS), Pc p → 0 ≤ st.b → qf (decide (st.b = 0)) p = decide ((ws p st).b = 0)
  | [], st, _, _ => rfl
  | a :: p, st, h, hb => by
    have hp : Pc p := fun c hc => h c (.tail _ hc)
    rcases h a (.head _) with rfl | rfl
    · rw [ws, if_pos rfl, ← qf_b p _ hp (by show 0 ≤ st.b + 1; omega), qf]
      congr 1
      show false = decide (st.b + 1 = 0)
      rw [eq_comm, decide_eq_false_iff_not]; omega
    · rw [ws, if_neg (by decide), if_pos rfl, ← qf_b p _ hp (Int.le_refl 0), qf]
      rfl
theorem qf_is {p : List Nat} (k : Nat) (h : Pc p) : qf (decide (k = 0)) p = decide ((wsL p).b = 0 ∧ (0 < (wsL p).n ∨ k = 0)) := by
  have h2 := wsL_len h
  have h1 := qf_b p ws0 h (by decide)
  cases p with
  | nil => simp [qf, wsL, ws, ws0]
  | cons a r =>
    have e : qf (decide (k = 0)) (a :: r) = qf (decide (ws0.b = 0)) (a :: r) := rfl
    rw [e, h1]
    have : 0 < (wsL (a :: r)).n := by rw [h2]; simp
    show decide ((wsL (a :: r)).b = 0) = _
    simp [this]
theorem oct_join : ∀ (ps : List (List Nat)) (k : Nat), ps ≠ [] → (∀ p ∈ ps, Pc p) → qGo (decide (k = 0)) (mail (joinD ps)) = mail (octL k (ps.zip (ps.map wsL)))
  | [], _, h, _ => absurd rfl h
  | [p], k, _, h => by
    have hp := h p (.head _)
    simp only [joinD, List.map, List.zip_cons_cons, List.zip_nil_left, octL, List.append_nil, q_mail' p _ hp]
  | p :: q :: r, k, _, h => by
    have hp := h p (.head _)
    have ih := oct_join (q :: r) (k + 1) (by simp) (fun p hp => h p (.tail _ hp))
    show qGo _ (mail (p ++ 46 :: joinD (q :: r))) = mail (octL k ((p, wsL p) :: (q, wsL q) :: r.zip (r.map wsL)))
    rw [mail_app, mail_cons]
    show qGo _ (mail p ++ 46 :: mail (joinD (q :: r))) = _
    rw [q_mail _ p _ hp, octL_two]
    have e1 : decide (k + 1 = 0) = false := rfl
    rw [e1] at ih
    rw [ih, qf_is k hp, mail_app, mail_app, List.append_assoc]
    congr 1
    congr 1
    split <;> rfl
theorem fix_row {x : List Nat} (h : Row x) : fixL (mail x) = formL [13, 10] false 0 (piecesL (x.count 46 + 1) x) := by
  rw [pieces_split h]
  have := fix_join (splitL 46 x) 0 (splitL_ne 46 x) (row_pc h)
  rwa [join_split] at this
theorem quote_row {x : List Nat} (h : Row x) : qL (fixL (mail x)) = formL [13, 10] true 0 (piecesL (x.count 46 + 1) x) := by
  rw [fix_row h, pieces_split h]
  exact q_join (splitL 46 x) 0 (splitL_ne 46 x) (row_pc h)
theorem oct_row {x : List Nat} (h : Row x) : qL (mail x) = mail (octL 0 ((splitL 46 x).zip (piecesL (x.count 46 + 1) x))) := by
  rw [pieces_split h]
  have := oct_join (splitL 46 x) 0 (splitL_ne 46 x) (row_pc h)
  rwa [join_split] at this
theorem oct_step {z : List (List Nat × WS)} {i : Nat} {p : List Nat} {st : WS} (h : z[i]? = some (p, st)) :
    octL i (z.drop i) = p ++ (if i + 1 < z.length then (if decide (st.b = 0 ∧ (0 < st.n ∨ i = 0)) then [46, 46] else [46]) else []) ++ octL (i + 1) (z.drop (i + 1)) := by
  obtain ⟨hi, e⟩ := List.getElem?_eq_some_iff.mp h
  rw [List.drop_eq_getElem_cons hi, e]
  by_cases hl : i + 1 < z.length
  · rw [if_pos hl, List.drop_eq_getElem_cons hl]
    generalize z[i + 1] = q
    obtain ⟨q1, q2⟩ := q
    exact octL_two _ _ _ _ _
  · rw [if_neg hl, List.drop_eq_nil_of_le (by omega)]
    simp [octL]
end 
section 
theorem fixGo_len : ∀ (b : Bool) (l : List Nat), (fixGo b l).length ≤ 2 * l.length
  | _, [] => by simp [fixGo]
  | b, c :: r => by
    have h1 := fixGo_len true r
    have h2 := fixGo_len false r
    rw [fixGo]
    simp only [List.length_cons]
    split
    · simp only [List.length_cons]; omega
    · split
      · split
        · omega
        · simp only [List.length_cons]; omega
      · simp only [List.length_cons]; omega
theorem qGo_len : ∀ (b : Bool) (l : List Nat), (qGo b l).length ≤ 2 * l.length
  | _, [] => by simp [qGo]
  | b, c :: r => by
    have h1 := qGo_len (c == 10) r
    rw [qGo]
    simp only [List.length_cons, List.length_append]
    split
    · simp only [List.length_cons, List.length_nil]; omega
    · simp only [List.length_cons, List.length_nil]; omega
theorem oct_in : ∀ (z : List (List Nat × WS)) (k : Nat), (∀ q ∈ z, Pc q.1) → Row (octL k z)
  | [], _, _ => fun c hc => by simp [octL] at hc
  | (p, st) :: r, k, h => by
    have ih := oct_in r (k + 1) (fun q hq => h q (.tail _ hq))
    have hp : Pc p := h (p, st) (.head _)
    intro c hc
    simp only [octL] at hc
    rcases List.mem_append.mp hc with hc | hc
    · rcases List.mem_append.mp hc with hc | hc
      · rcases hp c hc with h | h
        · exact .inl h
        · exact .inr (.inl h)
      · right; right
        cases r with
        | nil => cases hc
        | cons q r =>
          simp only at hc
          split at hc
          · simpa using hc
          · simpa using hc
    · exact ih c hc
theorem pieces_len {x : List Nat} (h : Row x) : (piecesL (x.count 46 + 1) x).length = (splitL 46 x).length := by rw [pieces_split h, List.length_map]
theorem pieces_in {x : List Nat} (h : Row x) : ∀ st ∈ piecesL (x.count 46 + 1) x, ∃ p ∈ splitL 46 x, Pc p ∧ st = wsL p := by
  rw [pieces_split h]
  intro st hst
  obtain ⟨p, hp, rfl⟩ := List.mem_map.mp hst
  exact ⟨p, hp, row_pc h p hp, rfl⟩
theorem pieces_ends {x : List Nat} (h : Row x) (hl : x.length ≤ 100) : ∀ st ∈ piecesL (x.count 46 + 1) x, 0 ≤ endsOf st ∧ endsOf st ≤ 100 := fun st hst => by
  obtain ⟨p, hp, hpc, rfl⟩ := pieces_in h st hst
  rw [ends_wsL hpc]
  have h1 := ec_le p false
  have h2 := (splitL_len 46 x).2 p hp
  omega
theorem oct_row_in {x : List Nat} (h : Row x) : Row (octL 0 ((splitL 46 x).zip (piecesL (x.count 46 + 1) x))) := oct_in _ _ fun q hq => row_pc h q.1 (List.of_mem_zip hq).1
theorem fix_row_len {x : List Nat} (hl : x.length ≤ 100) : (fixL (mail x)).length ≤ 1000 := by
  have := fixGo_len false (mail x)
  have e : (mail x).length = x.length := by simp [mail]
  unfold fixL; omega
theorem q_row_len {x : List Nat} (hl : x.length ≤ 100) : (qL (mail x)).length ≤ 1000 := by
  have := qGo_len true (mail x)
  have e : (mail x).length = x.length := by simp [mail]
  unfold qL; omega
noncomputable def sgC (n : Int) : Nat := if n % 3 = 0 then 32 else if n % 3 = 1 then 9 else 46
theorem sg_row (l : List Int) : Row (l.map sgC) := fun c hc => by
  obtain ⟨n, _, rfl⟩ := List.mem_map.mp hc
  unfold sgC
  split
  · exact .inl rfl
  · split
    · exact .inr (.inl rfl)
    · exact .inr (.inr rfl)
theorem tail_row : Row [32, 46, 32, 9] := fun c hc => by
  simp at hc; omega
theorem row_app {a b : List Nat} (ha : Row a) (hb : Row b) : Row (a ++ b) := fun c hc => (List.mem_append.mp hc).elim (ha c) (hb c)
theorem row_drop {a : List Nat} {k : Nat} (ha : Row a) : Row (a.drop k) := fun c hc => ha c (List.mem_of_mem_drop hc)
end 
section 
noncomputable def stripL : List Nat → List Nat → List Nat × List Nat
  | x :: a, y :: b => if x = y then stripL a b else (x :: a, y :: b)
  | a, b => (a, b)
/-- one turn of the outer loop: the new row, the result, the least -/
noncomputable def levIn (c : Nat) : List Nat → List Nat → Nat → Nat → Nat → List Nat × Nat × Nat
  | x :: a, r :: row, dist, res, mn =>
    let res' := min (min res r + 2) (dist + (if c = x then 0 else 2))
    let t := levIn c a row r res' (if res' < mn then res' else mn)
    (res' :: t.1, t.2)
  | _, _, _, res, mn => ([], res, mn)
noncomputable def levOut (a : List Nat) (mc : Nat) : List Nat → Nat → List Nat → Nat → Nat
  | [], _, _, res => res
  | c :: b, k, row, _ =>
    let t := levIn c a row (k * 2) (k * 2) 9223372036854775807
    if mc < t.2.2 then mc + 1 else levOut a mc b (k + 1) t.1 t.2.1
noncomputable def levRow (n : Nat) : List Nat := (List.range n).map (fun i => 2 * (i + 1))
noncomputable def levMid (a b : List Nat) (mc : Nat) : Nat :=
  if (b.length - a.length) * 2 > mc then mc + 1 else levOut a mc b 0 (levRow a.length) 0
noncomputable def levCore (a b : List Nat) (mc : Nat) : Nat :=
  if a.length = 0 ∨ b.length = 0 then 2 * (a.length + b.length)
  else if b.length < a.length then levMid b a mc else levMid a b mc
noncomputable def levL (a b : List Nat) (mc : Nat) : Nat :=
  if a = b then 0
  else
    let p := stripL a b
    let q := stripL p.1.reverse p.2.reverse
    levCore q.1.reverse q.2.reverse mc
noncomputable def dotsL (sts : List WS) : Nat := ((List.range (sts.length - 1)).filter (fun k => decide (k = 0 ∨ 0 < (sts.getD k ws0).n))).length
noncomputable def waysL (sts : List WS) : List Int :=
  let signs := (sts.map (·.n)).sum
  let tabs := (sts.map (·.nt)).sum
  let ends := (sts.map endsOf).sum
  [2 * (2 * ends - signs), 2 * (2 * ends - signs + (dotsL sts : Nat)), 2 * (signs - tabs), 2 * tabs, 2 * ends]
noncomputable def toldL (row : List Nat) (sts : List WS) : List Int :=
  let m := mail row
  let w := (waysL sts).map Int.toNat
  [levL m (fixL m) (w.getD 0 0), levL (qL (fixL m)) m (w.getD 1 0), levL m (formL [10] false 0 sts) (w.getD 2 0), levL (formL [13] false 0 sts) m (w.getD 3 0), levL (formL [10] false 0 sts) (formL [13] false 0 sts) (w.getD 4 0 - 1)]
noncomputable def tailL : List Nat := [32, 46, 32, 9]
noncomputable def evB (l : List Nat) : Bool := decide (l.length ≤ 40) && l.all (fun c => decide (c = 13 ∨ c = 10 ∨ c = 46))
noncomputable def stB (st : WS) : Bool := decide (0 ≤ endsOf st ∧ endsOf st ≤ 100 ∧ 0 ≤ st.n ∧ st.n ≤ 100 ∧ 0 ≤ st.nt ∧ st.nt ≤ 100)
noncomputable def okW (row : List Nat) : Bool :=
  let sts := piecesL (row.count 46 + 1) row
  decide (toldL row sts = waysL sts) && (waysL sts).all (fun x => decide (0 ≤ x ∧ x ≤ 1000)) && decide (1 ≤ (waysL sts).getD 4 0) &&
    evB (mail row) && evB (fixL (mail row)) && evB (qL (fixL (mail row))) && evB (formL [10] false 0 sts) && evB (formL [13] false 0 sts) && sts.all stB
noncomputable def allW : Nat → List Nat → Bool
  | 0, s => okW (s ++ tailL)
  | k + 1, s => okW (s ++ tailL) && allW k (32 :: s) && allW k (9 :: s) && allW k (46 :: s)
theorem all_0 : allW 3 [] = true := by decide +kernel
theorem all_32_32 : allW 3 [32, 32] = true := by decide +kernel
theorem all_32_9 : allW 3 [32, 9] = true := by decide +kernel
theorem all_32_46 : allW 3 [32, 46] = true := by decide +kernel
theorem all_9_32 : allW 3 [9, 32] = true := by decide +kernel
theorem all_9_9 : allW 3 [9, 9] = true := by decide +kernel
theorem all_9_46 : allW 3 [9, 46] = true := by decide +kernel
theorem all_46_32 : allW 3 [46, 32] = true := by decide +kernel
theorem all_46_9 : allW 3 [46, 9] = true := by decide +kernel
theorem all_46_46 : allW 3 [46, 46] = true := by decide +kernel
theorem row_init {t : List Nat} {x : Nat} (h : Row (t ++ [x])) : Row t ∧ (x = 32 ∨ x = 9 ∨ x = 46) := ⟨fun c hc => h c (List.mem_append_left _ hc), h x (by simp)⟩
theorem allW_mem : ∀ (k : Nat) (s t : List Nat), allW k s = true → t.length ≤ k → Row t → okW (t ++ (s ++ tailL)) = true
  | 0, s, t, h, hk, _ => by
    have : t = [] := List.eq_nil_of_length_eq_zero (by omega)
    subst this; exact h
  | k + 1, s, t, h, hk, hr => by
    simp only [allW, Bool.and_eq_true] at h
    obtain ⟨⟨⟨h0, h1⟩, h2⟩, h3⟩ := h
    rcases List.eq_nil_or_concat t with rfl | ⟨t', x, rfl⟩
    · exact h0
    · rw [List.concat_eq_append] at hr hk ⊢
      obtain ⟨ht, hx⟩ := row_init hr
      have hk' : t'.length ≤ k := by rw [List.length_append] at hk; simp at hk; exact hk
      rw [List.append_assoc, ← List.append_assoc [x] s tailL]
      rcases hx with rfl | rfl | rfl
      · exact allW_mem k (32 :: s) t' h1 hk' ht
      · exact allW_mem k (9 :: s) t' h2 hk' ht
      · exact allW_mem k (46 :: s) t' h3 hk' ht
theorem ok_short {t : List Nat} (h : t.length ≤ 5) (hr : Row t) : okW (t ++ tailL) = true := by
  by_cases h3 : t.length ≤ 3
  · exact allW_mem 3 [] t all_0 h3 hr
  · rcases List.eq_nil_or_concat t with rfl | ⟨t', x, rfl⟩
    · simp at h3
    rw [List.concat_eq_append] at hr h h3 ⊢
    obtain ⟨ht, hx⟩ := row_init hr
    rcases List.eq_nil_or_concat t' with rfl | ⟨t2, y, rfl⟩
    · simp at h3
    rw [List.concat_eq_append] at ht h h3 ⊢
    obtain ⟨ht2, hy⟩ := row_init ht
    have hl : t2.length ≤ 3 := by simp at h; omega
    have e : t2 ++ [y] ++ [x] ++ tailL = t2 ++ ([y, x] ++ tailL) := by simp
    rw [e]
    rcases hy with rfl | rfl | rfl <;> rcases hx with rfl | rfl | rfl
    · exact allW_mem 3 _ t2 all_32_32 hl ht2
    · exact allW_mem 3 _ t2 all_32_9 hl ht2
    · exact allW_mem 3 _ t2 all_32_46 hl ht2
    · exact allW_mem 3 _ t2 all_9_32 hl ht2
    · exact allW_mem 3 _ t2 all_9_9 hl ht2
    · exact allW_mem 3 _ t2 all_9_46 hl ht2
    · exact allW_mem 3 _ t2 all_46_32 hl ht2
    · exact allW_mem 3 _ t2 all_46_9 hl ht2
    · exact allW_mem 3 _ t2 all_46_46 hl ht2
end 
section 
open PySem PySem.W PyProof.Rows
theorem it_at {prog : Program} {w : World} {A : Around} {E : Value → Shared → Prop} {s : Shared} {value slice : PySem.Expr} {l : Addr} {xs : List Value} {kk i : Nat} {u : Tok} {v : Value} {Q : Value → Shared → Prop}
    (hl : s.heap.get? l = some (listOf xs.toArray kk)) (hx : xs[i]? = some v) (hi : i ≤ 1000000) (h : Q v s)
    (hs : subscripted slice false (.ref l) (.int (i : Int) u) = operate [.ref l, .int (i : Int) u] (getItem (.ref l) (.int (i : Int) u))) :
    wpAny (model prog w) A (subscriptTail value slice (.ref l) (.int (i : Int) u)) Q E s := by
  have hL : s.heap.IsList l xs.toArray := ⟨_, hl, rfl, _, rfl⟩
  have hfit : (i : Int) < 2 ^ 63 := by
    have : (2:Int)^63 = 9223372036854775808 := by decide
    omega
  exact tail_any hL.typeIs slot_list_getitem.lookup (wpAny_getItem_list hL (by omega) hfit (x := v) (by simpa using hx) h) hs
theorem len_at {prog : Program} {w : World} {A : Around} {E : Value → Shared → Prop} {s : Shared} {l : Addr} {xs : List Value} {kk : Nat} {Q : Value → Shared → Prop}
    (hl : s.heap.get? l = some (listOf xs.toArray kk)) (hb : xs.length ≤ 1000000) (h : Q (.int (xs.length : Int) (s.toks + 1)) { s with toks := s.toks + 1 + 1 }) : wpAny (model prog w) A (call (.builtin "len") [.ref l]) Q E s := by
  have hL : s.heap.IsList l xs.toArray := ⟨_, hl, rfl, _, rfl⟩
  have e : xs.toArray.size = xs.length := by simp
  exact len_list hL (by rw [e]; have : (2:Int)^63 = 9223372036854775808 := by decide
                        omega) (by rw [e]; exact h)
theorem News.at1 {h₀ h : Heap} {L D : Addr} {o : Obj} {news : List (Addr × Obj)} (N : News h₀ L h news) (hm : (D, o) ∈ news) : h.get? D = some o := (N _ hm).1
end 
local macro_rules | `(tactic| walk_at "m_at") => `(tactic| first | exact Fr.keep (by assumption) _ _ (by assumption) | ((rename News _ _ _ _ => kN); exact News.at1 kN (by walk_at "m_mem")))
section 
open PySem PySem.W PyProof.Rows
end 
local macro_rules | `(tactic| walk_at "subscriptTail Name Name ref int") => `(tactic| ((with_reducible show wpAny _ _ (subscriptTail _ _ (Value.ref _) (Value.int (Nat.cast _) _)) _ _ _); (refine' it_at ?k1 ?k2 ?k3 ?_ ?k5; (case k1 => walk_at "m_at"); (case k2 => assumption); (case k3 => omega); (case k5 => with_unfolding_all rfl)); (try dsimp only)))
section 
open PySem PySem.W PyProof.Rows
local macro_rules | `(tactic| walk_at "call builtin:len") => `(tactic| ((with_reducible show wpAny _ _ (call (Value.builtin "len") [Value.ref _]) _ _ _); (refine' len_at ?k1 ?k2 ?_; (case k1 => walk_at "m_at"); (case k2 => assumption)); (try dsimp only)))
theorem ints_of_ords : ∀ {l : List Nat} {ys : List Value}, Paired (fun (a : Nat) y => ∃ v, (∃ u, v = Value.str ⟨#[a]⟩ u) ∧ ∃ c u n, v = Value.str ⟨#[c]⟩ u ∧ y = Value.int (c : Nat) n) l ys → IntsAre ys (l.map (fun a : Nat => (a : Int)))
  | [], _, h => by cases h; exact .nil
  | p :: r, _, h => by
    cases h with
    | cons a t =>
      obtain ⟨v, ⟨t0, e1⟩, c, u, n, e2, rfl⟩ := a
      have e3 := e1.symm.trans e2
      injection e3 with e3 e4
      injection e3 with e3
      have : p = c := by simpa using e3
      subst this
      exact .cons _ _ (ints_of_ords t)
theorem byteArr_U (l : List Nat) : byteArr (l.map (fun a : Nat => (a : Int))) = (U l).toArray := by
  unfold byteArr U
  rw [List.map_map]
  rfl
theorem oct_dd {a p R : List Nat} {st : WS} {i : Nat} {Z : List (List Nat × WS)} (ha : a ++ octL i (Z.drop i) = R) (hs : octL i (Z.drop i) = p ++ (if i + 1 < Z.length then (if decide (st.b = 0 ∧ (0 < st.n ∨ i = 0)) then [46, 46] else [46]) else []) ++ octL (i + 1) (Z.drop (i + 1)))
    (h1 : i + 1 < Z.length) (h2 : st.b = 0 ∧ (0 < st.n ∨ i = 0)) : a ++ p ++ (Str.ofString "..").cps.toList ++ octL (i + 1) (Z.drop (i + 1)) = R := by
  rw [← ha, hs, if_pos h1, decide_eq_true h2, dd_l]; simp
theorem oct_d {a p R : List Nat} {st : WS} {i : Nat} {Z : List (List Nat × WS)} (ha : a ++ octL i (Z.drop i) = R) (hs : octL i (Z.drop i) = p ++ (if i + 1 < Z.length then (if decide (st.b = 0 ∧ (0 < st.n ∨ i = 0)) then [46, 46] else [46]) else []) ++ octL (i + 1) (Z.drop (i + 1)))
    (h1 : i + 1 < Z.length) (h2 : ¬ (st.b = 0 ∧ (0 < st.n ∨ i = 0))) : a ++ p ++ (Str.ofString ".").cps.toList ++ octL (i + 1) (Z.drop (i + 1)) = R := by
  rw [← ha, hs, if_pos h1, decide_eq_false h2, d_l]; simp
theorem oct_e {a p R : List Nat} {st : WS} {i : Nat} {Z : List (List Nat × WS)} (ha : a ++ octL i (Z.drop i) = R) (hs : octL i (Z.drop i) = p ++ (if i + 1 < Z.length then (if decide (st.b = 0 ∧ (0 < st.n ∨ i = 0)) then [46, 46] else [46]) else []) ++ octL (i + 1) (Z.drop (i + 1)))
    (h1 : ¬ i + 1 < Z.length) : a ++ p ++ octL (i + 1) (Z.drop (i + 1)) = R := by
  rw [← ha, hs, if_neg h1]; simp
theorem c_oct {prog : Program} {w : World} {d u : Nat} {fr gs} {s : Shared} {Q E} {p loose mg mb} (X : (Mine.hd.heap_39 w.params).In s.heap) (T : TopRead p loose mg mb s.heap)
   (hA : d < 420) {x : List Nat} {t : Tok} {l : Addr} {sts : List WS} (hs : x.length ≤ 100) (S : Spaces s.heap l sts) (hb : sts.length = (splitL 46 x).length)
   (ho : (octL 0 ((splitL 46 x).zip sts)).length ≤ 1000) (hr : Row (octL 0 ((splitL 46 x).zip sts)))
   (h : ∀ t h' tk', (∀ b o, s.heap.get? b = some o → h'.get? b = some o) → Q (.bytes (U (mail (octL 0 ((splitL 46 x).zip sts)))).toArray t) { s with heap := h', toks := tk' }) :
   wpAny (model prog w) ⟨none, d, fr, gs, u⟩ (call (.ref 202) [.str ⟨x.toArray⟩ t, .ref l]) Q E s := by
  obtain ⟨xs, kx, s1, s2, s3⟩ := S
  refine' enter (binds := [(Str.ofString "row", Value.str ⟨x.toArray⟩ t), (Str.ofString "spaces", .ref l)]) ?X ?T ?ho ?hcd ?hr ?hb ?hl ?_ ?c1 ?c2 ?c3 ?c4
  walk_at "m_in"
  iterate 10 walk1
  iterate 5 walk1
  rename_i ps hh kk hsp hst hlen hL F N
  have hps : ps.map (fun p => p.1) = (splitL 46 x).map (fun l => ⟨l.toArray⟩) := by rw [hsp, dot_is, split_is]
  have hpl : ps.length = (splitL 46 x).length := by
    have := congrArg List.length hps
    simpa using this
  have hlen0 := (splitL_len 46 x).1
  have hlen1 := (splitL_len 46 x).2
  have hvl : (strValues ps).length = (splitL 46 x).length := by rw [strValues, List.length_map, hpl]
  have hvb : (strValues ps).length ≤ 1000000 := by omega
  have hpi : ∀ (i : Nat) (p : List Nat), (splitL 46 x)[i]? = some p → ∃ tp, (strValues ps)[i]? = some (.str ⟨p.toArray⟩ tp) := by
    intro i p hp
    have h1 := congrArg (fun z : List Str => z[i]?) hps
    simp only [List.getElem?_map, hp] at h1
    cases e : ps[i]? with
    | none => rw [e] at h1; cases h1
    | some q =>
      rw [e] at h1
      have h2 : q.1 = ⟨p.toArray⟩ := Option.some.inj h1
      exact ⟨q.2, by rw [strValues, List.getElem?_map, e, Option.map_some, h2]⟩
  replace N : News _ _ hh [(_, listOf (strValues ps).toArray 0)] := N
  clear hL hst hlen hsp
  dsimp only at F N ⊢
  walk_at "m_goc"
  dsimp only
  rename IsRange _ _ _ _ _ _ _ _ => hR
  dsimp only at hR
  rename Fr _ _ _ _ => F
  rename News _ _ _ _ => N
  generalize hZ : (splitL 46 x).zip sts = Z at ho hr h
  have hZl : Z.length = (strValues ps).length := by rw [← hZ, List.length_zip, hb, hvl]; omega
  refine iter_range0 (n := (strValues ps).length) (fun i m news => ∃ (D : Addr) (a : List Nat) (ta : Tok), news = [(D, listOf (strValues ps).toArray 0)] ∧ Knows m [(Str.ofString "row", Value.str ⟨x.toArray⟩ t), (Str.ofString "spaces", Value.ref l), (Str.ofString "pieces", .ref D), (Str.ofString "text", .str ⟨a.toArray⟩ ta)] ∧ a ++ octL i (Z.drop i) = octL 0 Z) 
     (fun m news => ∃ t, Knows m [(Str.ofString "text", .str ⟨(octL 0 Z).toArray⟩ t)]) hR ?hsm rfl F N ?hj ?turn ?done ?fin
  case hsm => omega
  case hj => exact ⟨_, [], _, rfl, ⟨rfl, rfl, rfl, rfl, trivial⟩, rfl⟩
  case done =>
    rintro m₁ news₁ ⟨D, a, t, -, hk, ha⟩
    refine ⟨t, ?_, trivial⟩
    rw [List.drop_eq_nil_of_le (by omega)] at ha
    simp [octL] at ha
    rw [← ha]
    exact hk.2.2.2.1
  case turn =>
    clear F N
    rintro i t m₁ news₁ hp tk I oI hi ⟨D, a, ta, rfl, hk, ha⟩ hI F N
    k_fold
    have hi2 : i < sts.length := by omega
    have hi3 : i < (splitL 46 x).length := by omega
    obtain ⟨xi, hxi⟩ : ∃ xi, xs[i]? = some xi := ⟨xs[i], by simp [show i < xs.length by omega]⟩
    obtain ⟨st, hst, Wi⟩ := s3 i xi hxi
    obtain ⟨p, hp0⟩ : ∃ p, (splitL 46 x)[i]? = some p := ⟨(splitL 46 x)[i], by simp [hi3]⟩
    obtain ⟨tp, hsv⟩ := hpi i p hp0
    have hxv : (xs.map Value.ref)[i]? = some (.ref xi) := by rw [List.getElem?_map, hxi]; rfl
    have hpl2 : p.length ≤ 100 := Nat.le_trans (hlen1 p (List.mem_of_getElem? hp0)) hs
    have hZi : Z[i]? = some (p, st) := by rw [← hZ, List.getElem?_zip_eq_some]; exact ⟨hp0, hst⟩
    have hstep := oct_step hZi
    have hal : a.length ≤ 1000 := by
      have := congrArg List.length ha
      rw [List.length_append] at this
      omega
    obtain ⟨nm, ct, vs, tb, WX⟩ := Wi.open
    have WT1 := WX.nmT
    replace F := Fr.knowsIn F hk
    walk_at "m_go"
    · exact TurnEnd.go (by assumption) (by assumption) hI ⟨D, _, _, rfl, ⟨rfl, rfl, rfl, rfl, trivial⟩, oct_dd ha hstep (by omega) (by omega)⟩
    · exact TurnEnd.go (by assumption) (by assumption) hI ⟨D, _, _, rfl, ⟨rfl, rfl, rfl, rfl, trivial⟩, oct_dd ha hstep (by omega) (by omega)⟩
    · exact TurnEnd.go (by assumption) (by assumption) hI ⟨D, _, _, rfl, ⟨rfl, rfl, rfl, rfl, trivial⟩, oct_d ha hstep (by omega) (by omega)⟩
    · exact TurnEnd.go (by assumption) (by assumption) hI ⟨D, _, _, rfl, ⟨rfl, rfl, rfl, rfl, trivial⟩, oct_dd ha hstep (by omega) (by omega)⟩
    · exact TurnEnd.go (by assumption) (by assumption) hI ⟨D, _, _, rfl, ⟨rfl, rfl, rfl, rfl, trivial⟩, oct_d ha hstep (by omega) (by omega)⟩
    · exact TurnEnd.go (by assumption) (by assumption) hI ⟨D, _, _, rfl, ⟨rfl, rfl, rfl, rfl, trivial⟩, oct_e ha hstep (by omega)⟩
  case fin =>
    clear F N
    rintro m₁ news₁ hp tk ⟨t, hk⟩ F N
    dsimp only
    replace F := Fr.knows F hk
    walk_at "m_goc"
    walk_at "m_comp"
    iterate 6 walk1
    refine ⟨X.keeps F.keep, ?_⟩
    refine' c_mail (row := octL 0 Z) ?X ?T ?hA ho hr ?_
    case X => exact X.keeps F.keep
    case T => exact T.keeps F.keep
    case hA => (try dsimp only); omega
    intro tm h' tk' hk'
    dsimp only at hk'
    replace F := PyProof.Rows.Fr.keeps F hk'
    replace N := PyProof.Rows.News.grown N hk'
    have hml : (mail (octL 0 Z)).length ≤ 1000 := by simpa [mail] using ho
    have hmr : ∀ c ∈ mail (octL 0 Z), c < 128 := fun c hc => by
      obtain ⟨z, hz, rfl⟩ := List.mem_map.mp hc
      rcases hr z hz with h | h | h <;> subst h <;> decide
    have X' := X.keeps F.keep
    have T' := T.keeps F.keep
    dsimp only
    refine comp_x (fun v y _ => ∃ c u n, v = .str ⟨#[c]⟩ u ∧ y = .int (c : Nat) n) (fun _ _ _ _ _ h => h) F N (gives_str rfl ?ha) ?hz ?hcell rfl ?hx ?helt ?hQ
    case ha => simpa using hmr
    case hz => simp; rw [sizeLine_eq]; omega
    case hcell => decide
    case hx => decide
    case helt =>
      intro C c v hp tk m₂ hc ⟨u, hv⟩ FC NC
      subst hv
      dsimp only at FC NC ⊢
      iterate 7 walk1
      refine P.ord_of_char ?_
      k_unfold
      exact ⟨⟨_, _, rfl, fun _ _ e => e⟩, [], ⟨_, _, _, rfl, rfl⟩, by simp⟩
    case hQ =>
      intro D k ys all h'' tk hP F N hne
      dsimp only at F N ⊢
      iterate 1 walk1
      have hI := ints_of_ords hP
      have hyl : ys.length ≤ 1000 := by rw [hI.length, List.length_map]; simpa using hml
      refine call_bytes_ints ⟨_, (N _ (.head _)).1, rfl, _, rfl⟩ hI ?_ (by rw [sizeLine_eq]; omega) rfl ?_
      · intro n hn
        obtain ⟨z, hz, rfl⟩ := List.mem_map.mp hn
        have := hmr z hz
        omega
      · intro h3 t3 k3 hk3
        dsimp only at hk3
        rw [byteArr_U]
        k_unfold
        exact h _ _ _ (fun b o e => hk3 b o (F.keep b o e))
end 
section 
open PySem PySem.W PyProof.Rows
theorem c_formZ {prog : Program} {w : World} {d u : Nat} {fr gs} {s : Shared} {Q E} {p loose mg mb} (X : (Mine.hd.heap_39 w.params).In s.heap) (T : TopRead p loose mg mb s.heap)
   (hA : d < 440) {l : Addr} {sts : List WS} {e : List Nat} {z : Str} {te : Tok} {more : Bool} (hz : z = ⟨e.toArray⟩) (S : Spaces s.heap l sts) (hs : sts.length ≤ 1000) (he : e.length ≤ 2) (hw : ∀ st ∈ sts, 0 ≤ endsOf st ∧ endsOf st ≤ 100)
   (h : ∀ t h' tk', (∀ b o, s.heap.get? b = some o → h'.get? b = some o) → Q (Value.str ⟨(formL e more 0 sts).toArray⟩ t) { s with heap := h', toks := tk' }) :
   wpAny (model prog w) ⟨none, d, fr, gs, u⟩ (call (.ref 197) [.ref l, .str z te, .bool more]) Q E s := by
  subst hz
  exact c_form X T hA S hs he hw (fun v t h' tk' hk hv => by rw [hv]; exact h t h' tk' hk)
end 
local macro_rules | `(tactic| walk_at "call ref") => `(tactic| ((with_reducible show wpAny _ _ (call (Value.ref 159) _) _ _ _); (refine' c_mail ?X ?T ?hA ?hs ?hr ?_; walk_at "m_xta"; (case hs => omega); (case hr => assumption)); walk_at "m_kept"))
section 
open PySem PySem.W PyProof.Rows
end 
local macro_rules | `(tactic| walk_at "call ref") => `(tactic| ((with_reducible show wpAny _ _ (call (Value.ref 74) _) _ _ _); (refine' c_fix ?X ?T ?hA ?hs ?_; walk_at "m_xta"; (case hs => omega)); walk_at "m_kept"))
section 
open PySem PySem.W PyProof.Rows
end 
local macro_rules | `(tactic| walk_at "call ref") => `(tactic| ((with_reducible show wpAny _ _ (call (Value.ref 60) _) _ _ _); (refine' c_quote ?X ?T ?hA ?hs ?hf ?_; walk_at "m_xta"; (case hs => omega); (case hf => assumption)); walk_at "m_kept"))
section 
open PySem PySem.W PyProof.Rows
end 
local macro_rules | `(tactic| walk_at "call ref") => `(tactic| ((with_reducible show wpAny _ _ (call (Value.ref 197) _) _ _ _); (refine' c_formZ ?X ?T ?hA ?hz ?S ?hs ?he ?hw ?_; walk_at "m_xta"; (case hz => first | exact crlf_is | exact lf_is | exact cr_is); (case S => walk_at "m_sp"); (case hs => assumption); (case he => decide); (case hw => assumption)); walk_at "m_kept"))
section 
open PySem PySem.W PyProof.Rows
local macro_rules | `(tactic| walk_at "call ref") => `(tactic| ((with_reducible show wpAny _ _ (call (Value.ref 67) _) _ _ _); (refine' c_qp ?X ?T ?hA ?hx ?hs ?_; walk_at "m_xta"; (case hx => assumption); (case hs => omega)); walk_at "m_kept"))
local macro_rules | `(tactic| walk_at "call ref") => `(tactic| ((with_reducible show wpAny _ _ (call (Value.ref 202) _) _ _ _); (refine' c_oct ?X ?T ?hA ?hs ?S ?hb ?ho ?hr ?_; walk_at "m_xta"; (case hs => assumption); (case S => walk_at "m_sp"); (case hb => assumption); (case ho => assumption); (case hr => assumption)); walk_at "m_kept"))
theorem news_none {h₀ h h' : Heap} {L : Addr} {news : List (Addr × Obj)} (_ : News h₀ L h news) : News h₀ L h' [] := News.nil
theorem c_sent {prog : Program} {w : World} {d u : Nat} {fr gs} {s : Shared} {Q E} {p loose mg mb} (X : (Mine.hd.heap_39 w.params).In s.heap) (T : TopRead p loose mg mb s.heap)
   (hA : d < 418) {x : List Nat} {t : Tok} {l : Addr} {sts : List WS} (hs : x.length ≤ 100) (hx : Row x) (S : Spaces s.heap l sts) (hb : sts.length = (splitL 46 x).length)
   (hw : ∀ st ∈ sts, 0 ≤ endsOf st ∧ endsOf st ≤ 100) (h1 : fixL (mail x) = formL [13, 10] false 0 sts) (h2 : qL (fixL (mail x)) = formL [13, 10] true 0 sts)
   (h3 : qL (mail x) = mail (octL 0 ((splitL 46 x).zip sts))) (hr : Row (octL 0 ((splitL 46 x).zip sts)))
   (hf : (fixL (mail x)).length ≤ 1000) (hq : (qL (mail x)).length ≤ 1000)
   (h : ∀ h' tk', (∀ b o, s.heap.get? b = some o → h'.get? b = some o) → Q (.bool true) { s with heap := h', toks := tk' }) :
   wpAny (model prog w) ⟨none, d, fr, gs, u⟩ (call (.ref 207) [.str ⟨x.toArray⟩ t, .ref l]) Q E s := by
  have hml : (mail x).length ≤ 400 := by simp [mail]; omega
  have ho : (octL 0 ((splitL 46 x).zip sts)).length ≤ 1000 := by
    have := congrArg List.length h3
    have e : (mail (octL 0 ((splitL 46 x).zip sts))).length = (octL 0 ((splitL 46 x).zip sts)).length := by simp [mail]
    omega
  have hx' : ∀ c ∈ x, c = 32 ∨ c = 9 ∨ c = 46 := hx
  have hs9 : sts.length ≤ 1000 := by have := (splitL_len 46 x).1; omega
  refine' enter (binds := [(Str.ofString "row", Value.str ⟨x.toArray⟩ t), (Str.ofString "spaces", .ref l)]) ?X ?T ?ho ?hcd ?hr ?hb ?hl ?_ ?c1 ?c2 ?c3 ?c4
  walk_at "m_in"
  walk_at "m_goc"
  · exfalso
    rename (_ != _) = true => hne
    rw [h1] at hne
    simp at hne
  · exfalso
    rename (_ != _) = true => hne
    rw [h2] at hne
    simp at hne
  rename Fr _ _ _ _ => F
  rename News _ _ _ _ => N
  walk_at "m_comp"
  iterate 1 walk1
  have hmr : ∀ c ∈ mail x, c < 128 := fun c hc => by
    obtain ⟨z, hz, rfl⟩ := List.mem_map.mp hc
    rcases hx z hz with h | h | h <;> subst h <;> decide
  have X' := X.keeps F.keep
  have T' := T.keeps F.keep
  dsimp only
  refine comp_x (fun v y _ => ∃ c u n, v = .str ⟨#[c]⟩ u ∧ y = .int (c : Nat) n) (fun _ _ _ _ _ h => h) F N (gives_str rfl ?ha) ?hz ?hcell rfl ?hx ?helt ?hQ
  case ha => simpa using hmr
  case hz => simp; rw [sizeLine_eq]; omega
  case hcell => decide
  case hx => decide
  case helt =>
    intro C c v hp tk m₂ hc ⟨u, hv⟩ FC NC
    subst hv
    dsimp only at FC NC ⊢
    iterate 7 walk1
    refine P.ord_of_char ?_
    k_unfold
    exact ⟨⟨_, _, rfl, fun _ _ e => e⟩, [], ⟨_, _, _, rfl, rfl⟩, by simp⟩
  case hQ =>
    intro D k ys all h'' tk hP F N hne
    dsimp only at F N ⊢
    iterate 1 walk1
    have hI := ints_of_ords hP
    have hyl : ys.length ≤ 1000 := by rw [hI.length, List.length_map, List.toList_toArray]; omega
    refine call_bytes_ints ⟨_, (N _ (.head _)).1, rfl, _, rfl⟩ hI ?_ (by rw [sizeLine_eq]; omega) rfl ?_
    · intro n hn
      obtain ⟨z, hz, rfl⟩ := List.mem_map.mp hn
      have := hmr z hz
      omega
    · intro h5 t3 k3 hk3
      dsimp only at hk3
      rw [byteArr_U]
      replace F := PyProof.Rows.Fr.keeps F hk3
      replace N := news_none (h' := h5) N
      clear hP hne hI X' T'
      have hm2 : ∀ c ∈ mail x, c < 256 := fun c hc => Nat.lt_trans (hmr c hc) (by decide)
      dsimp only
      walk_at "m_goc"
      rename Fr _ _ _ _ => F9
      have e : (U (qL (mail x)) == U (mail (octL 0 ((splitL 46 x).zip sts)))) = true := by rw [h3]; simp
      rw [e]
      exact h _ _ F9.keep
end 
section 
open PySem PySem.W PyProof.Rows
theorem ints_of_ws {h : Heap} {f : WS → Int} : ∀ {l : List WS} {ys : List Value}, Paired (fun a y => ∃ v, (∃ x, v = Value.ref x ∧ WsAt h x a) ∧ ∃ x st n, v = Value.ref x ∧ WsAt h x st ∧ y = Value.int (f st) n) l ys → IntsAre ys (l.map f)
  | [], _, h => by cases h; exact .nil
  | p :: r, _, h => by
    cases h with
    | cons a t =>
      obtain ⟨v, ⟨x, e1, W⟩, x', st, n, e2, W', rfl⟩ := a
      have e3 := e1.symm.trans e2
      injection e3 with e3
      subst e3
      rw [WsAt.uni W' W]
      exact .cons _ _ (ints_of_ws t)
theorem c_ways {prog : Program} {w : World} {d u : Nat} {fr gs} {s : Shared} {Q E} {p loose mg mb} (X : (Mine.hd.heap_39 w.params).In s.heap) (T : TopRead p loose mg mb s.heap)
   (hA : d < 418) {l : Addr} {sts : List WS} (S : Spaces s.heap l sts) (hs : sts.length ≤ 100) (h1 : 1 ≤ sts.length)
   (hw : ∀ st ∈ sts, 0 ≤ endsOf st ∧ endsOf st ≤ 100) (hn : ∀ st ∈ sts, 0 ≤ st.n ∧ st.n ≤ 100) (ht : ∀ st ∈ sts, 0 ≤ st.nt ∧ st.nt ≤ 100)
   (h : ∀ D h' tk' vs k, (∀ b o, s.heap.get? b = some o → h'.get? b = some o) → h'.get? D = some (listOf vs.toArray k) → s.heap.get? D = none → IntsAre vs (waysL sts) → Q (.ref D) { s with heap := h', toks := tk' }) :
   wpAny (model prog w) ⟨none, d, fr, gs, u⟩ (call (.ref 212) [.ref l]) Q E s := by
  have S0 := S
  have hs9 : sts.length ≤ 1000 := by omega
  obtain ⟨xs, kx, s1, s2, s3⟩ := S0
  refine' enterX (binds := [(Str.ofString "spaces", .ref l)]) ?X ?T ?ho ?hcd ?hr ?hb ?hl ?_ ?c0 ?c1 ?c2 ?c3
  walk_at "m_inx"
  rename_i L h₁ tk₁ cells F N hC
  obtain ⟨o, rfl, hd⟩ := CellsAre.one hC
  clear hC
  replace F : Fr _ _ _ (fun y => none) := F
  replace hd : o.data = Data.cell (some (.ref l)) := hd
  walk_at "m_goc"
  walk_at "m_comp"
  iterate 1 walk1
  have X' := X.keeps F.keep
  have T' := T.keeps F.keep
  dsimp only
  refine comp_x (fun v y _ => ∃ x st n, v = .ref x ∧ WsAt s.heap x st ∧ y = .int st.n n) (fun _ _ _ _ _ h => h) F N (gives_sp rfl F.keep S) ?hz ?hcell rfl ?hx ?helt ?hQ
  case hz => rw [sizeLine_eq]; omega
  case hcell => decide
  case hx => decide
  case helt =>
    intro C st v hp tk m₂ hst ⟨x', hv, W⟩ FC NC
    subst hv
    dsimp only at FC NC W ⊢
    have W2 := W.keeps (fun b o e => FC.keep b o (F.keep b o e))
    iterate 3 walk1
    (try k_unfold)
    exact ⟨⟨_, _, rfl, fun _ _ e => e⟩, [], ⟨_, _, _, rfl, W, rfl⟩, by simp⟩
  case hQ =>
    intro D k ys all h'' tk hP F N hne
    dsimp only at F N ⊢
    have hI := ints_of_ws hP
    clear hP X' T'
    have hne1 : L + 1 ≠ D := hne (L + 1, o) (by simp)
    replace N : News s.heap L h'' [(D, listOf ys.toArray k), (L + 1, o)] := News.sub N (by simp)
    clear hne
    (try dsimp only)
    walk_at "m_goc"
    rename_i ts2 h2 F N
    replace N : News s.heap L h2 [(L + 1, o)] := News.sub N (by simp)
    clear hI hne1
    walk_at "m_comp"
    iterate 1 walk1
    have X' := X.keeps F.keep
    have T' := T.keeps F.keep
    dsimp only
    refine comp_x (fun v y _ => ∃ x st n, v = .ref x ∧ WsAt s.heap x st ∧ y = .int st.nt n) (fun _ _ _ _ _ h => h) F N (gives_sp rfl F.keep S) ?hz ?hcell rfl ?hx ?helt ?hQ
    case hz => rw [sizeLine_eq]; omega
    case hcell => decide
    case hx => decide
    case helt =>
      intro C st v hp tk m₂ hst ⟨x', hv, W⟩ FC NC
      subst hv
      dsimp only at FC NC W ⊢
      have W2 := W.keeps (fun b o e => FC.keep b o (F.keep b o e))
      iterate 3 walk1
      (try k_unfold)
      exact ⟨⟨_, _, rfl, fun _ _ e => e⟩, [], ⟨_, _, _, rfl, W, rfl⟩, by simp⟩
    case hQ =>
      intro D k ys all h'' tk hP F N hne
      dsimp only at F N ⊢
      have hI := ints_of_ws hP
      clear hP X' T'
      have hne1 : L + 1 ≠ D := hne (L + 1, o) (by simp)
      replace N : News s.heap L h'' [(D, listOf ys.toArray k), (L + 1, o)] := News.sub N (by simp)
      clear hne
      (try dsimp only)
      walk_at "m_goc"
      rename_i ts3 h3 F N
      replace N : News s.heap L h3 [(L + 1, o)] := News.sub N (by simp)
      clear hI hne1
      walk_at "m_comp"
      iterate 1 walk1
      have X' := X.keeps F.keep
      have T' := T.keeps F.keep
      dsimp only
      refine comp_x (fun v y _ => ∃ x st n, v = .ref x ∧ WsAt s.heap x st ∧ y = .int (endsOf st) n) (fun _ _ _ _ _ h => h) F N (gives_sp rfl F.keep S) ?hz ?hcell rfl ?hx ?helt ?hQ
      case hz => rw [sizeLine_eq]; omega
      case hcell => decide
      case hx => decide
      case helt =>
        intro C st v hp tk m₂ hst ⟨x', hv, W⟩ FC NC
        subst hv
        dsimp only at FC NC W ⊢
        have W2 := W.keeps (fun b o e => FC.keep b o (F.keep b o e))
        iterate 7 walk1
        refine ⟨X'.keeps FC.keep, ?_⟩
        refine' c_ends (X'.keeps FC.keep) (T'.keeps FC.keep) ?hA W2 ?_
        case hA => (try dsimp only); omega
        intro v t9 h9 tk9 hk9 hv9
        subst hv9
        (try k_unfold)
        exact ⟨⟨_, _, rfl, hk9⟩, [], ⟨_, _, _, rfl, W, rfl⟩, by simp⟩
      case hQ =>
        intro D k ys all h'' tk hP F N hne
        dsimp only at F N ⊢
        have hI := ints_of_ws hP
        clear hP X' T'
        have hne1 : L + 1 ≠ D := hne (L + 1, o) (by simp)
        replace N : News s.heap L h'' [(D, listOf ys.toArray k), (L + 1, o)] := News.sub N (by simp)
        clear hne
        (try dsimp only)
        walk_at "m_goc"
        rename_i ts4 h4 F N
        replace N : News s.heap L h4 [(L + 1, o)] := News.sub N (by simp)
        clear hI hne1
        walk_at "m_comp"
        iterate 16 walk1
        rename_i F0 N0 h5 tk5 ra rb rc hRg F N hk5
        clear F0 N0 hk5
        dsimp only at hRg F N ⊢
        obtain ⟨n, hn2⟩ : ∃ n : Nat, (sts.length : Int) - 1 = n := ⟨sts.length - 1, by omega⟩
        rw [hn2] at hRg
        have X' := X.keeps F.keep
        have T' := T.keeps F.keep
        have S' := S.keeps F.keep
        have hc2 : h5.get? (L + 1) = some o := (N (L + 1, o) (by simp)).1
        refine comp_xf (fun v => match v with | .int k _ => decide (k.toNat = 0 ∨ 0 < (sts.getD k.toNat ws0).n) | _ => false) (fun v y _ => True) (fun _ _ _ _ _ h => h) F N (gives_range rfl hRg (by omega)) ?hz ?hcell rfl ?hx ?htests ?helt ?hQ
        case hz => rw [List.length_range, sizeLine_eq]; omega
        case hcell => decide
        case hx => decide
        case htests =>
          intro C a v hp tk m₂ ha ⟨u, hv⟩ FC NC
          subst hv
          have ha2 := List.mem_range.mp ha
          dsimp only at FC NC ⊢
          have S2 := S'.keeps FC.keep
          refine wpAny_tests_one ?_
          iterate 10 walk1
          refine ⟨X'.keeps FC.keep, ?_⟩
          refine' c_doub (X'.keeps FC.keep) (T'.keeps FC.keep) ?hA S2 hs9 ?h0 ?h1 ?_
          case hA => (try dsimp only); omega
          case h0 => omega
          case h1 => omega
          intro v h9 tk9 hk9 hv9
          iterate 1 walk1
          (try k_unfold)
          refine ⟨?_, _, _, rfl, hk9⟩
          have hal : a < sts.length := by omega
          have e0 : ((a : Int)).toNat = a := by omega
          have e1 := hv9 sts[a] (by rw [e0]; simp [hal])
          show v = decide ((a : Int).toNat = 0 ∨ 0 < (sts.getD (a : Int).toNat ws0).n)
          have e2 : sts.getD a ws0 = sts[a] := by simp [hal]
          rw [e1, e0, e2]
          exact decide_eq_decide.mpr (by omega)
        case helt =>
          intro C a v hp tk m₂ ha ⟨u, hv⟩ hpv FC NC
          subst hv
          dsimp only at FC NC ⊢
          iterate 1 walk1
          exact ⟨⟨_, _, rfl, fun _ _ e => e⟩, [], trivial, by simp⟩
        case hQ =>
          intro D k ys vs all h'' tk hvl hvs hP F N hne
          have hne1 : L + 1 ≠ D := hne (L + 1, o) (by simp)
          replace N : News s.heap L h'' [(D, listOf ys.toArray k), (L + 1, o)] := News.sub N (by simp)
          have hyl : ys.length = dotsL sts := by
            rw [← Paired.len hP, filter_range (q := fun k => decide (k = 0 ∨ 0 < (sts.getD k ws0).n)) (fun i t => by simp) hvl hvs]
            unfold dotsL
            have : n = sts.length - 1 := by omega
            rw [this]
          clear hP hvs X' T' S' hc2 hne
          (try dsimp only)
          iterate 1 walk1
          have hdl : dotsL sts ≤ 100 := by unfold dotsL; exact Nat.le_trans (List.length_filter_le _ _) (by rw [List.length_range]; omega)
          refine len_at (N _ (.head _)).1 (by omega) ?_
          rw [hyl]
          replace N : News s.heap L h'' [(L + 1, o)] := News.sub N (by simp)
          clear hyl hvl hne1
          (try dsimp only)
          generalize hde : dotsL sts = dots at hdl
          walk_at "m_goc"
          rename Fr _ _ _ _ => F9
          rename News _ _ _ _ => N9
          (try k_unfold)
          refine h _ _ _ [_, _, _, _, _] _ F9.keep (N9 _ (.head _)).1 (N9 _ (.head _)).2.2 ?_
          unfold waysL
          rw [hde]
          exact .cons _ _ (.cons _ _ (.cons _ _ (.cons _ _ (.cons _ _ .nil))))
end 
section 
open PySem PySem.W PySem.Calls PyProof.Rows PyProof.V
open PySem.Builtin PySem.Builtin.Str
section
variable {prog : Program} {w : World} {A : Around} {E : Value → Shared → Prop} {s : Shared} {value slice : Expr} {t : Tok} {h₀ : Heap} {L : Addr} {m : Str → Option Value} {news : List (Addr × Obj)} {Q : Value → Shared → Prop}
theorem str_at {a : List Nat} {i : Int} {j c : Nat} {u : Tok} (hi : (0 ≤ i ∧ i = (j : Int)) ∨ (i < 0 ∧ (j : Int) = a.length + i)) (hc : a[j]? = some c) (hl : a.length ≤ 100000) (h : ∀ t' k, Q (.str ⟨#[c]⟩ t') { s with toks := k })
    (hs : subscripted slice false (.str ⟨a.toArray⟩ t) (.int i u) = operate [.str ⟨a.toArray⟩ t, .int i u] (getItem (.str ⟨a.toArray⟩ t) (.int i u)) := by with_unfolding_all rfl)
    (ht : ∀ r, letTemporaryGo value (.str ⟨a.toArray⟩ t) r = pure () := by intro _; with_unfolding_all rfl) :
    wpAny (model prog w) A (subscriptTail value slice (.str ⟨a.toArray⟩ t) (.int i u)) Q E s := by
  have hj : j < a.length := (List.getElem?_eq_some_iff.mp hc).1
  have q : (2:Int)^63 = 9223372036854775808 := by decide
  have hr : (decide (i < -(2 ^ 63 : Int)) || decide (i ≥ 2 ^ 63)) = false := by
    rw [q, Bool.or_eq_false_iff, decide_eq_false_iff_not, decide_eq_false_iff_not]; omega
  have hx : (seqIndex? i (Str.mk a.toArray).length).bind ((Str.mk a.toArray).cps[·]?) = some c := by
    rw [len_l]
    unfold seqIndex?
    rcases hi with ⟨h0, h1⟩ | ⟨h0, h1⟩
    · have hn : ¬ i < 0 := by omega
      simp only [hn, if_false]
      rw [if_pos (by simp; omega)]
      subst h1
      simpa using hc
    · simp only [h0, if_true]
      have e : i + (a.length : Int) = (j : Int) := by omega
      rw [e, if_pos (by simp; omega)]
      simpa using hc
  exact tail_of_ItemOn ⟨"str", _, F.slot_str_getitem.lookup, typeIs_str _ _ _, P.getItem_str hr hx (h _ _)⟩ hs ht
theorem cut_from {a : List Nat} {i : Int} {n : Nat} {ui : Tok} {hh : Heap} {g : Array GenState} {dr : Drawn} {tk : Nat} {os : OsState} (F : Fr h₀ L hh m) (N : News h₀ L hh news) (hi : i = (n : Int)) (hl : a.length ≤ 100000)
    (h : ∀ h' t' k, Fr h₀ L h' m → News h₀ L h' news → Q (.str ⟨(a.drop n).toArray⟩ t') ⟨h', g, dr, k, os⟩)
    (hs : subscripted slice false (.str ⟨a.toArray⟩ t) (.ref hh.objs.size) = operate [.ref hh.objs.size, .str ⟨a.toArray⟩ t] (getItem (.str ⟨a.toArray⟩ t) (.ref hh.objs.size)) := by with_unfolding_all rfl)
    (ht : ∀ r, letTemporaryGo value (.str ⟨a.toArray⟩ t) r = pure () := by intro _; with_unfolding_all rfl) :
    wpAny (model prog w) A (subscriptTail value slice (.str ⟨a.toArray⟩ t) (.ref hh.objs.size)) Q E ⟨hh.push { cls := .type "slice", data := .fields #[.int i ui, .none, .none] }, g, dr, tk, os⟩ := by
  subst hi
  refine slice_strN_sn (s := ⟨hh, g, dr, tk, os⟩) F N (fun h' t' k F' N' => ?_) hs ht (by rw [len_l, sizeLine_eq]; omega)
  rw [sl_from (by omega)]
  exact h h' t' k F' N'
theorem cut_to {a : List Nat} {i : Int} {n : Nat} {ui : Tok} {hh : Heap} {g : Array GenState} {dr : Drawn} {tk : Nat} {os : OsState} (F : Fr h₀ L hh m) (N : News h₀ L hh news) (hi : i = -(n : Int)) (hn : 0 < n) (hl : a.length ≤ 100000)
    (h : ∀ h' t' k, Fr h₀ L h' m → News h₀ L h' news → Q (.str ⟨(a.take (a.length - n)).toArray⟩ t') ⟨h', g, dr, k, os⟩)
    (hs : subscripted slice false (.str ⟨a.toArray⟩ t) (.ref hh.objs.size) = operate [.ref hh.objs.size, .str ⟨a.toArray⟩ t] (getItem (.str ⟨a.toArray⟩ t) (.ref hh.objs.size)) := by with_unfolding_all rfl)
    (ht : ∀ r, letTemporaryGo value (.str ⟨a.toArray⟩ t) r = pure () := by intro _; with_unfolding_all rfl) :
    wpAny (model prog w) A (subscriptTail value slice (.str ⟨a.toArray⟩ t) (.ref hh.objs.size)) Q E ⟨hh.push { cls := .type "slice", data := .fields #[.none, .int i ui, .none] }, g, dr, tk, os⟩ := by
  subst hi
  refine slice_strN_ns (s := ⟨hh, g, dr, tk, os⟩) F N (fun h' t' k F' N' => ?_) hs ht (by rw [len_l, sizeLine_eq]; omega)
  rw [sl_to_neg (by omega), show (- -(n : Int)).toNat = n by omega]
  exact h h' t' k F' N'
theorem cut_all {a : List Nat} {n : Nat} {hh : Heap} {g : Array GenState} {dr : Drawn} {tk : Nat} {os : OsState} (F : Fr h₀ L hh m) (N : News h₀ L hh news) (hn : n = 0) (hl : a.length ≤ 100000)
    (h : ∀ h' t' k, Fr h₀ L h' m → News h₀ L h' news → Q (.str ⟨(a.take (a.length - n)).toArray⟩ t') ⟨h', g, dr, k, os⟩)
    (hs : subscripted slice false (.str ⟨a.toArray⟩ t) (.ref hh.objs.size) = operate [.ref hh.objs.size, .str ⟨a.toArray⟩ t] (getItem (.str ⟨a.toArray⟩ t) (.ref hh.objs.size)) := by with_unfolding_all rfl)
    (ht : ∀ r, letTemporaryGo value (.str ⟨a.toArray⟩ t) r = pure () := by intro _; with_unfolding_all rfl) :
    wpAny (model prog w) A (subscriptTail value slice (.str ⟨a.toArray⟩ t) (.ref hh.objs.size)) Q E ⟨hh.push { cls := .type "slice", data := .fields #[.none, .none, .none] }, g, dr, tk, os⟩ := by
  subst hn
  refine slice_strN_nn (s := ⟨hh, g, dr, tk, os⟩) F N (fun h' t' k F' N' => ?_) hs ht (by rw [len_l, sizeLine_eq]; omega)
  rw [sl_all]
  have := h h' t' k F' N'
  rw [Nat.sub_zero, List.take_length] at this
  exact this
theorem tr_yes {a : List Nat} {R : Bool → Shared → Prop} (h0 : 0 < a.length) (hl : a.length ≤ 100000) (h : ∀ k, R true { s with toks := k }) : wpAny (model prog w) A (truthy (.str ⟨a.toArray⟩ t)) R E s := by
  refine P.truthy_str (by rw [len_l]; have q : (2:Int)^63 = 9223372036854775808 := by decide
                          omega) ?_
  rw [len_l]
  have : (((a.length : Nat) : Int) != 0) = true := by simp; intro e; subst e; simp at h0
  rw [this]; exact h _
theorem tr_no {a : List Nat} {R : Bool → Shared → Prop} (h0 : a.length = 0) (h : ∀ k, R false { s with toks := k }) : wpAny (model prog w) A (truthy (.str ⟨a.toArray⟩ t)) R E s := by
  refine P.truthy_str (by rw [len_l]; have q : (2:Int)^63 = 9223372036854775808 := by decide
                          omega) ?_
  rw [len_l]
  have : (((a.length : Nat) : Int) != 0) = false := by simp; exact List.eq_nil_of_length_eq_zero h0
  rw [this]; exact h _
end
noncomputable def Pst (h₀ : Heap) (L : Addr) (s : Shared) (R : (Str → Option Value) → Prop) (f : Flow) (s' : Shared) : Prop :=
  f = .next ∧ ∃ h' tk' m', s' = { s with heap := h', toks := tk' } ∧ Fr h₀ L h' m' ∧ R m'
theorem Pst.mk {h₀ h' : Heap} {L : Addr} {s : Shared} {R : (Str → Option Value) → Prop} {tk : Nat} {m : Str → Option Value} (F : Fr h₀ L h' m) (hR : R m) : Pst h₀ L s R .next { s with heap := h', toks := tk } := ⟨rfl, h', tk, m, rfl, F, hR⟩
theorem WhileStep2.mk {h₀ h' : Heap} {L : Addr} {s : Shared} {J : Nat → (Str → Option Value) → List (Addr × Obj) → Prop} {Q : Flow → Shared → Prop} {n n' tk : Nat} {m₂ : Str → Option Value} {news₂ : List (Addr × Obj)}
    (F : Fr h₀ L h' m₂) (N : News h₀ L h' news₂) (hn : n' < n) (hJ : J n' m₂ news₂) : WhileStep2 h₀ L s J Q n .next { s with heap := h', toks := tk } := ⟨h', tk, m₂, news₂, n', rfl, F, N, hn, hJ⟩
/-! the first loop, the second loop, on lists -/
theorem strip_go : ∀ (a b : List Nat) (n : Nat), n < a.length → n < b.length → a[n]? = b[n]? → stripL (a.drop n) (b.drop n) = stripL (a.drop (n + 1)) (b.drop (n + 1)) := by
  intro a b n h1 h2 h3
  rw [List.drop_eq_getElem_cons h1, List.drop_eq_getElem_cons h2]
  have : a[n] = b[n] := by
    rw [List.getElem?_eq_getElem h1, List.getElem?_eq_getElem h2] at h3
    exact Option.some.inj h3
  rw [stripL, if_pos this]
theorem strip_stop : ∀ (a b : List Nat) (n : Nat), n ≤ a.length → n ≤ b.length → ¬ (n < a.length ∧ n < b.length ∧ a[n]? = b[n]?) → stripL (a.drop n) (b.drop n) = (a.drop n, b.drop n) := by
  intro a b n h1 h2 h3
  by_cases ha : n < a.length
  · by_cases hb : n < b.length
    · rw [List.drop_eq_getElem_cons ha, List.drop_eq_getElem_cons hb]
      have : a[n] ≠ b[n] := by
        intro e
        exact h3 ⟨ha, hb, by rw [List.getElem?_eq_getElem ha, List.getElem?_eq_getElem hb, e]⟩
      rw [stripL, if_neg this]
    · rw [List.drop_eq_nil_of_le (show b.length ≤ n by omega)]
      cases a.drop n <;> rfl
  · rw [List.drop_eq_nil_of_le (show a.length ≤ n by omega)]
    cases b.drop n <;> rfl
theorem rev_at (a : List Nat) (q : Nat) (h : q < a.length) : a.reverse[q]? = a[a.length - 1 - q]? := by
  rw [List.getElem?_reverse h]
theorem rev_drop (a : List Nat) (q : Nat) : (a.reverse.drop q).reverse = a.take (a.length - q) := by
  rw [List.drop_reverse, List.reverse_reverse]
theorem While_op {prog : Program} {w : World} {A : Around} {E : Value → Shared → Prop} {s : Shared} {env : Env} {h₀ : Heap} {L : Addr} {Q : Flow → Shared → Prop} {test : Expr} {body : List Stmt} {pos : Pos} {m : Str → Option Value} {news : List (Addr × Obj)} (J : Nat → (Str → Option Value) → List (Addr × Obj) → Prop) {n₀ : Nat}
    (F : Fr h₀ L s.heap m) (N : News h₀ L s.heap news) (hJ : J n₀ m news)
    (turn : ∀ n m₁ news₁ h₁ tk₁ (Qt : Flow → Shared → Prop) (Qx : Shared → Prop), Fr h₀ L h₁ m₁ → News h₀ L h₁ news₁ → J n m₁ news₁ → (∀ f s', WhileStep2 h₀ L s J Q n f s' → Qt f s') → (∀ s', Q .next s' → Qx s') →
      wpAny (model prog w) A (isTrue test env (eval test env)) (fun b s₂ =>
        if b = true then wpAny (model prog w) A (execs body env) Qt E s₂ else Qx s₂) E { s with heap := h₁, toks := tk₁ })
    (hE : PassesOwn (model prog w) A env E := by passes_own) :
    wpAny (model prog w) A (exec (.While test body [] pos) env) Q E s :=
  While_inv2 J F N hJ (fun n m₁ news₁ h₁ tk₁ F₁ N₁ hJ₁ => turn n m₁ news₁ h₁ tk₁ _ _ F₁ N₁ hJ₁ (fun _ _ h => h) (fun _ h => h)) hE
noncomputable def EL (c : Nat) : Prop := c = 13 ∨ c = 10 ∨ c = 46
noncomputable def Hid (p : Prop) : Prop := p
theorem Hid.out {p : Prop} (h : Hid p) : p := h
theorem le40 {n : Nat} (h : n ≤ 40) : n ≤ 100000 := Nat.le_trans h (by decide)
theorem len_drop_le {α : Type} {a : List α} {k n : Nat} (h : a.length ≤ n) : (a.drop k).length ≤ n := by rw [List.length_drop]; omega
theorem len_take_le {α : Type} {a : List α} {k n : Nat} (h : a.length ≤ n) : (a.take k).length ≤ n := by rw [List.length_take]; omega
theorem len_drop_pos {α : Type} {a : List α} {k : Nat} (h : k < a.length) : 0 < (a.drop k).length := by rw [List.length_drop]; omega
theorem len_drop_nil {α : Type} {a : List α} {k : Nat} (h : ¬ k < a.length) : (a.drop k).length = 0 := by rw [List.length_drop]; omega
theorem len_take_pos {α : Type} {a : List α} {q : Nat} (h : q < a.length) : 0 < (a.take (a.length - q)).length := by rw [List.length_take]; omega
theorem len_take_nil {α : Type} {a : List α} {q : Nat} (h : ¬ q < a.length) : (a.take (a.length - q)).length = 0 := by rw [List.length_take]; omega
theorem at_nat {i : Nat} {n : Nat} : (0 ≤ (i : Int) ∧ (i : Int) = (i : Int)) ∨ ((i : Int) < 0 ∧ (i : Int) = (n : Int) + (i : Int)) := Or.inl ⟨Int.natCast_nonneg _, rfl⟩
theorem at_neg {z : Int} {q n : Nat} (hz : z = -(q : Int)) (h : q < n) : (0 ≤ z - 1 ∧ z - 1 = ((n - 1 - q : Nat) : Int)) ∨ (z - 1 < 0 ∧ ((n - 1 - q : Nat) : Int) = (n : Int) + (z - 1)) := Or.inr ⟨by omega, by omega⟩
theorem zq {z : Int} {q : Nat} (hz : z = -(q : Int)) : (q = 0 ∧ z = 0) ∨ (0 < q ∧ z ≠ 0) := by omega
theorem q_next {z : Int} {q : Nat} (hz : z = -(q : Int)) : z - 1 = -((q + 1 : Nat) : Int) := by omega
theorem less_on {n k q : Nat} (hn : n = k - q) (h : q < k) : k - (q + 1) < n := by omega
end 
section 
open PySem PySem.W PySem.Calls PyProof.Rows PyProof.V
open PySem.Builtin PySem.Builtin.Str
theorem ints_of_items : ∀ (n : Nat) (a c : Int) (vs : List Value), vs.length = n → (∀ (i : Nat) v, vs[i]? = some v → ∃ t, v = .int (a + i * c) t) → IntsAre vs ((List.range n).map (fun i : Nat => a + i * c))
  | 0, a, c, vs, hl, h => by
    have : vs = [] := List.eq_nil_of_length_eq_zero hl
    subst this; exact .nil
  | n + 1, a, c, vs, hl, h => by
    cases vs with
    | nil => simp at hl
    | cons v r =>
      obtain ⟨t, e⟩ := h 0 v rfl
      have ih := ints_of_items n (a + c) c r (by simpa using hl) (fun i u hu => by
        obtain ⟨t2, e2⟩ := h (i + 1) u (by simpa using hu)
        refine ⟨t2, ?_⟩
        rw [e2]
        congr 1
        rw [Int.natCast_add, Int.add_mul]
        simp
        omega)
      rw [List.range_succ_eq_map, List.map_cons, List.map_map]
      have e1 : (List.range n).map ((fun i : Nat => a + (i : Int) * c) ∘ Nat.succ) = (List.range n).map (fun i : Nat => a + c + (i : Int) * c) := by
        apply List.map_congr_left
        intro i _
        show a + ((i + 1 : Nat) : Int) * c = _
        rw [Int.natCast_add, Int.add_mul]
        simp
        omega
      rw [e1, e]
      have e2 : a + ((0 : Nat) : Int) * c = a := by simp
      rw [e2]
      exact .cons _ _ ih
section
variable {prog : Program} {w : World} {A : Around} {E : Value → Shared → Prop} {s : Shared} {h₀ : Heap} {L : Addr} {m : Str → Option Value} {news : List (Addr × Obj)} {Q : Value → Shared → Prop}
theorem list_steps {r : Addr} {n : Nat} {b : Int} {t u v : Tok} (hh : A.handled = none) (F : Fr h₀ L s.heap m) (N : News h₀ L s.heap news) (hb : b = 2 * ((n : Int) + 1)) (hn : n ≤ 1000) (hr : IsRange s.heap r 2 b 2 t u v)
    (h : ∀ D h' tk vs k, Fr h₀ L h' m → News h₀ L h' ((D, listOf vs.toArray k) :: news) → IntsAre vs ((levRow n).map (fun i : Nat => (i : Int))) → Q (.ref D) { s with heap := h', toks := tk }) :
    wpAny (model prog w) A (call (.type "list") [.ref r]) Q E s := by
  subst hb
  have hsz : Builtin.Range.rangeSize 2 (2 * ((n : Int) + 1)) 2 = (n : Nat) := by
    unfold Builtin.Range.rangeSize
    simp only [show (2 : Int) > 0 by decide, if_true]
    split
    · omega
    · omega
  refine call_list_range hh hr ?_ hsz (by omega) ?_
  · unfold Builtin.Range.small
    have q : (2:Int)^63 = 9223372036854775808 := by decide
    have hf : ∀ k : Int, 0 ≤ k → k ≤ 1000000 → Builtin.Range.rangeFitsLong k = true := fun k a b => by
      unfold Builtin.Range.rangeFitsLong; rw [q]; simp; omega
    simp [hf 2 (by omega) (by omega), hf (2 * ((n : Int) + 1)) (by omega) (by omega), hsz, hf n (by omega) (by omega), hf (2 * ((n : Int) + 1) + 1) (by omega) (by omega)]
  · intro h' tk acc c' hk hD hI
    have hI1 : acc.toList.length = n := by simpa using hI.1
    have hints := ints_of_items n 2 2 acc.toList hI1 (fun i v hv => hI.2 i v (by simpa using hv))
    have e : (List.range n).map (fun i : Nat => (2 : Int) + i * 2) = (levRow n).map (fun i : Nat => (i : Int)) := by
      unfold levRow
      rw [List.map_map]
      apply List.map_congr_left
      intro i _
      show (2 : Int) + i * 2 = ((2 * (i + 1) : Nat) : Int)
      omega
    rw [e] at hints
    have N' : News h₀ L h' ((s.heap.objs.size, listOf acc.toList.toArray c') :: news) := by
      intro q hq
      rcases List.mem_cons.mp hq with rfl | hq
      · refine ⟨?_, Nat.ne_of_gt F.ns.lt, ?_⟩
        · show h'.get? s.heap.objs.size = _
          rw [hD]
        · cases e : h₀.get? s.heap.objs.size with
          | none => rfl
          | some o => exact absurd (Heap.lt_size (F.keep _ _ e)) (Nat.lt_irrefl _)
      · exact ⟨hk _ _ (N q hq).1, (N q hq).2⟩
    exact h _ h' tk acc.toList c' (F.keeps hk) N' hints
end
theorem sub_val {c x : Nat} (hc : c = 13 ∨ c = 10 ∨ c = 46) (hx : x = 13 ∨ x = 10 ∨ x = 46) :
    (if (({ cps := #[c] } : Str) == ⟨#[x]⟩) then (0 : Int) else if Txt.lower ⟨#[c]⟩ == Txt.lower ⟨#[x]⟩ then 1 else 2) = ((if c = x then 0 else 2 : Nat) : Int) := by
  rcases hc with rfl | rfl | rfl <;> rcases hx with rfl | rfl | rfl <;> decide +kernel
theorem c_subC {prog : Program} {w : World} {d u0 : Nat} {fr gs} {s : Shared} {Q E} {p loose mg mb} (X : (Mine.hd.heap_39 w.params).In s.heap) (T : TopRead p loose mg mb s.heap)
   (hA : d < 450) {c x : Nat} {t u : Tok} (hc : EL c) (hx : EL x)
   (h : ∀ tk h' tk', (∀ b o, s.heap.get? b = some o → h'.get? b = some o) → Q (Value.int ((if c = x then 0 else 2 : Nat) : Int) tk) { s with heap := h', toks := tk' }) :
   wpAny (model prog w) ⟨none, d, fr, gs, u0⟩ (call (.ref 147) [.str ⟨#[c]⟩ t, .str ⟨#[x]⟩ u]) Q E s :=
  c_sub X T hA (show (1 : Nat) ≤ 1000 by decide) (show (1 : Nat) ≤ 1000 by decide) fun v tk h' tk' hk hv => by
    rw [hv, sub_val hc hx]
    exact h tk h' tk' hk
theorem levOut_nil (a : List Nat) (mc k : Nat) (row : List Nat) (res : Nat) : levOut a mc [] k row res = res := rfl
theorem levOut_cons (a : List Nat) (mc c : Nat) (b : List Nat) (k : Nat) (row : List Nat) (res : Nat) : levOut a mc (c :: b) k row res =
    if mc < (levIn c a row (k * 2) (k * 2) 9223372036854775807).2.2 then mc + 1 else levOut a mc b (k + 1) (levIn c a row (k * 2) (k * 2) 9223372036854775807).1 (levIn c a row (k * 2) (k * 2) 9223372036854775807).2.1 := rfl
theorem levIn_cons (c x : Nat) (a : List Nat) (r : Nat) (row : List Nat) (dist res mn : Nat) : levIn c (x :: a) (r :: row) dist res mn =
    (min (min res r + 2) (dist + (if c = x then 0 else 2)) :: (levIn c a row r (min (min res r + 2) (dist + (if c = x then 0 else 2))) (if min (min res r + 2) (dist + (if c = x then 0 else 2)) < mn then min (min res r + 2) (dist + (if c = x then 0 else 2)) else mn)).1,
     (levIn c a row r (min (min res r + 2) (dist + (if c = x then 0 else 2))) (if min (min res r + 2) (dist + (if c = x then 0 else 2)) < mn then min (min res r + 2) (dist + (if c = x then 0 else 2)) else mn)).2) := rfl
theorem levIn_nil (c : Nat) (row : List Nat) (dist res mn : Nat) : levIn c [] row dist res mn = ([], res, mn) := by cases row <;> rfl
theorem levIn_len (c : Nat) : ∀ (a row : List Nat) (dist res mn : Nat), a.length = row.length → (levIn c a row dist res mn).1.length = a.length
  | [], row, _, _, _, _ => by rw [levIn_nil]
  | x :: a, [], _, _, _, h => by simp at h
  | x :: a, r :: row, dist, res, mn, h => by
    rw [levIn_cons]
    show (levIn c a row _ _ _).1.length + 1 = a.length + 1
    rw [levIn_len c a row _ _ _ (by simpa using h)]
theorem ints_at : ∀ {vs : List Value} {ns : List Int} {j : Nat} {n : Int}, IntsAre vs ns → ns[j]? = some n → ∃ t, vs[j]? = some (.int n t)
  | _, _, j, n, .nil, h => by simp at h
  | _, _, 0, n, .cons k t r, h => by
    simp at h
    subst h
    exact ⟨t, rfl⟩
  | _, _, j + 1, n, .cons k t r, h => by
    obtain ⟨t2, e⟩ := ints_at r (j := j) (n := n) (by simpa using h)
    exact ⟨t2, by simpa using e⟩
theorem lev_val {rs r dist cost : Nat} {zd zr : Int} (hzd : zd = (dist : Int)) (hzr : zr = (rs : Int)) :
    (if zd + (cost : Int) < (if (r : Int) < zr then (r : Int) else zr) + 2 then zd + (cost : Int) else (if (r : Int) < zr then (r : Int) else zr) + 2) = ((min (min rs r + 2) (dist + cost) : Nat) : Int) := by
  subst hzd hzr
  split <;> split at * <;> omega
theorem set_mid {pre rest : List Nat} {r z9 j : Nat} {z : Int} (hz : z = (z9 : Int)) (hp : pre.length = j) :
    ((pre ++ r :: rest).map (fun i : Nat => (i : Int))).set ((j : Int)).toNat z = (pre ++ [z9] ++ rest).map (fun i : Nat => (i : Int)) := by
  subst hz hp
  rw [show ((pre.length : Nat) : Int).toNat = pre.length by omega]
  simp [List.set_append]
theorem TurnEnd.back {h₀ : Heap} {L I : Addr} {oI : Obj} {J D : (Str → Option Value) → List (Addr × Obj) → Prop} {s₂ s₃ : Shared} {Q : Flow → Shared → Prop} {v : Value} (h : Q (.ret v) s₃) : TurnEnd h₀ L I oI J D s₂ Q (.ret v) s₃ := h
end 
section 
open PySem PySem.W PyProof.Rows
local macro_rules | `(tactic| walk_at "m_ln") => `(tactic| first | assumption | exact len_drop_le (by assumption) | exact len_drop_pos (by assumption) | exact len_drop_nil (by assumption) | exact len_take_le (by assumption) | exact len_take_pos (by assumption) | exact len_take_nil (by assumption) | exact le40 (by assumption) | omega | (simp only [List.length_drop, List.length_take]; omega))
local macro_rules | `(tactic| walk_at "m_gosw") => `(tactic| repeat' ((fail_if_success (with_reducible show wpAny _ _ (exec (Stmt.If (Expr.Compare _ (List.cons CmpOp.Lt List.nil) _ _) _ _ _) _) _ _ _)); walk_at "m_one"))
local macro_rules | `(tactic| walk_at "m_gow") => `(tactic| repeat' ((fail_if_success (with_reducible show wpAny _ _ (exec (Stmt.While _ _ _ _) _) _ _ _)); (fail_if_success (with_reducible show wpAny _ _ (pyIter _) _ _ _)); walk_at "m_one"))
local macro_rules | `(tactic| walk_at "m_cut") => `(tactic| ((rename Fr _ _ _ _ => kF); (rename News _ _ _ _ => kN); (first
  | ((with_reducible show wpAny _ _ (subscriptTail _ (Expr.Slice (some _) none none _) _ _) _ _ _); (refine' cut_from kF kN ?hi ?hl ?_; (case hi => exact rfl); (case hl => walk_at "m_ln")))
  | ((with_reducible show wpAny _ _ (subscriptTail _ (Expr.Slice none (some _) none _) _ _) _ _ _); (first | (refine' cut_all kF kN ?hi ?hl ?_; (case hi => assumption); (case hl => walk_at "m_ln")) | (refine' cut_to kF kN ?hi ?hn ?hl ?_; (case hi => assumption); (case hn => first | assumption | omega); (case hl => walk_at "m_ln"))))); intro h' t' k' kF' kN'; (try k_sweep); (try dsimp only)))
local macro_rules | `(tactic| walk_at "subscriptTail Name Slice str ref") => `(tactic| ((with_reducible show wpAny _ _ (subscriptTail _ _ (Value.str (Str.mk (List.toArray _)) _) _) _ _ _); walk_at "m_cut"))
local macro_rules | `(tactic| walk_at "truthy str") => `(tactic| ((with_reducible show wpAny _ _ (truthy (Value.str (Str.mk (List.toArray _)) _)) _ _ _); (first | (refine' tr_yes ?h0 ?hl ?_; (case h0 => walk_at "m_ln"); (case hl => walk_at "m_ln")) | (refine' tr_no ?h0 ?_; (case h0 => walk_at "m_ln"))); intro k'; (try dsimp only)))
local macro_rules | `(tactic| walk_at "subscriptTail Name Name str int") => `(tactic| ((with_reducible show wpAny _ _ (subscriptTail _ _ (Value.str (Str.mk (List.toArray _)) _) (Value.int _ _)) _ _ _); (refine' str_at ?hi ?hc ?hl ?_; (case hc => assumption); (case hi => (first | exact at_nat | exact at_neg (by assumption) (by assumption) | omega)); (case hl => walk_at "m_ln")); intro t' k'; (try dsimp only)))
local macro_rules | `(tactic| walk_at "subscriptTail Name BinOp str int") => `(tactic| ((with_reducible show wpAny _ _ (subscriptTail _ _ (Value.str (Str.mk (List.toArray _)) _) (Value.int _ _)) _ _ _); (refine' str_at ?hi ?hc ?hl ?_; (case hc => assumption); (case hi => (first | exact at_nat | exact at_neg (by assumption) (by assumption) | omega)); (case hl => walk_at "m_ln")); intro t' k'; (try dsimp only)))
theorem tri_yes {prog : Program} {w : World} {A : Around} {E : Value → Shared → Prop} {s : Shared} {Q : Bool → Shared → Prop} {z : Int} {t : Tok} (h0 : z ≠ 0) (h : Q true s) : wpAny (model prog w) A (truthy (.int z t)) Q E s := by
  refine truthy_int ?_
  have : (z != 0) = true := by simpa using h0
  rw [this]; exact h
theorem tri_no {prog : Program} {w : World} {A : Around} {E : Value → Shared → Prop} {s : Shared} {Q : Bool → Shared → Prop} {z : Int} {t : Tok} (h0 : z = 0) (h : Q false s) : wpAny (model prog w) A (truthy (.int z t)) Q E s := by
  refine truthy_int ?_
  have : (z != 0) = false := by simpa using h0
  rw [this]; exact h
local macro_rules | `(tactic| walk_at "truthy int") => `(tactic| (first | ((with_reducible refine' tri_yes ?h0 ?_); (case h0 => first | assumption | omega)) | ((with_reducible refine' tri_no ?h0 ?_); (case h0 => first | assumption | omega))); (try dsimp only))
local macro_rules | `(tactic| walk_at "call builtin:len") => `(tactic| ((with_reducible show wpAny _ _ (call (Value.builtin "len") [Value.str (Str.mk (List.toArray _)) _]) _ _ _); (refine' len_lst ?k1 ?_; (case k1 => first | assumption | omega)); intro u' k'; (try dsimp only)))
local macro_rules | `(tactic| walk_at "call type:list") => `(tactic| ((with_reducible show wpAny _ _ (call (Value.type "list") [Value.ref _]) _ _ _); (rename Fr _ _ _ _ => kF); (rename News _ _ _ _ => kN); (rename IsRange _ _ _ _ _ _ _ _ => kR); (refine' list_steps rfl kF kN ?hb ?hn kR ?_; (case hb => exact rfl); (case hn => omega)); intro D' h' tk' vs' k' kF' kN' hI'; (try dsimp only at kF' kN'); (try k_sweep); (try dsimp only)))
local macro_rules | `(tactic| walk_at "call ref") => `(tactic| ((with_reducible show wpAny _ _ (call (Value.ref 147) _) _ _ _); (refine' c_subC ?X ?T ?hA ?hc ?hx ?_; walk_at "m_xta"; (case hc => assumption); (case hx => assumption)); walk_at "m_kept"))
theorem eq_same {prog : Program} {w : World} {A : Around} {E : Value → Shared → Prop} {s : Shared} {Q : Value → Shared → Prop} {c : Nat} {t u : Tok} (h : Q (.bool true) s) : wpAny (model prog w) A (compareOp .Eq (.str ⟨#[c]⟩ t) (.str ⟨#[c]⟩ u)) Q E s :=
  eq_str (by have : (({ cps := #[c] } : Str) == ⟨#[c]⟩) = true := by simp
             rw [this]; exact h)
theorem eq_diff {prog : Program} {w : World} {A : Around} {E : Value → Shared → Prop} {s : Shared} {Q : Value → Shared → Prop} {c c' : Nat} {t u : Tok} (hn : Hid (c ≠ c')) (h : Q (.bool false) s) : wpAny (model prog w) A (compareOp .Eq (.str ⟨#[c]⟩ t) (.str ⟨#[c']⟩ u)) Q E s :=
  eq_str (by have : (({ cps := #[c] } : Str) == ⟨#[c']⟩) = false := by
               rw [beq_eq_false_iff_ne]; intro e; injection e with e; simp at e; exact hn.out e
             rw [this]; exact h)
local macro_rules | `(tactic| walk_at "compareOp Eq str str") => `(tactic| ((with_reducible show wpAny _ _ (compareOp CmpOp.Eq (Value.str (Str.mk (List.toArray (List.cons _ List.nil))) _) (Value.str (Str.mk (List.toArray (List.cons _ List.nil))) _)) _ _ _); (first | with_reducible refine' eq_same ?_ | ((refine' eq_diff ?hn ?_); (case hn => assumption))); (try dsimp only)))
inductive PreJ (a b : List Nat) (mc : Nat) (ta tb tm : Tok) (n : Nat) (m : Str → Option Value) (news : List (Addr × Obj)) : Prop
  | mk (hnews : news = []) (k : Nat) (t : Tok) (hk : Knows m [(Str.ofString "a", .str ⟨a.toArray⟩ ta), (Str.ofString "b", .str ⟨b.toArray⟩ tb), (Str.ofString "max_cost", .int (mc : Int) tm), (Str.ofString "pre", .int (k : Int) t)]) (hka : k ≤ a.length) (hkb : k ≤ b.length) (hn : n = a.length - k) (hst : stripL (a.drop k) (b.drop k) = stripL a b) : PreJ a b mc ta tb tm n m news
inductive PreR (a b : List Nat) (mc : Nat) (ta tb tm : Tok) (m : Str → Option Value) : Prop
  | mk (k : Nat) (t : Tok) (hk : Knows m [(Str.ofString "a", .str ⟨a.toArray⟩ ta), (Str.ofString "b", .str ⟨b.toArray⟩ tb), (Str.ofString "max_cost", .int (mc : Int) tm), (Str.ofString "pre", .int (k : Int) t)]) (hka : k ≤ a.length) (hkb : k ≤ b.length) (hst : stripL a b = (a.drop k, b.drop k)) : PreR a b mc ta tb tm m
inductive PosR (a1 b1 : List Nat) (mc : Nat) (tm : Tok) (m : Str → Option Value) : Prop
  | mk (q : Nat) (z : Int) (t1 t2 t : Tok) (hk : Knows m [(Str.ofString "a", .str ⟨a1.toArray⟩ t1), (Str.ofString "b", .str ⟨b1.toArray⟩ t2), (Str.ofString "max_cost", .int (mc : Int) tm), (Str.ofString "post", .int z t)]) (hz : z = -(q : Int)) (hka : q ≤ a1.length) (hkb : q ≤ b1.length) (hst : stripL a1.reverse b1.reverse = (a1.reverse.drop q, b1.reverse.drop q)) : PosR a1 b1 mc tm m
inductive PosJ (a1 b1 : List Nat) (mc : Nat) (tm : Tok) (n : Nat) (m : Str → Option Value) (news : List (Addr × Obj)) : Prop
  | mk (hnews : news = []) (q : Nat) (z : Int) (t1 t2 t : Tok) (hk : Knows m [(Str.ofString "a", .str ⟨a1.toArray⟩ t1), (Str.ofString "b", .str ⟨b1.toArray⟩ t2), (Str.ofString "max_cost", .int (mc : Int) tm), (Str.ofString "post", .int z t)]) (hz : z = -(q : Int)) (hka : q ≤ a1.length) (hkb : q ≤ b1.length) (hn : n = a1.length - q) (hst : stripL (a1.reverse.drop q) (b1.reverse.drop q) = stripL a1.reverse b1.reverse) : PosJ a1 b1 mc tm n m news
inductive SwR (a b : List Nat) (mc : Nat) (tm : Tok) (m : Str → Option Value) : Prop
  | mk (a3 b3 : List Nat) (t1 t2 : Tok) (hk : Knows m [(Str.ofString "a", .str ⟨a3.toArray⟩ t1), (Str.ofString "b", .str ⟨b3.toArray⟩ t2), (Str.ofString "max_cost", .int (mc : Int) tm)]) (hle : a3.length ≤ b3.length) (h0 : 0 < a3.length) (hb : b3.length ≤ 40) (n1 : ∀ c ∈ a3, c = 13 ∨ c = 10 ∨ c = 46) (n2 : ∀ c ∈ b3, c = 13 ∨ c = 10 ∨ c = 46) (hm : levL a b mc = levMid a3 b3 mc) : SwR a b mc tm m
inductive RowJ (a3 b3 : List Nat) (L mc : Nat) (t1 t2 tm : Tok) (i : Nat) (m : Str → Option Value) (news : List (Addr × Obj)) : Prop
  | mk (R : List Nat) (res : Nat) (D : Addr) (vs : List Value) (kk : Nat) (tr : Tok) (hnews : news = [(D, listOf vs.toArray kk)]) (hI : IntsAre vs (R.map (fun i : Nat => (i : Int)))) (hl : R.length = a3.length) (hk : Knows m [(Str.ofString "a", .str ⟨a3.toArray⟩ t1), (Str.ofString "b", .str ⟨b3.toArray⟩ t2), (Str.ofString "max_cost", .int (mc : Int) tm), (Str.ofString "row", .ref D), (Str.ofString "result", .int (res : Int) tr)]) (hlv : levOut a3 mc (b3.drop i) i R res = L) : RowJ a3 b3 L mc t1 t2 tm i m news
inductive InJ (a3 b3 : List Nat) (mc : Nat) (t1 t2 tm : Tok) (I : Addr) (oI : Obj) (D : Addr) (R : List Nat) (c i : Nat) (j : Nat) (m : Str → Option Value) (news : List (Addr × Obj)) : Prop
  | mk (pre : List Nat) (dist rs mn : Nat) (zd zr zm : Int) (vs : List Value) (kk : Nat) (td tr tn tc : Tok) (hnews : news = [(I, oI), (D, listOf vs.toArray kk)]) (hI : IntsAre vs ((pre ++ R.drop j).map (fun i : Nat => (i : Int)))) (hp : pre.length = j) (hd : zd = (dist : Int)) (hr : zr = (rs : Int)) (hm : zm = (mn : Int))
      (hk : Knows m [(Str.ofString "a", .str ⟨a3.toArray⟩ t1), (Str.ofString "b", .str ⟨b3.toArray⟩ t2), (Str.ofString "max_cost", .int (mc : Int) tm), (Str.ofString "row", .ref D), (Str.ofString "bchar", .str ⟨#[c]⟩ tc), (Str.ofString "distance", .int zd td), (Str.ofString "result", .int zr tr), (Str.ofString "minimum", .int zm tn)])
      (hl : (pre ++ (levIn c (a3.drop j) (R.drop j) dist rs mn).1, (levIn c (a3.drop j) (R.drop j) dist rs mn).2) = levIn c a3 R (i * 2) (i * 2) 9223372036854775807) : InJ a3 b3 mc t1 t2 tm I oI D R c i j m news
inductive InD (a3 b3 : List Nat) (mc : Nat) (t1 t2 tm : Tok) (I : Addr) (oI : Obj) (D : Addr) (R : List Nat) (c i : Nat) (m : Str → Option Value) (news : List (Addr × Obj)) : Prop
  | mk (pre : List Nat) (rs mn : Nat) (zr zm : Int) (vs : List Value) (kk : Nat) (tr tn : Tok) (hnews : news = [(I, oI), (D, listOf vs.toArray kk)]) (hI : IntsAre vs (pre.map (fun i : Nat => (i : Int)))) (hp : pre.length = a3.length) (hr : zr = (rs : Int)) (hm : zm = (mn : Int))
      (hk : Knows m [(Str.ofString "a", .str ⟨a3.toArray⟩ t1), (Str.ofString "b", .str ⟨b3.toArray⟩ t2), (Str.ofString "max_cost", .int (mc : Int) tm), (Str.ofString "row", .ref D), (Str.ofString "result", .int zr tr), (Str.ofString "minimum", .int zm tn)])
      (hl : (pre, rs, mn) = levIn c a3 R (i * 2) (i * 2) 9223372036854775807) : InD a3 b3 mc t1 t2 tm I oI D R c i m news
theorem c_lev {prog : Program} {w : World} {d u : Nat} {fr gs} {s : Shared} {Q E} {p loose mg mb} (X : (Mine.hd.heap_39 w.params).In s.heap) (T : TopRead p loose mg mb s.heap)
   (hA : d < 418) {a b : List Nat} {mc : Nat} {ta tb tm : Tok} (ha : a.length ≤ 40) (hb : b.length ≤ 40) (hm : mc ≤ 1000)
   (hca : ∀ c ∈ a, c = 13 ∨ c = 10 ∨ c = 46) (hcb : ∀ c ∈ b, c = 13 ∨ c = 10 ∨ c = 46)
   (h : ∀ t h' tk', (∀ b o, s.heap.get? b = some o → h'.get? b = some o) → Q (.int (levL a b mc : Nat) t) { s with heap := h', toks := tk' }) :
   wpAny (model prog w) ⟨none, d, fr, gs, u⟩ (call (.ref 154) [.str ⟨a.toArray⟩ ta, .str ⟨b.toArray⟩ tb, .int (mc : Int) tm]) Q E s := by
  have hret : ∀ (z : Int) (t : Tok) (h' : Heap) (tk' : Nat), (∀ b o, s.heap.get? b = some o → h'.get? b = some o) → ((levL a b mc : Nat) : Int) = z → Q (.int z t) { s with heap := h', toks := tk' } := fun z t h' tk' hk hz => by
    rw [← hz]; exact h t h' tk' hk
  refine' enter (binds := [(Str.ofString "a", .str ⟨a.toArray⟩ ta), (Str.ofString "b", .str ⟨b.toArray⟩ tb), (Str.ofString "max_cost", .int (mc : Int) tm)]) ?X ?T ?ho ?hcd ?hr ?hb ?hl ?_ ?c1 ?c2 ?c3 ?c4
  walk_at "m_in"
  rename_i L h₁ F N
  walk_at "m_gow"
  · rename (_ == _) = true => hq
    have e : a = b := by simpa using hq
    have e2 : levL a b mc = 0 := by unfold levL; rw [if_pos e]
    rename Fr _ _ _ _ => F
    have := h tk h₁ (tk + 1) F.keep
    rw [e2] at this
    exact this
  rename (_ == _) = false => hq
  have hab : a ≠ b := by simpa using hq
  clear hq
  rename Fr _ _ _ _ => F
  rename News _ _ _ _ => N
  refine wpAny_mono (Q := Pst s.heap L s (PreR a b mc ta tb tm)) ?wh ?rest (fun _ _ e => e)
  case wh =>
    refine While_op (PreJ a b mc ta tb tm)
      (n₀ := a.length) F N ⟨rfl, 0, _, ⟨rfl, rfl, rfl, rfl, trivial⟩, Nat.zero_le _, Nat.zero_le _, rfl, rfl⟩ ?turn
    clear F N
    rintro n m₁ news₁ h1 tk1 Qt Qx F N ⟨rfl, k, t, hk, hka, hkb, hn, hst⟩ hQt hQx
    k_fold
    by_cases hall : k < a.length ∧ k < b.length ∧ a[k]? = b[k]?
    · have hgo := strip_go a b k hall.1 hall.2.1 hall.2.2
      obtain ⟨h1a, h1b, h1c⟩ := hall
      obtain ⟨c, hc1⟩ : ∃ c, a[k]? = some c := ⟨_, List.getElem?_eq_getElem h1a⟩
      have hc2 : b[k]? = some c := by rw [← h1c]; exact hc1
      replace F := Fr.knows F hk
      walk_at "m_gow"
      exact hQt _ _ (WhileStep2.mk (by assumption) (by assumption) (less_on hn h1a) ⟨rfl, k + 1, _, ⟨rfl, rfl, rfl, rfl, trivial⟩, h1a, h1b, rfl, by rw [← hgo, hst]⟩)
    · have hstop := strip_stop a b k hka hkb hall
      rw [hst] at hstop
      replace F := Fr.knows F hk
      by_cases h1a : k < a.length
      · by_cases h1b : k < b.length
        · obtain ⟨c, hc1⟩ : ∃ c, a[k]? = some c := ⟨_, List.getElem?_eq_getElem h1a⟩
          obtain ⟨c', hc2⟩ : ∃ c, b[k]? = some c := ⟨_, List.getElem?_eq_getElem h1b⟩
          have hne : c ≠ c' := fun e => hall ⟨h1a, h1b, by rw [hc1, hc2, e]⟩
          clear hall
          replace hne : Hid (c ≠ c') := hne
          walk_at "m_gow"
          exact hQx _ (Pst.mk (by assumption) ⟨k, t, ⟨rfl, rfl, rfl, rfl, trivial⟩, hka, hkb, hstop⟩)
        · clear hall
          walk_at "m_gow"
          exact hQx _ (Pst.mk (by assumption) ⟨k, t, ⟨rfl, rfl, rfl, rfl, trivial⟩, hka, hkb, hstop⟩)
      · clear hall
        walk_at "m_gow"
        exact hQx _ (Pst.mk (by assumption) ⟨k, t, ⟨rfl, rfl, rfl, rfl, trivial⟩, hka, hkb, hstop⟩)
  case rest =>
    clear F N
    rintro f s' ⟨rfl, h', tk', m', rfl, F, k, t, hk, hka, hkb, hst⟩
    have N : News s.heap L h' [] := News.nil
    replace F := Fr.knows F hk
    dsimp only
    walk_at "m_gow"
    clear hk
    rename Fr _ _ _ _ => F
    rename News _ _ _ _ => N
    have l1 : (a.drop k).length ≤ 40 := by rw [List.length_drop]; omega
    have l2 : (b.drop k).length ≤ 40 := by rw [List.length_drop]; omega
    have m1 : ∀ c ∈ a.drop k, c = 13 ∨ c = 10 ∨ c = 46 := fun c hc => hca c (List.mem_of_mem_drop hc)
    have m2 : ∀ c ∈ b.drop k, c = 13 ∨ c = 10 ∨ c = 46 := fun c hc => hcb c (List.mem_of_mem_drop hc)
    generalize a.drop k = a1 at F hst l1 m1
    generalize b.drop k = b1 at F hst l2 m2
    clear hka hkb
    refine wpAny_mono (Q := Pst s.heap L s (PosR a1 b1 mc tm)) ?wh2 ?rest2 (fun _ _ e => e)
    case wh2 =>
      refine While_op (PosJ a1 b1 mc tm)
        (n₀ := a1.length) F N ⟨rfl, 0, 0, _, _, _, ⟨rfl, rfl, rfl, rfl, trivial⟩, rfl, Nat.zero_le _, Nat.zero_le _, rfl, rfl⟩ ?turn2
      clear F N
      rintro n m₁ news₁ h1 tk1 Qt Qx F N ⟨rfl, q, z, t1, t2, t, hk, hz, hka, hkb, hn, hst2⟩ hQt hQx
      k_fold
      replace F := Fr.knows F hk
      by_cases h1a : q < a1.length
      · by_cases h1b : q < b1.length
        · obtain ⟨c, hc1⟩ : ∃ c, a1[a1.length - 1 - q]? = some c := ⟨_, List.getElem?_eq_getElem (by omega)⟩
          obtain ⟨c', hc2⟩ : ∃ c, b1[b1.length - 1 - q]? = some c := ⟨_, List.getElem?_eq_getElem (by omega)⟩
          by_cases hcc : c = c'
          · subst hcc
            have hgo := strip_go a1.reverse b1.reverse q (by simpa using h1a) (by simpa using h1b) (by rw [rev_at a1 q h1a, rev_at b1 q h1b, hc1, hc2])
            rcases zq hz with ⟨hq, hz0⟩ | ⟨hq, hz0⟩
            all_goals (walk_at "m_gow"; exact hQt _ _ (WhileStep2.mk (by assumption) (by assumption) (less_on hn h1a) ⟨rfl, q + 1, _, _, _, _, ⟨rfl, rfl, rfl, rfl, trivial⟩, q_next hz, h1a, h1b, rfl, by rw [← hgo, hst2]⟩))
          · have hstop := strip_stop a1.reverse b1.reverse q (by simpa using hka) (by simpa using hkb) (fun e => hcc (by have := e.2.2; rw [rev_at a1 q h1a, rev_at b1 q h1b, hc1, hc2] at this; exact Option.some.inj this))
            rw [hst2] at hstop
            replace hcc : Hid (c ≠ c') := hcc
            rcases zq hz with ⟨hq, hz0⟩ | ⟨hq, hz0⟩
            all_goals (walk_at "m_gow"; exact hQx _ (Pst.mk (by assumption) ⟨q, _, _, _, _, ⟨rfl, rfl, rfl, rfl, trivial⟩, hz, hka, hkb, hstop⟩))
        · have hstop := strip_stop a1.reverse b1.reverse q (by simpa using hka) (by simpa using hkb) (fun e => h1b (by simpa using e.2.1))
          rw [hst2] at hstop
          rcases zq hz with ⟨hq, hz0⟩ | ⟨hq, hz0⟩
          all_goals (walk_at "m_gow"; exact hQx _ (Pst.mk (by assumption) ⟨q, _, _, _, _, ⟨rfl, rfl, rfl, rfl, trivial⟩, hz, hka, hkb, hstop⟩))
      · have hstop := strip_stop a1.reverse b1.reverse q (by simpa using hka) (by simpa using hkb) (fun e => h1a (by simpa using e.1))
        rw [hst2] at hstop
        rcases zq hz with ⟨hq, hz0⟩ | ⟨hq, hz0⟩
        all_goals (walk_at "m_gow"; exact hQx _ (Pst.mk (by assumption) ⟨q, _, _, _, _, ⟨rfl, rfl, rfl, rfl, trivial⟩, hz, hka, hkb, hstop⟩))
    case rest2 => 
      clear F N
      rintro f s' ⟨rfl, h', tk', m', rfl, F, q, z, t1, t2, t, hk, hz, hka, hkb, hst2⟩
      have N : News s.heap L h' [] := News.nil
      replace F := Fr.knows F hk
      dsimp only
      have e1 : stripL a b = (a1, b1) := hst
      have hq1 : (stripL (stripL a b).1.reverse (stripL a b).2.reverse).1.reverse = a1.take (a1.length - q) := by rw [e1, hst2, rev_drop]
      have hq2 : (stripL (stripL a b).1.reverse (stripL a b).2.reverse).2.reverse = b1.take (b1.length - q) := by rw [e1, hst2, rev_drop]
      have hcore : levL a b mc = levCore (a1.take (a1.length - q)) (b1.take (b1.length - q)) mc := by unfold levL; rw [if_neg hab]; simp only [hq1, hq2]
      have r1 : (a1.take (a1.length - q)).length ≤ 40 := by rw [List.length_take]; omega
      have r2 : (b1.take (b1.length - q)).length ≤ 40 := by rw [List.length_take]; omega
      have n1 : ∀ c ∈ a1.take (a1.length - q), c = 13 ∨ c = 10 ∨ c = 46 := fun c hc => m1 c (List.mem_of_mem_take hc)
      have n2 : ∀ c ∈ b1.take (b1.length - q), c = 13 ∨ c = 10 ∨ c = 46 := fun c hc => m2 c (List.mem_of_mem_take hc)
      walk1
      refine wpAny_mono (Q := Pst s.heap L s fun m' => ∃ (t1 t2 t : Tok), Knows m' [(Str.ofString "a", .str ⟨(a1.take (a1.length - q)).toArray⟩ t1), (Str.ofString "b", .str ⟨b1.toArray⟩ t2), (Str.ofString "max_cost", .int (mc : Int) tm), (Str.ofString "post", .int z t)]) ?as1 ?ras1 (fun _ _ e => e)
      case as1 =>
        refine opq fun Qt hQt => ?_
        rcases zq hz with ⟨hq, hz0⟩ | ⟨hq, hz0⟩
        all_goals (walk_at "m_gow"; exact hQt _ _ (Pst.mk (by assumption) ⟨_, _, _, ⟨rfl, rfl, rfl, rfl, trivial⟩⟩))
      case ras1 =>
      clear F N hk
      rintro f s' ⟨rfl, h', tk', m', rfl, F, t1, t2, t, hk⟩
      have N : News s.heap L h' [] := News.nil
      replace F := Fr.knows F hk
      dsimp only
      walk1
      refine wpAny_mono (Q := Pst s.heap L s fun m' => ∃ (t1 t2 : Tok), Knows m' [(Str.ofString "a", .str ⟨(a1.take (a1.length - q)).toArray⟩ t1), (Str.ofString "b", .str ⟨(b1.take (b1.length - q)).toArray⟩ t2), (Str.ofString "max_cost", .int (mc : Int) tm)]) ?as2 ?ras2 (fun _ _ e => e)
      case as2 =>
        refine opq fun Qt hQt => ?_
        rcases zq hz with ⟨hq, hz0⟩ | ⟨hq, hz0⟩
        all_goals (walk_at "m_gow"; exact hQt _ _ (Pst.mk (by assumption) ⟨_, _, ⟨rfl, rfl, rfl, trivial⟩⟩))
      case ras2 =>
      clear F N hk
      generalize a1.take (a1.length - q) = a2 at hcore r1 n1
      generalize b1.take (b1.length - q) = b2 at hcore r2 n2
      clear hq1 hq2 hst2 hst e1 m1 m2 l1 l2 hka hkb hz
      rintro f s' ⟨rfl, h', tk', m', rfl, F, t1, t2, hk⟩
      have N : News s.heap L h' [] := News.nil
      replace F := Fr.knows F hk
      dsimp only
      rcases Nat.eq_zero_or_pos a2.length with ha0 | ha0
      · walk_at "m_gow"
        have e9 : levL a b mc = 2 * (a2.length + b2.length) := by rw [hcore]; unfold levCore; rw [if_pos (Or.inl ha0)]
        exact hret _ _ _ _ F.keep (by rw [e9]; omega)
      rcases Nat.eq_zero_or_pos b2.length with hb0 | hb0
      · walk_at "m_gow"
        have e9 : levL a b mc = 2 * (a2.length + b2.length) := by rw [hcore]; unfold levCore; rw [if_pos (Or.inr hb0)]
        exact hret _ _ _ _ F.keep (by rw [e9]; omega)
      walk_at "m_gosw"
      refine wpAny_mono (Q := Pst s.heap L s (SwR a b mc tm)) ?sw ?rsw (fun _ _ e => e)
      case sw =>
        refine opq fun Qt hQt => ?_
        have hnz : ¬ (a2.length = 0 ∨ b2.length = 0) := by omega
        rcases Nat.lt_or_ge b2.length a2.length with hlt | hge
        · have e9 : levL a b mc = levMid b2 a2 mc := by rw [hcore]; unfold levCore; rw [if_neg hnz, if_pos hlt]
          walk_at "m_gow"
          exact hQt _ _ (Pst.mk (by assumption) ⟨b2, a2, _, _, ⟨rfl, rfl, rfl, trivial⟩, by omega, hb0, r1, n2, n1, e9⟩)
        · have e9 : levL a b mc = levMid a2 b2 mc := by rw [hcore]; unfold levCore; rw [if_neg hnz, if_neg (by omega)]
          walk_at "m_gow"
          exact hQt _ _ (Pst.mk (by assumption) ⟨a2, b2, _, _, ⟨rfl, rfl, rfl, trivial⟩, hge, ha0, r2, n1, n2, e9⟩)
      case rsw =>
      clear F N hk hcore r1 r2 n1 n2 ha0 hb0
      rintro f s' ⟨rfl, h', tk', m', rfl, F, a3, b3, t1, t2, hk, hle, ha0, hb40, n1, n2, hmid⟩
      have N : News s.heap L h' [] := News.nil
      replace F := Fr.knows F hk
      dsimp only
      by_cases hbig : (b3.length - a3.length) * 2 > mc
      · have e9 : levL a b mc = mc + 1 := by rw [hmid]; unfold levMid; rw [if_pos hbig]
        walk_at "m_gow"
        rename Fr _ _ _ _ => F9
        exact hret _ _ _ _ F9.keep (by rw [e9]; omega)
      walk_at "m_gow"
      dsimp only
      rename IsRange _ _ _ _ _ _ _ _ => hR
      dsimp only at hR
      rename IntsAre _ _ => hI0
      rename Fr _ _ _ _ => F
      rename News _ _ _ _ => N
      have hlev : levL a b mc = levOut a3 mc b3 0 (levRow a3.length) 0 := by rw [hmid]; unfold levMid; rw [if_neg hbig]
      refine iter_range0 (n := b3.length) (RowJ a3 b3 (levL a b mc) mc t1 t2 tm)
        (fun m news => ∃ tr, Knows m [(Str.ofString "result", .int ((levL a b mc : Nat) : Int) tr)]) hR ?hsm rfl F N ?hj ?turn3 ?done ?fin
      case hsm => omega
      case hj => exact ⟨levRow a3.length, 0, _, _, _, _, rfl, hI0, by simp [levRow], ⟨rfl, rfl, rfl, rfl, rfl, trivial⟩, by rw [hlev]; rfl⟩
      case done =>
        rintro m₁ news₁ ⟨R, res, D, vs, kk, tr, rfl, hI, hRl, hk, hlv⟩
        rw [List.drop_length, levOut_nil] at hlv
        rw [← hlv]
        exact ⟨tr, hk.2.2.2.2.1, trivial⟩
      case turn3 =>
        clear F N hI0 hR
        rintro i ti m₁ news₁ hp tk I oI hi ⟨R, res, D, vs, kk, tr, rfl, hI, hRl, hk, hlv⟩ hIn F N
        k_fold
        have hI1 := neN (hIn _ (.head _))
        dsimp only at hI1
        obtain ⟨c, hc1⟩ : ∃ c, b3[i]? = some c := ⟨_, List.getElem?_eq_getElem hi⟩
        have hdr : b3.drop i = c :: b3.drop (i + 1) := drop_at hc1
        have hcm : EL c := n2 _ (List.mem_of_getElem? hc1)
        rw [hdr, levOut_cons] at hlv
        replace hlv : Hid _ := hlv
        refine opq fun Qt hQt => ?_
        replace F := Fr.knowsIn F hk
        walk_at "m_gow"
        dsimp only
        rename IsRange _ _ _ _ _ _ _ _ => hR2
        dsimp only at hR2
        rename Fr _ _ _ _ => F
        rename News _ _ _ _ => N
        refine iter_range0 (n := a3.length) (InJ a3 b3 mc t1 t2 tm I oI D R c i)
          (InD a3 b3 mc t1 t2 tm I oI D R c i) hR2 ?hsm2 rfl F N ?hj2 ?turn4 ?done2 ?fin2
        case hsm2 => omega
        case hj2 => exact ⟨[], i * 2, i * 2, 9223372036854775807, _, _, _, vs, kk, _, _, _, _, rfl, hI, rfl, by omega, by omega, rfl, ⟨rfl, rfl, rfl, rfl, rfl, rfl, rfl, rfl, trivial⟩, rfl⟩
        case done2 =>
          rintro m₁ news₁ ⟨pre, dist, rs, mn, zd, zr, zm, vs, kk, td, tr, tn, tc, rfl, hI, hpl, hzd, hzr, hzm, hk, hlv2⟩
          rw [List.drop_length, levIn_nil, List.append_nil] at hlv2
          rw [← hRl, List.drop_length, List.append_nil] at hI
          exact ⟨pre, rs, mn, zr, zm, vs, kk, tr, tn, rfl, hI, hpl, hzr, hzm, ⟨hk.1, hk.2.1, hk.2.2.1, hk.2.2.2.1, hk.2.2.2.2.2.2.1, hk.2.2.2.2.2.2.2.1, trivial⟩, hlv2⟩
        case turn4 =>
          clear F N hR2 hI hk
          rintro j tj m₁ news₁ hp tk I2 oI2 hj ⟨pre, dist, rs, mn, zd, zr, zm, vs, kk, td, tr, tn, tc, rfl, hI, hpl, hzd, hzr, hzm, hk, hlv2⟩ hIn2 F N
          k_fold
          have hI21 := neN (hIn2 _ (.head _))
          have hI22 := neN (hIn2 _ (.tail _ (.head _)))
          dsimp only at hI21 hI22
          clear hlv
          obtain ⟨x, hx1⟩ : ∃ c, a3[j]? = some c := ⟨_, List.getElem?_eq_getElem hj⟩
          have hxm : EL x := n1 _ (List.mem_of_getElem? hx1)
          obtain ⟨r, hr1⟩ : ∃ c, R[j]? = some c := ⟨_, List.getElem?_eq_getElem (by rw [hRl]; exact hj)⟩
          have hda := drop_at hx1
          have hdR := drop_at hr1
          rw [hda, hdR, levIn_cons] at hlv2
          rw [hdR] at hI
          obtain ⟨tvj, hvj⟩ : ∃ tvj, vs[j]? = some (.int (r : Int) tvj) := ints_at hI (by rw [List.map_append, List.getElem?_append_right (by simp [hpl])]; simp [hpl])
          have hz9 := lev_val (r := r) (cost := if c = x then 0 else 2) hzd hzr
          generalize min (min rs r + 2) (dist + (if c = x then 0 else 2)) = z9 at hlv2 hz9
          replace hz9 : Hid _ := hz9
          refine opq fun Qt2 hQt2 => ?_
          replace F := Fr.knowsIn F hk
          walk_at "m_gow"
          · rename Fr _ _ _ _ => F9
            rename News _ _ _ _ => N9
            rename IntsAre (List.set _ _ _) _ => hi9
            rename (_ < zm) => hlt
            replace hz9 := hz9.out
            rw [set_mid hz9 hpl] at hi9
            have hlt2 : z9 < mn := by rw [hz9, hzm] at hlt; omega
            rw [if_pos hlt2] at hlv2
            exact hQt2 _ _ (TurnEnd.go F9 N9 (all2 hI21 hI22) ⟨pre ++ [z9], r, z9, z9, _, _, _, _, _, _, _, _, _, rfl, hi9, by simp [hpl], rfl, hz9, hz9, ⟨rfl, rfl, rfl, rfl, rfl, rfl, rfl, rfl, trivial⟩, by rw [List.append_assoc]; exact hlv2⟩)
          · rename Fr _ _ _ _ => F9
            rename News _ _ _ _ => N9
            rename IntsAre (List.set _ _ _) _ => hi9
            rename ¬ (_ < zm) => hlt
            replace hz9 := hz9.out
            rw [set_mid hz9 hpl] at hi9
            have hlt2 : ¬ z9 < mn := by rw [hz9, hzm] at hlt; omega
            rw [if_neg hlt2] at hlv2
            exact hQt2 _ _ (TurnEnd.go F9 N9 (all2 hI21 hI22) ⟨pre ++ [z9], r, z9, mn, _, _, _, _, _, _, _, _, _, rfl, hi9, by simp [hpl], rfl, hz9, hzm, ⟨rfl, rfl, rfl, rfl, rfl, rfl, rfl, rfl, trivial⟩, by rw [List.append_assoc]; exact hlv2⟩)
        case fin2 =>
          clear F N hR2 hI hk
          rintro m₁ news₁ hp tk ⟨pre, rs, mn, zr, zm, vs, kk, tr, tn, rfl, hI, hpl, hzr, hzm, hk, hlv2⟩ F N
          (try dsimp only)
          subst hzr hzm
          replace hlv := hlv.out
          rw [← hlv2] at hlv
          dsimp only at hlv
          replace hlv : Hid _ := hlv
          replace F := Fr.knows F hk
          walk_at "m_gow"
          · rename Fr _ _ _ _ => F9
            rename (_ < _) => hlt
            have hlt2 : mc < mn := by omega
            replace hlv := hlv.out
            rw [if_pos hlt2] at hlv
            refine hQt _ _ (TurnEnd.back ?_)
            (try dsimp only)
            (try k_unfold)
            exact hret _ _ _ _ F9.keep (by rw [← hlv]; omega)
          · rename Fr _ _ _ _ => F9
            rename News _ _ _ _ => N9
            rename ¬ (_ < _) => hlt
            have hlt2 : ¬ mc < mn := by omega
            replace hlv := hlv.out
            rw [if_neg hlt2] at hlv
            exact hQt _ _ (TurnEnd.go F9 N9 (all1 hI1) ⟨pre, rs, D, vs, kk, tr, rfl, hI, hpl, ⟨rfl, rfl, rfl, rfl, rfl, trivial⟩, hlv⟩)
      case fin =>
        clear F N hI0 hR
        rintro m₁ news₁ hp tk ⟨tr, hk⟩ F N
        (try dsimp only)
        replace F := Fr.knows F hk
        walk_at "m_gow"
        rename Fr _ _ _ _ => F9
        exact h _ _ _ F9.keep
end 
section 
open PySem PySem.W PyProof.Rows
theorem c_levZ {prog : Program} {w : World} {d u : Nat} {fr gs} {s : Shared} {Q E} {p loose mg mb} (X : (Mine.hd.heap_39 w.params).In s.heap) (T : TopRead p loose mg mb s.heap)
   (hA : d < 418) {a b : List Nat} {mc : Nat} {z : Int} {ta tb tm : Tok} (hz : z = (mc : Int)) (ha : a.length ≤ 40) (hb : b.length ≤ 40) (hm : mc ≤ 1000)
   (hca : ∀ c ∈ a, c = 13 ∨ c = 10 ∨ c = 46) (hcb : ∀ c ∈ b, c = 13 ∨ c = 10 ∨ c = 46)
   (h : ∀ t h' tk', (∀ b o, s.heap.get? b = some o → h'.get? b = some o) → Q (.int (levL a b mc : Nat) t) { s with heap := h', toks := tk' }) :
   wpAny (model prog w) ⟨none, d, fr, gs, u⟩ (call (.ref 154) [.str ⟨a.toArray⟩ ta, .str ⟨b.toArray⟩ tb, .int z tm]) Q E s := by
  subst hz
  exact c_lev X T hA ha hb hm hca hcb h
noncomputable def Ev (l : List Nat) : Prop := l.length ≤ 40 ∧ ∀ c ∈ l, c = 13 ∨ c = 10 ∨ c = 46
local macro_rules | `(tactic| walk_at "call ref") => `(tactic| ((with_reducible show wpAny _ _ (call (Value.ref 154) _) _ _ _); (refine' c_levZ ?X ?T ?hA ?hz ?ha ?hb ?hm ?hca ?hcb ?_; walk_at "m_xta"; (case hz => first | exact rfl | assumption); (case ha => assumption); (case hb => assumption); (case hm => first | assumption | omega); (case hca => assumption); (case hcb => assumption)); walk_at "m_kept"))
local macro_rules | `(tactic| walk_at "m_gov") => `(tactic| repeat' ((fail_if_success (with_reducible show wpAny _ _ (call (Value.ref 212) _) _ _ _)); (fail_if_success (with_reducible show wpAny _ _ (compareOp CmpOp.Eq (Value.ref _) (Value.ref _)) _ _ _)); walk_at "m_one"))
theorem five {sts : List WS} (hwb : ∀ z ∈ waysL sts, 0 ≤ z ∧ z ≤ 1000) (hw4 : 1 ≤ (waysL sts).getD 4 0) :
    ∃ n0 n1 n2 n3 n4 : Nat, waysL sts = [(n0 : Int), (n1 : Int), (n2 : Int), (n3 : Int), (n4 : Int)] ∧ n0 ≤ 1000 ∧ n1 ≤ 1000 ∧ n2 ≤ 1000 ∧ n3 ≤ 1000 ∧ n4 ≤ 1000 ∧ 1 ≤ n4 := by
  obtain ⟨a0, a1, a2, a3, a4, e⟩ : ∃ a0 a1 a2 a3 a4 : Int, waysL sts = [a0, a1, a2, a3, a4] := ⟨_, _, _, _, _, rfl⟩
  rw [e] at hwb hw4 ⊢
  have h0 := hwb a0 (by simp)
  have h1 := hwb a1 (by simp)
  have h2 := hwb a2 (by simp)
  have h3 := hwb a3 (by simp)
  have h4 := hwb a4 (by simp)
  have h5 : 1 ≤ a4 := hw4
  refine ⟨a0.toNat, a1.toNat, a2.toNat, a3.toNat, a4.toNat, ?_, by omega, by omega, by omega, by omega, by omega, by omega⟩
  rw [show ((a0.toNat : Nat) : Int) = a0 by omega, show ((a1.toNat : Nat) : Int) = a1 by omega, show ((a2.toNat : Nat) : Int) = a2 by omega, show ((a3.toNat : Nat) : Int) = a3 by omega, show ((a4.toNat : Nat) : Int) = a4 by omega]
theorem ints5 {vs : List Value} {a0 a1 a2 a3 a4 : Int} (h : IntsAre vs [a0, a1, a2, a3, a4]) : ∃ t0 t1 t2 t3 t4, vs = [.int a0 t0, .int a1 t1, .int a2 t2, .int a3 t3, .int a4 t4] := by
  cases h with
  | cons _ t0 h =>
    cases h with
    | cons _ t1 h =>
      cases h with
      | cons _ t2 h =>
        cases h with
        | cons _ t3 h =>
          cases h with
          | cons _ t4 h =>
            cases h
            exact ⟨t0, t1, t2, t3, t4, rfl⟩
theorem c_wr {prog : Program} {w : World} {d u : Nat} {fr gs} {s : Shared} {Q E} {p loose mg mb} (X : (Mine.hd.heap_39 w.params).In s.heap) (T : TopRead p loose mg mb s.heap)
   (hA : d < 416) (hu : u < 1000) {x : List Nat} {t : Tok} {l : Addr} {sts : List WS} (hs : x.length ≤ 100) (hx : Row x) (S : Spaces s.heap l sts) (hb : sts.length ≤ 100) (h1 : 1 ≤ sts.length)
   (hw : ∀ st ∈ sts, 0 ≤ endsOf st ∧ endsOf st ≤ 100) (hn : ∀ st ∈ sts, 0 ≤ st.n ∧ st.n ≤ 100) (ht : ∀ st ∈ sts, 0 ≤ st.nt ∧ st.nt ≤ 100)
   (e1 : Ev (mail x)) (e2 : Ev (fixL (mail x))) (e3 : Ev (qL (fixL (mail x)))) (e4 : Ev (formL [10] false 0 sts)) (e5 : Ev (formL [13] false 0 sts))
   (hq : toldL x sts = waysL sts) (hwb : ∀ z ∈ waysL sts, 0 ≤ z ∧ z ≤ 1000) (hw4 : 1 ≤ (waysL sts).getD 4 0)
   (h : ∀ h' tk', (∀ b o, s.heap.get? b = some o → h'.get? b = some o) → Q (.bool true) { s with heap := h', toks := tk' }) :
   wpAny (model prog w) ⟨none, d, fr, gs, u⟩ (call (.ref 219) [.str ⟨x.toArray⟩ t, .ref l]) Q E s := by
  obtain ⟨l1, m1⟩ := e1
  obtain ⟨l2, m2⟩ := e2
  obtain ⟨l3, m3⟩ := e3
  obtain ⟨l4, m4⟩ := e4
  obtain ⟨l5, m5⟩ := e5
  have hml : (mail x).length ≤ 400 := by omega
  have hfx : (fixL (mail x)).length ≤ 1000 := by omega
  have hx' : ∀ c ∈ x, c = 32 ∨ c = 9 ∨ c = 46 := hx
  have hs9 : sts.length ≤ 1000 := by omega
  refine' enter (binds := [(Str.ofString "row", Value.str ⟨x.toArray⟩ t), (Str.ofString "spaces", .ref l)]) ?X ?T ?ho ?hcd ?hr ?hb ?hl ?_ ?c1 ?c2 ?c3 ?c4
  walk_at "m_in"
  walk_at "m_gov"
  rename Fr _ _ _ _ => F
  rename News _ _ _ _ => N
  refine' c_ways (X.keeps F.keep) (T.keeps F.keep) ?hA (S.keeps F.keep) hb h1 hw hn ht ?_
  case hA => (try dsimp only); omega
  intro D h5 tk5 vs kk hk5 hD5 hnone hI
  dsimp only at hk5 hnone
  obtain ⟨n0, n1, n2, n3, n4, hwl, b0, b1, b2, b3, b4, b5⟩ := five hwb hw4
  rw [hwl] at hI
  obtain ⟨t0, t1, t2, t3, t4, rfl⟩ := ints5 hI
  unfold toldL at hq
  rw [hwl] at hq
  simp only [List.map_cons, List.map_nil, Int.toNat_natCast, List.getD_cons_zero, List.getD_cons_succ, List.cons.injEq, Int.natCast_inj] at hq
  obtain ⟨q0, q1, q2, q3, q4, -⟩ := hq
  have N5 := News.add F N hk5 (objs := [(D, listOf [.int (n0 : Int) t0, .int (n1 : Int) t1, .int (n2 : Int) t2, .int (n3 : Int) t3, .int (n4 : Int) t4].toArray kk)]) (by intro q hq; rw [List.mem_singleton.mp hq]; exact ⟨hD5, hnone⟩)
  have F5 := PyProof.Rows.Fr.keeps F hk5
  have hz4 : (n4 : Int) - 1 = ((n4 - 1 : Nat) : Int) := by omega
  clear F N hD5 hI hnone hwb hw4 hwl hw hn ht
  dsimp only at F5 N5 ⊢
  walk_at "m_gov"
  rename Fr _ _ _ _ => F9
  rename News _ _ _ _ => N9
  rw [q0, q1, q2, q3, q4] at N9
  have sh : PySem.SeqAt.shaped (.list ([(n0 : Int), (n1 : Int), (n2 : Int), (n3 : Int), (n4 : Int)].map PyData.int)) = true := shaped_list (fun d hd => by
    obtain ⟨i, _, rfl⟩ := List.mem_map.mp hd
    exact ⟨rfl, Nat.zero_le 3⟩)
  have hr : PyData.eqv (.list ([(n0 : Int), (n1 : Int), (n2 : Int), (n3 : Int), (n4 : Int)].map PyData.int)) (.list ([(n0 : Int), (n1 : Int), (n2 : Int), (n3 : Int), (n4 : Int)].map PyData.int)) = true := PySem.SeqAt.eqv_refl _ (PySem.SeqAt.canLay_of_shaped sh)
  refine eq_dataH (.list (N9 _ (.head _)).1 rfl rfl (.cons (.int _ _) (.cons (.int _ _) (.cons (.int _ _) (.cons (.int _ _) (.cons (.int _ _) .nil))))))
    (.list (N9 (D, listOf [.int (n0 : Int) t0, .int (n1 : Int) t1, .int (n2 : Int) t2, .int (n3 : Int) t3, .int (n4 : Int) t4].toArray kk) (by simp)).1 rfl rfl (.cons (.int _ _) (.cons (.int _ _) (.cons (.int _ _) (.cons (.int _ _) (.cons (.int _ _) .nil)))))) sh sh ?_ ?_
  · show u + 3 + 64 < 9900; omega
  · (try dsimp only)
    have hr' := hr
    simp only [List.map_cons, List.map_nil] at hr'
    rw [hr']
    (try k_unfold)
    exact h _ _ F9.keep
end 
section 
open PySem PySem.W PyProof.Rows
theorem wsD_is {p : List Nat} (h : Pc p) : wsD (wsL p) = memD p := by
  rw [ws_is h]
  unfold wsD memD
  simp only
  have e : decide (((cntR (aheadL p)).length : Int) ≤ 1) = decide ((cntR (aheadL p)).length ≤ 1) := decide_eq_decide.mpr (by omega)
  rw [e]
theorem mem_row {x : List Nat} (h : Row x) : PyData.eqv (.list ((piecesL (x.count 46 + 1) x).map wsD)) (.list ((splitL 46 x).map memD)) = true := by
  have e : (piecesL (x.count 46 + 1) x).map wsD = (splitL 46 x).map memD := by
    rw [pieces_split h, List.map_map]
    apply List.map_congr_left
    intro p hp
    exact wsD_is (row_pc h p hp)
  rw [e]
  exact PySem.SeqAt.eqv_refl _ (PySem.SeqAt.canLay_of_shaped (shaped_mem _))
end 
section 
open PySem PySem.W PyProof.Rows
theorem newList_push {prog : Program} {w : World} {A : Around} {E : Value → Shared → Prop} {s : Shared} {items : List Value} {Q : Value → Shared → Prop} (hn : items.length ≤ 100) (h : Q (.ref s.heap.objs.size) { s with heap := s.heap.push (listOf items.toArray 0) }) :
    wpAny (model prog w) A (newList items) Q E s := wpAny_newList h (by rw [sizeLine_eq]; omega)
theorem it_atZ {prog : Program} {w : World} {A : Around} {E : Value → Shared → Prop} {s : Shared} {value slice : PySem.Expr} {l : Addr} {xs : List Value} {kk i : Nat} {z : Int} {u : Tok} {v : Value} {Q : Value → Shared → Prop}
    (hz : z = (i : Int)) (hl : s.heap.get? l = some (listOf xs.toArray kk)) (hx : xs[i]? = some v) (hi : i ≤ 1000000) (h : Q v s)
    (hs : subscripted slice false (.ref l) (.int z u) = operate [.ref l, .int z u] (getItem (.ref l) (.int z u))) :
    wpAny (model prog w) A (subscriptTail value slice (.ref l) (.int z u)) Q E s := by
  subst hz
  exact it_at hl hx hi h hs
theorem ints_mem : ∀ {vs : List Value} {ns : List Int} {v : Value}, IntsAre vs ns → v ∈ vs → ∃ n t, v = .int n t
  | _, _, _, .nil, h => nomatch h
  | _, _, _, .cons n t r, h => by
    rcases List.mem_cons.mp h with rfl | h
    · exact ⟨n, t, rfl⟩
    · exact ints_mem r h
theorem strs_of_sg : ∀ {vs : List Value} {l : List Int} {ys : List Value}, IntsAre vs l → Paired (fun a y => ∃ v, v = a ∧ ∃ n t u, v = Value.int n t ∧ y = Value.str ⟨#[sgC n]⟩ u) vs ys → Paired (fun a y => ∃ t, y = Value.str ⟨#[sgC a]⟩ t) l ys
  | _, _, _, .nil, h => by cases h; exact .nil
  | _, _, _, .cons n t r, h => by
    cases h with
    | cons a b =>
      obtain ⟨v, e1, m, t', u, e2, e3⟩ := a
      subst e1
      injection e2 with e4 e5
      subst e4
      exact .cons ⟨u, e3⟩ (strs_of_sg r b)
local macro_rules | `(tactic| walk_at "m_gor") => `(tactic| repeat' ((fail_if_success (with_reducible show wpAny _ _ (call (Value.ref _) _) _ _ _)); walk_at "m_one"))
theorem tail_is : (Str.ofString " . \t").cps.toList = [32, 46, 32, 9] := by decide +kernel
theorem row_lt {x : List Nat} (h : Row x) : ∀ c ∈ x, c < 128 := fun c hc => by rcases h c hc with h | h | h <;> omega
theorem short_is {sg : List Nat} (hl : sg.length ≤ 14) (hr : Row sg) : ∃ z, (sg ++ [32, 46, 32, 9]).drop ((sg ++ [32, 46, 32, 9]).length - (- (-9 : Int)).toNat) = z ++ tailL ∧ z.length ≤ 5 ∧ Row z := by
  have e : (- (-9 : Int)).toNat = 9 := rfl
  have e2 : (sg ++ [32, 46, 32, 9]).length = sg.length + 4 := by simp
  rw [e, e2]
  refine ⟨sg.drop (sg.length + 4 - 9), ?_, ?_, row_drop hr⟩
  · rw [List.drop_append_of_le_length (by omega)]; rfl
  · rw [List.length_drop]; omega
theorem ev_of {l : List Nat} (h : evB l = true) : Ev l := by
  unfold evB at h
  rw [Bool.and_eq_true, decide_eq_true_eq, List.all_eq_true] at h
  exact ⟨h.1, fun c hc => of_decide_eq_true (h.2 c hc)⟩
theorem ok_facts {y : List Nat} (h : okW y = true) : toldL y (piecesL (y.count 46 + 1) y) = waysL (piecesL (y.count 46 + 1) y) ∧ (∀ z ∈ waysL (piecesL (y.count 46 + 1) y), 0 ≤ z ∧ z ≤ 1000) ∧ 1 ≤ (waysL (piecesL (y.count 46 + 1) y)).getD 4 0 ∧
    Ev (mail y) ∧ Ev (fixL (mail y)) ∧ Ev (qL (fixL (mail y))) ∧ Ev (formL [10] false 0 (piecesL (y.count 46 + 1) y)) ∧ Ev (formL [13] false 0 (piecesL (y.count 46 + 1) y)) ∧
    ∀ st ∈ piecesL (y.count 46 + 1) y, (0 ≤ st.n ∧ st.n ≤ 100) ∧ (0 ≤ st.nt ∧ st.nt ≤ 100) := by
  unfold okW at h
  simp only [Bool.and_eq_true] at h
  obtain ⟨⟨⟨⟨⟨⟨⟨⟨h1, h2⟩, h3⟩, h4⟩, h5⟩, h6⟩, h7⟩, h8⟩, h9⟩ := h
  refine ⟨of_decide_eq_true h1, fun z hz => of_decide_eq_true (List.all_eq_true.mp h2 z hz), of_decide_eq_true h3, ev_of h4, ev_of h5, ev_of h6, ev_of h7, ev_of h8, fun st hst => ?_⟩
  have := of_decide_eq_true (List.all_eq_true.mp h9 st hst)
  omega
noncomputable def LawEnd (h₀ : Heap) (s : Shared) (fl : Flow) (s' : Shared) : Prop := fl = .ret (.bool true) ∧ ∃ h' tk', s' = { s with heap := h', toks := tk' } ∧ ∀ b o, h₀.get? b = some o → h'.get? b = some o
theorem law_holds : PySem.Challenge.rw_pe0216_01.Holds := by
  refine Mine.hd ?_
  k_fill
  intro w s₀ s₁ mg mb G Y fa o pm cd doc dV kV ho hd hcd hD hmg hg args vals as hpre hlay hrd hwl hlo
  have KX := kIn_of Y
  have X0 := (Ground.X G).1
  have V0 := (Ground.X G).2
  refine Ground.open G ?_
  intro T B D TE TW
  try (refine guard_noD D (by decide +kernel) ?_; clear D)
  obtain ⟨_, _, M⟩ := bmod_of_top T
  have TA := at_of_top T
  try (obtain ⟨_, _, he, B0⟩ := based_of_top T rfl hmg ho hd; have he' : cd = _ := he; subst he'; clear he)
  clear hmg
  wrow_args hpre hlay hrd hwl hlo
  all_goals (
    first | refine callC_kw (enter_call ?_) | refine enter_call ?_ | refine callC_kw (enter_callW ?_) | refine enter_callW ?_ | w_how
    w_top on
    try refine codeAny_mono ?_ (fun _ _ g => GoodW.toG g)
    have K0 := below_caller (Top.heap T)
    w_call any ho hd hcd hD T F
    clear hd TA
    k_drop
    skip)
  all_goals try k_fold
  rename Top _ _ _ _ _ _ => T0
  have T := topRead_of T0
  rename (Mine.hd.heap_39 _).In _ => X
  rename IntsAre _ _ => hI
  rename List Int => ns
  rename Heap.IsList _ _ _ => hL
  rename Fr _ _ _ _ => F
  rename News _ _ _ _ => N
  rename Shared => s1
  refine wpAny_mono (Q := LawEnd s1.heap s1) (E := fun _ _ => False) ?main ?fin (fun _ _ e => e.elim)
  case fin =>
    rintro fl s' ⟨rfl, h', tk', rfl, hk⟩
    dsimp only
    refine ⟨.inl ⟨.bool true, .bool true, [], rfl, ?_, .bool true, ?_, unshared_nil⟩, hk, rfl, by assumption⟩
    · intro cls
      rfl
    · first
        | wrow_post
        | kc_post
  case main =>
    have hlen : ns.length ≤ 63 := by omega
    (rename Below _ _ _ _ => K0); clear K0 T0
    obtain ⟨p9, loose9, mg9, mb9, T9⟩ : ∃ p loose mg mb, TopRead p loose mg mb s1.heap := ⟨_, _, _, _, T⟩
    clear T
    have T := T9
    clear T9
    walk_at "m_goc"
    walk_at "m_comp"
    iterate 8 walk1
    clear hI hL
    rename Fr _ _ _ _ => F
    rename News _ _ _ _ => N
    rename IntsAre _ _ => hI
    refine comp_x (fun v y _ => ∃ n t u, v = Value.int n t ∧ y = .str ⟨#[sgC n]⟩ u) (fun _ _ _ _ _ h => h) F N (gives_list rfl ⟨_, (N _ (.head _)).1, rfl, _, rfl⟩) ?hz ?hcell rfl ?hx ?helt ?hQ
    case hz => rw [hI.length, List.length_take, sizeLine_eq]; omega
    case hcell => decide
    case hx => decide
    case helt =>
      intro C a v hp tk m₂ ha hv FC NC
      subst hv
      obtain ⟨n, t, rfl⟩ := ints_mem hI ha
      dsimp only at FC NC ⊢
      iterate 9 walk1
      refine newList_push (by simp) ?_
      have FC2 := FC.push (listOf [Value.str (Str.ofString " ") tk, Value.str (Str.ofString "\t") (tk + 1), Value.str (Str.ofString ".") (tk + 1 + 1)].toArray 0)
      dsimp only at FC2 ⊢
      iterate 4 walk1
      have hfm : n.fmod 3 = n % 3 := Int.fmod_eq_emod_of_nonneg _ (by decide)
      rw [hfm]
      have h3 : n % 3 = 0 ∨ n % 3 = 1 ∨ n % 3 = 2 := by omega
      rcases h3 with h3 | h3 | h3
      · refine it_atZ (i := 0) (by omega) (Heap.get?_push_size _ rfl) rfl (by decide) ?_ (by with_unfolding_all rfl)
        exact ⟨⟨_, _, rfl, fun b o e => Heap.get?_push_of_some _ e⟩, [], ⟨n, t, _, rfl, by unfold sgC; rw [if_pos h3, sp_is]⟩, by simp⟩
      · refine it_atZ (i := 1) (by omega) (Heap.get?_push_size _ rfl) rfl (by decide) ?_ (by with_unfolding_all rfl)
        exact ⟨⟨_, _, rfl, fun b o e => Heap.get?_push_of_some _ e⟩, [], ⟨n, t, _, rfl, by unfold sgC; rw [if_neg (by omega), if_pos h3, tb_is]⟩, by simp⟩
      · refine it_atZ (i := 2) (by omega) (Heap.get?_push_size _ rfl) rfl (by decide) ?_ (by with_unfolding_all rfl)
        exact ⟨⟨_, _, rfl, fun b o e => Heap.get?_push_of_some _ e⟩, [], ⟨n, t, _, rfl, by unfold sgC; rw [if_neg (by omega), if_neg (by omega), dot_is]⟩, by simp⟩
    case hQ =>
      intro D k ys all h'' tk hP F N hne
      dsimp only at F N ⊢
      have hs := strs_of_sg hI hP
      have hD := (N _ (.head _)).1
      replace N := news_none (h' := h'') N
      clear hP hne
      walk1
      refine join_chars (f := sgC) (l := ns.take 14) ⟨_, hD, rfl, _, rfl⟩ hs (by rw [List.length_take]; omega) ?_
      intro t' k'
      generalize hsg : (ns.take 14).map sgC = sg
      have hsl14 : sg.length ≤ 14 := by rw [← hsg, List.length_map, List.length_take]; omega
      have hsr : Row sg := by rw [← hsg]; exact sg_row _
      clear hs hsg hI
      dsimp only
      walk_at "m_gor"
      rw [tail_is]
      rename Fr _ _ _ _ => F
      rename News _ _ _ _ => N
      rw [tail_is] at F
      generalize hx : sg ++ [32, 46, 32, 9] = x at F
      have hxl : x.length ≤ 18 := by rw [← hx, List.length_append]; simp; omega
      have hxr : Row x := by rw [← hx]; exact row_app hsr tail_row
      refine' c_pieces (row := x) (X.keeps F.keep) (T.keeps F.keep) ?hA1 (by omega) (fun c hc => row_lt hxr c hc) ?_
      case hA1 => decide
      intro l h2 tk2 objs hk2 hob2 hSp
      dsimp only at hk2 hob2
      have N2 := News.add F N hk2 hob2
      have F2 := PyProof.Rows.Fr.keeps F hk2
      clear F N hk2 hob2
      have hpe := pieces_ends hxr (by omega)
      have hpl := pieces_len hxr
      have hfx := fix_row hxr
      have hqx := quote_row hxr
      have hox := oct_row hxr
      have hoi := oct_row_in hxr
      have hmr := mem_row hxr
      have hsl := (splitL_len 46 x).1
      generalize piecesL (x.count 46 + 1) x = sts at hSp hpe hpl hfx hqx hox hoi hmr
      dsimp only
      walk_at "m_gor"
      rename Fr _ _ _ _ => F
      rename News _ _ _ _ => N
      refine' c_memr (x := x) (X.keeps F.keep) (T.keeps F.keep) ?hA2 ?hu2 (by omega) (hSp _ (fun q hq => (N q (List.mem_append_left _ hq)).1)) (by omega) ?_
      case hA2 => decide
      case hu2 => decide
      intro h3 tk3 hk3
      rw [hmr]
      have N2 := PyProof.Rows.News.grown N hk3
      have F2 := PyProof.Rows.Fr.keeps F hk3
      clear F N hk3
      dsimp only at N2 F2 ⊢
      walk_at "m_gor"
      rename Fr _ _ _ _ => F
      rename News _ _ _ _ => N
      refine' c_sent (x := x) (X.keeps F.keep) (T.keeps F.keep) ?hA3 (by omega) hxr (hSp _ (fun q hq => (N q (List.mem_append_left _ hq)).1)) hpl hpe hfx hqx hox hoi (fix_row_len (by omega)) (q_row_len (by omega)) ?_
      case hA3 => decide
      intro h4 tk4 hk4
      have N2 := PyProof.Rows.News.grown N hk4
      have F2 := PyProof.Rows.Fr.keeps F hk4
      clear F N hk4
      dsimp only at N2 F2 ⊢
      walk_at "m_gor"
      clear hSp hpe hpl hfx hqx hox hoi hmr hsl
      rw [sl_from_neg (by decide)]
      rename Fr _ _ _ _ => F
      rename News _ _ _ _ => N
      rw [sl_from_neg (by decide)] at F
      obtain ⟨z, hz, hzl, hzr⟩ : ∃ z, x.drop (x.length - (- (-9 : Int)).toNat) = z ++ tailL ∧ z.length ≤ 5 ∧ Row z := by rw [← hx]; exact short_is hsl14 hsr
      have hok := ok_short hzl hzr
      rw [← hz] at hok
      have hyl : (x.drop (x.length - (- (-9 : Int)).toNat)).length ≤ 18 := by rw [List.length_drop]; omega
      have hyr : Row (x.drop (x.length - (- (-9 : Int)).toNat)) := row_drop hxr
      generalize x.drop (x.length - (- (-9 : Int)).toNat) = y at F hok hyl hyr
      clear hz hzl hzr hx hxl hxr hsr
      refine' c_pieces (row := y) (X.keeps F.keep) (T.keeps F.keep) ?hA4 (by omega) (fun c hc => row_lt hyr c hc) ?_
      case hA4 => decide
      intro l2 h5 tk5 objs2 hk5 hob5 hSp
      dsimp only at hk5 hob5
      have N2 := News.add F N hk5 hob5
      have F2 := PyProof.Rows.Fr.keeps F hk5
      clear F N hk5 hob5
      have hpe := pieces_ends hyr (by omega)
      have hpl := pieces_len hyr
      have hfx := fix_row hyr
      have hqx := quote_row hyr
      have hox := oct_row hyr
      have hoi := oct_row_in hyr
      have hsl := (splitL_len 46 y).1
      have hsp := List.length_pos_iff.mpr (splitL_ne 46 y)
      obtain ⟨w1, w2, w3, e1, e2, e3, e4, e5, w4⟩ := ok_facts hok
      clear hok
      generalize piecesL (y.count 46 + 1) y = sts at hSp hpe hpl hfx hqx hox hoi w1 w2 w3 e4 e5 w4
      dsimp only
      walk_at "m_gor"
      rename Fr _ _ _ _ => F
      rename News _ _ _ _ => N
      refine' c_sent (x := y) (X.keeps F.keep) (T.keeps F.keep) ?hA5 (by omega) hyr (hSp _ (fun q hq => (N q (List.mem_append_left _ hq)).1)) hpl hpe hfx hqx hox hoi (fix_row_len (by omega)) (q_row_len (by omega)) ?_
      case hA5 => decide
      intro h6 tk6 hk6
      have N2 := PyProof.Rows.News.grown N hk6
      have F2 := PyProof.Rows.Fr.keeps F hk6
      clear F N hk6
      dsimp only at N2 F2 ⊢
      walk_at "m_gor"
      rename Fr _ _ _ _ => F
      rename News _ _ _ _ => N
      refine' c_wr (x := y) (X.keeps F.keep) (T.keeps F.keep) ?hA6 ?hu6 (by omega) hyr (hSp _ (fun q hq => (N q (List.mem_append_left _ hq)).1)) (by omega) (by omega) hpe (fun st hs => (w4 st hs).1) (fun st hs => (w4 st hs).2) e1 e2 e3 e4 e5 w1 w2 w3 ?_
      case hA6 => decide
      case hu6 => decide
      intro h7 tk7 hk7
      have F2 := PyProof.Rows.Fr.keeps F hk7
      walk_at "m_gor"
      exact ⟨rfl, _, _, rfl, F2.keep⟩
end 
end Mine
theorem PySem.Challenge.cw_pe0216_01_holds : PySem.Challenge.rw_pe0216_01.Holds := by
  exact Mine.law_holds
