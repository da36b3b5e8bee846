import PyProof.Rows.All
import Wide.All
import OpenK.AllK
import Wide.FinOn
import PySem.Challenge.RW_wn0007_01
set_option Elab.async false
section
open PySem PySem.W PyProof.Rows
set_option maxRecDepth 100000
set_option maxHeartbeats 8000000
namespace Mine
open_top hd for PySem.Challenge.rw_wn0007_01
end Mine
end
section
open PySem PySem.W PyProof.Rows
set_option maxRecDepth 100000
namespace Mine
theorem slot_sub : Slot "re.Pattern" "sub" "re.Pattern.sub" :=
  .of (owner := "re.Pattern") (n := "sub") (by rw [typeLookup_type, builtinLookup_eq_fast]; kernel_rfl) (by decide +kernel) (by decide +kernel) (by decide +kernel)
    (by first | exact .inl (by decide +kernel) | exact .inr (by decide +kernel)) (by rw [isSubtype_type]; kernel_rfl)
theorem type_sub : typeOf (.builtin "re.Pattern.sub") = pure (.type "method_descriptor") := by show builtinType _ = _; rw [builtinType_eq_fast]; kernel_rfl
theorem entry_sub : entryFor table "re.Pattern.sub" = some Builtin.«re.Pattern.sub» := entryFor_of_tree (by kernel_rfl)
theorem entry_loop : entryFor table "re.Pattern.sub.loop" = some Builtin.«re.Pattern.sub.loop» := entryFor_of_tree (by kernel_rfl)
theorem args_sub (a b c : Value) : argsOk "re.Pattern.sub" ⟨[a, b, c], []⟩ := by unfold argsOk; kernel_rfl
end Mine
end
section
open PySem PySem.Sre
set_option maxRecDepth 100000
namespace Mine
/-! the pattern's machine, plainly -/
def code1 : Array Nat := #[14, 4, 0, 1, 1, 6, 1, 16, 46, 1]
def code2 : Array Nat := #[14, 9, 4, 1, 2, 16, 10, 16, 13, 0, 7, 7, 16, 13, 16, 10, 15, 18, 5, 16, 10, 15, 13, 11, 16, 13, 5, 5, 0, 16, 10, 1, 15, 2, 0, 1]

theorem runFor_some (n : Nat) (m : M) (h : m.outcome.isSome = true) : M.runFor n m = m := by
  cases n with
  | zero => rfl
  | succ n => simp [M.runFor, h]
theorem runFor_succ (n : Nat) (m : M) (h : m.outcome.isSome = false) : M.runFor (n + 1) m = M.runFor n m.step := by
  simp [M.runFor, h]
theorem runFor_add (a b : Nat) (m : M) : M.runFor (a + b) m = M.runFor b (M.runFor a m) := by
  induction a generalizing m with
  | zero => rw [Nat.zero_add]; rfl
  | succ a ih =>
    rw [Nat.succ_add]
    cases h : m.outcome.isSome with
    | true => rw [runFor_some _ _ h, runFor_some _ _ h, runFor_some _ _ h]
    | false => rw [runFor_succ _ _ h, runFor_succ _ _ h]; exact ih _

/-- the machine comes to an end e within n steps -/
def Ends (m : M) (n : Nat) (P : M → Prop) : Prop := ∃ k e, k ≤ n ∧ M.runFor k m = e ∧ P e
theorem Ends.now {m : M} {P : M → Prop} {n : Nat} (h : P m) : Ends m n P := ⟨0, m, Nat.zero_le _, rfl, h⟩
theorem Ends.step {m m' : M} {n : Nat} {P : M → Prop} (e : m.step = m') (ho : m.outcome.isSome = false) (h : Ends m' n P) : Ends m (n + 1) P := by
  obtain ⟨k, x, hk, hx, hp⟩ := h
  refine ⟨k + 1, x, Nat.succ_le_succ hk, ?_, hp⟩
  rw [runFor_succ _ _ ho, e, hx]
theorem Ends.mono {m : M} {n n' : Nat} {P P' : M → Prop} (h : Ends m n P) (hn : n ≤ n') (hP : ∀ e, P e → P' e) : Ends m n' P' := by
  obtain ⟨k, x, hk, hx, hp⟩ := h
  exact ⟨k, x, Nat.le_trans hk hn, hx, hP x hp⟩

/-- a state of a search -/
def st (code text : Array Nat) (q pc pos hd : Nat) (om : Bool) (frames : List Sre.Frame) (w : Nat) (ans : Option Bool) (seen : Seen) : M :=
  { code, text, lim := text.size, start := q, lastStart := text.size, mustAdvance := false, pc, pos, handed := hd, outermost := om,
    marks := #[], frames, weight := w, answer := ans, seen }
def fr0 (pc q : Nat) (om : Bool) : Sre.Frame := { wait := .nextStart, pc, pos := q, outermost := om }
def Found (q e : Nat) (m : M) : Prop := m.start = q ∧ m.handed = e ∧ (match m.outcome with | some .matched => True | _ => False)
def NotFound (m : M) : Prop := match m.outcome with | some .failed => True | _ => False

section one
variable {text : Array Nat} {q hd : Nat} {om : Bool} {seen : Seen}
def at1 (text : Array Nat) (q hd : Nat) (om : Bool) (seen : Seen) : M := st code1 text q 5 q hd om [fr0 5 q om] 1 none seen
theorem at1_step : (at1 text q hd om seen).step =
    if (q == 0 || text.getD (q - 1) 0 == 10) = true then st code1 text q 7 q hd om [fr0 5 q om] 1 none ((seen.add 6).add 44) else st code1 text q 5 q hd om [fr0 5 q om] 1 (some false) ((seen.add 6).add 44) := rfl
theorem at1_lit0 (h : q ≥ text.size) : (st code1 text q 7 q hd om [fr0 5 q om] 1 none seen).step = st code1 text q 7 q hd om [fr0 5 q om] 1 (some false) (seen.add 16) := by
  show (if q ≥ text.size then st code1 text q 7 q hd om [fr0 5 q om] 1 (some false) (seen.add 16) else _) = _
  rw [if_pos h]
theorem at1_litT (hq : ¬ q ≥ text.size) (h : (text.getD q 0 == 46) = true) : (st code1 text q 7 q hd om [fr0 5 q om] 1 none seen).step = st code1 text q 9 (q + 1) hd om [fr0 5 q om] 1 none (seen.add 16) := by
  show (if q ≥ text.size then _ else match (Except.ok (text.getD q 0 == 46, seen.add 16) : Except String (Bool × Seen)) with
    | .error why => _
    | .ok (false, seen) => st code1 text q 7 q hd om [fr0 5 q om] 1 (some false) seen
    | .ok (true, seen) => st code1 text q 9 (q + 1) hd om [fr0 5 q om] 1 none seen) = _
  rw [if_neg hq, h]
theorem at1_litF (hq : ¬ q ≥ text.size) (h : (text.getD q 0 == 46) = false) : (st code1 text q 7 q hd om [fr0 5 q om] 1 none seen).step = st code1 text q 7 q hd om [fr0 5 q om] 1 (some false) (seen.add 16) := by
  show (if q ≥ text.size then _ else match (Except.ok (text.getD q 0 == 46, seen.add 16) : Except String (Bool × Seen)) with
    | .error why => _
    | .ok (false, seen) => st code1 text q 7 q hd om [fr0 5 q om] 1 (some false) seen
    | .ok (true, seen) => st code1 text q 9 (q + 1) hd om [fr0 5 q om] 1 none seen) = _
  rw [if_neg hq, h]
theorem at1_succ {p : Nat} : (st code1 text q 9 p hd om [fr0 5 q om] 1 none seen).step = st code1 text q 9 p p om [fr0 5 q om] 1 (some true) (seen.add 1) := by
  cases om <;> rfl
theorem at1_yes {pc p : Nat} : (st code1 text q pc p hd om [fr0 5 q om] 1 (some true) seen).step = st code1 text q 5 q hd om [] 0 (some true) seen := rfl
theorem at1_end {pc p : Nat} {y : Bool} : (st code1 text q pc p hd om [] 0 (some y) seen).step = { st code1 text q pc p hd om [] 0 (some y) seen with outcome := some (if y then .matched else .failed) } := rfl
theorem at1_no {pc p : Nat} : (st code1 text q pc p hd om [fr0 5 q om] 1 (some false) seen).step =
    if q < text.size then at1 text (q + 1) (q + 1) false seen else st code1 text q 5 q hd om [] 0 (some false) seen := rfl

def hit1 (text : Array Nat) (q : Nat) : Bool := (q == 0 || text.getD (q - 1) 0 == 10) && decide (q < text.size) && text.getD q 0 == 46
theorem at1_hit (h : hit1 text q = true) : Ends (at1 text q hd om seen) 5 (Found q (q + 1)) := by
  simp only [hit1, Bool.and_eq_true, decide_eq_true_eq] at h
  obtain ⟨⟨h1, h2⟩, h3⟩ := h
  refine .step (at1_step.trans (if_pos h1)) rfl ?_
  refine .step (at1_litT (Nat.not_le.mpr h2) h3) rfl ?_
  refine .step at1_succ rfl (.step at1_yes rfl (.step at1_end rfl (.now ⟨rfl, rfl, trivial⟩)))
theorem at1_miss (h : hit1 text q = false) (hq : q < text.size) {n : Nat} {P : M → Prop} (hP : ∀ seen, Ends (at1 text (q + 1) (q + 1) false seen) n P) : Ends (at1 text q hd om seen) (n + 3) P := by
  cases h1 : (q == 0 || text.getD (q - 1) 0 == 10) with
  | false =>
    refine .mono (n := n + 2) (.step (at1_step.trans (by rw [h1]; rfl)) rfl (.step (at1_no.trans (if_pos hq)) rfl (hP _))) (by omega) fun _ x => x
  | true =>
    refine .step (at1_step.trans (if_pos h1)) rfl ?_
    have h3 : (text.getD q 0 == 46) = false := by
      unfold hit1 at h
      rw [h1, decide_eq_true hq] at h
      simpa using h
    refine .step (at1_litF (Nat.not_le.mpr hq) h3) rfl ?_
    exact .step (at1_no.trans (if_pos hq)) rfl (hP _)
theorem at1_last (hq : q = text.size) : Ends (at1 text q hd om seen) 4 NotFound := by
  have hn : ¬ q < text.size := by omega
  cases h1 : (q == 0 || text.getD (q - 1) 0 == 10) with
  | false =>
    refine .mono (n := 3) (.step (at1_step.trans (by rw [h1]; rfl)) rfl (.step (at1_no.trans (if_neg hn)) rfl (.step at1_end rfl (.now trivial)))) (by omega) fun _ x => x
  | true =>
    refine .step (at1_step.trans (if_pos h1)) rfl ?_
    refine .step (at1_lit0 (by omega)) rfl ?_
    exact .step (at1_no.trans (if_neg hn)) rfl (.step at1_end rfl (.now trivial))
theorem at1_some (p k : Nat) (hm : ∀ i, i < k → hit1 text (p + i) = false) (hh : hit1 text (p + k) = true) : ∀ hd om seen, Ends (at1 text p hd om seen) (3 * k + 5) (Found (p + k) (p + k + 1)) := by
  induction k generalizing p with
  | zero => intro hd om seen; exact at1_hit hh
  | succ k ih =>
    intro hd om seen
    have h2 : p + (k + 1) < text.size := by
      simp only [hit1, Bool.and_eq_true, decide_eq_true_eq] at hh
      exact hh.1.2
    have e : p + (k + 1) = p + 1 + k := by omega
    rw [e] at hh ⊢
    exact at1_miss (hm 0 (by omega)) (by omega) (n := 3 * k + 5) fun seen => ih (p + 1) (fun i hi => by have := hm (i + 1) (by omega); rwa [show p + (i + 1) = p + 1 + i by omega] at this) hh _ _ _
theorem at1_none (p k : Nat) (hk : p + k = text.size) (hm : ∀ i, i < k → hit1 text (p + i) = false) : ∀ hd om seen, Ends (at1 text p hd om seen) (3 * k + 4) NotFound := by
  induction k generalizing p with
  | zero => intro hd om seen; exact at1_last (by omega)
  | succ k ih =>
    intro hd om seen
    exact at1_miss (hm 0 (by omega)) (by omega) (n := 3 * k + 4) fun seen => ih (p + 1) (by omega) (fun i hi => by have := hm (i + 1) (by omega); rwa [show p + (i + 1) = p + 1 + i by omega] at this) _ _ _
theorem search1 {p : Nat} (hp : p ≤ text.size) : ∃ seen, Sre.forSearch code1 text 0 p text.size false =
    if p = text.size then { (st code1 text p 5 p p true [] 0 (some false) seen) with lastStart := 0 } else at1 text p p true seen := by
  by_cases h : p = text.size
  · refine ⟨({} : Seen).add 14, ?_⟩
    rw [if_pos h]
    unfold Sre.forSearch
    have e : (decide (p > text.size) || decide (text.size - p < (Sre.header code1).1)) = true := by
      simp [Sre.header, code1, Sre.ops, h]
    simp only [e, if_true]
    rfl
  · refine ⟨({} : Seen).add 14, ?_⟩
    rw [if_neg h]
    unfold Sre.forSearch
    have e : (decide (p > text.size) || decide (text.size - p < (Sre.header code1).1)) = false := by
      have : (Sre.header code1).1 = 1 := rfl
      rw [this]
      simp; omega
    simp only [e, Bool.false_eq_true, if_false]
    rfl
end one

section two
variable {text : Array Nat} {q p hd : Nat} {om : Bool} {seen : Seen} {fr : List Sre.Frame} {w : Nat}
def br (k q : Nat) (om : Bool) : Sre.Frame := { wait := .nextBranch, pc := k, pos := q, outermost := om }
def ln (q : Nat) (om : Bool) : Sre.Frame := { wait := .lookNot, pc := 26, pos := q, outermost := om }
def at2 (text : Array Nat) (q hd : Nat) (om : Bool) (seen : Seen) : M := st code2 text q 10 q hd om [fr0 10 q om] 1 none seen
theorem at2_step : (at2 text q hd om seen).step = st code2 text q 12 q q om [br 11 q om, fr0 10 q om] 2 none (seen.add 7) := rfl
theorem at2_no1 {pc : Nat} : (st code2 text q pc p hd om [br 11 q om, fr0 10 q om] 2 (some false) seen).step = st code2 text q 19 q q om [br 18 q om, fr0 10 q om] 2 none seen := rfl
theorem at2_no2 {pc : Nat} : (st code2 text q pc p hd om [br 18 q om, fr0 10 q om] 2 (some false) seen).step = st code2 text q 24 q q om [br 23 q om, fr0 10 q om] 2 none seen := rfl
theorem at2_not {p : Nat} : (st code2 text q 26 p hd om [br 23 q om, fr0 10 q om] 2 none seen).step = st code2 text q 29 p p false [ln p om, br 23 q om, fr0 10 q om] 3 none (seen.add 5) := rfl
theorem at2_noL {pc p' : Nat} : (st code2 text q pc p' hd false [ln p om, br 23 q om, fr0 10 q om] 3 (some false) seen).step = st code2 text q 32 p hd om [br 23 q om, fr0 10 q om] 2 none seen := rfl
theorem at2_yes1 {pc k : Nat} : (st code2 text q pc p hd om [br k q om, fr0 10 q om] 2 (some true) seen).step = st code2 text q k q hd om [fr0 10 q om] 1 (some true) seen := rfl
theorem at2_yes2 {pc : Nat} : (st code2 text q pc p hd om [fr0 10 q om] 1 (some true) seen).step = st code2 text q 10 q hd om [] 0 (some true) seen := rfl
theorem at2_end {pc : Nat} {y : Bool} : (st code2 text q pc p hd om [] 0 (some y) seen).step = { st code2 text q pc p hd om [] 0 (some y) seen with outcome := some (if y then .matched else .failed) } := rfl
theorem at2_succ : (st code2 text q 35 p hd om fr w none seen).step = st code2 text q 35 p p om fr w (some true) (seen.add 1) := by cases om <;> rfl
theorem at2_jump16 : (st code2 text q 16 p hd om fr w none seen).step = st code2 text q 35 p hd om fr w none (seen.add 15) := rfl
theorem at2_jump21 : (st code2 text q 21 p hd om fr w none seen).step = st code2 text q 35 p hd om fr w none (seen.add 15) := rfl
theorem at2_jump32 : (st code2 text q 32 p hd om fr w none seen).step = st code2 text q 35 p hd om fr w none (seen.add 15) := rfl
theorem at2_lit12T (hq : p < text.size) (h : text.getD p 0 = 13) : (st code2 text q 12 p hd om fr w none seen).step = st code2 text q 14 (p + 1) hd om fr w none (seen.add 16) := by
  show (if p ≥ text.size then _ else match (Except.ok (text.getD p 0 == 13, seen.add 16) : Except String (Bool × Seen)) with
    | .error why => _
    | .ok (false, seen) => st code2 text q 12 p hd om fr w (some false) seen
    | .ok (true, seen) => st code2 text q 14 (p + 1) hd om fr w none seen) = _
  rw [if_neg (Nat.not_le.mpr hq), show (text.getD p 0 == 13) = true from beq_iff_eq.mpr h]
theorem at2_lit12F (hq : p < text.size → text.getD p 0 ≠ 13) : (st code2 text q 12 p hd om fr w none seen).step = st code2 text q 12 p hd om fr w (some false) (seen.add 16) := by
  by_cases h : p < text.size
  · show (if p ≥ text.size then _ else match (Except.ok (text.getD p 0 == 13, seen.add 16) : Except String (Bool × Seen)) with
    | .error why => _
    | .ok (false, seen) => st code2 text q 12 p hd om fr w (some false) seen
    | .ok (true, seen) => st code2 text q 14 (p + 1) hd om fr w none seen) = _
    rw [if_neg (Nat.not_le.mpr h), show (text.getD p 0 == 13) = false from beq_false_of_ne (hq h)]
  · show (if p ≥ text.size then st code2 text q 12 p hd om fr w (some false) (seen.add 16) else _) = _
    rw [if_pos (Nat.not_lt.mp h)]
theorem at2_lit14T (hq : p < text.size) (h : text.getD p 0 = 10) : (st code2 text q 14 p hd om fr w none seen).step = st code2 text q 16 (p + 1) hd om fr w none (seen.add 16) := by
  show (if p ≥ text.size then _ else match (Except.ok (text.getD p 0 == 10, seen.add 16) : Except String (Bool × Seen)) with
    | .error why => _
    | .ok (false, seen) => st code2 text q 14 p hd om fr w (some false) seen
    | .ok (true, seen) => st code2 text q 16 (p + 1) hd om fr w none seen) = _
  rw [if_neg (Nat.not_le.mpr hq), show (text.getD p 0 == 10) = true from beq_iff_eq.mpr h]
theorem at2_lit14F (hq : p < text.size → text.getD p 0 ≠ 10) : (st code2 text q 14 p hd om fr w none seen).step = st code2 text q 14 p hd om fr w (some false) (seen.add 16) := by
  by_cases h : p < text.size
  · show (if p ≥ text.size then _ else match (Except.ok (text.getD p 0 == 10, seen.add 16) : Except String (Bool × Seen)) with
    | .error why => _
    | .ok (false, seen) => st code2 text q 14 p hd om fr w (some false) seen
    | .ok (true, seen) => st code2 text q 16 (p + 1) hd om fr w none seen) = _
    rw [if_neg (Nat.not_le.mpr h), show (text.getD p 0 == 10) = false from beq_false_of_ne (hq h)]
  · show (if p ≥ text.size then st code2 text q 14 p hd om fr w (some false) (seen.add 16) else _) = _
    rw [if_pos (Nat.not_lt.mp h)]
theorem at2_lit19T (hq : p < text.size) (h : text.getD p 0 = 10) : (st code2 text q 19 p hd om fr w none seen).step = st code2 text q 21 (p + 1) hd om fr w none (seen.add 16) := by
  show (if p ≥ text.size then _ else match (Except.ok (text.getD p 0 == 10, seen.add 16) : Except String (Bool × Seen)) with
    | .error why => _
    | .ok (false, seen) => st code2 text q 19 p hd om fr w (some false) seen
    | .ok (true, seen) => st code2 text q 21 (p + 1) hd om fr w none seen) = _
  rw [if_neg (Nat.not_le.mpr hq), show (text.getD p 0 == 10) = true from beq_iff_eq.mpr h]
theorem at2_lit19F (hq : p < text.size → text.getD p 0 ≠ 10) : (st code2 text q 19 p hd om fr w none seen).step = st code2 text q 19 p hd om fr w (some false) (seen.add 16) := by
  by_cases h : p < text.size
  · show (if p ≥ text.size then _ else match (Except.ok (text.getD p 0 == 10, seen.add 16) : Except String (Bool × Seen)) with
    | .error why => _
    | .ok (false, seen) => st code2 text q 19 p hd om fr w (some false) seen
    | .ok (true, seen) => st code2 text q 21 (p + 1) hd om fr w none seen) = _
    rw [if_neg (Nat.not_le.mpr h), show (text.getD p 0 == 10) = false from beq_false_of_ne (hq h)]
  · show (if p ≥ text.size then st code2 text q 19 p hd om fr w (some false) (seen.add 16) else _) = _
    rw [if_pos (Nat.not_lt.mp h)]
theorem at2_lit24T (hq : p < text.size) (h : text.getD p 0 = 13) : (st code2 text q 24 p hd om fr w none seen).step = st code2 text q 26 (p + 1) hd om fr w none (seen.add 16) := by
  show (if p ≥ text.size then _ else match (Except.ok (text.getD p 0 == 13, seen.add 16) : Except String (Bool × Seen)) with
    | .error why => _
    | .ok (false, seen) => st code2 text q 24 p hd om fr w (some false) seen
    | .ok (true, seen) => st code2 text q 26 (p + 1) hd om fr w none seen) = _
  rw [if_neg (Nat.not_le.mpr hq), show (text.getD p 0 == 13) = true from beq_iff_eq.mpr h]
theorem at2_lit24F (hq : p < text.size → text.getD p 0 ≠ 13) : (st code2 text q 24 p hd om fr w none seen).step = st code2 text q 24 p hd om fr w (some false) (seen.add 16) := by
  by_cases h : p < text.size
  · show (if p ≥ text.size then _ else match (Except.ok (text.getD p 0 == 13, seen.add 16) : Except String (Bool × Seen)) with
    | .error why => _
    | .ok (false, seen) => st code2 text q 24 p hd om fr w (some false) seen
    | .ok (true, seen) => st code2 text q 26 (p + 1) hd om fr w none seen) = _
    rw [if_neg (Nat.not_le.mpr h), show (text.getD p 0 == 13) = false from beq_false_of_ne (hq h)]
  · show (if p ≥ text.size then st code2 text q 24 p hd om fr w (some false) (seen.add 16) else _) = _
    rw [if_pos (Nat.not_lt.mp h)]
theorem at2_lit29T (hq : p < text.size) (h : text.getD p 0 = 10) : (st code2 text q 29 p hd om fr w none seen).step = st code2 text q 31 (p + 1) hd om fr w none (seen.add 16) := by
  show (if p ≥ text.size then _ else match (Except.ok (text.getD p 0 == 10, seen.add 16) : Except String (Bool × Seen)) with
    | .error why => _
    | .ok (false, seen) => st code2 text q 29 p hd om fr w (some false) seen
    | .ok (true, seen) => st code2 text q 31 (p + 1) hd om fr w none seen) = _
  rw [if_neg (Nat.not_le.mpr hq), show (text.getD p 0 == 10) = true from beq_iff_eq.mpr h]
theorem at2_lit29F (hq : p < text.size → text.getD p 0 ≠ 10) : (st code2 text q 29 p hd om fr w none seen).step = st code2 text q 29 p hd om fr w (some false) (seen.add 16) := by
  by_cases h : p < text.size
  · show (if p ≥ text.size then _ else match (Except.ok (text.getD p 0 == 10, seen.add 16) : Except String (Bool × Seen)) with
    | .error why => _
    | .ok (false, seen) => st code2 text q 29 p hd om fr w (some false) seen
    | .ok (true, seen) => st code2 text q 31 (p + 1) hd om fr w none seen) = _
    rw [if_neg (Nat.not_le.mpr h), show (text.getD p 0 == 10) = false from beq_false_of_ne (hq h)]
  · show (if p ≥ text.size then st code2 text q 29 p hd om fr w (some false) (seen.add 16) else _) = _
    rw [if_pos (Nat.not_lt.mp h)]

theorem at2_fin {k : Nat} : Ends (st code2 text q 35 p hd om [br k q om, fr0 10 q om] 2 none seen) 4 (Found q p) :=
  .step at2_succ rfl (.step at2_yes1 rfl (.step at2_yes2 rfl (.step at2_end rfl (.now ⟨rfl, rfl, trivial⟩))))
theorem at2_crlf (h0 : q + 1 < text.size) (h1 : text.getD q 0 = 13) (h2 : text.getD (q + 1) 0 = 10) : Ends (at2 text q hd om seen) 8 (Found q (q + 2)) :=
  .step at2_step rfl (.step (at2_lit12T (by omega) h1) rfl (.step (at2_lit14T h0 h2) rfl (.step at2_jump16 rfl at2_fin)))
theorem at2_lf (h0 : q < text.size) (h1 : text.getD q 0 = 10) : Ends (at2 text q hd om seen) 9 (Found q (q + 1)) :=
  .step at2_step rfl (.step (at2_lit12F (fun _ => by rw [h1]; decide)) rfl (.step at2_no1 rfl (.step (at2_lit19T h0 h1) rfl (.step at2_jump21 rfl at2_fin))))
theorem at2_cr (h0 : q < text.size) (h1 : text.getD q 0 = 13) (h2 : q + 1 < text.size → text.getD (q + 1) 0 ≠ 10) : Ends (at2 text q hd om seen) 16 (Found q (q + 1)) :=
  .mono (.step at2_step rfl (.step (at2_lit12T h0 h1) rfl (.step (at2_lit14F h2) rfl (.step at2_no1 rfl (.step (at2_lit19F (fun _ => by rw [h1]; decide)) rfl (.step at2_no2 rfl (.step (at2_lit24T h0 h1) rfl (.step at2_not rfl (.step (at2_lit29F h2) rfl
    (.step at2_noL rfl (.step at2_jump32 rfl at2_fin))))))))))) (by omega) fun _ x => x

def nl (c : Nat) : Bool := c == 10 || c == 13
theorem inSet2 (c : Nat) (seen : Seen) : ∃ seen', inSet code2 c code2.size 5 true seen = .ok (nl c, seen') := by
  have h1 : inSet code2 c code2.size 5 true seen = if (c == 10) = true then .ok (true, seen.add 16) else if (c == 13) = true then .ok (true, (seen.add 16).add 16) else .ok (false, ((seen.add 16).add 16).add 0) := rfl
  rw [h1]
  unfold nl
  cases c == 10 <;> cases c == 13 <;> exact ⟨_, rfl⟩
theorem admitted2 (m : M) (hc : m.code = code2) (k : Nat) : ∀ (fuel p : Nat) (seen : Seen), k < fuel → p + k < m.lim → (∀ i, i < k → nl (m.text.getD (p + i) 0) = false) → nl (m.text.getD (p + k) 0) = true →
    ∃ seen', M.admitted m fuel p seen = .ok (some (p + k), seen') := by
  induction k with
  | zero =>
    intro fuel p seen hf hl _ hh
    obtain ⟨f, rfl⟩ : ∃ f, fuel = f + 1 := ⟨fuel - 1, by omega⟩
    obtain ⟨s1, e⟩ := inSet2 (m.text.getD p 0) seen
    unfold M.admitted
    rw [if_neg (by omega), hc, e, show nl (m.text.getD p 0) = true from hh]
    exact ⟨_, rfl⟩
  | succ k ih =>
    intro fuel p seen hf hl hm hh
    obtain ⟨f, rfl⟩ : ∃ f, fuel = f + 1 := ⟨fuel - 1, by omega⟩
    obtain ⟨s1, e⟩ := inSet2 (m.text.getD p 0) seen
    unfold M.admitted
    rw [if_neg (by omega), hc, e, show nl (m.text.getD p 0) = false from hm 0 (by omega)]
    obtain ⟨s2, e2⟩ := ih f (p + 1) s1 (by omega) (by omega) (fun i hi => by have := hm (i + 1) (by omega); rwa [show p + (i + 1) = p + 1 + i by omega] at this) (by rwa [show p + (k + 1) = p + 1 + k by omega] at hh)
    exact ⟨s2, by rw [show p + (k + 1) = p + 1 + k by omega]; exact e2⟩
theorem admitted2_none (m : M) (hc : m.code = code2) : ∀ (fuel p : Nat) (seen : Seen), (∀ i, p ≤ i → i < m.lim → nl (m.text.getD i 0) = false) →
    ∃ seen', M.admitted m fuel p seen = .ok (none, seen') := by
  intro fuel
  induction fuel with
  | zero => intro p seen _; exact ⟨_, rfl⟩
  | succ f ih =>
    intro p seen hm
    unfold M.admitted
    by_cases h : p ≥ m.lim
    · rw [if_pos h]; exact ⟨_, rfl⟩
    · obtain ⟨s1, e⟩ := inSet2 (m.text.getD p 0) seen
      rw [if_neg h, hc, e, hm p (Nat.le_refl _) (by omega)]
      exact ih (p + 1) s1 fun i hi hl => hm i (by omega) hl
def in2 (text : Array Nat) (p : Nat) : M := { code := code2, text, lim := text.size, start := p, lastStart := text.size, mustAdvance := false, pc := 10, pos := p, handed := p, marks := #[], seen := ({} : Seen).add 14 }
theorem search2_0 (hp : p = text.size) : Ends (Sre.forSearch code2 text 0 p text.size false) 1 NotFound := by
  have e : Sre.forSearch code2 text 0 p text.size false = { in2 text p with answer := some false, lastStart := 0 } := by
    unfold Sre.forSearch
    have e : (decide (p > text.size) || decide (text.size - p < (Sre.header code2).1)) = true := by
      simp [Sre.header, code2, Sre.ops, hp]
    simp only [e, if_true]
    rfl
  rw [e]
  exact .step rfl rfl (.now trivial)
theorem search2_1 (hp : p < text.size) : Sre.forSearch code2 text 0 p text.size false = 
    match M.admitted (in2 text p) (text.size + 1 - p) p (({} : Seen).add 14) with
    | .ok (some s, seen) => at2 text s s true seen
    | .ok (none, seen) => ({ in2 text p with seen := seen } : M).say false
    | .error why => (in2 text p).stick why := by
  unfold Sre.forSearch
  have e : (decide (p > text.size) || decide (text.size - p < (Sre.header code2).1)) = false := by
    have : (Sre.header code2).1 = 1 := rfl
    rw [this]
    simp; omega
  simp only [e, Bool.false_eq_true, if_false]
  rfl
theorem search2_none (hp : p ≤ text.size) (hm : ∀ i, p ≤ i → i < text.size → nl (text.getD i 0) = false) : Ends (Sre.forSearch code2 text 0 p text.size false) 1 NotFound := by
  by_cases h : p = text.size
  · exact search2_0 h
  · rw [search2_1 (by omega)]
    obtain ⟨s1, e⟩ := admitted2_none (in2 text p) rfl (text.size + 1 - p) p (({} : Seen).add 14) hm
    rw [e]
    exact .step rfl rfl (.now trivial)
theorem search2_some (p k : Nat) (hk : p + k < text.size) (hm : ∀ i, i < k → nl (text.getD (p + i) 0) = false) (hh : nl (text.getD (p + k) 0) = true) :
    ∃ seen, Sre.forSearch code2 text 0 p text.size false = at2 text (p + k) (p + k) true seen := by
  obtain ⟨s1, e⟩ := admitted2 (in2 text p) rfl k (text.size + 1 - p) p (({} : Seen).add 14) (by omega) hk hm hh
  rw [search2_1 (by omega), e]
  exact ⟨_, rfl⟩
/-- the end of a line's end at q -/
def eol (text : Array Nat) (q : Nat) : Nat := if text.getD q 0 = 13 ∧ q + 1 < text.size ∧ text.getD (q + 1) 0 = 10 then q + 2 else q + 1
theorem at2_any (hq : q < text.size) (h : nl (text.getD q 0) = true) : Ends (at2 text q hd om seen) 16 (Found q (eol text q)) := by
  unfold nl at h
  simp only [Bool.or_eq_true, beq_iff_eq] at h
  unfold eol
  rcases h with h | h
  · rw [if_neg (by omega)]
    exact (at2_lf hq h).mono (by omega) fun _ x => x
  · by_cases h2 : q + 1 < text.size ∧ text.getD (q + 1) 0 = 10
    · rw [if_pos ⟨h, h2⟩]
      exact (at2_crlf h2.1 h h2.2).mono (by omega) fun _ x => x
    · rw [if_neg (fun x => h2 x.2)]
      exact at2_cr hq h fun h3 h4 => h2 ⟨h3, h4⟩
end two
end Mine
end
section
open PySem PySem.W PyProof.Rows
set_option maxRecDepth 100000
namespace Mine
section
variable {prog : Program} {w : World} {A : Around} {E : Value → Shared → Prop} {s : Shared}
open Builtin.Re

theorem wp_drive : ∀ (turns : Nat) (m : Sre.M) (N : Nat) {Q : Sre.M → Shared → Prop} (_ : N < 4 * turns) (_ : (Sre.M.runFor N m).outcome.isSome = true) (_ : Q (Sre.M.runFor N m) s),
    wpAny (model prog w) A (reDrive turns m) Q E s := by
  intro turns
  induction turns with
  | zero => intro m N Q h; exact absurd h (by omega)
  | succ t ih =>
    intro m N Q hN ho hq
    unfold reDrive
    show wpAny _ _ (if (Sre.M.runFor 4 m).outcome.isSome = true then pure (Sre.M.runFor 4 m) else (do rule "sre.turn"; reDrive t (Sre.M.runFor 4 m))) _ _ _
    by_cases h4 : (Sre.M.runFor 4 m).outcome.isSome = true
    · rw [if_pos h4]
      have e : Sre.M.runFor N m = Sre.M.runFor 4 m := by
        by_cases hle : N ≤ 4
        · have := runFor_add N (4 - N) m
          rw [show N + (4 - N) = 4 by omega, runFor_some _ _ ho] at this
          exact this.symm
        · have := runFor_add 4 (N - 4) m
          rw [show 4 + (N - 4) = N by omega, runFor_some _ _ h4] at this
          exact this
      rw [e] at hq
      exact wpAny_pure hq
    · rw [if_neg h4]
      have hgt : 4 < N := by
        apply Nat.lt_of_not_le
        intro hle
        apply h4
        have := runFor_add N (4 - N) m
        rw [show N + (4 - N) = 4 by omega, runFor_some _ _ ho] at this
        rw [this]; exact ho
      have e := runFor_add 4 (N - 4) m
      rw [show 4 + (N - 4) = N by omega] at e
      rw [e] at ho hq
      exact wpAny_bind (wpAny_rule (ih _ (N - 4) (by omega) ho hq))

theorem wp_end {m : Sre.M} {N : Nat} {P : Sre.M → Prop} {Q : Option Sre.M → Shared → Prop} (h : Ends m N P) (hN : N ≤ 2 ^ 40) (hP : ∀ e, P e → e.outcome.isSome = true)
    (hQ : ∀ e, P e → wpAny (model prog w) A (match e.outcome with | some .matched => pure (some e) | some .failed => pure none | some (.stuck why) => unsupported s!"_sre:{why}" | none => unsupported "internal:sre:no-outcome") Q E s) :
    wpAny (model prog w) A (reRunToEnd m) Q E s := by
  obtain ⟨k, e, hk, rfl, hp⟩ := h
  unfold reRunToEnd
  refine wpAny_bind (wp_drive (2 ^ 64) m k (by omega) (hP _ hp) ?_)
  refine wpAny_bind (wpAny_forIn_list _ (fun _ _ s' => s' = s) _ ?_ ?_ _ _ rfl)
  · rintro x rest b s' rfl
    split
    · exact wpAny_bind (wpAny_rule (wpAny_pure rfl))
    · exact wpAny_pure rfl
  · rintro b s' rfl
    exact hQ _ hp
theorem wp_found {m : Sre.M} {N q e : Nat} {Q : Option Sre.M → Shared → Prop} (h : Ends m N (Found q e)) (hN : N ≤ 2 ^ 40) (hQ : ∀ m' : Sre.M, m'.start = q → m'.handed = e → Q (some m') s) : wpAny (model prog w) A (reRunToEnd m) Q E s := by
  refine wp_end h hN ?_ ?_
  · rintro x ⟨_, _, h3⟩
    cases ho : x.outcome with
    | none => rw [ho] at h3; exact h3.elim
    | some o => rfl
  · rintro x ⟨h1, h2, h3⟩
    cases ho : x.outcome with
    | none => rw [ho] at h3; exact h3.elim
    | some o =>
      rw [ho] at h3
      cases o with
      | matched => exact wpAny_pure (hQ x h1 h2)
      | failed => exact h3.elim
      | stuck _ => exact h3.elim
theorem wp_notFound {m : Sre.M} {N : Nat} {Q : Option Sre.M → Shared → Prop} (h : Ends m N NotFound) (hN : N ≤ 2 ^ 40) (hQ : Q none s) : wpAny (model prog w) A (reRunToEnd m) Q E s := by
  refine wp_end h hN ?_ ?_
  · intro x h3
    unfold NotFound at h3
    cases ho : x.outcome with
    | none => rw [ho] at h3; exact h3.elim
    | some o => rfl
  · intro x h3
    unfold NotFound at h3
    cases ho : x.outcome with
    | none => rw [ho] at h3; exact h3.elim
    | some o =>
      rw [ho] at h3
      cases o with
      | matched => exact h3.elim
      | failed => exact wpAny_pure hQ
      | stuck _ => exact h3.elim
end
end Mine
end
section
open PySem PySem.W PyProof.Rows
set_option maxRecDepth 100000
namespace Mine
/-- what the pattern's search finds from p on -/
structure Nxt (code T : Array Nat) (nxt : Nat → Option (Nat × Nat)) : Prop where
  some : ∀ p q e, p ≤ T.size → nxt p = some (q, e) → p ≤ q ∧ q < e ∧ e ≤ T.size ∧ ∃ N, N ≤ 2 ^ 40 ∧ Ends (Sre.forSearch code T 0 p T.size false) N (Found q e)
  none : ∀ p, p ≤ T.size → nxt p = none → ∃ N, N ≤ 2 ^ 40 ∧ Ends (Sre.forSearch code T 0 p T.size false) N NotFound
def pieces (nxt : Nat → Option (Nat × Nat)) (T : Array Nat) (r : Str) : Nat → Nat → List Str
  | 0, _ => []
  | f + 1, p => match nxt p with
    | .none => if p < T.size then [⟨T.extract p T.size⟩] else []
    | .some (q, e) => (if p < q then [⟨T.extract p q⟩] else []) ++ r :: pieces nxt T r f e

structure PatAt (h : Heap) (pa ca : Addr) (code : Array Nat) : Prop where
  pat : ∃ p f i g, h.get? pa = some { cls := .type "re.Pattern", data := .fields #[p, f, .int 0 0, i, g, .ref ca, .int 0 0] }
  code : ∃ its, h.get? ca = some { cls := .type "tuple", data := .seq its } ∧ (its.map Builtin.Re.reRawOf).map (·.toNat) = code
section
variable {prog : Program} {w : World} {A : Around} {E : Value → Shared → Prop} {s : Shared} {pa ca : Addr} {code : Array Nat} {T : Str} {t u : Tok}
open Builtin.Re
def tgt (pa : Addr) (code : Array Nat) (T : Str) (u : Tok) : ReTarget := { pattern := .ref pa, string := .str T u, code, text := T.cps, kind := 0, groups := 0, pos := 0, lim := T.cps.size }
theorem wp_whole (h : PatAt s.heap pa ca code) {Q : ReTarget → Shared → Prop} (hQ : Q (tgt pa code T u) s) : wpAny (model prog w) A (reWholeTarget (.ref pa) (.str T u)) Q E s := by
  obtain ⟨⟨p, f, i, g, hp⟩, ⟨its, hc, he⟩⟩ := h
  unfold reWholeTarget
  refine wpAny_bind (wpAny_fieldsOf hp rfl ?_)
  have e1 : reTextOf (.str T u) = pure (T.cps, 0) := rfl
  refine wpAny_bind (wpAny_of_eq e1 ?_)
  show wpAny _ _ (do let its ← reRawItems (.ref ca); pure ({ pattern := .ref pa, string := .str T u, code := its.map (·.toNat), text := T.cps, kind := 0, groups := 0, pos := 0, lim := T.cps.size } : ReTarget)) Q E s
  unfold reRawItems
  refine wpAny_bind (wpAny_bind (wpAny_seqItems hc rfl (wpAny_pure (wpAny_pure ?_))))
  show Q ({ pattern := .ref pa, string := .str T u, code := (its.map reRawOf).map (·.toNat), text := T.cps, kind := 0, groups := 0, pos := 0, lim := T.cps.size } : ReTarget) s
  rw [he]
  exact hQ

def loopArgs (pa : Addr) (T r : Str) (u t : Tok) (n : Int) (p : Nat) (D : Addr) : Args :=
  ⟨[.ref pa, .str T u, .str r t, rawInt 0, rawInt 0, rawInt n, rawInt p, rawInt p, .bool false, .ref D, .bool false], []⟩
def lstO (vs : List Value) (k : Nat) : Obj := { cls := .type "list", data := .seq vs.toArray k }
theorem wp_push {D : Addr} {vs : List Value} {k : Nat} {v : Value} {Q : Unit → Shared → Prop} (ho : s.heap.get? D = some (lstO vs k)) (hz : vs.length ≤ sizeLine)
    (h : ∀ h', h'.get? D = some (lstO (vs ++ [v]) (k + 1)) → (∀ b o, b ≠ D → s.heap.get? b = some o → h'.get? b = some o) → Q () { s with heap := h' }) : wpAny (model prog w) A (updateSeq D (·.push v)) Q E s := by
  refine wpAny_updateSeq ho rfl (h _ ?_ ?_) (by simpa using hz) (by simp; omega)
  · rw [Heap.get?_update_self _ ho rfl]
    simp [lstO, Obj.mapSeq]
  · intro b o hb e
    exact (Heap.get?_update_ne _ _ _ _ hb).trans e
theorem wp_slice {b e : Nat} {Q : Value → Shared → Prop} (hz : T.length ≤ sizeLine) (h : Q (.str ⟨T.cps.extract b e⟩ s.toks) { s with toks := s.toks + 1 }) : wpAny (model prog w) A (reSlice T.cps 0 b e) Q E s := by
  show wpAny _ _ (mkStr ⟨T.cps.extract b e⟩) _ _ _
  refine wpAny_mkStr h ?_
  have : (T.cps.extract b e).size ≤ T.cps.size := by simp; omega
  exact Nat.le_trans this hz
theorem PatAt.keeps {h h' : Heap} {D : Addr} (x : PatAt h pa ca code) {vs : List Value} {k : Nat} (hD : h.get? D = some (lstO vs k)) (hk : ∀ b o, b ≠ D → h.get? b = some o → h'.get? b = some o) : PatAt h' pa ca code := by
  obtain ⟨⟨p, f, i, g, hp⟩, ⟨its, hc, he⟩⟩ := x
  refine ⟨⟨p, f, i, g, hk _ _ ?_ hp⟩, ⟨its, hk _ _ ?_ hc, he⟩⟩
  · rintro rfl; rw [hp] at hD; injection hD with hD; simp [lstO] at hD
  · rintro rfl; rw [hc] at hD; injection hD with hD; simp [lstO] at hD
def wt (ys : List Str) : Nat := (ys.map (·.length)).sum + ys.length
theorem wt_snoc (ys : List Str) (y : Str) : wt (ys ++ [y]) = wt ys + y.length + 1 := by
  simp [wt]; omega
theorem strs_snoc {vs : List Value} {ys : List Str} (h : StrsAre vs ys) (y : Str) (t : Tok) : StrsAre (vs ++ [.str y t]) (ys ++ [y]) := h.append' (.cons y t .nil)
theorem len_wt {vs : List Value} {ys : List Str} (h : StrsAre vs ys) : vs.length ≤ wt ys := by
  rw [h.length, wt]; omega

abbrev LPost (prog : Program) (w : World) (A : Around) (R : Result → Shared → Prop) (fin : PySem.Fin) (s' : Shared) : Prop :=
  match fin with
  | .done f => R (.ok f) s'
  | .again c' => c'.quiet = true ∧ codeAny (model prog w) A c' R s'
theorem wp_loop {nxt : Nat → Option (Nat × Nat)} {r : Str} {D : Addr} {R : Result → Shared → Prop} (hN : Nxt code T.cps nxt) (hT : T.length ≤ 10000) (hr : r.length ≤ 2) :
    ∀ (f p : Nat) (n : Int) (ys : List Str) (vs : List Value) (k : Nat) (s : Shared), T.length - p < f → p ≤ T.length → PatAt s.heap pa ca code → s.heap.get? D = some (lstO vs k) → StrsAre vs ys → wt ys ≤ 5 * p →
      (∀ h' tk' t', (∀ b o, b ≠ D → s.heap.get? b = some o → h'.get? b = some o) → R (.ok (.ret (.str (Txt.join ⟨#[]⟩ (ys ++ pieces nxt T.cps r f p)) t'))) { s with heap := h', toks := tk' }) →
      codeAny (model prog w) A (.builtin "re.Pattern.sub.loop" (loopArgs pa T r u t n p D)) R s := by
  intro f
  induction f with
  | zero => intro p n ys vs k s h; omega
  | succ f ih =>
    intro p n ys vs k s hf hp hpat hD hS hW hR
    refine codeAny_builtin entry_loop ?_
    unfold Builtin.«re.Pattern.sub.loop»
    refine wpAny_bind (wp_whole hpat ?_)
    show wpAny _ _ (reLiteralCannotBeTurned (.str r t) >>= fun _ => _) _ _ s
    refine wpAny_bind (wpAny_of_eq rfl ?_)
    show wpAny _ _ (reNextFound (tgt pa code T u) (Int.toNat p) false >>= fun _ => _) _ _ s
    refine wpAny_bind ?_
    unfold reNextFound
    show wpAny _ _ (reRunToEnd (Sre.forSearch code T.cps 0 p T.cps.size false)) _ _ s
    cases hx : nxt p with
    | none =>
      obtain ⟨N, hN1, hN2⟩ := hN.none p hp hx
      refine wp_notFound hN2 hN1 ?_
      have hp' : pieces nxt T.cps r (f + 1) p = if p < T.cps.size then [⟨T.cps.extract p T.cps.size⟩] else [] := by
        show (match nxt p with | .none => _ | .some (q, e) => _) = _
        rw [hx]
      rw [hp'] at hR
      -- the end of the pieces
      have fin : ∀ (s₁ : Shared) (vs' : List Value) (ys' : List Str) (k' : Nat), s₁ = { s with heap := s₁.heap, toks := s₁.toks } → (∀ b o, b ≠ D → s.heap.get? b = some o → s₁.heap.get? b = some o) → s₁.heap.get? D = some (lstO vs' k') → StrsAre vs' ys' → wt ys' ≤ 1048576 →
          ys' = ys ++ (if p < T.cps.size then [⟨T.cps.extract p T.cps.size⟩] else []) →
          wpAny (model prog w) (A.under (Code.builtin "re.Pattern.sub.loop" (loopArgs pa T r u t n p D))) (do
            let joiner ← reSlice T.cps 0 0 0
            let its ← seqItems? (Value.ref D)
            if (its.getD #[]).isEmpty = true then do
              let text ← pure joiner
              ret text
            else do
              let text ← call (Value.builtin "str.join") [joiner, Value.ref D]
              ret text) (LPost prog w A R) (fun e s' => R (Except.error e) s') s₁ := by
        intro s₁ vs' ys' k' es hk hD' hS' hw' hys
        subst hys
        refine wpAny_bind (wp_slice (Nat.le_trans hT (by decide)) ?_)
        have ej : (⟨T.cps.extract 0 0⟩ : Str) = ⟨#[]⟩ := by simp
        rw [ej]
        refine wpAny_bind (wpAny_seqItems hD' rfl ?_)
        dsimp only [Option.getD_some]
        split
        · rename_i he
          have hv : vs' = [] := by simpa [lstO] using he
          subst hv
          have hy : (ys ++ if p < T.cps.size then [(⟨T.cps.extract p T.cps.size⟩ : Str)] else []) = [] := List.eq_nil_of_length_eq_zero (by have := hS'.length; simpa using this.symm)
          refine wpAny_bind (wpAny_pure (wpAny_pure ?_))
          have := hR s₁.heap (s₁.toks + 1) s₁.toks hk
          rw [hy] at this
          rw [es]
          exact this
        · refine wpAny_bind (join_listW (items := vs'.toArray) ⟨_, hD', rfl, _, rfl⟩ (by simpa using hS') (by decide) hw' fun t' k2 => wpAny_pure ?_)
          rw [es]
          exact hR s₁.heap k2 t' hk
      dsimp only [tgt]
      show wpAny _ _ (if p < T.cps.size then _ else _) _ _ _
      by_cases hlt : p < T.cps.size
      · have hlt' : p < T.cps.size := hlt
        rw [if_pos hlt]
        refine wpAny_bind (wp_slice (Nat.le_trans hT (by decide)) ?_)
        refine wpAny_bind (wp_push hD ?_ fun h' hD' hk' => ?_)
        · exact Nat.le_trans (len_wt hS) (Nat.le_trans hW (Nat.le_trans (Nat.mul_le_mul_left 5 (Nat.le_trans hp hT)) (by decide)))
        · refine fin _ _ (ys ++ [⟨T.cps.extract p T.cps.size⟩]) _ rfl hk' hD' (strs_snoc hS _ _) ?_ (by rw [if_pos hlt'])
          rw [wt_snoc]
          have : (⟨T.cps.extract p T.cps.size⟩ : Str).length ≤ T.length := by simp [Str.length]
          omega
      · have hlt' : ¬ p < T.cps.size := hlt
        rw [if_neg hlt]
        exact fin s vs ys k rfl (fun _ _ _ e => e) hD hS (by omega) (by rw [if_neg hlt', List.append_nil])
    | some qe =>
      obtain ⟨q, e⟩ := qe
      obtain ⟨h1, h2, h3, N, hN1, hN2⟩ := hN.some p q e hp hx
      refine wp_found hN2 hN1 ?_
      rintro m' rfl rfl
      have hp' : pieces nxt T.cps r (f + 1) p = (if p < m'.start then [⟨T.cps.extract p m'.start⟩] else []) ++ r :: pieces nxt T.cps r f m'.handed := by
        show (match nxt p with | .none => _ | .some (q, e) => _) = _
        rw [hx]
      rw [hp'] at hR
      have hne : (m'.handed == m'.start) = false := beq_false_of_ne (by omega)
      have fin : ∀ (s₁ : Shared) (vs' : List Value) (ys' : List Str) (k' : Nat), s₁ = { s with heap := s₁.heap, toks := s₁.toks } → (∀ b o, b ≠ D → s.heap.get? b = some o → s₁.heap.get? b = some o) → s₁.heap.get? D = some (lstO vs' k') → StrsAre vs' ys' → wt ys' ≤ 5 * m'.handed - 3 → 
          ys' = ys ++ (if p < m'.start then [⟨T.cps.extract p m'.start⟩] else []) →
          wpAny (model prog w) (A.under (Code.builtin "re.Pattern.sub.loop" (loopArgs pa T r u t n p D))) (do
            let _ ← updateSeq D fun x => x.push (.str r t)
            again (Code.builtin "re.Pattern.sub.loop" ⟨[Value.ref pa, Value.str T u, Value.str r t, rawInt 0, rawInt 0, rawInt (n + 1), rawInt ↑m'.handed,
                      rawInt ↑m'.handed, Value.bool (m'.handed == m'.start), Value.ref D, Value.bool false], []⟩)) (LPost prog w A R) (fun e s' => R (Except.error e) s') s₁ := by
        intro s₁ vs' ys' k' es hk hD' hS' hw' hys
        subst hys
        have hz : vs'.length ≤ sizeLine := by
          refine Nat.le_trans (len_wt hS') (Nat.le_trans hw' (Nat.le_trans (Nat.sub_le _ _) (Nat.le_trans (Nat.mul_le_mul_left 5 (Nat.le_trans h3 hT)) (by decide))))
        refine wpAny_bind (wp_push hD' hz fun h' hD'' hk' => ?_)
        refine wpAny_pure ⟨plainId_quiet (by decide +kernel) _, ?_⟩
        rw [hne]
        have hk2 : ∀ b o, b ≠ D → s.heap.get? b = some o → h'.get? b = some o := fun b o hb x => hk' b o hb (hk b o hb x)
        refine ih m'.handed (n + 1) _ _ (k' + 1) { s₁ with heap := h' } (by have : T.length = T.cps.size := rfl; omega) h3 ?_ hD'' (strs_snoc hS' r t) ?_ ?_
        · exact hpat.keeps hD hk2
        · rw [wt_snoc]; omega
        · intro h2' tk' t' hk3
          have := hR h2' tk' t' fun b o hb x => hk3 b o hb (hk2 b o hb x)
          rw [es]
          simpa only [List.append_assoc, List.cons_append, List.nil_append] using this
      dsimp only [tgt]
      show wpAny _ _ (if p < m'.start then _ else _) _ _ _
      by_cases hlt : p < m'.start
      · have hlt' : p < m'.start := hlt
        rw [if_pos hlt]
        refine wpAny_bind (wp_slice (Nat.le_trans hT (by decide)) ?_)
        refine wpAny_bind (wp_push hD ?_ fun h' hD' hk' => ?_)
        · exact Nat.le_trans (len_wt hS) (Nat.le_trans hW (Nat.le_trans (Nat.mul_le_mul_left 5 (Nat.le_trans hp hT)) (by decide)))
        · refine fin _ _ (ys ++ [⟨T.cps.extract p m'.start⟩]) _ rfl hk' hD' (strs_snoc hS _ _) ?_ (by rw [if_pos hlt'])
          rw [wt_snoc]
          have : (⟨T.cps.extract p m'.start⟩ : Str).length ≤ m'.start - p := by simp [Str.length]; omega
          omega
      · have hlt' : ¬ p < m'.start := hlt
        rw [if_neg hlt]
        exact fin s vs ys k rfl (fun _ _ _ e => e) hD hS (by omega) (by rw [if_neg hlt', List.append_nil])
end
end Mine
end
section
open PySem PySem.W PyProof.Rows
set_option maxRecDepth 100000
namespace Mine
open Builtin.Re
theorem str_no_call : typeLookup (.type "str") "__call__" = pure none := by rw [typeLookup_type, builtinLookup_eq_fast]; kernel_rfl
section
variable {prog : Program} {w : World} {A : Around} {E : Value → Shared → Prop} {s : Shared} {pa ca : Addr} {code : Array Nat} {T r : Str} {t u : Tok}
theorem wp_sub {nxt : Nat → Option (Nat × Nat)} {Q : Value → Shared → Prop} (hN : Nxt code T.cps nxt) (hT : T.length ≤ 10000) (hr : r.length ≤ 2) (hb : r.cps.contains 92 = false) (hp : PatAt s.heap pa ca code)
    (hQ : ∀ h' tk' t', (∀ b o, s.heap.get? b = some o → h'.get? b = some o) → Q (.str (Txt.join ⟨#[]⟩ (pieces nxt T.cps r (T.length + 1) 0)) t') { s with heap := h', toks := tk' }) :
    wpAny (model prog w) A (call (.builtin "re.Pattern.sub") [.ref pa, .str r t, .str T u]) Q E s := by
  refine wpAny_call (codeAny_call_builtin (by decide +kernel) entry_sub ?_)
  have hty : s.TypeIs (.ref pa) "re.Pattern" := by
    obtain ⟨⟨p, f, i, g, h⟩, _⟩ := hp
    exact ⟨_, h, rfl⟩
  refine slot_sub.check _ _ _ _ _ _ _ _ hty (args_sub _ _ _) ?_
  unfold Builtin.«re.Pattern.sub» reSubstitute
  have e1 : reNamed "re.Pattern.sub" "sub" ["repl", "string", "count"] 2 [.str r t, .str T u] [] = pure [some (.str r t), some (.str T u), none] := by rfl
  show wpAny _ _ (reNamed "re.Pattern.sub" "sub" ["repl", "string", "count"] 2 [.str r t, .str T u] [] >>= fun _ => _) _ _ s
  refine wpAny_bind (wpAny_of_eq e1 ?_)
  refine wpAny_bind (wpAny_pure ?_)
  refine wpAny_bind (wpAny_specialOf (T := "str") rfl str_no_call ?_)
  show wpAny _ _ (asStr? (.str r t) >>= fun _ => _) _ _ s
  refine wpAny_bind (wpAny_of_eq (a := some r) rfl ?_)
  refine wpAny_bind (wpAny_pure ?_)
  rw [hb]
  show wpAny _ _ ((pure (Value.str r t, (0 : Int)) : Sem (Value × Int)) >>= fun _ => _) _ _ s
  refine wpAny_bind (wpAny_pure ?_)
  refine wpAny_bind (wpAny_holding (wp_whole hp ?_))
  show wpAny _ _ (newList [] >>= fun _ => _) _ _ s
  refine wpAny_bind (wpAny_newList ?_)
  refine wpAny_pure ⟨plainId_quiet (by decide +kernel) _, ?_⟩
  have up : ∀ b o, s.heap.get? b = some o → (s.heap.push { cls := .type "list", data := .seq ([] : List Value).toArray }).get? b = some o := fun b o e => Heap.get?_push_of_some _ e
  refine wp_loop (ca := ca) (code := code) (nxt := nxt) (D := s.heap.objs.size) hN hT hr (T.length + 1) 0 0 [] [] 0 _ (by omega) (Nat.zero_le _) ?_ ?_ .nil (Nat.zero_le _) ?_
  · obtain ⟨⟨p, f, i, g, h⟩, ⟨its, hc, he⟩⟩ := hp
    exact ⟨⟨p, f, i, g, up _ _ h⟩, ⟨its, up _ _ hc, he⟩⟩
  · exact Heap.get?_push_size _ rfl
  · intro h' tk' t' hk
    refine hQ h' tk' t' fun b o e => hk b o (fun q => ?_) (up b o e)
    have := Heap.lt_size e
    rw [q] at this
    exact absurd this (Nat.lt_irrefl _)
end
end Mine
end
section
open PySem PySem.W PyProof.Rows
set_option maxRecDepth 100000
namespace Mine
def seek (P : Nat → Bool) : Nat → Nat → Option Nat
  | 0, _ => none
  | f + 1, p => if P p then some p else seek P f (p + 1)
theorem seek_some {P : Nat → Bool} : ∀ (f p q : Nat), seek P f p = some q → ∃ k, q = p + k ∧ k < f ∧ (∀ i, i < k → P (p + i) = false) ∧ P (p + k) = true
  | 0, _, _, h => nomatch h
  | f + 1, p, q, h => by
    unfold seek at h
    cases hp : P p with
    | true =>
      rw [hp, if_pos rfl] at h
      injection h with h
      exact ⟨0, h.symm, by omega, fun i hi => by omega, hp⟩
    | false =>
      rw [hp, if_neg Bool.false_ne_true] at h
      obtain ⟨k, h1, h2, h3, h4⟩ := seek_some f (p + 1) q h
      refine ⟨k + 1, by omega, by omega, fun i hi => ?_, by rw [show p + (k + 1) = p + 1 + k by omega]; exact h4⟩
      cases i with
      | zero => exact hp
      | succ i => rw [show p + (i + 1) = p + 1 + i by omega]; exact h3 i (by omega)
theorem seek_none {P : Nat → Bool} : ∀ (f p : Nat), seek P f p = none → ∀ i, i < f → P (p + i) = false
  | 0, _, _, i, hi => by omega
  | f + 1, p, h, i, hi => by
    unfold seek at h
    cases hp : P p with
    | true => rw [hp, if_pos rfl] at h; cases h
    | false =>
      rw [hp, if_neg Bool.false_ne_true] at h
      cases i with
      | zero => exact hp
      | succ i => rw [show p + (i + 1) = p + 1 + i by omega]; exact seek_none f (p + 1) h i (by omega)
def nxt1 (T : Array Nat) (p : Nat) : Option (Nat × Nat) := (seek (hit1 T) (T.size - p) p).map fun q => (q, q + 1)
def nxt2 (T : Array Nat) (p : Nat) : Option (Nat × Nat) := (seek (fun i => nl (T.getD i 0)) (T.size - p) p).map fun q => (q, eol T q)
theorem nxt_1 (T : Array Nat) (hT : T.size ≤ 10000) : Nxt code1 T (nxt1 T) where
  some := fun p q e hp h => by
    obtain ⟨q', h', he⟩ := Option.map_eq_some_iff.mp h
    cases he
    obtain ⟨k, rfl, hk, hm, hh⟩ := seek_some _ _ _ h'
    refine ⟨by omega, by omega, by omega, 3 * k + 5, Nat.le_trans (m := 3 * 10000 + 5) (by omega) (by decide), ?_⟩
    obtain ⟨seen, e⟩ := search1 (text := T) hp
    rw [e, if_neg (by omega)]
    exact at1_some p k hm hh _ _ _
  none := fun p hp h => by
    have h' := seek_none _ _ (Option.map_eq_none_iff.mp h)
    obtain ⟨seen, e⟩ := search1 (text := T) hp
    by_cases hq : p = T.size
    · refine ⟨1, by decide, ?_⟩
      rw [e, if_pos hq]
      exact .step rfl rfl (.now trivial)
    · refine ⟨3 * (T.size - p) + 4, Nat.le_trans (m := 3 * 10000 + 4) (by omega) (by decide), ?_⟩
      rw [e, if_neg hq]
      exact at1_none p (T.size - p) (by omega) h' _ _ _
theorem nxt_2 (T : Array Nat) : Nxt code2 T (nxt2 T) where
  some := fun p q e hp h => by
    obtain ⟨q', h', he⟩ := Option.map_eq_some_iff.mp h
    cases he
    obtain ⟨k, rfl, hk, hm, hh⟩ := seek_some _ _ _ h'
    have hl : eol T (p + k) ≤ T.size ∧ p + k < eol T (p + k) := by
      unfold eol
      split <;> omega
    refine ⟨by omega, hl.2, hl.1, 16, by decide, ?_⟩
    obtain ⟨seen, e⟩ := search2_some (text := T) p k (by omega) hm hh
    rw [e]
    exact at2_any (by omega) hh
  none := fun p hp h => by
    have h' := seek_none _ _ (Option.map_eq_none_iff.mp h)
    refine ⟨1, by decide, search2_none hp fun i h1 h2 => ?_⟩
    have := h' (i - p) (by omega)
    rwa [show p + (i - p) = i by omega] at this

/-! what the two subs make, on lists -/
def norm : List Nat → List Nat
  | [] => []
  | 13 :: 10 :: r => 13 :: 10 :: norm r
  | c :: r => if nl c then 13 :: 10 :: norm r else c :: norm r
def dot : Bool → List Nat → List Nat
  | _, [] => []
  | b, c :: r => if b && c == 46 then 46 :: 46 :: dot false r else c :: dot (c == 10) r
def flat (ys : List Str) : List Nat := (ys.map (·.cps.toList)).flatten
theorem join_flat (ys : List Str) : (Txt.join ⟨#[]⟩ ys).cps.toList = flat ys := by
  show (Builtin.Str.glued _ ys).cps.toList = _
  rw [StrLaws.glued_eq_join]
  induction ys with
  | nil => rfl
  | cons y r ih =>
    rw [PyProof.Rows.join_nil_cons, PySem.Str.cps_append, Array.toList_append, ih]
    rfl
end Mine
end
section
open PySem PySem.W PyProof.Rows
set_option maxRecDepth 100000
namespace Mine
theorem norm_crlf (r : List Nat) : norm (13 :: 10 :: r) = 13 :: 10 :: norm r := by rw [norm]
theorem norm_cr {r : List Nat} (h : r.head? ≠ some 10) : norm (13 :: r) = 13 :: 10 :: norm r := by
  cases r with
  | nil => rfl
  | cons c r =>
    rw [norm]
    · rfl
    · rintro r' _ e
      injection e with e1 e2
      subst e1; exact h rfl
theorem norm_lf (r : List Nat) : norm (10 :: r) = 13 :: 10 :: norm r := by
  rw [norm]
  · rfl
  · rintro r' e; cases e
theorem norm_other {c : Nat} (r : List Nat) (h : nl c = false) : norm (c :: r) = c :: norm r := by
  rw [norm]
  · rw [h]; rfl
  · rintro r' rfl; cases h
theorem norm_skip : ∀ (k : Nat) (l : List Nat), (∀ i c, i < k → l[i]? = some c → nl c = false) → norm l = l.take k ++ norm (l.drop k)
  | 0, l, _ => by simp
  | k + 1, [], _ => by simp
  | k + 1, c :: r, h => by
    rw [norm_other r (h 0 c (by omega) rfl), norm_skip k r fun i c hi hc => h (i + 1) c (by omega) hc]
    rfl
theorem getD_get {T : Array Nat} {i : Nat} (hi : i < T.size) : T.toList[i]? = some (T.getD i 0) := by
  simp [Array.getD, hi]
theorem drop_cons {T : Array Nat} {i : Nat} (hi : i < T.size) : T.toList.drop i = T.getD i 0 :: T.toList.drop (i + 1) := by
  have h := getD_get hi
  rw [List.getElem?_eq_some_iff] at h
  obtain ⟨h1, h2⟩ := h
  rw [List.drop_eq_getElem_cons h1, h2]
theorem norm_at {T : Array Nat} {q : Nat} (hq : q < T.size) (h : nl (T.getD q 0) = true) : norm (T.toList.drop q) = 13 :: 10 :: norm (T.toList.drop (eol T q)) := by
  rw [drop_cons hq]
  unfold nl at h
  simp only [Bool.or_eq_true, beq_iff_eq] at h
  unfold eol
  rcases h with h | h
  · rw [h, if_neg (by omega), norm_lf]
  · rw [h]
    by_cases h2 : q + 1 < T.size ∧ T.getD (q + 1) 0 = 10
    · rw [if_pos ⟨rfl, h2⟩, drop_cons h2.1, h2.2, norm_crlf]
    · rw [if_neg (fun x => h2 x.2), norm_cr]
      intro e
      apply h2
      rw [List.head?_drop] at e
      by_cases h3 : q + 1 < T.size
      · refine ⟨h3, ?_⟩
        rw [getD_get h3] at e
        exact Option.some.inj e
      · rw [List.getElem?_eq_none (by simp; omega)] at e; cases e
theorem flat_app (a b : List Str) : flat (a ++ b) = flat a ++ flat b := by simp [flat]
theorem flat_cons (a : Str) (b : List Str) : flat (a :: b) = a.cps.toList ++ flat b := by simp [flat]
theorem ext_list (T : Array Nat) (p q : Nat) : (T.extract p q).toList = (T.toList.drop p).take (q - p) := by
  simp [Array.toList_extract]
theorem drop_end (T : Array Nat) (p : Nat) (h : p ≤ T.size) : T.toList.drop (p + (T.size - p)) = [] := List.drop_eq_nil_of_le (by simp; omega)
theorem pieces2 (T : Array Nat) : ∀ (f p : Nat), T.size - p < f → p ≤ T.size → flat (pieces (nxt2 T) T ⟨#[13, 10]⟩ f p) = norm (T.toList.drop p) := by
  intro f
  induction f with
  | zero => intro p h; omega
  | succ f ih =>
    intro p hf hp
    unfold pieces
    cases hx : nxt2 T p with
    | none =>
      have h' := seek_none _ _ (Option.map_eq_none_iff.mp hx)
      have e : norm (T.toList.drop p) = T.toList.drop p := by
        rw [norm_skip (T.size - p) (T.toList.drop p) fun i c hi hc => ?_]
        · rw [List.take_of_length_le (by simp), List.drop_drop, drop_end T p hp]
          simp [norm]
        · rw [List.getElem?_drop, getD_get (by omega)] at hc
          rw [← Option.some.inj hc]
          exact h' i hi
      rw [e]
      dsimp only
      split
      · rw [flat_cons, ext_list, List.take_of_length_le (by simp)]
        simp [flat]
      · have : p = T.size := by omega
        simp [flat, this]
    | some qe =>
      obtain ⟨q, e⟩ := qe
      obtain ⟨q', h', he⟩ := Option.map_eq_some_iff.mp hx
      cases he
      obtain ⟨k, rfl, hk, hm, hh⟩ := seek_some _ _ _ h'
      have hl : eol T (p + k) ≤ T.size ∧ p + k < eol T (p + k) := by
        unfold eol
        split <;> omega
      dsimp only
      rw [flat_app, flat_cons, ih _ (by omega) hl.1]
      have e1 : norm (T.toList.drop p) = (T.toList.drop p).take k ++ norm (T.toList.drop (p + k)) := by
        rw [norm_skip k (T.toList.drop p) fun i c hi hc => ?_, List.drop_drop]
        rw [List.getElem?_drop, getD_get (by omega)] at hc
        rw [← Option.some.inj hc]
        exact hm i hi
      rw [e1, norm_at (by omega) hh]
      congr 1
      split
      · rw [flat_cons, ext_list, show p + k - p = k by omega]; simp [flat]
      · rw [show k = 0 by omega]; simp [flat]

def bol (T : Array Nat) (p : Nat) : Bool := p == 0 || T.getD (p - 1) 0 == 10
theorem dot_skip (T : Array Nat) : ∀ (k p : Nat), p + k ≤ T.size → (∀ i, i < k → hit1 T (p + i) = false) → dot (bol T p) (T.toList.drop p) = (T.toList.drop p).take k ++ dot (bol T (p + k)) (T.toList.drop (p + k))
  | 0, p, _, _ => by simp
  | k + 1, p, hk, h => by
    have h0 := h 0 (by omega)
    have e : dot (bol T p) (T.toList.drop p) = T.getD p 0 :: dot (bol T (p + 1)) (T.toList.drop (p + 1)) := by
      rw [drop_cons (by omega : p < T.size), dot]
      have : (bol T p && T.getD p 0 == 46) = false := by
        have h0' : hit1 T p = false := h0
        unfold hit1 at h0'
        rw [decide_eq_true (by omega : p < T.size), Bool.and_true] at h0'
        exact h0'
      rw [if_neg (by rw [this]; exact Bool.false_ne_true)]
      have e2 : bol T (p + 1) = (T.getD p 0 == 10) := by simp [bol]
      rw [e2]
    rw [e, dot_skip T k (p + 1) (by omega) fun i hi => by have := h (i + 1) (by omega); rwa [show p + (i + 1) = p + 1 + i by omega] at this, drop_cons (by omega : p < T.size),
      show p + (k + 1) = p + 1 + k by omega]
    rfl
theorem dot_at (T : Array Nat) (q : Nat) (h : hit1 T q = true) : dot (bol T q) (T.toList.drop q) = 46 :: 46 :: dot (bol T (q + 1)) (T.toList.drop (q + 1)) := by
  unfold hit1 at h
  simp only [Bool.and_eq_true, decide_eq_true_eq] at h
  obtain ⟨⟨h1, h2⟩, h3⟩ := h
  have h1' : bol T q = true := h1
  rw [drop_cons h2, dot, h1', h3]
  have e2 : bol T (q + 1) = false := by
    have := beq_iff_eq.mp h3
    simp [bol, -Array.getD_eq_getD_getElem?, this]
  rw [e2]
  rfl
theorem pieces1 (T : Array Nat) : ∀ (f p : Nat), T.size - p < f → p ≤ T.size → flat (pieces (nxt1 T) T ⟨#[46, 46]⟩ f p) = dot (bol T p) (T.toList.drop p) := by
  intro f
  induction f with
  | zero => intro p h; omega
  | succ f ih =>
    intro p hf hp
    unfold pieces
    cases hx : nxt1 T p with
    | none =>
      have h' := seek_none _ _ (Option.map_eq_none_iff.mp hx)
      have e : dot (bol T p) (T.toList.drop p) = T.toList.drop p := by
        rw [dot_skip T (T.size - p) p (by omega) h', List.take_of_length_le (by simp), drop_end T p hp]
        simp [dot]
      rw [e]
      dsimp only
      split
      · rw [flat_cons, ext_list, List.take_of_length_le (by simp)]
        simp [flat]
      · have : p = T.size := by omega
        simp [flat, this]
    | some qe =>
      obtain ⟨q, e⟩ := qe
      obtain ⟨q', h', he⟩ := Option.map_eq_some_iff.mp hx
      cases he
      obtain ⟨k, rfl, hk, hm, hh⟩ := seek_some _ _ _ h'
      dsimp only
      rw [flat_app, flat_cons, ih _ (by omega) (by omega), dot_skip T k p (by omega) hm, dot_at T _ hh]
      congr 1
      split
      · rw [flat_cons, ext_list, show p + k - p = k by omega]; simp [flat]
      · rw [show k = 0 by omega]; simp [flat]
end Mine
end
section
open PySem PySem.W PyProof.Rows
set_option maxRecDepth 100000
namespace Mine
theorem plainAttrs_re : PlainAttrs "re.Pattern" :=
  ⟨⟨"object.__getattribute__", by rw [typeLookup_type, builtinLookup_eq_fast]; kernel_rfl, by decide +kernel⟩, by rw [typeLookup_type, builtinLookup_eq_fast]; kernel_rfl⟩
section
variable {prog : Program} {w : World} {A : Around} {E : Value → Shared → Prop} {s : Shared} {pa ca : Addr} {code : Array Nat}
theorem getMethod_sub {pl : Sem Bool} {Q : Value × List Value → Shared → Prop} (hp : PatAt s.heap pa ca code) (h : Q (.builtin "re.Pattern.sub", [.ref pa]) s) : wpAny (model prog w) A (getMethod (.ref pa) "sub" pl) Q E s := by
  obtain ⟨⟨p, f, i, g, h1⟩, _⟩ := hp
  exact getMethod_builtin ⟨_, h1, rfl⟩ plainAttrs_re slot_sub type_sub (fun a e => by cases e; exact ⟨_, h1, rfl⟩) h
end
theorem pat1 {w : World} {h : Heap} (X : (Mine.hd.heap_39 w.params).In h) : PatAt h 36 35 code1 := ⟨⟨_, _, _, _, X _ _ (by rfl)⟩, ⟨_, X _ _ (by rfl), by decide +kernel⟩⟩
theorem pat2 {w : World} {h : Heap} (X : (Mine.hd.heap_39 w.params).In h) : PatAt h 41 40 code2 := ⟨⟨_, _, _, _, X _ _ (by rfl)⟩, ⟨_, X _ _ (by rfl), by decide +kernel⟩⟩
/-- quotedata, plainly -/
def quoteL (l : List Nat) : List Nat := dot true (norm l)
def quoteS (x : Str) : Str := ⟨(quoteL x.cps.toList).toArray⟩
def normS (x : Str) : Str := ⟨(norm x.cps.toList).toArray⟩
def dotS (x : Str) : Str := ⟨(dot true x.cps.toList).toArray⟩
theorem quoteS_eq (x : Str) : dotS (normS x) = quoteS x := by simp [dotS, normS, quoteS, quoteL]
theorem str_eq {x y : Str} (h : x.cps.toList = y.cps.toList) : x = y := by
  obtain ⟨⟨x⟩⟩ := x
  obtain ⟨⟨y⟩⟩ := y
  simp at h
  rw [h]
theorem norm_len : ∀ l : List Nat, (norm l).length ≤ 2 * l.length := by
  intro l
  fun_induction norm l <;> simp_all <;> omega
theorem normS_len (x : Str) : (normS x).length ≤ 2 * x.length := by
  have := norm_len x.cps.toList
  simpa [normS, Str.length] using this
theorem join2 (T : Str) : Txt.join ⟨#[]⟩ (pieces (nxt2 T.cps) T.cps ⟨#[13, 10]⟩ (T.length + 1) 0) = normS T := by
  refine str_eq ?_
  rw [join_flat, pieces2 T.cps _ _ (by show T.cps.size - 0 < T.cps.size + 1; omega) (Nat.zero_le _)]
  simp [normS]
theorem join1 (T : Str) : Txt.join ⟨#[]⟩ (pieces (nxt1 T.cps) T.cps ⟨#[46, 46]⟩ (T.length + 1) 0) = dotS T := by
  refine str_eq ?_
  rw [join_flat, pieces1 T.cps _ _ (by show T.cps.size - 0 < T.cps.size + 1; omega) (Nat.zero_le _)]
  simp [dotS, bol]
section
variable {w : World} {A : Around} {E : Value → Shared → Prop} {s : Shared} {h₀ : Heap} {L : Addr} {m : Str → Option Value} {news : List (Addr × Obj)} {T : Str} {t u : Tok} {Q : Value → Shared → Prop} {prog : Program}
theorem sub2_K (F : Fr h₀ L s.heap m) (N : News h₀ L s.heap news) (X : (Mine.hd.heap_39 w.params).In h₀) (hT : T.length ≤ 10000)
    (h : ∀ h' tk' t', Fr h₀ L h' m → News h₀ L h' news → Q (.str (normS T) t') { s with heap := h', toks := tk' }) :
    wpAny (model prog w) A (call (.builtin "re.Pattern.sub") [.ref 41, .str (Str.ofString "\x0d\n") t, .str T u]) Q E s := by
  have e : Str.ofString "\x0d\n" = ⟨#[13, 10]⟩ := by decide +kernel
  rw [e]
  refine wp_sub (nxt_2 T.cps) hT (by decide +kernel) (by decide +kernel) (pat2 (X.keeps F.keep)) fun h' tk' t' hk => ?_
  rw [join2]
  exact h h' tk' t' (F.keeps hk) (N.grown hk)
theorem sub1_K (F : Fr h₀ L s.heap m) (N : News h₀ L s.heap news) (X : (Mine.hd.heap_39 w.params).In h₀) (hT : T.length ≤ 10000)
    (h : ∀ h' tk' t', Fr h₀ L h' m → News h₀ L h' news → Q (.str (dotS T) t') { s with heap := h', toks := tk' }) :
    wpAny (model prog w) A (call (.builtin "re.Pattern.sub") [.ref 36, .str (Str.ofString "..") t, .str T u]) Q E s := by
  have e : Str.ofString ".." = ⟨#[46, 46]⟩ := by decide +kernel
  rw [e]
  refine wp_sub (nxt_1 T.cps hT) hT (by decide +kernel) (by decide +kernel) (pat1 (X.keeps F.keep)) fun h' tk' t' hk => ?_
  rw [join1]
  exact h h' tk' t' (F.keeps hk) (N.grown hk)
end
end Mine
end
section
open PySem PySem.W PyProof.Rows PySem.Calls
set_option maxRecDepth 100000
namespace Mine
/-- the claim of a def's call: from any frame, over any ledger, it hands back R and keeps all -/
abbrev Cl (kd ku : Nat) (w : World) (mean : ExcName → Option Value) (mg mb : Str → Option Value) (f : Addr) (news : List (Addr × Obj)) (pre : Prop) (vs : List Value) (R : Tok → Value) : Prop :=
  ∀ (dp un : Nat) (gd : Option (List Code)) (cn : Str) (cs : Scope) (a : Addr) (ccd : Value) (cl : List (Str × Addr)) (outer : List Env) (A₀ : Around) (base h₀ : Heap) (L : Addr) (m : Str → Option Value) (s : Shared) (Q E : Value → Shared → Prop),
    Below A₀ base outer h₀ → Fr h₀ L s.heap m → (Mine.hd.heap_39 w.params).In h₀ → News h₀ L s.heap news →
    Top Mine.hd.view_39 (looseW Mine.hd.view_39 [Str.ofString "_twin_re_1", Str.ofString "_twin_re_2"]) mean mg mb h₀ → cs.kind = .function →
    pre → dp + kd < recursionLimit → un + ku < cLine → CbRet h₀ L m news s Q R →
      wpAny (model PySem.Challenge.rw_wn0007_01.row.prog w) (ktrTop dp un gd cn cs L a ccd cl outer) (call (.ref f) vs) Q E s
theorem use_cl {kd ku : Nat} {w : World} {mean : ExcName → Option Value} {mg mb : Str → Option Value} {f : Addr} {news : List (Addr × Obj)} {pre : Prop} {vs : List Value} {R : Tok → Value}
    {dp un : Nat} {gd : Option (List Code)} {cn : Str} {cs : Scope} {a : Addr} {ccd : Value} {cl : List (Str × Addr)} {outer : List Env} {A₀ : Around} {base h₀ : Heap} {L : Addr} {m : Str → Option Value} {s : Shared} {Q E : Value → Shared → Prop}
    (h : Cl kd ku w mean mg mb f news pre vs R) (B : Below A₀ base outer h₀) (F : Fr h₀ L s.heap m) (X : (Mine.hd.heap_39 w.params).In h₀) (N : News h₀ L s.heap news)
    (T : Top Mine.hd.view_39 (looseW Mine.hd.view_39 [Str.ofString "_twin_re_1", Str.ofString "_twin_re_2"]) mean mg mb h₀) (hk : cs.kind = .function) (hp : pre) (hd : dp + kd < recursionLimit) (hu : un + ku < cLine)
    (k : ∀ (t : Tok) (h' : Heap) (tk' : Nat), Fr h₀ L h' m → News h₀ L h' news → Q (R t) { s with heap := h', toks := tk' }) :
    wpAny (model PySem.Challenge.rw_wn0007_01.row.prog w) (ktrTop dp un gd cn cs L a ccd cl outer) (call (.ref f) vs) Q E s :=
  h dp un gd cn cs a ccd cl outer A₀ base h₀ L m s Q E B F X N T hk hp hd hu k
end Mine
end
section
open PySem PySem.W PyProof.Rows PySem.Calls
set_option maxRecDepth 100000
set_option maxHeartbeats 8000000
namespace Mine
local macro_rules | `(tactic| k_room) => `(tactic| ((try simp only [depth_under_make, depth_under_kw, depth_in1, depth_deeper, depth_caller]); omega))
section
variable {w : World} {mean : ExcName → Option Value} {mg mb : Str → Option Value} (news : CbLed) (a b : Int) (t u : Tok)
theorem add_call : Cl 10 50 w mean mg mb 62 news True [.int a t, .int b u] (fun t => .int (a + b) t) := by
  k_with_none
  w_top off
  dsimp only [Cl, CbRet]
  k_fill
  intros
  rename_i hret
  refine wpAny_call ?_
  k_dflt cell_enter
  k_steps
  exact hret _ _ _ (by assumption) (by assumption)
theorem sub_call : Cl 10 50 w mean mg mb 97 news True [.int a t, .int b u] (fun t => .int (a - b) t) := by
  k_with_none
  w_top off
  dsimp only [Cl, CbRet]
  k_fill
  intros
  rename_i hret
  refine wpAny_call ?_
  k_dflt cell_enter
  k_steps
  exact hret _ _ _ (by assumption) (by assumption)
theorem mul_call : Cl 10 50 w mean mg mb 83 news (a.natAbs < 2 ^ 63 ∧ b.natAbs < 2 ^ 63) [.int a t, .int b u] (fun t => .int (a * b) t) := by
  k_with_none
  w_top off
  dsimp only [Cl, CbRet]
  k_fill
  intros
  rename_i hp _ _ hret
  obtain ⟨hp1, hp2⟩ := hp
  refine wpAny_call ?_
  k_dflt cell_enter
  k_steps
  exact hret _ _ _ (by assumption) (by assumption)
theorem or_call : Cl 10 50 w mean mg mb 90 news True [.int a t, .int b u] (fun t => .int (Builtin.bitOr a b) t) := by
  k_with_none
  w_top off
  dsimp only [Cl, CbRet]
  k_fill
  intros
  rename_i hret
  refine wpAny_call ?_
  k_dflt cell_enter
  k_steps
  exact hret _ _ _ (by assumption) (by assumption)
theorem floordiv_call : Cl 10 50 w mean mg mb 69 news (0 ≤ a ∧ a < 1000 ∧ 0 < b ∧ b < 1000) [.int a t, .int b u] (fun t => .int (a.fdiv b) t) := by
  k_with_none
  w_top off
  dsimp only [Cl, CbRet]
  k_fill
  intros
  rename_i hp _ _ hret
  obtain ⟨hp1, hp2, hp3, hp4⟩ := hp
  refine wpAny_call ?_
  k_dflt cell_enter
  k_steps
  exact hret _ _ _ (by assumption) (by assumption)
theorem lshift_call : Cl 10 50 w mean mg mb 76 news (0 ≤ a ∧ a < 4294967296) [.int a t, .int 4 u] (fun t => .int (a * 16) t) := by
  k_with_none
  w_top off
  dsimp only [Cl, CbRet]
  k_fill
  intros
  rename_i hp _ _ hret
  obtain ⟨hp1, hp2⟩ := hp
  refine wpAny_call ?_
  k_dflt cell_enter
  k_steps
  exact hret _ _ _ (by assumption) (by assumption)
end
end Mine
end
section
open PySem PySem.W PyProof.Rows PySem.Calls
set_option maxRecDepth 100000
set_option maxHeartbeats 8000000
namespace Mine
local macro_rules | `(tactic| walk_at "getMethod ref") => `(tactic| (k_here; first
  | ((with_reducible show wpAny _ _ (getMethod (Value.ref 36) (Str.ofString "sub") _) _ _ _); refine getMethod_sub (pat1 (by first | assumption | exact Frag.In.keeps (by k_asm) (Fr.keep (by k_asm)))) ?_)
  | ((with_reducible show wpAny _ _ (getMethod (Value.ref 41) (Str.ofString "sub") _) _ _ _); refine getMethod_sub (pat2 (by first | assumption | exact Frag.In.keeps (by k_asm) (Fr.keep (by k_asm)))) ?_)))
local macro_rules | `(tactic| walk_at "call builtin:re.Pattern.sub") => `(tactic| (k_here; first
  | (refine sub2_K (by k_asm) (by k_asm) (by k_asm) (by assumption) ?_; intro h' tk' t' F' N')
  | (refine sub1_K (by k_asm) (by k_asm) (by k_asm) (Nat.le_trans (normS_len _) (by omega)) ?_; intro h' tk' t' F' N')))
theorem quotedata_call {w : World} {mean mg mb} (news : CbLed) (V : Str) (T : Tok) : Cl 20 200 w mean mg mb 48 news (V.length ≤ 1000) [.str V T] (fun t => .str (quoteS V) t) := by
  k_with_none
  w_top off
  dsimp only [Cl, CbRet]
  k_fill
  intros
  rename_i hV _ _ hret
  have hV1 : V.length ≤ 10000 := by omega
  refine wpAny_call ?_
  k_dflt cell_enter
  k_steps
  rw [quoteS_eq]
  exact hret _ _ _ (by assumption) (by assumption)
end Mine
end
section
open PySem PySem.W PyProof.Rows PySem.Calls
set_option maxRecDepth 100000
set_option maxHeartbeats 8000000
namespace Mine
local macro_rules | `(tactic| k_room) => `(tactic| ((try simp only [depth_under_make, depth_under_kw, depth_in1, depth_deeper, depth_caller]); omega))
def numC (l : List Int) : Int := l.foldl (fun a c => a * 16 + if c = 46 then 1 else 0) 0
def numS (x : Str) : Int := numC (KStt.codes x)
theorem numC_snoc (l : List Int) (c : Int) : numC (l ++ [c]) = numC l * 16 + if c = 46 then 1 else 0 := by simp [numC]
theorem numC_fold (l : List Int) : ∀ a : Int, 0 ≤ a → 0 ≤ l.foldl (fun a c => a * 16 + if c = 46 then 1 else 0) a ∧ l.foldl (fun a c => a * 16 + if c = 46 then 1 else 0) a < (a + 1) * 16 ^ l.length := by
  induction l with
  | nil => intro a ha; simp; omega
  | cons c l ih =>
    intro a ha
    rw [List.foldl_cons, List.length_cons, Int.pow_succ, Int.mul_comm (16 ^ l.length) 16, ← Int.mul_assoc]
    have h1 : 0 ≤ a * 16 + (if c = 46 then (1 : Int) else 0) ∧ a * 16 + (if c = 46 then (1 : Int) else 0) + 1 ≤ (a + 1) * 16 := by split <;> omega
    obtain ⟨h2, h3⟩ := ih _ h1.1
    refine ⟨h2, Int.lt_of_lt_of_le h3 (Int.mul_le_mul_of_nonneg_right h1.2 (Int.pow_nonneg (by decide)))⟩
theorem numC_bound (l : List Int) : 0 ≤ numC l ∧ numC l < 16 ^ l.length := by
  have := numC_fold l 0 (by decide)
  simpa [numC] using this
theorem num_turn {V : Str} {pre post : List Int} {c a x : Int} (hV : V.length ≤ 8) (e : KStt.codes V = pre ++ c :: post) (inv : a = numC pre ∧ 0 ≤ a ∧ a < 4294967296) (hx : x = a * 16 + if c = 46 then 1 else 0) :
    x = numC (pre ++ [c]) ∧ 0 ≤ x ∧ x < 4294967296 := by
  have hl : (pre ++ [c]).length ≤ 8 := by
    have := congrArg List.length e
    rw [KStt.codes_length] at this
    simp at this ⊢
    omega
  have hb := numC_bound (pre ++ [c])
  have hx' : x = numC (pre ++ [c]) := by rw [numC_snoc, hx, inv.1]
  have hp : (16 : Int) ^ (pre ++ [c]).length ≤ 16 ^ 8 := by
    exact_mod_cast Nat.pow_le_pow_right (by decide : 0 < 16) hl
  refine ⟨hx', by omega, ?_⟩
  rw [hx']
  exact Int.lt_of_lt_of_le hb.2 (Int.le_trans hp (by decide))
theorem isDot_T {n : Nat} (h : (({ cps := #[n] } : Str) == Str.ofString ".") = true) : (n : Int) = 46 := by
  have := beq_iff_eq.mp h
  rw [show Str.ofString "." = ⟨#[46]⟩ by decide +kernel] at this
  injection this with this
  simp at this
  omega
theorem isDot_F {n : Nat} (h : ¬ (({ cps := #[n] } : Str) == Str.ofString ".") = true) : ¬ (n : Int) = 46 := by
  intro e
  apply h
  rw [show Str.ofString "." = ⟨#[46]⟩ by decide +kernel]
  have : n = 46 := by omega
  rw [this]
  decide +kernel
theorem isDot_F' {n : Nat} (h : (({ cps := #[n] } : Str) == Str.ofString ".") = false) : ¬ (n : Int) = 46 := isDot_F (by rw [h]; exact Bool.false_ne_true)
theorem num_turnT {V : Str} {pre post : List Int} {n : Nat} {a : Int} (hV : V.length ≤ 8) (e : KStt.codes V = pre ++ (n : Int) :: post) (inv : a = numC pre ∧ 0 ≤ a ∧ a < 4294967296) (h : (({ cps := #[n] } : Str) == Str.ofString ".") = true) :
    a * 2 ^ Int.toNat 4 + 1 = numC (pre ++ [(n : Int)]) ∧ 0 ≤ a * 2 ^ Int.toNat 4 + 1 ∧ a * 2 ^ Int.toNat 4 + 1 < 4294967296 :=
  num_turn hV e inv (by rw [if_pos (isDot_T h)]; rfl)
theorem num_turnF {V : Str} {pre post : List Int} {n : Nat} {a : Int} (hV : V.length ≤ 8) (e : KStt.codes V = pre ++ (n : Int) :: post) (inv : a = numC pre ∧ 0 ≤ a ∧ a < 4294967296) (h : ¬ (({ cps := #[n] } : Str) == Str.ofString ".") = true) :
    a * 2 ^ Int.toNat 4 + 0 = numC (pre ++ [(n : Int)]) ∧ 0 ≤ a * 2 ^ Int.toNat 4 + 0 ∧ a * 2 ^ Int.toNat 4 + 0 < 4294967296 :=
  num_turn hV e inv (by rw [if_neg (isDot_F h)]; rfl)
theorem law_number_call {w : World} {mean mg mb} (news : CbLed) (V : Str) (T : Tok) : Cl 20 200 w mean mg mb 104 news (V.length ≤ 8) [.str V T] (fun t => .int (numS V) t) := by
  k_with_none
  w_top off
  dsimp only [Cl, CbRet]
  k_fill
  intros
  rename_i hV _ _ hret
  refine wpAny_call ?_
  k_dflt cell_enter
  k_with "pyIter str" => k_state (fun pre number => number = numC pre ∧ 0 ≤ number ∧ number < 4294967296) "number"
  k_with "state" => first | exact ⟨rfl, by decide, by decide⟩ | exact num_turnT hV (by assumption) ⟨by assumption, by assumption, by assumption⟩ (by assumption) | exact num_turnF hV (by assumption) ⟨by assumption, by assumption, by assumption⟩ (by assumption) | exact num_turnF hV (by assumption) ⟨by assumption, by assumption, by assumption⟩ (by simp_all)
  k_steps
  refine cb_retI hret ?_ (by assumption) (by assumption)
  assumption
end Mine
end
section
open PySem PySem.W PyProof.Rows PySem.Calls
set_option maxRecDepth 100000
set_option maxHeartbeats 8000000
namespace Mine
local macro_rules | `(tactic| k_room) => `(tactic| ((try simp only [depth_under_make, depth_under_kw, depth_in1, depth_deeper, depth_caller]); omega))
def apL : Nat → Nat → List UInt8
  | 0, _ => []
  | f + 1, n => if n = 0 then [] else apL f (n / 16) ++ [UInt8.ofNat (65 + n % 16)]
def apB (n : Int) : Array UInt8 := (apL 40 n.toNat).toArray
def Hold (P : Prop) : Prop := P
local macro_rules | `(tactic| walk_at "exec While") => `(tactic| (k_here; (with_reducible show wpAny _ _ (exec (Stmt.While _ _ _ _) _) _ _ _); refine (id ?_ : Hold _)))
local macro_rules | `(tactic| walk_at "subscriptTail") => `(tactic| (k_here; (with_reducible show wpAny _ _ (subscriptTail _ (Expr.Slice _ _ none _) (Value.bytes _ _) (Value.ref _)) _ _ _); (with_reducible rename Fr _ _ _ _ => F'); (with_reducible rename News _ _ _ _ => N'); (with_unfolding_all refine KBc.slice_K (s := ⟨_, _, _, _, _⟩) F' N' rfl (by constructor) (by constructor) (by decide) ?_); intro _ _ _ F' N' _))
theorem apL_len : ∀ f n, (apL f n).length ≤ f
  | 0, _ => Nat.le_refl _
  | f + 1, n => by
    unfold apL
    split
    · exact Nat.zero_le _
    · rw [List.length_append, List.length_singleton]; exact Nat.succ_le_succ (apL_len f _)
theorem apB_size (n : Int) : (apB n).size ≤ 40 := by
  simpa [apB] using apL_len 40 n.toNat
theorem ap_size {V n : Int} {v : Array UInt8} (h : apB V = apB n ++ v) : v.size ≤ 40 := by
  have h1 := apB_size V
  rw [h, Array.size_append] at h1
  omega
local macro_rules | `(tactic| walk_at "binaryOp Add") => `(tactic| (k_here; (show wpAny _ _ (binaryOp Operator.Add (Value.bytes (KBy.picked _ _ _) _) (Value.bytes _ _)) _ _ _); refine KBy.add_bytes (Nat.le_trans (Nat.add_le_add (KBc.size_picked_le _ _ _) (ap_size (by assumption))) (by decide)) ?_; intro _ _))
theorem apL_fuel : ∀ f n, n < 16 ^ f → apL f n = apL (f + 1) n
  | 0, n, h => by
    have : n = 0 := by simpa using h
    subst this; rfl
  | f + 1, n, h => by
    rw [apL, apL]
    by_cases hn : n = 0
    · rw [if_pos hn, if_pos hn]
    · rw [if_neg hn, if_neg hn, apL_fuel f (n / 16) (by rw [Nat.pow_succ] at h; omega)]
theorem apB_step {n : Int} (h0 : 0 ≤ n) (h1 : n < 1099511627776) (hn : n ≠ 0) : apB n = apB (n.fdiv 16) ++ #[UInt8.ofNat (65 + (n.fmod 16).toNat)] := by
  obtain ⟨k, rfl⟩ := Int.eq_ofNat_of_zero_le h0
  have e1 : ((k : Int).fdiv 16).toNat = k / 16 := by
    rw [Int.fdiv_eq_ediv_of_nonneg _ (by decide)]; omega
  have e2 : ((k : Int).fmod 16).toNat = k % 16 := by
    rw [Int.fmod_eq_emod_of_nonneg _ (by decide)]; omega
  unfold apB
  rw [e1, e2, Int.toNat_natCast]
  have e3 : apL 40 k = apL 40 (k / 16) ++ [UInt8.ofNat (65 + k % 16)] := by
    have h16 : (16 : Nat) ^ 10 = 1099511627776 := by decide
    have hlt : k / 16 < 16 ^ 39 := Nat.lt_of_lt_of_le (m := 16 ^ 10) (by omega) (Nat.pow_le_pow_right (by decide) (by decide))
    have hu : apL 40 k = apL 39 (k / 16) ++ [UInt8.ofNat (65 + k % 16)] := by
      conv => lhs; unfold apL
      rw [if_neg (by omega)]
    rw [hu, apL_fuel 39 (k / 16) hlt]
  rw [e3]
  simp
theorem ap_pick {m : Int} (h0 : 0 ≤ m) (h1 : m < 16) : KBy.picked #[65, 66, 67, 68, 69, 70, 71, 72, 73, 74, 75, 76, 77, 78, 79, 80] (some m) (some (m + 1)) = #[UInt8.ofNat (65 + m.toNat)] := by
  have : m = 0 ∨ m = 1 ∨ m = 2 ∨ m = 3 ∨ m = 4 ∨ m = 5 ∨ m = 6 ∨ m = 7 ∨ m = 8 ∨ m = 9 ∨ m = 10 ∨ m = 11 ∨ m = 12 ∨ m = 13 ∨ m = 14 ∨ m = 15 := by omega
  rw [KBc.picked_eq]
  rcases this with rfl | rfl | rfl | rfl | rfl | rfl | rfl | rfl | rfl | rfl | rfl | rfl | rfl | rfl | rfl | rfl <;> decide +kernel
theorem ap_turn {V n : Int} {v : Array UInt8} (h0 : 0 ≤ n) (h1 : n < 1099511627776) (hn : n ≠ 0) (h : apB V = apB n ++ v) :
    0 ≤ n.fdiv 16 ∧ n.fdiv 16 < 1099511627776 ∧ apB V = apB (n.fdiv 16) ++ (KBy.picked #[65, 66, 67, 68, 69, 70, 71, 72, 73, 74, 75, 76, 77, 78, 79, 80] (some (n.fmod 16)) (some (n.fmod 16 + 1)) ++ v) := by
  have e1 : n.fdiv 16 = n / 16 := Int.fdiv_eq_ediv_of_nonneg _ (by decide)
  have e2 : n.fmod 16 = n % 16 := Int.fmod_eq_emod_of_nonneg _ (by decide)
  refine ⟨by rw [e1]; omega, by rw [e1]; omega, ?_⟩
  rw [ap_pick (by rw [e2]; omega) (by rw [e2]; omega), h, apB_step h0 h1 hn, Array.append_assoc]
theorem ap_less {n : Int} (h0 : 0 ≤ n) (hn : n ≠ 0) : (n.fdiv 16).toNat < n.toNat := by
  have e1 : n.fdiv 16 = n / 16 := Int.fdiv_eq_ediv_of_nonneg _ (by decide)
  rw [e1]; omega
theorem int2ap_call {w : World} {mean mg mb} (news : CbLed) (V : Int) (T : Tok) : Cl 20 200 w mean mg mb 55 news (0 ≤ V ∧ V < 2 ^ 40) [.int V T] (fun t => .bytes (apB V) t) := by
  k_with_none
  w_top off
  dsimp only [Cl, CbRet]
  k_fill
  intros
  rename_i hV _ _ hret
  obtain ⟨hV0, hV1⟩ := hV
  refine wpAny_call ?_
  k_dflt cell_enter
  k_steps
  unfold Hold
  (rename Fr _ _ _ _ => lF'); (rename News _ _ _ _ => lN')
  with_unfolding_all refine' ksw_while (σ := Int × Tok × Array UInt8 × Tok) (fun _ => news) (fun c => [(Str.ofString "num", .int c.1 c.2.1), (Str.ofString "val", .bytes c.2.2.1 c.2.2.2)]) (fun _ => True) [Str.ofString "mod"] (fun c => 0 ≤ c.1 ∧ c.1 < 1099511627776 ∧ apB V = apB c.1 ++ c.2.2.1) (fun c => c.1.toNat) ⟨_, _, _, _⟩ lF' ?kn ?kf ?kk ?kp ?_
  case kn => exact lN'
  case kf => trivial
  case kk => kst_all
  case kp =>
    have e : (if V < 0 then -V else V) = V := by omega
    exact ⟨by rw [e]; exact hV0, by rw [e]; omega, by rw [e]; simp⟩
  clear lF' lN'
  rintro ⟨num, tn, val, tv⟩ u h tk _ ⟨hn0, hn1, hn2⟩ kFr kN
  dsimp only at hn0 hn1 hn2 kFr kN
  k_steps
  · (rename News _ _ _ _ => nE')
    refine ksw_end ⟨_, _, _, _⟩ (by assumption) nE' (by intro p hp; first | assumption | exact List.mem_cons_of_mem _ hp) trivial (by kst_all) (by intro z h2 h3; simp at h2 h3; simp [kstB, h2, h3]) (ap_turn hn0 hn1 (by assumption) hn2) (ap_less hn0 (by assumption))
  · have e0 : num = 0 := by assumption
    subst e0
    have e : val = apB V := by rw [hn2]; simp [apB, apL]
    rw [e]
    exact hret _ _ _ (by assumption) (by assumption)
end Mine
end
section
open PySem PySem.W PyProof.Rows PySem.Calls
set_option maxRecDepth 100000
set_option maxHeartbeats 8000000
namespace Mine
local macro_rules | `(tactic| k_room) => `(tactic| ((try simp only [depth_under_make, depth_under_kw, depth_in1, depth_deeper, depth_caller]); omega))
def worthAt (W : Array UInt8) (ns : List Int) (k : Int) : Int := ns.getD k.toNat 0 * ((KBw.bInts W).getD (-1 - k + (W.size : Int)).toNat 0 - 65)
def worthF (W : Array UInt8) (ns : List Int) : Int := ((rangeKs 0 W.size).map (worthAt W ns)).sum
section
variable {prog : Program} {w : World} {A : Around} {E : Value → Shared → Prop} {s : Shared} {value slice : PySem.Expr} {b : Array UInt8} {t : Tok} {Q : Value → Shared → Prop} {i : Int}
theorem bytesR_K {ui : Tok} (hfit : b.size ≤ 1099511627776) (h0 : -(b.size : Int) ≤ i) (h1 : i < 0)
    (h : ∀ (x : Int) t' k, x = (KBw.bInts b).getD (i + (b.size : Int)).toNat 0 → 0 ≤ x → x < 256 → Q (.int x t') { s with toks := k })
    (hs : subscripted slice false (.bytes b t) (.int i ui) = operate [.bytes b t, .int i ui] (getItem (.bytes b t) (.int i ui)) := by with_unfolding_all rfl)
    (ht : ∀ r, letTemporaryGo value (.bytes b t) r = pure () := by intro _; with_unfolding_all rfl) : wpAny (model prog w) A (subscriptTail value slice (.bytes b t) (.int i ui)) Q E s := by
  refine KBc.itemR_K (ks := KBw.bInts b) rfl (by rw [KBw.ints_length]; exact hfit) (by rw [KBw.ints_length]; exact h0) h1 ?_ hs ht
  rw [KBw.ints_length]
  exact fun t' k h2 h3 => h _ t' k rfl h2 h3
end
theorem getD_in {ns : List Int} (hb : ∀ x ∈ ns, -1000001 ≤ x ∧ x ≤ 1000001) (i : Nat) : -1000001 ≤ ns.getD i 0 ∧ ns.getD i 0 ≤ 1000001 := by
  rw [List.getD_eq_getElem?_getD]
  cases h : ns[i]? with
  | none => exact ⟨by decide, by decide⟩
  | some x => exact hb x (List.mem_of_getElem? h)
theorem getD_small {ns : List Int} (hb : ∀ x ∈ ns, -1000001 ≤ x ∧ x ≤ 1000001) (i : Nat) : (ns.getD i 0).natAbs < 2 ^ 63 := by
  have := getD_in hb i
  omega
theorem worth_turn {W : Array UInt8} {ns pre : List Int} {k x a : Int} (ha : a = (pre.map (worthAt W ns)).sum) (hx : x = (KBw.bInts W).getD (-1 - k + (W.size : Int)).toNat 0) :
    a + ns.getD k.toNat 0 * (x - 65) = ((pre ++ [k]).map (worthAt W ns)).sum := by
  rw [List.map_append, List.sum_append, ha, hx]
  simp [worthAt]
local macro_rules | `(tactic| walk_at "subscriptTail") => `(tactic| (k_here; (with_reducible show wpAny _ _ (subscriptTail _ _ (Value.bytes _ _) (Value.int _ _)) _ _ _); (plain_pass; refine' bytesR_K ?b1 ?b2 ?b3 ?_); (case b1 => omega); (case b2 => omega); (case b3 => omega); intro kbcX _ _ kbcE kbcLo kbcHi))
local macro_rules | `(tactic| walk_at "call ref") => `(tactic| (k_here; (show wpAny _ _ (call (Value.ref 62) [Value.int _ _, Value.int _ _]) _ _ _); (refine' use_cl (add_call _ _ _ _ _) ?k1 ?k2 ?k3 ?k4 ?k5 ?k6 ?k7 ?k8 ?k9 ?_); (case k1 => k_asm); (case k2 => k_asm); (case k3 => k_asm); (case k4 => k_asm); (case k5 => k_asm); (case k6 => first | exact rfl | assumption); (case k7 => exact True.intro); (case k8 => ktr_room); (case k9 => ktr_units); intro t9 h9 tk9 F9 N9; (try dsimp only); (try k_fold)))
local macro_rules | `(tactic| walk_at "call ref") => `(tactic| (k_here; (show wpAny _ _ (call (Value.ref 97) [Value.int _ _, Value.int _ _]) _ _ _); (refine' use_cl (sub_call _ _ _ _ _) ?k1 ?k2 ?k3 ?k4 ?k5 ?k6 ?k7 ?k8 ?k9 ?_); (case k1 => k_asm); (case k2 => k_asm); (case k3 => k_asm); (case k4 => k_asm); (case k5 => k_asm); (case k6 => first | exact rfl | assumption); (case k7 => exact True.intro); (case k8 => ktr_room); (case k9 => ktr_units); intro t9 h9 tk9 F9 N9; (try dsimp only); (try k_fold)))
local macro_rules | `(tactic| walk_at "call ref") => `(tactic| (k_here; (show wpAny _ _ (call (Value.ref 83) [Value.int _ _, Value.int _ _]) _ _ _); (refine' use_cl (mul_call _ _ _ _ _) ?k1 ?k2 ?k3 ?k4 ?k5 ?k6 ?k7 ?k8 ?k9 ?_); (case k1 => k_asm); (case k2 => k_asm); (case k3 => k_asm); (case k4 => k_asm); (case k5 => k_asm); (case k6 => first | exact rfl | assumption); (case k7 => exact ⟨getD_small (by assumption) _, by omega⟩); (case k8 => ktr_room); (case k9 => ktr_units); intro t9 h9 tk9 F9 N9; (try dsimp only); (try k_fold)))
local macro_rules | `(tactic| walk_at "InvEndN") => `(tactic| (k_dflt kst_close))
theorem law_worth_call {w : World} {mean mg mb} (news : CbLed) (W : Array UInt8) (T : Tok) (lw : Addr) (us : List Value) (ns : List Int) (kk : Nat) (hu : IntsAre us ns) (hn : ns.length = 6) (hb : ∀ x ∈ ns, -1000001 ≤ x ∧ x ≤ 1000001) : 
    Cl 20 200 w mean mg mb 111 ((lw, PySem.W.listOf us.toArray kk) :: news) (W.size ≤ 6) [.bytes W T, .ref lw] (fun t => .int (worthF W ns) t) := by
  k_with_none
  w_top off
  dsimp only [Cl, CbRet]
  k_fill
  intros
  rename_i hV _ _ hret
  refine wpAny_call ?_
  k_dflt cell_enter
  k_with "pyIter ref" => k_state (fun pre worth => worth = (pre.map (worthAt W ns)).sum) "worth"
  k_with "state" => first | exact rfl | exact worth_turn (by assumption) (by assumption)
  k_steps
  refine cb_retI hret ?_ (by assumption) (by assumption)
  (rename _ = (List.map (worthAt W ns) _).sum => e)
  rw [e, Int.sub_zero, Int.toNat_natCast]
  rfl
end Mine
end
section
open PySem PySem.W PyProof.Rows PySem.Calls PySem.Spec
set_option maxRecDepth 100000
namespace Mine
/-- a list of values tells a list of data, item by item -/
inductive A2 {α : Type} (R : α → Value → Prop) : List α → List Value → Prop
  | nil : A2 R [] []
  | cons {a : α} {v : Value} {as : List α} {vs : List Value} : R a v → A2 R as vs → A2 R (a :: as) (v :: vs)
theorem A2.snoc {α : Type} {R : α → Value → Prop} {a : α} {v : Value} : ∀ {as : List α} {vs : List Value}, A2 R as vs → R a v → A2 R (as ++ [a]) (vs ++ [v])
  | _, _, .nil, h => .cons h .nil
  | _, _, .cons x r, h => .cons x (r.snoc h)
theorem A2.length {α : Type} {R : α → Value → Prop} : ∀ {as : List α} {vs : List Value}, A2 R as vs → vs.length = as.length
  | _, _, .nil => rfl
  | _, _, .cons _ r => congrArg (· + 1) r.length
theorem A2.at {α : Type} {R : α → Value → Prop} : ∀ {as : List α} {vs : List Value}, A2 R as vs → ∀ (i : Nat) (v : Value), vs[i]? = some v → ∃ a, as[i]? = some a ∧ R a v
  | _, _, .nil, i, v, h => by simp at h
  | _, _, .cons x r, 0, v, h => by simp at h; subst h; exact ⟨_, rfl, x⟩
  | _, _, .cons x r, i + 1, v, h => by simpa using r.at i v (by simpa using h)
theorem A2.ints {α : Type} {g : α → Int} : ∀ {as : List α} {vs : List Value}, A2 (fun a v => ∃ t : Tok, v = .int (g a) t) as vs → IntsAre vs (as.map g)
  | _, _, .nil => .nil
  | _, _, .cons ⟨t, e⟩ r => by subst e; exact .cons _ t r.ints
theorem A2.strs {α : Type} {g : α → Str} : ∀ {as : List α} {vs : List Value}, A2 (fun a v => ∃ t : Tok, v = .str (g a) t) as vs → StrsAre vs (as.map g)
  | _, _, .nil => .nil
  | _, _, .cons ⟨t, e⟩ r => by subst e; exact .cons _ t r.strs
theorem ints_at {vs : List Value} {ns : List Int} (h : IntsAre vs ns) (i : Nat) (v : Value) (hv : vs[i]? = some v) : ∃ a, ns[i]? = some a ∧ ∃ t : Tok, v = .int a t := by
  obtain ⟨k, t, e, hk⟩ := IntsAre.at h i v hv
  exact ⟨k, hk, t, e⟩
theorem strs_at {vs : List Value} {ns : List Str} (h : StrsAre vs ns) (i : Nat) (v : Value) (hv : vs[i]? = some v) : ∃ a, ns[i]? = some a ∧ ∃ t : Tok, v = .str a t := by
  obtain ⟨y, t, e, hk⟩ := h.item i v hv
  exact ⟨y, hk, t, e⟩
section
variable {α : Type} {prog : Program} {w : World} {A : Around} {h₀ : Heap} {L : Addr} {m : Str → Option Value} {env : Env} {elt ct : Expr} {x : Str} {scope : Scope} {cl : List (Str × Addr)} {s : Shared} {S : List (Addr × Obj) → Prop} {P : Nat → Value → Prop} {Fin : List Value → List (Addr × Obj) → Prop} {news : List (Addr × Obj)}
def El (R : Value → Prop) (news : List (Addr × Obj)) (y : Value) (news' : List (Addr × Obj)) : Prop := news' = news ∧ R y
theorem comp_rest {n : Nat} {xs : List α} (O : α → Value → Prop) (It : α → Value → Prop) (hxs : xs.length = n) (hP : ∀ i v, i < n → P i v → ∃ a, xs[i]? = some a ∧ It a v)
    (turn : ∀ a v I oI C oC D m₂ ys h tk (E' : Value → Shared → Prop), a ∈ xs → It a v → LCg.NsObj oC m₂ → m₂ x = some v → Fr h₀ L h m → News h₀ L h ((I, oI) :: (C, oC) :: (D, LCg.lst ys) :: news) → LCg.Off3 I C D news → ((@Ne Nat I C) ∧ (@Ne Nat I D) ∧ (@Ne Nat C D)) →
      wpAny (model prog w) A (eval elt (compEnvC scope cl C env)) (LCg.CompEnd h₀ L m { s with heap := h, toks := tk } I oI C oC D (LCg.lst ys) S (fun y news' => El (O a) news y news')) E' { s with heap := h, toks := tk })
    (fin : ∀ ys, A2 O xs ys → Fin ys news) : LCg.CompRest prog w A h₀ L m env elt x scope cl s S P Fin n 0 [] news := by
  have key : ∀ (j i : Nat) (ys : List Value), i + j = n → A2 O (xs.take i) ys → LCg.CompRest prog w A h₀ L m env elt x scope cl s S P Fin j i ys news := by
    intro j
    induction j with
    | zero =>
      intro i ys hi hy
      have e : i = xs.length := by omega
      subst e
      rw [List.take_length] at hy
      exact LCg.CompRest.zero (fin ys hy)
    | succ j ih =>
      intro i ys hi hy
      refine LCg.CompRest.succ ?_
      intro v I oI C oC D m₂ h tk E' hv hC hx F N off ne
      obtain ⟨a, ha, hv'⟩ := hP i v (by omega) hv
      refine wpAny_mono (turn a v I oI C oC D m₂ ys h tk E' (List.mem_of_getElem? ha) hv' hC hx F N off ne) (fun y s₂ hq => ?_) fun _ _ e => e
      obtain ⟨h', tk', nw, e, F', N', off', hS, hn, hO⟩ := hq
      subst hn
      refine ⟨h', tk', _, e, F', N', off', hS, ?_⟩
      refine ih (i + 1) _ (by omega) ?_
      rw [List.take_add_one, ha]
      exact hy.snoc hO
  exact key n 0 [] (by omega) (by rw [List.take_zero]; exact .nil)

def ElT (b : Bool) (ok : Bool) (P : Prop) (Q : Prop) : Prop := ok = b ∧ if b = true then P else Q
theorem comp_restT {n : Nat} {xs : List α} (p : α → Bool) (O : α → Value → Prop) (It : α → Value → Prop) (hxs : xs.length = n) (hP : ∀ i v, i < n → P i v → ∃ a, xs[i]? = some a ∧ It a v)
    (turn : ∀ a v I oI C oC D m₂ ys h tk (E' : Value → Shared → Prop), a ∈ xs → It a v → LCg.NsObj oC m₂ → m₂ x = some v → Fr h₀ L h m → News h₀ L h ((I, oI) :: (C, oC) :: (D, LCg.lst ys) :: news) → LCg.Off3 I C D news → ((@Ne Nat I C) ∧ (@Ne Nat I D) ∧ (@Ne Nat C D)) →
      wpAny (model prog w) A (isTrue ct (compEnvC scope cl C env) (eval ct (compEnvC scope cl C env))) (fun ok s' => ok = p a ∧
        if ok = true then wpAny (model prog w) A (eval elt (compEnvC scope cl C env)) (LCg.CompEnd h₀ L m { s with heap := h, toks := tk } I oI C oC D (LCg.lst ys) S (fun y news' => El (O a) news y news')) E' s'
        else LCg.CompEnd h₀ L m { s with heap := h, toks := tk } I oI C oC D (LCg.lst ys) S (fun _ news' => news' = news) Value.none s') E' { s with heap := h, toks := tk })
    (fin : ∀ ys, A2 O (xs.filter p) ys → Fin ys news) : LCt.CompRestT prog w A h₀ L m env ct elt x scope cl s S P Fin n 0 [] news := by
  have key : ∀ (j i : Nat) (ys : List Value), i + j = n → A2 O ((xs.take i).filter p) ys → LCt.CompRestT prog w A h₀ L m env ct elt x scope cl s S P Fin j i ys news := by
    intro j
    induction j with
    | zero =>
      intro i ys hi hy
      have e : i = xs.length := by omega
      subst e
      rw [List.take_length] at hy
      exact LCt.CompRestT.zero (fin ys hy)
    | succ j ih =>
      intro i ys hi hy
      refine LCt.CompRestT.succ ?_
      intro v I oI C oC D m₂ h tk E' hv hC hx F N off ne
      obtain ⟨a, ha, hv'⟩ := hP i v (by omega) hv
      have e0 : (xs.take (i + 1)).filter p = (xs.take i).filter p ++ if p a = true then [a] else [] := by
        rw [List.take_add_one, ha, List.filter_append]
        cases hp : p a <;> simp [hp]
      refine wpAny_mono (turn a v I oI C oC D m₂ ys h tk E' (List.mem_of_getElem? ha) hv' hC hx F N off ne) (fun ok s₁ hq => ?_) fun _ _ e => e
      obtain ⟨rfl, hq⟩ := hq
      cases hp : p a with
      | true =>
        rw [hp] at hq e0
        simp only [if_true] at hq e0 ⊢
        refine wpAny_mono hq (fun y s₂ hq => ?_) fun _ _ e => e
        obtain ⟨h', tk', nw, e, F', N', off', hS, hn, hO⟩ := hq
        subst hn
        refine ⟨h', tk', _, e, F', N', off', hS, ?_⟩
        refine ih (i + 1) _ (by omega) ?_
        rw [e0]
        exact hy.snoc hO
      | false =>
        rw [hp] at hq e0
        simp only [Bool.false_eq_true, if_false, List.append_nil] at hq e0 ⊢
        obtain ⟨h', tk', nw, e, F', N', off', hS, hn⟩ := hq
        subst hn
        refine ⟨h', tk', _, e, F', N', off', hS, ?_⟩
        refine ih (i + 1) _ (by omega) ?_
        rw [e0]
        exact hy
  exact key n 0 [] (by omega) (by rw [List.take_zero]; exact .nil)
end

section
variable {prog : Program} {w : World} {A : Around} {E : Value → Shared → Prop} {s : Shared} {env : Env} {h₀ : Heap} {x : Str} {px : Pos} {body : List Stmt} {Q : Flow → Shared → Prop}
/-- a loop over a range (any step), whatever its target is stored into -/
theorem iterT_range {r : Addr} {a₀ b₀ c₀ : Int} {t₀ u₀ v₀ : Tok} {n : Nat} {m₀ : Str → Option Value} {news : List (Addr × Obj)} (J : Nat → (Str → Option Value) → List (Addr × Obj) → Prop)
    (hh : A.handled = none) (hr : IsRange s.heap r a₀ b₀ c₀ t₀ u₀ v₀) (hsmall : Builtin.Range.small a₀ b₀ c₀ = true) (hn : Builtin.Range.rangeSize a₀ b₀ c₀ = (n : Int)) (F : Fr h₀ env.locals s.heap m₀) (N : News h₀ env.locals s.heap news) (hj : J 0 m₀ news)
    (turn : ∀ (i : Nat) t m₁ news₁ (s₁ : Shared) own, i < n → news₁.map (·.1) = news.map (·.1) → OwnOff own (news.map (·.1)) → J i m₁ news₁ → Fr h₀ env.locals s₁.heap m₁ → News h₀ env.locals s₁.heap (news₁ ++ own) →
      wpAny (model prog w) A (assign (.Name x px) env (.int (a₀ + i * c₀) t)) (fun _ s₃ => wpAny (model prog w) A (execs body env) (fun f s₄ => f = .next ∧ InvEndN h₀ env.locals (J (i + 1)) own (news.map (·.1)) s₁ s₄) E s₃) E s₁)
    (done : ∀ m₁ news₁ h tk, J n m₁ news₁ → Fr h₀ env.locals h m₁ → News h₀ env.locals h news₁ → Q .next { s with heap := h, toks := tk }) :
    wpAny (model prog w) A (pyIter (.ref r)) (fun it s₂ => LoopAtT prog w A h₀ env (.Name x px) body Q E it s₂) E s := by
  refine wpAny_pyIter_range hr hsmall ?_
  have W : Walks prog w A s.heap.objs.size [s.heap.objs.size] [s.heap.objs.size] n (fun i v => i < n ∧ ∃ t, v = .int (a₀ + i * c₀) t)
      (fun i h => IsRangeIter h s.heap.objs.size (a₀ + (i : Nat) * c₀) ((n : Int) - (i : Nat)) c₀) := (Walks.range hh _ a₀ c₀ n).bound
  have lt : ∀ p ∈ news, p.1 < s.heap.objs.size := fun p hp => Heap.lt_size (N p hp).1
  refine ⟨_, _, _, n, _, _, m₀, news, (fun i m' nx => nx.map (·.1) = news.map (·.1) ∧ J i m' nx), rfl, W, ?_, ?_, ?_, (by show IsRangeIter _ _ _ _ _; rw [hn]; simpa using Heap.get?_push_size _ rfl), F.push _, (fun p hp => ⟨Heap.get?_push_of_some _ (N p hp).1, (N p hp).2⟩), ?_, ⟨rfl, hj⟩, ?_, ?_⟩
  · intro hm
    exact absurd F.ns.lt ((List.mem_singleton.mp hm) ▸ Nat.lt_irrefl _)
  · intro b hb
    rw [List.mem_singleton.mp hb]
    exact next_is_new F
  · intro p hp hI
    exact absurd (lt p hp) ((List.mem_singleton.mp hI) ▸ Nat.lt_irrefl _)
  · intro i s' v Q' _ hq
    exact wpAny_pure hq
  · rintro i v m₁ news₁ s₁ own hi ⟨_, t, rfl⟩ ⟨hadr, hJ⟩ hoff hown _ _ _ F₁ N₁
    have hsep : OwnOff own (news.map (·.1)) := by
      intro p hp b hb e
      obtain ⟨q, hq, rfl⟩ := List.mem_map.mp hb
      have h1 := List.mem_singleton.mp (hown p hp)
      exact absurd (lt q hq) (by rw [← e, h1]; exact Nat.lt_irrefl _)
    refine wpAny_mono (turn i t m₁ news₁ s₁ own hi hadr hsep hJ F₁ (fun p hp => N₁ p ((List.mem_append.mp hp).elim (fun h => List.mem_append.mpr (.inr h)) fun h => List.mem_append.mpr (.inl h)))) (fun _ s₃ h₃ => wpAny_mono h₃ (fun f s₄ h₄ => ?_) fun _ _ e => e) fun _ _ e => e
    obtain ⟨rfl, h', tk, m', news', nx, e, F', N', hn, ho, ha, hm⟩ := h₄
    refine ⟨rfl, h', tk, m', nx, e, F', fun p hp => N' p ((List.mem_append.mp hp).elim (ho p) (hn p)), fun p hp hq => ?_, ha, hm⟩
    have h1 : p.1 ∈ nx.map (·.1) := List.mem_map.mpr ⟨p, hp, rfl⟩
    rw [ha, ← hadr] at h1
    obtain ⟨q, hq1, hq2⟩ := List.mem_map.mp h1
    exact hoff q hq1 (by rw [hq2]; exact hq)
  · rintro h' tk m' news' F' N' _ ⟨_, hJ⟩
    exact done m' news' h' tk hJ F' N'
/-- a loop over a list of the ledger's, whatever its target is stored into -/
theorem iterT_list {l : Addr} {vs : List Value} {ns : List Int} {nn : Nat} {m₀ : Str → Option Value} {news : List (Addr × Obj)} (J : Nat → (Str → Option Value) → List (Addr × Obj) → Prop)
    (hh : A.handled = none) (hl : (l, listOf vs.toArray nn) ∈ news) (hi : IntsAre vs ns) (F : Fr h₀ env.locals s.heap m₀) (N : News h₀ env.locals s.heap news) (hj : J 0 m₀ news)
    (hJl : ∀ i m nx, J i m nx → (l, listOf vs.toArray nn) ∈ nx)
    (turn : ∀ (i : Nat) k t m₁ news₁ (s₁ : Shared) own, ns[i]? = some k → news₁.map (·.1) = news.map (·.1) → OwnOff own (news.map (·.1)) → J i m₁ news₁ → Fr h₀ env.locals s₁.heap m₁ → News h₀ env.locals s₁.heap (news₁ ++ own) →
      wpAny (model prog w) A (assign (.Name x px) env (.int k t)) (fun _ s₃ => wpAny (model prog w) A (execs body env) (fun f s₄ => f = .next ∧ InvEndN h₀ env.locals (J (i + 1)) own (news.map (·.1)) s₁ s₄) E s₃) E s₁)
    (done : ∀ m₁ news₁ h tk, J ns.length m₁ news₁ → Fr h₀ env.locals h m₁ → News h₀ env.locals h news₁ → Q .next { s with heap := h, toks := tk }) :
    wpAny (model prog w) A (pyIter (.ref l)) (fun it s₂ => LoopAtT prog w A h₀ env (.Name x px) body Q E it s₂) E s := by
  have hol : s.heap.get? l = some (listOf vs.toArray nn) := (N _ hl).1
  have hls : s.heap.IsList l vs.toArray := ⟨_, hol, rfl, nn, rfl⟩
  have hne : l ≠ s.heap.objs.size := Nat.ne_of_lt (Heap.lt_size hol)
  have lt : ∀ p ∈ news, p.1 < s.heap.objs.size := fun p hp => Heap.lt_size (N p hp).1
  refine wpAny_pyIter_list hls ?_
  have W := Walks.list (prog := prog) (w := w) hh s.heap.objs.size l hne vs.toArray
  have hlen : vs.toArray.size = ns.length := by simp [hi.length]
  rw [hlen] at W
  refine ⟨_, _, _, ns.length, _, _, m₀, news, (fun i m nx => nx.map (·.1) = news.map (·.1) ∧ J i m nx), rfl, W, ?_, ?_, ?_, ⟨⟨_, Heap.get?_push_size _ rfl, rfl, rfl⟩, hls.at fun o e => Heap.get?_push_of_some _ e⟩, F.push _, (fun p hp => ⟨Heap.get?_push_of_some _ (N p hp).1, (N p hp).2⟩), ?_, ⟨rfl, hj⟩, ?_, ?_⟩
  · intro hm
    rcases List.mem_cons.mp hm with e | hm
    · exact absurd F.ns.lt (e ▸ Nat.lt_irrefl _)
    · exact (N _ hl).2.1 ((List.mem_singleton.mp hm).symm)
  · intro b hb
    rw [List.mem_singleton.mp hb]
    exact next_is_new F
  · intro p hp hI
    exact absurd (lt p hp) ((List.mem_singleton.mp hI) ▸ Nat.lt_irrefl _)
  · intro i s' v Q' _ hq
    exact wpAny_pure hq
  · rintro i v m₁ news₁ s₁ own hin hP ⟨hadr, hJ⟩ hoff hown hget hfp _ F₁ N₁
    have hl₁ := hJl _ _ _ hJ
    have hsep : OwnOff (own.filter fun p => decide (p.1 = s.heap.objs.size)) (news.map (·.1)) := by
      intro p hp b hb e
      obtain ⟨q, hq, rfl⟩ := List.mem_map.mp hb
      have h1 : p.1 = s.heap.objs.size := by simpa using (List.mem_filter.mp hp).2
      exact absurd (lt q hq) (by rw [← e, h1]; exact Nat.lt_irrefl _)
    have hlt' : i < ns.length := hin
    obtain ⟨t, hx⟩ := hi.get i ns[i] (by simp [hlt'])
    have hv : v = .int ns[i] t := by
      have hP' : vs[i]? = some v := by simpa using hP
      rw [hx] at hP'; exact (Option.some.inj hP').symm
    subst hv
    have N₂ : News h₀ env.locals s₁.heap (news₁ ++ own.filter fun p => decide (p.1 = s.heap.objs.size)) := fun p hp => N₁ p ((List.mem_append.mp hp).elim (fun h => List.mem_append.mpr (.inr h)) fun h => List.mem_append.mpr (.inl ((List.mem_filter.mp h).1)))
    have hlo : s₁.heap.get? l = some (listOf vs.toArray nn) := (N₁ _ (List.mem_append.mpr (.inr hl₁))).1
    refine wpAny_mono (turn i ns[i] t m₁ news₁ s₁ _ (by simp [hlt']) hadr hsep hJ F₁ N₂) (fun _ s₃ h₃ => wpAny_mono h₃ (fun f s₄ h₄ => ?_) fun _ _ e => e) fun _ _ e => e
    obtain ⟨rfl, h', tk, m', news', nx, e, F', N', hn, ho, ha, hm⟩ := h₄
    refine ⟨rfl, h', tk, m', nx, e, F', fun p hp => ?_, fun p hp => ?_, ha, hm⟩
    · rcases List.mem_append.mp hp with h | h
      · by_cases hI : p.1 = s.heap.objs.size
        · exact N' p (ho p (List.mem_filter.mpr ⟨h, by simpa using hI⟩))
        · have h1 : p.1 = l := by
            rcases List.mem_cons.mp (hown p h) with h2 | h2
            · exact absurd h2 hI
            · exact List.mem_singleton.mp h2
          have h2 : s₁.heap.get? p.1 = some p.2 := hget p h
          rw [h1, hlo] at h2
          have h3 : p = (l, listOf vs.toArray nn) := Prod.ext h1 (Option.some.inj h2).symm
          rw [h3]
          exact N' _ (hn _ (hJl _ _ _ hm))
      · exact N' p (hn p h)
    · have h1 : p.1 ∈ nx.map (·.1) := List.mem_map.mpr ⟨p, hp, rfl⟩
      rw [ha, ← hadr] at h1
      obtain ⟨q, hq1, hq2⟩ := List.mem_map.mp h1
      rw [← hq2]
      exact hoff q hq1
  · rintro h' tk m' news' F' N' _ ⟨_, hJ⟩
    exact done m' news' h' tk hJ F' N'
end
end Mine
end
section
open PySem PySem.W PyProof.Rows PySem.Calls PySem.Spec
set_option maxRecDepth 100000
namespace Mine
def CellIs (o : Obj) (v : Value) : Prop := o.data = .cell (some v)
def SrcC (prog : Program) (w : World) (A : Around) (h₀ : Heap) (L : Addr) (m : Str → Option Value) (env : Env) (elt : Expr) (x : Str) (scope : Scope) (cl : List (Str × Addr)) (Q : Value → Shared → Prop) (R : Nat → Value → Prop) (xv : Value) (s₁ : Shared) : Prop :=
  ∃ ax its k news, xv = .ref ax ∧ A.handled = none ∧ Fr h₀ L s₁.heap m ∧ News h₀ L s₁.heap news ∧ (ax, listOf its k) ∈ news ∧ its.size ≤ sizeLine ∧
      (∀ i v I oI C oC D X oX ys h tk (E' : Value → Shared → Prop), its[i]? = some v → CellIs oX v → Fr h₀ L h m → News h₀ L h ((I, oI) :: (C, oC) :: (D, LCg.lst ys) :: (X, oX) :: news) → LCg.Off3 I C D ((X, oX) :: news) → ((@Ne Nat I C) ∧ (@Ne Nat I D) ∧ (@Ne Nat C D)) → 
        wpAny (model prog w) A (eval elt (compEnvC scope ((x, X) :: cl) C env)) (LCg.CompEnd h₀ L m { s₁ with heap := h, toks := tk } I oI C oC D (LCg.lst ys) (fun _ => True) (fun y news' => El (R i) ((X, oX) :: news) y news')) E' { s₁ with heap := h, toks := tk }) ∧
      (∀ D ys h tk, ys.length = its.size → (∀ i y, ys[i]? = some y → R i y) → Fr h₀ L h m → News h₀ L h ((D, LCg.lst ys) :: news) → LCg.Off1 D news → Q (.ref D) { s₁ with heap := h, toks := tk })
section
variable {prog : Program} {w : World} {A : Around} {E : Value → Shared → Prop} {s : Shared} {h₀ : Heap} {L : Addr} {m : Str → Option Value} {env : Env}
theorem SrcC.ledger {elt : Expr} {x : Str} {scope : Scope} {cl : List (Str × Addr)} {Q : Value → Shared → Prop} {R : Nat → Value → Prop} {ax : Addr} {its : Array Value} {k : Nat} {news : List (Addr × Obj)}
    (hh : A.handled = none) (F : Fr h₀ L s.heap m) (N : News h₀ L s.heap news) (hm : (ax, listOf its k) ∈ news) (hsz : its.size ≤ sizeLine)
    (turn : ∀ i v I oI C oC D X oX ys h tk (E' : Value → Shared → Prop), its[i]? = some v → CellIs oX v → Fr h₀ L h m → News h₀ L h ((I, oI) :: (C, oC) :: (D, LCg.lst ys) :: (X, oX) :: news) → LCg.Off3 I C D ((X, oX) :: news) → ((@Ne Nat I C) ∧ (@Ne Nat I D) ∧ (@Ne Nat C D)) → 
        wpAny (model prog w) A (eval elt (compEnvC scope ((x, X) :: cl) C env)) (LCg.CompEnd h₀ L m { s with heap := h, toks := tk } I oI C oC D (LCg.lst ys) (fun _ => True) (fun y news' => El (R i) ((X, oX) :: news) y news')) E' { s with heap := h, toks := tk })
    (fin : ∀ D ys h tk, ys.length = its.size → (∀ i y, ys[i]? = some y → R i y) → Fr h₀ L h m → News h₀ L h ((D, LCg.lst ys) :: news) → LCg.Off1 D news → Q (.ref D) { s with heap := h, toks := tk }) :
    SrcC prog w A h₀ L m env elt x scope cl Q R (.ref ax) s := ⟨ax, its, k, news, rfl, hh, F, N, hm, hsz, turn, fin⟩
/-- a comprehension over a list of the ledger's whose target is a cell -/
theorem ListComp_UC {elt iter : Expr} {x g : Str} {px : Pos} {scope : Scope} {cl : List (Str × Addr)} {pos : Pos} {Q : Value → Shared → Prop} (R : Nat → Value → Prop) (_F₀ : Fr h₀ L s.heap m)
    (hclos : closureFor scope env = pure cl) (hnm : scope.names = [(Str.ofString ".0", .local), (x, .cell), (g, .globalImplicit)]) (hkind : scope.kind = .function) (hxd : (x == Str.ofString ".0") = false)
    (h : wpAny (model prog w) A (eval iter env) (SrcC prog w A h₀ L m env elt x scope cl Q R) E s)
    (hs : ∀ x, foldedSetIterable iter env x = pure x := by intro _; rfl) :
    wpAny (model prog w) A (eval (.ListComp elt [⟨.Name x px, iter, [], 0⟩] scope pos) env) Q E s := by
  have hxl : scope.names.lookup x = some .cell := by
    rw [hnm, List.lookup_cons, hxd]
    simp
  rw [eval_ListComp]
  refine wpAny_comprehension_free (use := none) rfl hs hclos hkind (by rw [hnm]; intro y hy hl; simp at hy; rcases hy with rfl | rfl | rfl <;> first | (cases hl; done) | simp) (wpAny_mono h (fun xv s₁ h₁ => ?_) fun _ _ e => e)
  obtain ⟨ax, its, kk, news, rfl, hh, F, N, hax, hsz, turn, fin⟩ := h₁
  have hol := (N _ hax).1
  have hl : s₁.heap.IsList ax its := ⟨_, hol, rfl, kk, rfl⟩
  have hlt : ax < s₁.heap.objs.size := Heap.lt_size hol
  refine wpAny_pyIter_list hl ?_
  -- the iterator's address
  generalize hs2 : ({ s₁ with heap := s₁.heap.push { cls := .type "list_iterator", data := .fields #[.ref ax, .int 0 0] } } : Shared) = s₂
  have e2 : s₂ = { s₁ with heap := s₂.heap, toks := s₂.toks } := by rw [← hs2]
  have up : ∀ b o, s₁.heap.get? b = some o → s₂.heap.get? b = some o := fun b o e => by rw [← hs2]; exact Heap.get?_push_of_some _ e
  have hI : s₂.heap.get? s₁.heap.objs.size = some { cls := .type "list_iterator", data := .fields #[.ref ax, .int 0 0] } := by rw [← hs2]; exact Heap.get?_push_size _ rfl
  have hsz2 : s₂.heap.objs.size = s₁.heap.objs.size + 1 := by rw [← hs2]; exact Heap.size_push ..
  have W := Walks.list (prog := prog) (w := w) hh s₁.heap.objs.size ax (Nat.ne_of_lt hlt) its
  generalize hIe : s₁.heap.objs.size = I at *
  refine wpAny_newObj_type ?_
  simp only [newFunctionEnv, Option.isSome_some, if_true]
  refine wpAny_bind (wpAny_alloc ?_)
  rw [hnm]
  simp only [List.forIn_cons, List.forIn_nil]
  simp only [show (NameKind.local == NameKind.cell) = false from rfl, show (NameKind.cell == NameKind.cell) = true from rfl, show (NameKind.globalImplicit == NameKind.cell) = false from rfl, Bool.false_eq_true, if_false, if_true, pure_bind, bind_assoc]
  refine wpAny_bind (wpAny_alloc (wpAny_pure ?_))
  dsimp only
  generalize hDe : s₂.heap.objs.size = D
  have hC : (s₂.heap.push { cls := Value.type "list", data := Data.seq #[] }).objs.size = D + 1 := by rw [Heap.size_push, hDe]
  have hX : ((s₂.heap.push { cls := Value.type "list", data := Data.seq #[] }).push { cls := Value.type "dict", data := Data.dict #[] }).objs.size = D + 1 + 1 := by rw [Heap.size_push, hC]
  rw [hX, hC]
  generalize hH : ((s₂.heap.push { cls := Value.type "list", data := Data.seq #[] }).push { cls := Value.type "dict", data := Data.dict #[] }).push { cls := Value.type "cell", data := Data.cell none } = h₁
  have old : ∀ b o, s₂.heap.get? b = some o → h₁.get? b = some o := fun b o e => by
    rw [← hH]; exact Heap.get?_push_of_some _ (Heap.get?_push_of_some _ (Heap.get?_push_of_some _ e))
  have gD : h₁.get? D = some (LCg.lst []) := by
    rw [← hH, ← hDe]; exact Heap.get?_push_of_some _ (Heap.get?_push_of_some _ (Heap.get?_push_size _ rfl))
  have gC : h₁.Ns (D + 1) (fun _ => none) := by
    rw [← hH, ← hC]; exact Heap.Ns.push (Heap.Ns.new _ _) _
  have gX : h₁.get? (D + 1 + 1) = some { cls := Value.type "cell", data := Data.cell none } := by
    rw [← hH, ← hX]; exact Heap.get?_push_size _ rfl
  have hID : D = I + 1 := by rw [← hDe, hsz2]
  have hLI : L < I := by rw [← hIe]; exact F.ns.lt
  have ltI : ∀ p ∈ news, p.1 < I := fun p hp => by rw [← hIe]; exact Heap.lt_size (N p hp).1
  have fresh : ∀ a, I ≤ a → h₀.get? a = none := fun a ha => by
    cases e : h₀.get? a with
    | none => rfl
    | some o =>
      have := Heap.lt_size (F.keep a o e)
      rw [hIe] at this
      exact absurd this (Nat.not_lt.mpr ha)
  have off₀ : ∀ X oX, X = D + 1 + 1 → LCg.Off3 I (D + 1) D ((X, oX) :: news) := fun X oX hX' => LCg.Off3.of fun p hp => by
    rcases List.mem_cons.mp hp with rfl | hp
    · have h1 : (X : Nat) = D + 1 + 1 := hX'
      have h2 : (D : Nat) = I + 1 := hID
      refine ⟨?_, ?_, ?_⟩
      · show (X : Nat) ≠ I
        rw [h1, h2]; exact Nat.ne_of_gt (Nat.lt_succ_of_lt (Nat.lt_succ_of_lt (Nat.lt_succ_self _)))
      · show (X : Nat) ≠ D + 1
        rw [h1]; exact Nat.succ_ne_self _
      · show (X : Nat) ≠ D
        rw [h1]; exact Nat.ne_of_gt (Nat.lt_succ_of_lt (Nat.lt_succ_self _))
    · have h1 : p.1 < I := ltI p hp
      have h2 : (D : Nat) = I + 1 := hID
      exact ⟨Nat.ne_of_lt h1, Nat.ne_of_lt (h2 ▸ Nat.lt_succ_of_lt (Nat.lt_succ_of_lt h1)), Nat.ne_of_lt (h2 ▸ Nat.lt_succ_of_lt h1)⟩
  have loop : codeAny (model prog w) A (.compLoop (.ListComp elt [⟨.Name x px, iter, [], 0⟩] scope pos) 0 (.ref I) (.ref D) (compEnvC scope ((x, D + 1 + 1) :: cl) (D + 1) env))
      (compPost (model prog w) A E none Q (Value.ref D) (D + 1)) { heap := h₁, gens := s₂.gens, drawn := s₂.drawn, toks := s₂.toks, os := s₂.os } := by
    have hkind' : (compEnvC scope ((x, D + 1 + 1) :: cl) (D + 1) env).scope.kind = .function := hkind
    have hkx : (compEnvC scope ((x, D + 1 + 1) :: cl) (D + 1) env).kindOf x = some .cell := by
      show List.lookup x (relabel scope env).names = _
      unfold relabel
      rw [hnm]
      show List.lookup x [(Str.ofString ".0", NameKind.local), (x, NameKind.cell), (g, NameKind.globalImplicit)] = _
      rw [List.lookup_cons, hxd]
      simp
    have hcx : (compEnvC scope ((x, D + 1 + 1) :: cl) (D + 1) env).cells.lookup x = some (D + 1 + 1) := by
      show List.lookup x ((x, D + 1 + 1) :: cl) = _
      simp
    have hL₀ : h₀.get? I = none := fresh I (Nat.le_refl _)
    have hD₀ : h₀.get? D = none := fresh D (by rw [hID]; exact Nat.le_succ _)
    have hC₀ : h₀.get? (D + 1) = none := fresh _ (by rw [hID]; exact Nat.le_succ_of_le (Nat.le_succ _))
    have hX₀ : h₀.get? (D + 1 + 1) = none := fresh _ (by rw [hID]; exact Nat.le_succ_of_le (Nat.le_succ_of_le (Nat.le_succ _)))
    have hLt : (L : Nat) < I := hLI
    have hDI : (D : Nat) = I + 1 := hID
    have nIL : I ≠ L := Nat.ne_of_gt hLt
    have nDL : D ≠ L := Nat.ne_of_gt (hDI ▸ Nat.lt_succ_of_lt hLt)
    have nCL : D + 1 ≠ L := Nat.ne_of_gt (hDI ▸ Nat.lt_succ_of_lt (Nat.lt_succ_of_lt hLt))
    have nXL : D + 1 + 1 ≠ L := Nat.ne_of_gt (hDI ▸ Nat.lt_succ_of_lt (Nat.lt_succ_of_lt (Nat.lt_succ_of_lt hLt)))
    have nIC : I ≠ D + 1 := Nat.ne_of_lt (hDI ▸ Nat.lt_succ_of_lt (Nat.lt_succ_self _))
    have nID : I ≠ D := Nat.ne_of_lt (hDI ▸ Nat.lt_succ_self _)
    have nIX : I ≠ D + 1 + 1 := Nat.ne_of_lt (hDI ▸ Nat.lt_succ_of_lt (Nat.lt_succ_of_lt (Nat.lt_succ_self _)))
    have nCD : D + 1 ≠ D := Nat.succ_ne_self _
    have nCX : D + 1 ≠ D + 1 + 1 := Nat.ne_of_lt (Nat.lt_succ_self _)
    have nDX : D ≠ D + 1 + 1 := Nat.ne_of_lt (Nat.lt_succ_of_lt (Nat.lt_succ_self _))
    have nax : ax ≠ D ∧ ax ≠ D + 1 ∧ ax ≠ D + 1 + 1 := by
      have h1 : ax < I := hIe ▸ hlt
      exact ⟨Nat.ne_of_lt (hDI ▸ Nat.lt_succ_of_lt h1), Nat.ne_of_lt (hDI ▸ Nat.lt_succ_of_lt (Nat.lt_succ_of_lt h1)), Nat.ne_of_lt (hDI ▸ Nat.lt_succ_of_lt (Nat.lt_succ_of_lt (Nat.lt_succ_of_lt h1)))⟩
    have src : ∀ oX, LCg.SrcAt h₀ ax its ((D + 1 + 1, oX) :: news) := fun oX => .inr ⟨_, List.mem_cons_of_mem _ hax, rfl, _, rfl⟩
    refine codeAny_compLoop_tests
      (fun k s' => ∃ h' tk i ys oX, ∃ cv : Option Value, s' = { s₁ with heap := h', toks := tk } ∧ i ≤ its.size ∧ k = its.size + 1 - i ∧ ys.length = i ∧ (∀ j y, ys[j]? = some y → R j y) ∧ (h'.IsListIter I ax i ∧ h'.IsList ax its) ∧ Fr h₀ L h' m ∧ (∃ m', h'.Ns (D + 1) m') ∧
        News h₀ L h' ((D, LCg.lst ys) :: (D + 1 + 1, oX) :: news) ∧ oX.data = .cell cv) ?_ (its.size + 1)
      ⟨h₁, _, 0, [], { cls := Value.type "cell", data := Data.cell none }, none, (by rw [e2]), Nat.zero_le _, rfl, rfl, (by intro j y h; simp at h), ⟨⟨_, old _ _ hI, rfl, rfl⟩, ⟨_, old _ _ (up _ _ hol), rfl, kk, rfl⟩⟩, F.keeps (fun b o e => old _ _ (up _ _ e)), ⟨_, gC⟩, fun p hp => ?_, rfl⟩
    · rintro k s' ⟨h', tk, i, ys, oX, cv, rfl, hi, rfl, hyl, hR, hst', F', ⟨m', hn'⟩, N', hdX⟩
      have nD := N' (D, LCg.lst ys) List.mem_cons_self
      have nX := N' (D + 1 + 1, oX) (List.mem_cons_of_mem _ List.mem_cons_self)
      by_cases hlti : i < its.size
      · refine W.item i _ _ _ hlti hst' fun v h₂ tk₂ hPv hst₂ hk₂ => ?_
        have kI : ∀ b o, b ≠ I → h'.get? b = some o → h₂.get? b = some o := fun b o hb e => hk₂ b o (by simpa using hb) e
        refine wpAny_assign_Name (wpAny_storeName_cell hkind' hkx hcx ⟨oX, kI _ _ (Ne.symm nIX) nX.1, hdX⟩ fun h₃ hv₃ hs₃ => ?_)
        obtain ⟨oX', hoX', hdX'⟩ := hv₃
        refine wpAny_tests_nil ?_
        simp only [if_true]
        have k3 : ∀ b o, b ≠ I → b ≠ D + 1 + 1 → h'.get? b = some o → h₃.get? b = some o := fun b o hb hb2 e => hs₃.extBut b o hb2 (kI b o hb e)
        have hst₃ : h₃.IsListIter I ax (i + 1) ∧ h₃.IsList ax its := ⟨hst₂.1.at fun o e => hs₃.extBut I o nIX e, hst₂.2.at fun o e => hs₃.extBut ax o nax.2.2 e⟩
        obtain ⟨oI, heI, hI1⟩ := hst₃.1
        have hn₃ : h₃.Ns (D + 1) m' := hn'.at' fun o e => k3 _ o (Ne.symm nIC) nCX e
        obtain ⟨oC, heC, hoC⟩ := LCg.ns_obj hn₃
        have F₃ : Fr h₀ L h₃ m := ⟨F'.ns.at' fun o e => k3 _ o (Ne.symm nIL) (Ne.symm nXL) e, fun b o e => k3 b o (fun q => by rw [q, hL₀] at e; cases e) (fun q => by rw [q, hX₀] at e; cases e) (F'.keep b o e), F'.above⟩
        have N₃ : News h₀ L h₃ ((I, oI) :: (D + 1, oC) :: (D, LCg.lst ys) :: (D + 1 + 1, oX') :: news) := fun p hp => by
          rcases List.mem_cons.mp hp with rfl | hp
          · exact ⟨heI, nIL, hL₀⟩
          · rcases List.mem_cons.mp hp with rfl | hp
            · exact ⟨heC, nCL, hC₀⟩
            · rcases List.mem_cons.mp hp with rfl | hp
              · exact ⟨k3 _ _ (Ne.symm nID) nDX nD.1, nD.2⟩
              · rcases List.mem_cons.mp hp with rfl | hp
                · exact ⟨hoX', nXL, hX₀⟩
                · have z := N' p (List.mem_cons_of_mem _ (List.mem_cons_of_mem _ hp))
                  have h1 : p.1 < I := ltI p hp
                  exact ⟨k3 _ _ (Nat.ne_of_lt h1) (Nat.ne_of_lt (hDI ▸ Nat.lt_succ_of_lt (Nat.lt_succ_of_lt (Nat.lt_succ_of_lt h1)))) z.1, z.2⟩
        refine wpAny_mono (turn i v I oI (D + 1) oC D (D + 1 + 1) oX' ys h₃ _ _ hPv hdX' F₃ N₃ (off₀ _ _ rfl) ⟨nIC, nID, nCD⟩) (fun y s₄ h₄ => ?_) fun _ _ e => e
        obtain ⟨h₄, tk₄, news₄, rfl, F₄, N₄, off₄, _, hn4, hRy⟩ := h₄
        subst hn4
        have zI := (N₄ (I, oI) List.mem_cons_self).1
        have zC := (N₄ (D + 1, oC) (List.mem_cons_of_mem _ List.mem_cons_self)).1
        have zD := (N₄ (D, LCg.lst ys) (List.mem_cons_of_mem _ (List.mem_cons_of_mem _ List.mem_cons_self))).1
        have N₄' : News h₀ L h₄ ((D + 1 + 1, oX') :: news) := fun p hp => N₄ p (List.mem_cons_of_mem _ (List.mem_cons_of_mem _ (List.mem_cons_of_mem _ hp)))
        have hst₄ := LCg.list_st (h₀ := h₀) (L := L) (i + 1) h₃ h₄ oI _ hst₃ heI zI F₄.keep N₄' (src oX')
        refine append_at (hsz := by show ys.toArray.size ≤ sizeLine; rw [List.size_toArray, hyl]; exact Nat.le_trans hi hsz) zD fun h₅ hs₅ hD₅ => ?_
        refine ⟨its.size + 1 - (i + 1), by omega, h₅, tk₄, i + 1, ys ++ [y], oX', some v, rfl, hlti, rfl, by rw [List.length_append, List.length_singleton, hyl], ?_, ⟨hst₄.1.at fun o e => hs₅.extBut I o nID e, hst₄.2.at fun o e => hs₅.extBut ax o nax.1 e⟩, F₄.change hs₅ nDL hD₀, ⟨_, (hoC.ns zC).sameBut hs₅ nCD⟩, fun p hp => ?_, hdX'⟩
        · intro j z hj
          rcases Nat.lt_trichotomy j ys.length with h | h | h
          · exact hR j z (by rwa [List.getElem?_append_left h] at hj)
          · subst h
            simp at hj
            subst hj
            rw [hyl]; exact hRy
          · rw [List.getElem?_eq_none (by rw [List.length_append, List.length_singleton]; omega)] at hj
            cases hj
        · rcases List.mem_cons.mp hp with rfl | hp
          · exact ⟨hD₅.trans (congrArg some (LCg.lst_snoc ys y)), nDL, hD₀⟩
          · have z := N₄' p hp
            refine ⟨hs₅.extBut _ _ ?_ z.1, z.2⟩
            rcases List.mem_cons.mp hp with rfl | hp
            · exact Ne.symm nDX
            · exact Nat.ne_of_lt (hDI ▸ Nat.lt_succ_of_lt (ltI p hp))
      · obtain rfl : i = its.size := Nat.le_antisymm hi (Nat.not_lt.mp hlti)
        refine W.done _ _ _ hst' fun h₂ tk₂ hk₂ => ?_
        have kI : ∀ b o, b ≠ I → h'.get? b = some o → h₂.get? b = some o := fun b o hb e => hk₂ b o (by simpa using hb) e
        have hn₂ : h₂.Ns (D + 1) m' := hn'.at' fun o e => kI _ o (Ne.symm nIC) e
        refine ⟨m', hn₂, fun h₃ hs₃ => ?_⟩
        have k3 : ∀ b o, b ≠ I → b ≠ D + 1 → h'.get? b = some o → h₃.get? b = some o := fun b o hb hb2 e => hs₃.extBut b o hb2 (kI b o hb e)
        refine fin D ys h₃ tk₂ hyl hR ⟨F'.ns.at' fun o e => k3 _ o (Ne.symm nIL) (Ne.symm nCL) e, fun b o e => k3 b o (fun q => by rw [q, hL₀] at e; cases e) (fun q => by rw [q, hC₀] at e; cases e) (F'.keep b o e), F'.above⟩ (fun p hp => ?_) ?_
        · rcases List.mem_cons.mp hp with rfl | hp
          · exact ⟨k3 _ _ (Ne.symm nID) (Ne.symm nCD) nD.1, nD.2⟩
          · have z := N' p (List.mem_cons_of_mem _ (List.mem_cons_of_mem _ hp))
            have h1 : p.1 < I := ltI p hp
            exact ⟨k3 _ _ (Nat.ne_of_lt h1) (Nat.ne_of_lt (hDI ▸ Nat.lt_succ_of_lt (Nat.lt_succ_of_lt h1))) z.1, z.2⟩
        · exact LCg.Off3.one (LCg.Off3.of (I := I) (C := D + 1) fun p hp => by
            have h1 : p.1 < I := ltI p hp
            exact ⟨Nat.ne_of_lt h1, Nat.ne_of_lt (hDI ▸ Nat.lt_succ_of_lt (Nat.lt_succ_of_lt h1)), Nat.ne_of_lt (hDI ▸ Nat.lt_succ_of_lt h1)⟩)
    · rcases List.mem_cons.mp hp with rfl | hp
      · exact ⟨gD, nDL, hD₀⟩
      · rcases List.mem_cons.mp hp with rfl | hp
        · exact ⟨gX, nXL, hX₀⟩
        · exact ⟨old _ _ (up _ _ (N p hp).1), (N p hp).2⟩
  exact codeAny_compStart_list loop (W.self 0 _ _ _ ⟨⟨_, old _ _ hI, rfl, rfl⟩, ⟨_, old _ _ (up _ _ hol), rfl, kk, rfl⟩⟩ loop)
end
end Mine
end
section
open PySem PySem.W PyProof.Rows PySem.Calls
set_option maxRecDepth 100000
set_option maxHeartbeats 8000000
namespace Mine
def bodyOf (fd : FuncData) : List Stmt := match fd.body with
  | .stmts b => b
  | _ => []
theorem hold {P : Prop} (h : Hold P) : P := h
structure Mark : Prop where
structure Mark2 : Prop where
def sg (n k : Int) : Nat := if (n.fdiv (2 ^ k.toNat)).fmod 2 = 1 then 46 else 98
def rowS (n : Int) : Str := ⟨#[sg n 0, sg n 1, sg n 2, sg n 3]⟩
theorem row_join (n : Int) : Txt.join (Str.ofString "") ((rangeKs 0 4).map fun k => (⟨#[sg n k]⟩ : Str)) = rowS n := by
  refine str_eq ?_
  rw [show Str.ofString "" = ⟨#[]⟩ by decide +kernel, join_flat]
  rfl
theorem wt_ones {α : Type} (l : List α) (f : α → Str) (B : Nat) (h : ∀ a ∈ l, (f a).length ≤ B) : wt (l.map f) ≤ l.length * (B + 1) := by
  induction l with
  | nil => simp [wt]
  | cons a l ih =>
    have h1 := ih fun b hb => h b (List.mem_cons_of_mem _ hb)
    have h2 := h a List.mem_cons_self
    simp only [wt, List.map_cons, List.sum_cons, List.length_cons] at h1 ⊢
    rw [Nat.succ_mul]
    omega
theorem sg_T {n k : Int} (h : (n.fdiv (2 ^ k.toNat)).fmod 2 = 1) : Str.ofString "." = ⟨#[sg n k]⟩ := by
  unfold sg
  rw [if_pos h]
  decide +kernel
theorem sg_F {n k : Int} (h : ¬ (n.fdiv (2 ^ k.toNat)).fmod 2 = 1) : Str.ofString "b" = ⟨#[sg n k]⟩ := by
  unfold sg
  rw [if_neg h]
  decide +kernel
def drawnOf (ns : List Int) : List Int := List.map (fun k => k.fmod 1000000) (List.take 3 ns) ++ [27, 13]
theorem strs_of {ns : List Int} {f : Int → Str} : ∀ {ys : List Value}, ys.length = ns.length → (∀ (i : Nat) (y : Value), ys[i]? = some y → ∃ (n : Int) (t : Tok), ns[i]? = some n ∧ y = Value.str (f n) t) → StrsAre ys (ns.map f) := by
  induction ns with
  | nil =>
    intro ys h _
    cases ys with
    | nil => exact .nil
    | cons y ys => simp at h
  | cons n ns ih =>
    intro ys h hr
    cases ys with
    | nil => simp at h
    | cons y ys =>
      obtain ⟨m, t, e, rfl⟩ := hr 0 y (by simp)
      simp at e
      subst e
      exact .cons _ t (ih (by simpa using h) fun i y hy => by simpa using hr (i + 1) y (by simpa using hy))
end Mine
end
section
open PySem PySem.W PyProof.Rows PySem.Calls
set_option maxRecDepth 100000
namespace Mine
def endS (d : Int) : Str := if (d.fdiv 16).fmod 3 = 0 then ⟨#[10]⟩ else if (d.fdiv 16).fmod 3 = 1 then ⟨#[13]⟩ else ⟨#[13, 10]⟩
def pieceS (d : Int) : Str := rowS d ++ endS d
theorem end_0 {d : Int} (h : (d.fdiv 16).fmod 3 = 0) : Str.ofString "\n" = endS d := by
  unfold endS
  rw [if_pos h]
  decide +kernel
theorem end_1 {d : Int} (h : (d.fdiv 16).fmod 3 = 1) : Str.ofString "\r" = endS d := by
  unfold endS
  rw [if_neg (by omega), if_pos h]
  decide +kernel
theorem end_2 {d : Int} (h : (d.fdiv 16).fmod 3 = 2) : Str.ofString "\r\n" = endS d := by
  unfold endS
  rw [if_neg (by omega), if_neg (by omega)]
  decide +kernel
theorem end_len (d : Int) : (endS d).length ≤ 2 := by
  unfold endS
  split
  · decide
  · split <;> decide
theorem app_len (x y : Str) : (x ++ y).length = x.length + y.length := by
  show (x.cps ++ y.cps).size = _
  rw [Array.size_append]
  rfl
theorem piece_len (d : Int) : (pieceS d).length ≤ 6 := by
  have := end_len d
  unfold pieceS
  rw [app_len]
  show 4 + _ ≤ 6
  omega
theorem use_clL {kd ku : Nat} {w : World} {mean : ExcName → Option Value} {mg mb : Str → Option Value} {f : Addr} {news : List (Addr × Obj)} {pre : Prop} {vs : List Value} {R : Tok → Value}
    {qn : Str} {sc : Scope} {fa : Addr} {cd : Value} {base h₀ : Heap} {L : Addr} {m : Str → Option Value} {s : Shared} {Q E : Value → Shared → Prop}
    (h : Cl kd ku w mean mg mb f news pre vs R) (B : Below callerA base [] h₀) (F : Fr h₀ L s.heap m) (X : (Mine.hd.heap_39 w.params).In h₀) (N : News h₀ L s.heap news)
    (T : Top Mine.hd.view_39 (looseW Mine.hd.view_39 [Str.ofString "_twin_re_1", Str.ofString "_twin_re_2"]) mean mg mb h₀) (hk : sc.kind = .function) (hp : pre) (hd : kd ≤ 100) (hu : ku ≤ 1000)
    (k : ∀ (t : Tok) (h' : Heap) (tk' : Nat), Fr h₀ L h' m → News h₀ L h' news → Q (R t) { s with heap := h', toks := tk' }) :
    wpAny (model PySem.Challenge.rw_wn0007_01.row.prog w) (callerA.deeper (envOfC qn sc L fa cd)) (call (.ref f) vs) Q E s := by
  have h1 : (callerA.deeper (envOfC qn sc L fa cd)).depth + kd < recursionLimit := by
    simp only [depth_deeper, depth_caller, recursionLimit, claimMargin]
    omega
  have h2 : (callerA.deeper (envOfC qn sc L fa cd)).units + ku < cLine := by
    simp only [units_deeper, units_caller, cLine]
    omega
  exact h (callerA.deeper (envOfC qn sc L fa cd)).depth (callerA.deeper (envOfC qn sc L fa cd)).units (some []) qn sc fa cd (cellsFrom (L + 1) sc.names []) [] callerA base h₀ L m s Q E B F X N T hk hp h1 h2 k
theorem fr_as {h₀ h : Heap} {L : Addr} {m : Str → Option Value} {x : Str} {v : Value} (F : Fr h₀ L h m) (e : m x = some v) : Fr h₀ L h (fun y => if y = x then some v else m y) := by
  have : (fun y => if y = x then some v else m y) = m := by
    funext y
    by_cases hy : y = x
    · rw [if_pos hy, hy, e]
    · rw [if_neg hy]
  rw [this]
  exact F
theorem rangeSize_up (n : Nat) : Builtin.Range.rangeSize 0 (n : Int) 1 = (n : Int) := by rw [rangeSize_nat]; omega
theorem sg_or (n k : Int) : sg n k = 46 ∨ sg n k = 98 := by
  unfold sg
  split
  · exact .inl rfl
  · exact .inr rfl
def Sign (l : List Nat) : Prop := ∀ c ∈ l, c = 46 ∨ c = 98
theorem Sign.cons {c : Nat} {l : List Nat} (h : c = 46 ∨ c = 98) (hl : Sign l) : Sign (c :: l) := by
  intro x hx
  rcases List.mem_cons.mp hx with rfl | hx
  · exact h
  · exact hl x hx
theorem Sign.app {a b : List Nat} (ha : Sign a) (hb : Sign b) : Sign (a ++ b) := by
  intro x hx
  rcases List.mem_append.mp hx with hx | hx
  · exact ha x hx
  · exact hb x hx
theorem norm_run : ∀ (l r : List Nat), Sign l → norm (l ++ r) = l ++ norm r
  | [], _, _ => rfl
  | c :: l, r, h => by
    have hc := h c List.mem_cons_self
    rw [List.cons_append, norm_other _ (by rcases hc with rfl | rfl <;> rfl), norm_run l r fun x hx => h x (List.mem_cons_of_mem _ hx)]
    rfl
theorem dot_line : ∀ (l r : List Nat), Sign l → dot false (l ++ 13 :: 10 :: r) = l ++ 13 :: 10 :: dot true r
  | [], r, _ => by simp [dot]
  | c :: l, r, h => by
    have hc := h c List.mem_cons_self
    have h10 : (c == 10) = false := by rcases hc with rfl | rfl <;> rfl
    rw [List.cons_append, dot, Bool.false_and, if_neg Bool.false_ne_true, h10, dot_line l r fun x hx => h x (List.mem_cons_of_mem _ hx)]
    rfl
theorem dot_head {c : Nat} {l : List Nat} (r : List Nat) (h : Sign (c :: l)) : dot true (c :: l ++ 13 :: 10 :: r) = (if c = 46 then [46] else []) ++ (c :: l ++ 13 :: 10 :: dot true r) := by
  have hc := h c List.mem_cons_self
  have hl : Sign l := fun x hx => h x (List.mem_cons_of_mem _ hx)
  rw [List.cons_append, dot, Bool.true_and]
  rcases hc with rfl | rfl
  · rw [if_pos (by rfl), if_pos rfl, dot_line l r hl]
    rfl
  · rw [if_neg (by decide), if_neg (by decide)]
    rw [show ((98 : Nat) == 10) = false from rfl, dot_line l r hl]
    rfl
def rowL (d : Int) : List Nat := [sg d 0, sg d 1, sg d 2, sg d 3]
theorem rowL_sign (d : Int) : Sign (rowL d) := .cons (sg_or _ _) (.cons (sg_or _ _) (.cons (sg_or _ _) (.cons (sg_or _ _) fun _ h => nomatch h)))
def sentL (j : Nat) (d : Int) : List Nat := (if sg d 0 = 46 then List.replicate j 46 else []) ++ rowL d
theorem sentL_sign (j : Nat) (d : Int) : Sign (sentL j d) := by
  refine Sign.app ?_ (rowL_sign d)
  split
  · intro x hx
    exact .inl (List.eq_of_mem_replicate hx)
  · intro x hx
    cases hx
def sentS (j : Nat) (d : Int) : Str := ⟨(sentL j d).toArray⟩
def blockS (j : Nat) (d : Int) : Str := sentS j d ++ Str.ofString "\r\n"
theorem blockL (j : Nat) (d : Int) : (blockS j d).cps.toList = sentL j d ++ [13, 10] := by
  unfold blockS
  rw [PySem.Str.cps_append, Array.toList_append, show (Str.ofString "\r\n").cps.toList = [13, 10] by decide +kernel]
  rfl
theorem norm_block (j : Nat) (d : Int) (r : List Nat) : norm (sentL j d ++ [13, 10] ++ r) = sentL j d ++ [13, 10] ++ norm r := by
  rw [List.append_assoc, norm_run _ _ (sentL_sign j d), List.append_assoc]
  show _ ++ norm (13 :: 10 :: r) = _
  rw [norm_crlf]
  rfl
theorem sent_zero (d : Int) : sentL 0 d = rowL d := by unfold sentL; split <;> rfl
theorem norm_piece (d : Int) (r : List Nat) (hr : r.head? ≠ some 10) : norm ((pieceS d).cps.toList ++ r) = sentL 0 d ++ [13, 10] ++ norm r := by
  unfold pieceS
  rw [PySem.Str.cps_append, Array.toList_append, sent_zero, List.append_assoc]
  show norm (rowL d ++ _) = _
  rw [norm_run _ _ (rowL_sign d), List.append_assoc]
  congr 1
  unfold endS
  split
  · exact norm_lf r
  · split
    · exact norm_cr hr
    · exact norm_crlf r
theorem dot_block (j : Nat) (d : Int) (r : List Nat) : dot true (sentL j d ++ [13, 10] ++ r) = sentL (j + 1) d ++ [13, 10] ++ dot true r := by
  have hs := sentL_sign j d
  unfold sentL at hs ⊢
  by_cases h : sg d 0 = 46
  · simp only [if_pos h] at hs ⊢
    cases j with
    | zero =>
      have e := dot_head (c := sg d 0) (l := [sg d 1, sg d 2, sg d 3]) r hs
      rw [if_pos h] at e
      simpa [rowL] using e
    | succ j =>
      have e := dot_head (c := 46) (l := List.replicate j 46 ++ rowL d) r (by simpa [List.replicate_succ] using hs)
      rw [if_pos rfl] at e
      simpa [List.replicate_succ] using e
  · simp only [if_neg h] at hs ⊢
    have e := dot_head (c := sg d 0) (l := [sg d 1, sg d 2, sg d 3]) r hs
    rw [if_neg h] at e
    simpa [rowL] using e
theorem nil_str : Str.ofString "" = ⟨#[]⟩ := by decide +kernel
theorem sizeInts {vs : List Value} {ns : List Int} (h : IntsAre vs ns) : (vs.toArray.size : Int) = (ns.length : Int) := by rw [List.size_toArray, h.length]
theorem map_range_get {α : Type} (f : Int → α) (ds : List Int) : (rangeKs 0 ds.length).map (fun k => f (ds.getD k.toNat 0)) = ds.map f := by
  refine List.ext_getElem (by simp [rangeKs]) fun i h1 h2 => ?_
  have h : i < ds.length := by simpa using h2
  simp [rangeKs, h]
def blocks (j : Nat) (ds : List Int) : List Nat := (ds.map fun d => sentL j d ++ [13, 10]).flatten
theorem norm_blocks (j : Nat) : ∀ ds : List Int, norm (blocks j ds) = blocks j ds
  | [] => by simp [blocks, norm]
  | d :: ds => by
    have ih := norm_blocks j ds
    unfold blocks at ih ⊢
    rw [List.map_cons, List.flatten_cons, norm_block, ih]
theorem dot_blocks (j : Nat) : ∀ ds : List Int, dot true (blocks j ds) = blocks (j + 1) ds
  | [] => by simp [blocks, dot]
  | d :: ds => by
    have ih := dot_blocks j ds
    unfold blocks at ih ⊢
    rw [List.map_cons, List.flatten_cons, dot_block, ih, List.map_cons, List.flatten_cons]
theorem pieces_head (ds : List Int) : (flat (ds.map pieceS)).head? ≠ some 10 := by
  cases ds with
  | nil => simp [flat]
  | cons d ds =>
    have h : (pieceS d).cps.toList = sg d 0 :: ([sg d 1, sg d 2, sg d 3] ++ (endS d).cps.toList) := by
      unfold pieceS
      rw [PySem.Str.cps_append, Array.toList_append]
      rfl
    rw [List.map_cons, flat_cons, h]
    rcases sg_or d 0 with e | e <;> simp [e]
theorem norm_pieces : ∀ ds : List Int, norm (flat (ds.map pieceS)) = blocks 0 ds
  | [] => by simp [flat, blocks, norm]
  | d :: ds => by
    have ih := norm_pieces ds
    have hh := pieces_head ds
    rw [List.map_cons, flat_cons, norm_piece d _ hh, ih]
    simp [blocks]
/-- the text after j sendings -/
def textS : Nat → List Int → Str
  | 0, ds => Txt.join ⟨#[]⟩ (ds.map pieceS)
  | j + 1, ds => Txt.join ⟨#[]⟩ (ds.map (blockS (j + 1)))
theorem textL_succ (j : Nat) (ds : List Int) : (textS (j + 1) ds).cps.toList = blocks (j + 1) ds := by
  show (Txt.join ⟨#[]⟩ _).cps.toList = _
  rw [join_flat]
  simp [flat, blocks, Function.comp_def, blockL]
theorem quote_text (j : Nat) (ds : List Int) : quoteS (textS j ds) = textS (j + 1) ds := by
  refine str_eq ?_
  rw [textL_succ]
  show quoteL _ = _
  unfold quoteL
  cases j with
  | zero =>
    rw [show (textS 0 ds).cps.toList = flat (ds.map pieceS) from join_flat _, norm_pieces, dot_blocks]
  | succ j => rw [textL_succ, norm_blocks, dot_blocks]
theorem flat_len (ys : List Str) : (Txt.join ⟨#[]⟩ ys).length ≤ wt ys := by
  have h : (Txt.join ⟨#[]⟩ ys).length = (flat ys).length := by rw [← join_flat, Array.length_toList]; rfl
  rw [h]
  clear h
  induction ys with
  | nil => simp [flat]
  | cons a ys ih =>
    rw [flat_cons, List.length_append, Array.length_toList]
    simp only [wt, List.map_cons, List.sum_cons, List.length_cons] at ih ⊢
    have : a.cps.size = a.length := rfl
    omega
theorem sent_len (j : Nat) (d : Int) : (sentL j d).length ≤ j + 4 := by
  unfold sentL
  rw [List.length_append]
  split <;> simp [rowL]
theorem block_len (j : Nat) (d : Int) : (blockS j d).length ≤ j + 6 := by
  have : (blockS j d).length = (blockS j d).cps.toList.length := by rw [Array.length_toList]; rfl
  rw [this, blockL, List.length_append]
  have := sent_len j d
  simp only [List.length_cons, List.length_nil]
  omega
theorem text_len {j : Nat} {ds : List Int} (hj : j ≤ 5) (hn : ds.length ≤ 5) : (textS j ds).length ≤ 100 := by
  cases j with
  | zero =>
    refine Nat.le_trans (flat_len _) (Nat.le_trans (wt_ones _ _ 6 fun a _ => piece_len a) ?_)
    omega
  | succ j =>
    refine Nat.le_trans (flat_len _) (Nat.le_trans (wt_ones _ _ (j + 1 + 6) fun a _ => block_len (j + 1) a) ?_)
    have : ds.length * (j + 1 + 6 + 1) ≤ 5 * 12 := Nat.mul_le_mul hn (by omega)
    omega
theorem text_turn {x : Str} {ds : List Int} {a : List Int} {c : Int} (hx : x = textS a.length ds) (hn : ds.length ≤ 5) (h5 : a.length < 5) : quoteS x = textS (a ++ [c]).length ds ∧ (quoteS x).length ≤ 100 := by
  subst hx
  rw [quote_text, List.length_append]
  exact ⟨rfl, text_len (by omega) hn⟩
section
variable {prog : Program} {w : World} {A : Around} {E : Value → Shared → Prop} {s : Shared} {value slice : Expr} {t u : Tok} {Q : Value → Shared → Prop}
theorem item_row0 {d : Int} (h : Q (.str ⟨#[sg d 0]⟩ s.toks) { s with toks := s.toks + 1 })
    (hs : subscripted slice false (.str (rowS d) t) (.int 0 u) = operate [.str (rowS d) t, .int 0 u] (getItem (.str (rowS d) t) (.int 0 u)) := by with_unfolding_all rfl)
    (ht : ∀ r, letTemporaryGo value (.str (rowS d) t) r = pure () := by intro _; with_unfolding_all rfl) :
    wpAny (model prog w) A (subscriptTail value slice (.str (rowS d) t) (.int 0 u)) Q E s :=
  item_str (by decide) (by show -((4 : Nat) : Int) ≤ 0; decide) (by show 0 < ((4 : Nat) : Int); decide) (fun _ => h) hs ht
theorem mul_dot {tm : Nat} (h2 : tm ≤ 2) (h1 : 1 ≤ tm) (h : ∀ t' k, Q (.str ⟨(List.replicate tm 46).toArray⟩ t') { s with toks := k }) : wpAny (model prog w) A (binaryOp .Mult (.str (Str.ofString ".") t) (.int (tm : Int) u)) Q E s := by
  refine SB.mul (mulOk_of 16 1048576 (by decide +kernel) (by omega) (by omega) (by decide) (by decide)) fun t' k => ?_
  have e : Txt.mul (Str.ofString ".") (tm : Int) = ⟨(List.replicate tm 46).toArray⟩ := by
    rcases (by omega : tm = 1 ∨ tm = 2) with rfl | rfl <;> decide +kernel
  rw [e]
  exact h t' k
end
theorem sentS_T {j : Nat} {d : Int} (h : (({ cps := #[sg d 0] } : Str) == Str.ofString ".") = true) : (⟨(List.replicate j 46).toArray⟩ : Str) ++ rowS d = sentS j d := by
  have e := isDot_T h
  refine str_eq ?_
  rw [PySem.Str.cps_append, Array.toList_append]
  unfold sentS sentL
  rw [if_pos (by omega)]
  simp [rowS, rowL]
theorem sentS_F {j : Nat} {d : Int} (h : (({ cps := #[sg d 0] } : Str) == Str.ofString ".") = false) : Str.ofString "" ++ rowS d = sentS j d := by
  have e := isDot_F' h
  refine str_eq ?_
  rw [PySem.Str.cps_append, Array.toList_append, nil_str]
  unfold sentS sentL
  rw [if_neg (by omega)]
  simp [rowS, rowL]
theorem sentS_len (j : Nat) (d : Int) : (sentS j d).length ≤ j + 4 := by
  have : (sentS j d).length = (sentL j d).length := by simp [sentS, Str.length]
  rw [this]
  exact sent_len j d
theorem pick_ints {vs : List Value} {ns : List Int} (hi : IntsAre vs ns) (lo hi' st : Option Int) : ∃ ms, IntsAre (slicePick vs.toArray lo hi' st).toList ms := by
  have key : ∀ l : List Value, (∀ v ∈ l, ∃ n t, v = Value.int n t) → ∃ ms, IntsAre l ms := by
    intro l
    induction l with
    | nil => exact fun _ => ⟨[], .nil⟩
    | cons v l ih =>
      intro h
      obtain ⟨n, t, rfl⟩ := h v List.mem_cons_self
      obtain ⟨ms, hm⟩ := ih fun x hx => h x (List.mem_cons_of_mem _ hx)
      exact ⟨n :: ms, .cons n t hm⟩
  refine key _ fun v hv => ?_
  unfold slicePick at hv
  simp only [List.mem_filterMap] at hv
  obtain ⟨i, _, hx⟩ := hv
  obtain ⟨k, t, e, _⟩ := IntsAre.at hi i v (by simpa using hx)
  exact ⟨k, t, e⟩
theorem A2.someInts {α : Type} {P : Int → Prop} : ∀ {as : List α} {ys : List Value}, A2 (fun _ v => ∃ (x : Int) (t : Tok), v = .int x t ∧ P x) as ys → ∃ ns, IntsAre ys ns ∧ ns.length = as.length ∧ ∀ x ∈ ns, P x
  | _, _, .nil => ⟨[], .nil, rfl, fun _ h => nomatch h⟩
  | _, _, .cons ⟨x, t, e, hp⟩ r => by
    obtain ⟨ns, h1, h2, h3⟩ := r.someInts
    subst e
    refine ⟨x :: ns, .cons x t h1, by simp [h2], fun y hy => ?_⟩
    rcases List.mem_cons.mp hy with rfl | hy
    · exact hp
    · exact h3 y hy
section
variable {prog : Program} {w : World} {A : Around} {E : Value → Shared → Prop} {s : Shared}
theorem item_intsX {value slice : Expr} {a : Addr} {us : List Value} {ns : List Int} {k : Int} {u : Tok} {Q : Value → Shared → Prop} (hl : s.heap.IsList a us.toArray) (hi : IntsAre us ns) (h0 : 0 ≤ k) (hk : k < ns.length) (hfit : k < 2 ^ 63)
    (h : ∀ t', Q (.int (ns.getD k.toNat 0) t') s)
    (hs : subscripted slice false (.ref a) (.int k u) = operate [.ref a, .int k u] (getItem (.ref a) (.int k u)) := by with_unfolding_all rfl) (hg : ∀ r, letTemporaryGo value (.ref a) r = pure () := by intro _; with_unfolding_all rfl) :
    wpAny (model prog w) A (subscriptTail value slice (.ref a) (.int k u)) Q E s := by
  have hlt : k.toNat < ns.length := by omega
  have e : ns[k.toNat]? = some (ns.getD k.toNat 0) := by simp [List.getD, hlt]
  obtain ⟨t, ht⟩ := hi.get k.toNat _ e
  exact item_listL hl h0 hfit ht (h t) hs hg
end
theorem worth_in (x : Int) : -1000001 ≤ x.fmod 2000003 - 1000001 ∧ x.fmod 2000003 - 1000001 ≤ 1000001 := by
  rw [Int.fmod_eq_emod_of_nonneg _ (by decide)]
  omega
end Mine
end
section
open PySem PySem.W PyProof.Rows PySem.Calls
open PySem.StrLaws PySem.Builtin PySem.Builtin.Str
set_option maxRecDepth 100000
namespace Mine
theorem crlf_str : PySem.Str.ofString "\r\n" = ⟨#[13, 10]⟩ := by decide +kernel
theorem at_iff (x : PySem.Str) (i : Nat) : At x ⟨#[13, 10]⟩ x.length i ↔ ∃ r, x.cps.toList.drop i = 13 :: 10 :: r := by
  have e : (x.cps.extract i (i + 2)).toList = (x.cps.toList.drop i).take 2 := by rw [ext_list]; congr 1; omega
  have h : subAt x ⟨#[13, 10]⟩ i = true ↔ (x.cps.toList.drop i).take 2 = [13, 10] := by
    unfold subAt
    rw [beq_iff_eq]
    show x.cps.extract i (i + 2) = #[13, 10] ↔ _
    rw [← e]
    constructor
    · intro h; rw [h]
    · intro h; exact Array.ext' h
  unfold At
  rw [h]
  constructor
  · rintro ⟨_, h2⟩
    match hd : x.cps.toList.drop i, h2 with
    | a :: b :: r, h2 =>
      simp at h2
      obtain ⟨rfl, rfl⟩ := h2
      exact ⟨r, rfl⟩
  · rintro ⟨r, hr⟩
    refine ⟨?_, by rw [hr]; rfl⟩
    have hl := congrArg List.length hr
    rw [List.length_drop] at hl
    have : x.length = x.cps.toList.length := by rw [Array.length_toList]; rfl
    simp only [List.length_cons] at hl
    show i + 2 ≤ x.length
    omega
theorem not_at {x : PySem.Str} {l r : List Nat} {a k : Nat} (hs : Sign l) (hd : x.cps.toList.drop a = l ++ r) (h1 : a ≤ k) (h2 : k < a + l.length) : ¬ At x ⟨#[13, 10]⟩ x.length k := by
  rw [at_iff]
  rintro ⟨q, hq⟩
  have e : x.cps.toList.drop k = (l ++ r).drop (k - a) := by rw [← hd, List.drop_drop]; congr 1; omega
  rw [hq, List.drop_append_of_le_length (by omega)] at e
  have hlt : k - a < l.length := by omega
  rw [List.drop_eq_getElem_cons hlt, List.cons_append] at e
  have h13 : l[k - a] = 13 := (List.cons.inj e).1.symm
  have := hs l[k - a] (List.getElem_mem hlt)
  omega
theorem parts_blocks (x : PySem.Str) (j : Nat) : ∀ (rem : List Int) (a f : Nat) (cuts : List Nat), x.cps.toList.drop a = blocks j rem → a ≤ x.length → ChainG x ⟨#[13, 10]⟩ x.length a cuts f → (∀ k, f ≤ k → ¬ At x ⟨#[13, 10]⟩ x.length k) →
    partsFrom x 2 a cuts = rem.map (sentS j) ++ [(⟨#[]⟩ : PySem.Str)]
  | [], a, f, cuts, hd, ha, hc, hn => by
    have hlen : x.length = x.cps.toList.length := by rw [Array.length_toList]; rfl
    have h0 := congrArg List.length hd
    rw [List.length_drop] at h0
    simp only [blocks, List.map_nil, List.flatten_nil, List.length_nil] at h0
    cases cuts with
    | nil =>
      show [strSub x a x.length] = _
      rw [List.map_nil, List.nil_append]
      congr 1
      refine str_eq ?_
      rw [strSub_toList, hd]
      simp [blocks]
    | cons c r =>
      obtain ⟨h1, h2, _⟩ := hc
      have : c + 2 ≤ x.length := h2.1
      omega
  | d :: rem, a, f, cuts, hd, ha, hc, hn => by
    have hlen : x.length = x.cps.toList.length := by rw [Array.length_toList]; rfl
    have hb : blocks j (d :: rem) = sentL j d ++ (13 :: 10 :: blocks j rem) := by simp [blocks]
    rw [hb] at hd
    have hs := sentL_sign j d
    have hA : At x ⟨#[13, 10]⟩ x.length (a + (sentL j d).length) := by
      rw [at_iff]
      refine ⟨blocks j rem, ?_⟩
      rw [← List.drop_drop, hd, List.drop_left]
    cases cuts with
    | nil =>
      have e : f = a := hc
      exact absurd hA (hn _ (by omega))
    | cons c r =>
      obtain ⟨h1, h2, h3, h4⟩ := hc
      have hc : c = a + (sentL j d).length := by
        rcases Nat.lt_trichotomy c (a + (sentL j d).length) with h | h | h
        · exact absurd h2 (not_at hs hd h1 h)
        · exact h
        · exact absurd hA (h3 _ (by omega) h)
      subst hc
      have hle : a + (sentL j d).length + 2 ≤ x.length := h2.1
      have ih := parts_blocks x j rem (a + (sentL j d).length + 2) f r (by rw [show a + (sentL j d).length + 2 = a + ((sentL j d).length + 2) by omega, ← List.drop_drop, hd, ← List.drop_drop, List.drop_left]; rfl) hle h4 hn
      show strSub x a (a + (sentL j d).length) :: partsFrom x 2 (a + (sentL j d).length + 2) r = _
      rw [ih, List.map_cons, List.cons_append]
      congr 1
      refine str_eq ?_
      rw [strSub_toList, hd, show a + (sentL j d).length - a = (sentL j d).length by omega, List.take_left]
      rfl
theorem kind_pos (x : PySem.Str) : 1 ≤ PySem.Builtin.Str.strKind x := by
  unfold PySem.Builtin.Str.strKind
  split
  · decide
  · split <;> decide
theorem split_text (j : Nat) (ds : List Int) (hne : ds ≠ []) : Txt.split (textS (j + 1) ds) (PySem.Str.ofString "\r\n") = ds.map (sentS (j + 1)) ++ [(⟨#[]⟩ : PySem.Str)] := by
  rw [crlf_str]
  have hx := textL_succ j ds
  generalize textS (j + 1) ds = x at hx
  have hlen : x.length = x.cps.toList.length := by rw [Array.length_toList]; rfl
  have h2 : 2 ≤ x.length := by
    rw [hlen, hx]
    cases ds with
    | nil => exact absurd rfl hne
    | cons d ds => simp [blocks]; omega
  obtain ⟨f, hc, hn⟩ := occ_tight x ⟨#[13, 10]⟩ (by decide)
  have key := parts_blocks x (j + 1) ds 0 f _ (by rw [List.drop_zero, hx]) (Nat.zero_le _) hc hn
  unfold Txt.split
  rw [if_neg]
  · split
    · rename_i hem
      rw [List.isEmpty_iff.mp hem] at key
      rw [← key]
      show [x] = [strSub x 0 x.length]
      rw [sub_whole]
    · rw [partsBetween_eq]
      exact key
  · have h3 := kind_pos x
    have h4 : PySem.Builtin.Str.strKind ⟨#[13, 10]⟩ = 1 := by decide +kernel
    have h5 : (⟨#[13, 10]⟩ : PySem.Str).length = 2 := rfl
    rw [h4, h5]
    simp
    omega
theorem strs_take {vs : List Value} {xs : List PySem.Str} (h : StrsAre vs xs) : ∀ k, StrsAre (vs.take k) (xs.take k) := by
  induction h with
  | nil => intro k; simp; exact .nil
  | cons x t h ih =>
    intro k
    cases k with
    | zero => simp; exact .nil
    | succ k => simp; exact .cons x t (ih k)
theorem pick_init {vs : List Value} {xs : List PySem.Str} {y : PySem.Str} (h : StrsAre vs (xs ++ [y])) : StrsAre (slicePick vs.toArray none (some (-1)) none).toList xs := by
  have hl := h.len_eq
  rw [List.length_append, List.length_singleton] at hl
  have e : (slicePick vs.toArray none (some (-1)) none).toList = vs.take xs.length := by
    rw [kms_pick_eq]
    show (kms_pick vs none (some (-1))) = _
    unfold kms_pick kms_lo kms_hi
    dsimp only
    rw [if_pos (by decide), hl]
    simp
  rw [e]
  have := strs_take h xs.length
  rwa [List.take_left] at this
end Mine
end
section
open PySem PySem.W PyProof.Rows PySem.Calls PySem.Spec
set_option maxRecDepth 100000
namespace Mine
/-- the end of a loop's turn: the iterator's object stands, the ledger may be another one -/
def TurnEnd (h₀ : Heap) (L : Addr) (J : (Str → Option Value) → List (Addr × Obj) → Prop) (I : Addr) (oI : Obj) (s₁ s₂ : Shared) : Prop :=
  ∃ h' tk m' news', s₂ = { s₁ with heap := h', toks := tk } ∧ Fr h₀ L h' m' ∧ News h₀ L h' ((I, oI) :: news') ∧ (∀ p ∈ news', p.1 ≠ I) ∧ J m' news'
theorem TurnEnd.intro {h₀ : Heap} {L : Addr} {J : (Str → Option Value) → List (Addr × Obj) → Prop} {I : Addr} {oI : Obj} {s₁ : Shared} {h' : Heap} {tk : Nat} {m' : Str → Option Value} {all : List (Addr × Obj)}
    (F : Fr h₀ L h' m') (N : News h₀ L h' all) (news' : List (Addr × Obj)) (sub : ∀ p ∈ (I, oI) :: news', p ∈ all) (off : ∀ p ∈ news', p.1 ≠ I) (hJ : J m' news') :
    TurnEnd h₀ L J I oI s₁ { s₁ with heap := h', toks := tk } := ⟨h', tk, m', news', rfl, F, fun p hp => N p (sub p hp), off, hJ⟩
section
variable {prog : Program} {w : World} {A : Around} {E : Value → Shared → Prop} {s : Shared} {env : Env} {h₀ : Heap} {x : Str} {px : Pos} {body : List Stmt} {Q : Flow → Shared → Prop}
theorem iterT_listF {l : Addr} {vs : List Value} {ns : List Int} {nn : Nat} {m₀ : Str → Option Value} {news : List (Addr × Obj)} (J : Nat → (Str → Option Value) → List (Addr × Obj) → Prop)
    (hh : A.handled = none) (hl : (l, listOf vs.toArray nn) ∈ news) (hi : IntsAre vs ns) (F : Fr h₀ env.locals s.heap m₀) (N : News h₀ env.locals s.heap news) (hj : J 0 m₀ news)
    (hJl : ∀ i m nx, J i m nx → (l, listOf vs.toArray nn) ∈ nx)
    (turn : ∀ (i : Nat) k t m₁ news₁ (s₁ : Shared) I oI, ns[i]? = some k → (∀ p ∈ news₁, p.1 ≠ I) → J i m₁ news₁ → Fr h₀ env.locals s₁.heap m₁ → News h₀ env.locals s₁.heap ((I, oI) :: news₁) →
      wpAny (model prog w) A (assign (.Name x px) env (.int k t)) (fun _ s₃ => wpAny (model prog w) A (execs body env) (fun f s₄ => f = .next ∧ TurnEnd h₀ env.locals (J (i + 1)) I oI s₁ s₄) E s₃) E s₁)
    (done : ∀ m₁ news₁ h tk, J ns.length m₁ news₁ → Fr h₀ env.locals h m₁ → News h₀ env.locals h news₁ → Q .next { s with heap := h, toks := tk }) :
    wpAny (model prog w) A (pyIter (.ref l)) (fun it s₂ => LoopAtT prog w A h₀ env (.Name x px) body Q E it s₂) E s := by
  have hol : s.heap.get? l = some (listOf vs.toArray nn) := (N _ hl).1
  have hls : s.heap.IsList l vs.toArray := ⟨_, hol, rfl, nn, rfl⟩
  have hne : l ≠ s.heap.objs.size := Nat.ne_of_lt (Heap.lt_size hol)
  have lt : ∀ p ∈ news, p.1 < s.heap.objs.size := fun p hp => Heap.lt_size (N p hp).1
  refine wpAny_pyIter_list hls ?_
  have W := Walks.list (prog := prog) (w := w) hh s.heap.objs.size l hne vs.toArray
  have hlen : vs.toArray.size = ns.length := by simp [hi.length]
  rw [hlen] at W
  refine ⟨_, _, _, ns.length, _, _, m₀, news, J, rfl, W, ?_, ?_, ?_, ⟨⟨_, Heap.get?_push_size _ rfl, rfl, rfl⟩, hls.at fun o e => Heap.get?_push_of_some _ e⟩, F.push _, (fun p hp => ⟨Heap.get?_push_of_some _ (N p hp).1, (N p hp).2⟩), ?_, hj, ?_, ?_⟩
  · intro hm
    rcases List.mem_cons.mp hm with e | hm
    · exact absurd F.ns.lt (e ▸ Nat.lt_irrefl _)
    · exact (N _ hl).2.1 ((List.mem_singleton.mp hm).symm)
  · intro b hb
    rw [List.mem_singleton.mp hb]
    exact next_is_new F
  · intro p hp hI
    exact absurd (lt p hp) ((List.mem_singleton.mp hI) ▸ Nat.lt_irrefl _)
  · intro i s' v Q' _ hq
    exact wpAny_pure hq
  · rintro i v m₁ news₁ s₁ own hin hP hJ hoff hown hget hfp hst F₁ N₁
    have hl₁ := hJl _ _ _ hJ
    have hlt' : i < ns.length := hin
    obtain ⟨t, hx⟩ := hi.get i ns[i] (by simp [hlt'])
    have hv : v = .int ns[i] t := by
      have hP' : vs[i]? = some v := by simpa using hP
      rw [hx] at hP'; exact (Option.some.inj hP').symm
    subst hv
    obtain ⟨oI, heI, _⟩ := hst.1
    have hIo := hfp _ List.mem_cons_self (next_is_new F) oI heI
    have hoff' : ∀ p ∈ news₁, p.1 ≠ s.heap.objs.size := fun p hp e => hoff p hp (List.mem_singleton.mpr e)
    have hlo : s₁.heap.get? l = some (listOf vs.toArray nn) := (N₁ _ (List.mem_append.mpr (.inr hl₁))).1
    refine wpAny_mono (turn i ns[i] t m₁ news₁ s₁ _ oI (by simp [hlt']) hoff' hJ F₁ (fun p hp => ?_)) (fun _ s₃ h₃ => wpAny_mono h₃ (fun f s₄ h₄ => ?_) fun _ _ e => e) fun _ _ e => e
    · rcases List.mem_cons.mp hp with rfl | hp
      · exact N₁ _ (List.mem_append.mpr (.inl hIo))
      · exact N₁ _ (List.mem_append.mpr (.inr hp))
    · obtain ⟨rfl, h', tk, m', nx, e, F', N', ho, hm⟩ := h₄
      refine ⟨rfl, h', tk, m', nx, e, F', fun p hp => ?_, fun p hp hq => ho p hp (List.mem_singleton.mp hq), hm⟩
      rcases List.mem_append.mp hp with h | h
      · have hg := hget p h
        rcases List.mem_cons.mp (hown p h) with h2 | h2
        · rw [h2, heI] at hg
          have h3 : p = (s.heap.objs.size, oI) := Prod.ext h2 (Option.some.inj hg).symm
          rw [h3]
          exact N' _ List.mem_cons_self
        · have h1 := List.mem_singleton.mp h2
          rw [h1, hlo] at hg
          have h3 : p = (l, listOf vs.toArray nn) := Prod.ext h1 (Option.some.inj hg).symm
          rw [h3]
          exact N' _ (List.mem_cons_of_mem _ (hJl _ _ _ hm))
      · exact N' p (List.mem_cons_of_mem _ h)
  · rintro h' tk m' news' F' N' _ hJ
    exact done m' news' h' tk hJ F' N'
end
end Mine
end
section
open PySem PySem.W PyProof.Rows PySem.Calls
set_option maxRecDepth 100000
namespace Mine
def unionsOf (l : List Int) : List Int := l.foldl (fun us x => us ++ us.map (fun a => Builtin.bitOr a x)) [0]
def sizesOf : Nat → List Int
  | 0 => [0]
  | i + 1 => sizesOf i ++ (sizesOf i).map (· + 1)
theorem sizesOf_len : ∀ i, (sizesOf i).length = 2 ^ i
  | 0 => rfl
  | i + 1 => by rw [sizesOf, List.length_append, List.length_map, sizesOf_len i, Nat.pow_succ]; omega
theorem unionsOf_snoc (l : List Int) (x : Int) : unionsOf (l ++ [x]) = unionsOf l ++ (unionsOf l).map (fun a => Builtin.bitOr a x) := by simp [unionsOf]
theorem unionsOf_len (l : List Int) : (unionsOf l).length = 2 ^ l.length := by
  have key : ∀ (l us : List Int), (l.foldl (fun us x => us ++ us.map (fun a => Builtin.bitOr a x)) us).length = us.length * 2 ^ l.length := by
    intro l
    induction l with
    | nil => intro us; simp
    | cons a l ih =>
      intro us
      rw [List.foldl_cons, ih, List.length_append, List.length_map, List.length_cons, Nat.pow_succ, Nat.add_mul, Nat.mul_comm (2 ^ l.length) 2, ← Nat.mul_assoc, Nat.mul_comm us.length 2, Nat.mul_assoc]
      omega
  rw [unionsOf, key]
  simp
theorem off1_of {D : Addr} : ∀ {l : List (Addr × Obj)}, (∀ p ∈ l, p.1 ≠ D) → LCg.Off1 D l
  | [], _ => trivial
  | _ :: _, h => ⟨h _ List.mem_cons_self, off1_of fun p hp => h p (List.mem_cons_of_mem _ hp)⟩
theorem mem_of_off1 {D : Addr} : ∀ {l : List (Addr × Obj)}, LCg.Off1 D l → ∀ p ∈ l, p.1 ≠ D
  | [], _, _, h => nomatch h
  | _ :: _, x, p, h => by
    rcases List.mem_cons.mp h with rfl | h
    · exact x.1
    · exact mem_of_off1 x.2 p h
theorem take_snoc {l : List Int} {i : Nat} {k : Int} (h : l[i]? = some k) : l.take (i + 1) = l.take i ++ [k] := by
  rw [List.take_add_one, h]
  rfl
theorem pow_small {i n : Nat} (h : i ≤ n) (hn : n ≤ 5) : 2 ^ i ≤ 32 := Nat.pow_le_pow_right (by decide) (by omega : i ≤ 5)
end Mine
end
section
open PySem PySem.W PyProof.Rows PySem.Calls
set_option maxRecDepth 100000
set_option maxHeartbeats 8000000
namespace Mine
local macro_rules | `(tactic| k_room) => `(tactic| ((try simp only [depth_under_make, depth_under_kw, depth_in1, depth_deeper, depth_caller]); omega))
local macro_rules | `(tactic| walk_at "eval ListComp") => `(tactic| (k_here; (refine hold ?_)))
local macro_rules | `(tactic| walk_at "call builtin:len") => `(tactic| (k_here; (with_reducible show wpAny _ _ (call (Value.builtin "len") [Value.ref _]) _ _ _); k_dflt (refine len_strsA (News.isList (by k_asm) (by k_mem)) (by assumption) (by omega) ?_)))
local macro_rules | `(tactic| walk_at "CompSrcT") => `(tactic| (k_here; (refine hold ?_)))
local macro_rules | `(tactic| walk_at "CompSrc") => `(tactic| (k_here; (refine hold ?_)))
local macro_rules | `(tactic| walk_at "CompEnd") => `(tactic| (k_here; (refine hold ?_)))
local macro_rules | `(tactic| walk_at "exec For") => `(tactic| (k_here; (refine hold ?_)))
local macro_rules | `(tactic| walk_at "pyIter ref") => `(tactic| (k_here; (refine hold ?_)))
local macro_rules | `(tactic| walk_at "call type:bytes") => `(tactic| (k_here; (refine hold ?_)))
theorem For_byF {prog : Program} {w : World} {A : Around} {s : Shared} {env : Env} {h₀ : Heap} {m : Str → Option Value} {E : Value → Shared → Prop} {Q : Flow → Shared → Prop} {target iter : Expr} {pos : Pos} {body : List Stmt} (_F : Fr h₀ env.locals s.heap m)
    (h : wpAny (model prog w) A (eval iter env) (fun xv s₁ => wpAny (model prog w) A (pyIter xv) (fun it s₂ => LoopAtT prog w A h₀ env target body Q E it s₂) E s₁) E s)
    (hs : ∀ x, foldedSetIterable iter env x = pure x)
    (hE : PassesOwn (model prog w) A env E := by passes_own) :
    wpAny (model prog w) A (exec (.For target iter body [] pos) env) Q E s := For_invT h₀ h hs hE
theorem two_names {h₀ h : Heap} {L : Addr} {m : Str → Option Value} {x y : Str} {vx vy : Value} (F : Fr h₀ L h m) (hx : m x = some vx) (hy : m y = some vy) :
    ∃ mm : Str → Option Value, Fr h₀ L h (fun z => if z = x then some vx else (fun z => if z = y then some vy else mm z) z) := by
  refine ⟨m, fr_as (fr_as F hy) ?_⟩
  by_cases e : x = y
  · subst e
    rw [hx] at hy
    rw [if_pos rfl, ← hy]
  · rw [if_neg e, hx]
theorem allLt_mem {D : Nat} : ∀ {l : List (Addr × Obj)}, AllLt D l → ∀ p ∈ l, p.1 < D
  | [], _, _, h => nomatch h
  | _ :: _, x, p, h => by
    rcases List.mem_cons.mp h with rfl | h
    · exact x.1
    · exact allLt_mem x.2 p h
theorem item_back {r : Str} {k : Int} (h0 : 0 ≤ k) (h1 : k < r.length) : (Txt.item r (-1 - k) == Str.ofString ".") = (r.cps.toList.getD (r.length - 1 - k.toNat) 0 == 46) := by
  have hlt : r.length - 1 - k.toNat < r.cps.size := by
    have : r.cps.size = r.length := rfl
    omega
  have hs : seqIndex? (-1 - k) r.length = some (r.length - 1 - k.toNat) := by
    unfold seqIndex?
    have e1 : (if -1 - k < 0 then -1 - k + (r.length : Int) else -1 - k) = -1 - k + (r.length : Int) := if_pos (by omega)
    simp only [e1]
    rw [if_pos (by simp only [Bool.and_eq_true, decide_eq_true_eq]; omega)]
    congr 1
    omega
  have e : Txt.item r (-1 - k) = ⟨#[r.cps.toList.getD (r.length - 1 - k.toNat) 0]⟩ := by
    unfold Txt.item Txt.charAt
    rw [hs]
    simp [List.getD, Array.getElem?_toList]
  rw [e, show Str.ofString "." = ⟨#[46]⟩ by decide +kernel]
  generalize r.cps.toList.getD (r.length - 1 - k.toNat) 0 = c
  by_cases hc : c = 46
  · subst hc
    rfl
  · have h1 : (c == 46) = false := by simpa using hc
    rw [h1]
    refine beq_eq_false_iff_ne.mpr fun h => hc ?_
    have := congrArg (fun s : Str => s.cps.toList) h
    simpa using this
def cntAt (rows : List Str) (k : Int) : Int := ((rows.filter fun r => decide ((r.length : Int) > k) && (r.cps.toList.getD (r.length - 1 - k.toNat) 0 == 46)).length : Int)
/-- the letters down from place M - 1, i of them -/
def lettersOf (rows : List Str) (M : Int) (i : Nat) : List Int := (List.range i).map fun (j : Nat) => 65 + cntAt rows (M - 1 - (j : Int))
theorem ints_snoc {vs : List Value} {ns : List Int} (h : IntsAre vs ns) (k : Int) (t : Tok) : IntsAre (vs ++ [.int k t]) (ns ++ [k]) := by
  induction h with
  | nil => exact .cons k t .nil
  | cons a u h ih => exact .cons a u ih
theorem lettersOf_succ (rows : List Str) (M : Int) (i : Nat) : lettersOf rows M (i + 1) = lettersOf rows M i ++ [65 + cntAt rows (M - 1 + (i : Int) * -1)] := by
  unfold lettersOf
  rw [List.range_succ, List.map_append, show M - 1 + (i : Int) * -1 = M - 1 - (i : Int) by omega]
  rfl
def maxLen (rows : List Str) : Int := rows.foldl (fun a r => max a (r.length : Int)) 0
def lettersB (rows : List Str) : Array UInt8 := ((lettersOf rows (maxLen rows) (maxLen rows).toNat).map fun n => n.toNat.toUInt8).toArray
theorem maxLen_is {rows : List Str} {M : Int} (h1 : M ∈ rows.map fun r => (r.length : Int)) (h2 : ∀ a ∈ rows.map (fun r => (r.length : Int)), a ≤ M) : maxLen rows = M := by
  have hM : 0 ≤ M := by
    obtain ⟨r, _, e⟩ := List.mem_map.mp h1
    omega
  have key : ∀ (l : List Str) (a : Int), a ≤ M → (∀ r ∈ l, (r.length : Int) ≤ M) → l.foldl (fun a r => max a (r.length : Int)) a ≤ M := by
    intro l
    induction l with
    | nil => intro a h _; exact h
    | cons r l ih =>
      intro a h hl
      have := hl r List.mem_cons_self
      exact ih (max a (r.length : Int)) (by omega) fun x hx => hl x (List.mem_cons_of_mem _ hx)
  have mono : ∀ (l : List Str) (a : Int), a ≤ l.foldl (fun a r => max a (r.length : Int)) a := by
    intro l
    induction l with
    | nil => intro a; exact Int.le_refl a
    | cons r l ih => intro a; exact Int.le_trans (by omega) (ih (max a (r.length : Int)))
  have up : ∀ (l : List Str) (a : Int) (r : Str), r ∈ l → (r.length : Int) ≤ l.foldl (fun a r => max a (r.length : Int)) a := by
    intro l
    induction l with
    | nil => intro a r h; cases h
    | cons x l ih =>
      intro a r h
      rcases List.mem_cons.mp h with rfl | h
      · exact Int.le_trans (by omega) (mono l (max a (r.length : Int)))
      · exact ih _ r h
  refine Int.le_antisymm (key rows 0 hM fun r hr => h2 _ (List.mem_map.mpr ⟨r, hr, rfl⟩)) ?_
  obtain ⟨r, hr, e⟩ := List.mem_map.mp h1
  rw [← e]
  exact up rows 0 r hr
theorem cnt_in (rows : List Str) (k : Int) : 0 ≤ cntAt rows k ∧ cntAt rows k ≤ rows.length := by
  unfold cntAt
  have := List.length_filter_le (fun r : Str => decide ((r.length : Int) > k) && (r.cps.toList.getD (r.length - 1 - k.toNat) 0 == 46)) rows
  omega
theorem law_letters_call {w : World} {mean mg mb} (news : CbLed) (lr : Addr) (us : List Value) (rows : List Str) (kk : Nat) (hu : StrsAre us rows) (hn : rows.length ≤ 5) (hne : rows ≠ []) (hb : ∀ x ∈ rows, x.length ≤ 6) : 
    Cl 20 200 w mean mg mb 116 ((lr, PySem.W.listOf us.toArray kk) :: news) True [.ref lr] (fun t => .bytes (lettersB rows) t) := by
  k_with_none
  w_top off
  dsimp only [Cl, CbRet]
  k_fill
  intros
  rename_i hret
  refine wpAny_call ?_
  k_dflt (refine' code_defC ?k1 ?k2 ?k3 ?k4 ?k5 ?kA ?kF ?kK ?k6 ?k7 ?k8 ?k9 ?kB ?kD ?_ ?c2 ?c3 ?c4; (case kA => exact rfl); (case kF => exact rfl); (case kK => assumption); (case k1 => k_asm); (case k2 => k_asm); (case k3 => k_asm); (case k4 => k_asm); (case k5 => k_asm); (case k6 => k_is); (case k7 => k_is); (case k8 => ktr_room); (case k9 => exact BindsTo.of_eq rfl); (case kB => exact rfl); (case kD => decide +kernel); (case c2 => exact rfl); (case c3 => exact rfl); (case c4 => exact rfl); k_whole; intro g' L' h' tk' cells' FG' F' N' Y' B' X' T' l1; (try k_lt l1); k_cells Y'; (try simp only [List.cons_append, List.nil_append] at N'); (try dsimp only); (try k_lift B'); (try k_fold))
  k_steps
  unfold Hold
  (rename Fr _ _ _ _ => FL)
  refine For_byF FL ?_ (by intro _; rfl)
  k_steps
  unfold Hold
  refine LCg.ListComp_U (F₀ := by k_asm) (by with_unfolding_all rfl) (by decide) (by rfl) (by decide) (by rfl) ?_
  k_steps
  unfold Hold
  refine LCg.CompSrc.ledger (by rfl) (by k_asm) (by k_asm) (by k_mem) (by simp [sizeLine, hu.len_eq]; omega) ?_
  intro gg
  refine comp_rest (xs := rows) (fun r v => ∃ t : Tok, v = .int (r.length : Int) t) (fun r v => ∃ t : Tok, v = .str r t) (by simp [hu.len_eq]) ?_ ?_ ?_
  · rintro j v hj hv
    exact strs_at hu j v (by simpa using hv)
  · rintro r v I' oI' C' oC' D' m' ys' h' tk' E' hk ⟨t, rfl⟩ hC' hx' F' N' off' ne'
    have hr6 := hb r hk
    k_steps
    unfold Hold
    refine LCg.CompEnd.intro (by assumption) (by assumption) _ (by intro p hp; first | exact hp | exact List.mem_cons_of_mem _ hp) (by assumption) (.inr ⟨_, by k_mem, rfl, _, rfl⟩) ⟨rfl, _, rfl⟩
  · intro ys8 hys
    have hln := hys.ints
    have hrl : 0 < rows.length := by cases rows with | nil => exact absurd rfl hne | cons a r => simp
    have hrl2 : 0 < (rows.map fun r => (r.length : Int)).length := by simpa using hrl
    k_steps
    unfold Hold
    (rename _ ∈ List.map _ rows => hM1)
    (rename ∀ a ∈ List.map _ rows, a ≤ _ => hM2)
    (rename IsRange _ _ _ _ _ _ _ _ => hR)
    (rename Fr _ _ _ _ => FF)
    (rename News _ _ _ _ => NN)
    obtain ⟨mm, F2⟩ := two_names (x := Str.ofString "letters") (y := Str.ofString "rows") FF rfl rfl
    rename_i o7 d7 lA hq4 lt1 hq3 DL hq2 tkq o1q hq1 M tM kM FM NM hq0 tk0 t1 u1 v1 up
    clear FF FM NM
    have hM0 : 0 ≤ M ∧ M ≤ 6 := by
      obtain ⟨r, hr, hre⟩ := List.mem_map.mp hM1
      have := hb r hr
      omega
    refine iterT_range (env := envOfC _ _ L' _ _) (n := M.toNat) (fun i m nx => ∃ (lv : List Value) (kl : Nat) (o7 : Obj) (ov : Option Value), m = (fun z => if z = Str.ofString "letters" then some (.ref lA) else (fun z => if z = Str.ofString "rows" then some (.ref lr) else mm z) z) ∧
      nx = (DL, LCg.lst ys8) :: (lA, W.listOf lv.toArray kl) :: (L' + 1, o7) :: (lr, W.listOf us.toArray kk) :: news ∧ o7.data = .cell ov ∧ IntsAre lv (lettersOf rows M i)) (by rfl) hR (small_down (by omega) (by omega) (by omega) (by omega)) (by rw [rangeSize_downNat]; omega) F2 NN ⟨_, _, _, _, rfl, rfl, d7, .nil⟩ ?_ ?_
    · rintro i t m₁ news₁ s₁ own hi hadr hoff ⟨lv, kl, o8, ov, rfl, rfl, d8, hlv⟩ F₁ N₁
      have F₂ : Fr g' L' _ _ := F₁
      have N₂ : News g' L' _ _ := N₁
      clear F₁ N₁ F2 NN
      have hrest : ∀ p ∈ (lr, W.listOf us.toArray kk) :: news ++ own, p.1 ≠ L' + 1 := by
        intro p hp
        rcases List.mem_append.mp hp with hp | hp
        · rcases List.mem_cons.mp hp with rfl | hp
          · exact Nat.ne_of_lt (Nat.lt_succ_of_lt l1.1)
          · exact Nat.ne_of_lt (Nat.lt_succ_of_lt (allLt_mem l1.2 p hp))
        · exact hoff p hp _ (by simp)
      k_steps
      refine' storeX_C ?xF ?xN ?xc (.tail ?e1 (.tail ?e2 (.head hrest))) ?xd ?_ ?xa ?xb
      case xa => rfl
      case xb => rfl
      case xF => k_asm
      case xN => k_asm
      case xc => rfl
      case xd => k_asm
      case e1 => exact Ne.symm o1q.2.1
      case e2 => exact Nat.ne_of_gt lt1.1
      intro h9 o9 F9 N9 d9
      (try dsimp only at N9)
      (try dsimp only)
      k_steps
      unfold Hold
      refine LCt.ListComp_T (F₀ := by k_asm) (by with_unfolding_all rfl) (by decide) (by rfl) (by decide) (by rfl) ?_
      k_steps
      unfold Hold
      refine LCt.CompSrcT.ledger (by rfl) (by k_asm) (by k_asm) (by k_mem) (by simp [sizeLine, hu.len_eq]; omega) ?_
      intro gh
      refine comp_restT (xs := rows) (fun r => decide ((r.length : Int) > M - 1 + (i : Int) * -1) && (r.cps.toList.getD (r.length - 1 - (M - 1 + (i : Int) * -1).toNat) 0 == 46)) (fun r v => ∃ t : Tok, v = .str r t) (fun r v => ∃ t : Tok, v = .str r t) (by simp [hu.len_eq]) ?_ ?_ ?_
      · rintro j v hj hv
        exact strs_at hu j v (by simpa using hv)
      · rintro r v I' oI' C' oC' D' m' ys' h' tk' E' hk ⟨t, rfl⟩ hC' hx' F' N' off' ne'
        have hr6 := hb r hk
        k_steps
        · rw [← item_back (by omega) (by omega)]
          symm
          rw [Bool.and_eq_true, decide_eq_true_eq]
          exact ⟨by assumption, by assumption⟩
        · unfold Hold
          refine LCg.CompEnd.intro (by assumption) (by assumption) _ (by intro p hp; first | exact hp | exact List.mem_cons_of_mem _ hp) (by assumption) (.inr ⟨_, by k_mem, rfl, _, rfl⟩) ⟨rfl, _, rfl⟩
        · rw [← item_back (by omega) (by omega)]
          symm
          rw [Bool.and_eq_false_iff]
          right
          simp_all
        · unfold Hold
          refine LCg.CompEnd.intro (by assumption) (by assumption) _ (by intro p hp; first | exact hp | exact List.mem_cons_of_mem _ hp) (by assumption) (.inr ⟨_, by k_mem, rfl, _, rfl⟩) rfl
        · symm
          rw [Bool.and_eq_false_iff]
          left
          simp
          omega
        · unfold Hold
          refine LCg.CompEnd.intro (by assumption) (by assumption) _ (by intro p hp; first | exact hp | exact List.mem_cons_of_mem _ hp) (by assumption) (.inr ⟨_, by k_mem, rfl, _, rfl⟩) rfl
      · intro ys9 hys9
        have hst9 := A2.strs (g := id) hys9
        rw [List.map_id] at hst9
        have hfl := List.length_filter_le (fun r : Str => decide ((r.length : Int) > M - 1 + (i : Int) * -1) && (r.cps.toList.getD (r.length - 1 - (M - 1 + (i : Int) * -1).toNat) 0 == 46)) rows
        have hrest2 : ∀ p ∈ (L' + 1, o9) :: (lr, W.listOf us.toArray kk) :: (news ++ own), p.1 ≠ lA := by
          intro p hp
          rcases List.mem_cons.mp hp with rfl | hp
          · exact Nat.ne_of_lt lt1.1
          · rcases List.mem_cons.mp hp with rfl | hp
            · exact Nat.ne_of_lt lt1.2.1
            · rcases List.mem_append.mp hp with hp | hp
              · exact Nat.ne_of_lt (allLt_mem lt1.2.2 p hp)
              · exact hoff p hp _ (by simp)
        k_steps
        rename_i DC hC1 tkC FC NC oC
        refine append_K (its := lv.toArray) (n := kl) (by k_asm) (by k_asm) (.tail ?u1 (.tail ?u2 (.head hrest2))) ?_ (by rw [List.size_toArray, hlv.length]; simp [lettersOf, sizeLine]; omega)
        case u1 => k_ne
        case u2 => exact Ne.symm o1q.1
        intro h8 F8 N8
        (try dsimp only)
        k_steps
        simp only [List.push_toArray] at N8
        refine ⟨h8, _, _, _, _, rfl, F8, N8, ?_, ?_, ?_, ⟨_, kl + 1, _, _, rfl, rfl, d9, (lettersOf_succ rows M i).symm ▸ ints_snoc hlv _ (tkC + 1 + 1)⟩⟩
        · intro p hp
          refine List.mem_cons_of_mem _ ?_
          have : p ∈ ((DL, LCg.lst ys8) :: (lA, W.listOf (lv ++ [Value.int (65 + cntAt rows (M - 1 + (i : Int) * -1)) (tkC + 1 + 1)]).toArray (kl + 1)) :: (L' + 1, o9) :: (lr, W.listOf us.toArray kk) :: news) ++ own := List.mem_append.mpr (.inl hp)
          exact this
        · intro p hp
          refine List.mem_cons_of_mem _ ?_
          have : p ∈ ((DL, LCg.lst ys8) :: (lA, W.listOf (lv ++ [Value.int (65 + cntAt rows (M - 1 + (i : Int) * -1)) (tkC + 1 + 1)]).toArray (kl + 1)) :: (L' + 1, o9) :: (lr, W.listOf us.toArray kk) :: news) ++ own := List.mem_append.mpr (.inr hp)
          exact this
        · rfl
    · rintro m₁ news₁ h tk ⟨lv, kl, o8, ov, rfl, rfl, d8, hlv⟩ F₁ N₁
      have F₂ : Fr g' L' _ _ := F₁
      have N₂ : News g' L' _ _ := N₁
      clear F₁ N₁ F2 NN
      (try dsimp only)
      k_steps
      unfold Hold
      refine bytes_K (by k_asm) (by k_asm) (News.isList (by k_asm) (by k_mem)) hlv ?_ (by rw [hlv.length]; simp [lettersOf, sizeLine]; omega) (by rfl) ?_
      · intro x hx
        unfold lettersOf at hx
        obtain ⟨j, _, rfl⟩ := List.mem_map.mp hx
        have := cnt_in rows (M - 1 - (j : Int))
        omega
      · intro h8 t8 k8 F8 N8 _
        rw [show ((lettersOf rows M M.toNat).map fun n => n.toNat.toUInt8).toArray = lettersB rows from by unfold lettersB; rw [maxLen_is hM1 hM2]]
        k_steps
        (rename News _ _ _ _ => NZ)
        exact hret _ _ _ (by assumption) (fun p hp => NZ p (List.mem_cons_of_mem _ (List.mem_cons_of_mem _ (List.mem_cons_of_mem _ hp))))
end Mine
end
section
open PySem PySem.W PyProof.Rows PySem.Calls
set_option maxRecDepth 100000
namespace Mine
/-- the k-th figure to the base 16 -/
def dig (n k : Nat) : Nat := n / 16 ^ k % 16
/-- the letters from the last on -/
def revL : Nat → Nat → List UInt8
  | 0, _ => []
  | f + 1, n => if n = 0 then [] else UInt8.ofNat (65 + n % 16) :: revL f (n / 16)
theorem apL_rev : ∀ f n, apL f n = (revL f n).reverse
  | 0, _ => rfl
  | f + 1, n => by
    unfold apL revL
    split
    · rfl
    · rw [List.reverse_cons, apL_rev f]
theorem dig_zero (k : Nat) : dig 0 k = 0 := by simp [dig]
theorem dig_succ (n k : Nat) : dig n (k + 1) = dig (n / 16) k := by
  unfold dig
  rw [Nat.div_div_eq_div_mul, Nat.pow_succ, Nat.mul_comm]
theorem dig_lt (n k : Nat) : dig n k < 16 := Nat.mod_lt _ (by decide)
theorem rev_get : ∀ (f n : Nat), n < 16 ^ f → ∀ k, k < (revL f n).length → (revL f n)[k]? = some (UInt8.ofNat (65 + dig n k))
  | 0, _, _, k, hk => by simp [revL] at hk
  | f + 1, n, h, k, hk => by
    unfold revL at hk ⊢
    split at hk
    · simp at hk
    · rename_i hn
      rw [if_neg hn]
      cases k with
      | zero => simp [dig]
      | succ k =>
        rw [List.getElem?_cons_succ, dig_succ]
        exact rev_get f (n / 16) (by rw [Nat.pow_succ] at h; omega) k (by simpa using hk)
theorem rev_len_le : ∀ (f n s : Nat), n < 16 ^ s → (revL f n).length ≤ s
  | 0, _, _, _ => by simp [revL]
  | f + 1, n, s, h => by
    unfold revL
    split
    · simp
    · cases s with
      | zero => simp at h; omega
      | succ s =>
        rw [List.length_cons]
        exact Nat.succ_le_succ (rev_len_le f (n / 16) s (by rw [Nat.pow_succ] at h; omega))
theorem rev_out : ∀ (f n : Nat), n < 16 ^ f → ∀ k, (revL f n).length ≤ k → dig n k = 0
  | 0, n, h, k, _ => by
    have : n = 0 := by simpa using h
    rw [this, dig_zero]
  | f + 1, n, h, k, hk => by
    unfold revL at hk
    split at hk
    · rename_i hn
      rw [hn, dig_zero]
    · cases k with
      | zero => simp at hk
      | succ k =>
        rw [dig_succ]
        exact rev_out f (n / 16) (by rw [Nat.pow_succ] at h; omega) k (by simpa using hk)
theorem rev_dig {f n k : Nat} (h : n < 16 ^ f) (hd : dig n k ≠ 0) : k < (revL f n).length := by
  refine Nat.lt_of_not_le fun hk => hd (rev_out f n h k hk)
theorem rev_size {f n s : Nat} (h : n < 16 ^ f) (h1 : n < 16 ^ (s + 1)) (hd : dig n s ≠ 0) : (revL f n).length = s + 1 :=
  Nat.le_antisymm (rev_len_le f n (s + 1) h1) (rev_dig h hd)
theorem lt40 {n : Nat} (h : n < 2 ^ 40) : n < 16 ^ 40 := Nat.lt_of_lt_of_le h (by decide)
theorem apB_list (n : Int) : (apB n).toList = (revL 40 n.toNat).reverse := by
  unfold apB
  rw [apL_rev]
theorem apB_len (n : Int) : (apB n).size = (revL 40 n.toNat).length := by
  rw [← Array.length_toList, apB_list, List.length_reverse]
theorem letter_val {d : Nat} (h : d < 16) : ((UInt8.ofNat (65 + d)).toNat : Int) - 65 = (d : Int) := by
  rw [UInt8.toNat_ofNat_of_lt' (by show 65 + d < 256; omega)]
  omega
/-- a letter of Int2AP's word, from its end -/
theorem ap_get {n k : Nat} (h : n < 2 ^ 40) (hk : k < (apB (n : Int)).size) : (KBw.bInts (apB (n : Int))).getD ((apB (n : Int)).size - 1 - k) 0 - 65 = (dig n k : Int) := by
  unfold KBw.bInts
  rw [apB_list, Int.toNat_natCast]
  rw [apB_len, Int.toNat_natCast] at hk ⊢
  have h1 := rev_get 40 n (lt40 h) k hk
  rw [List.getD_eq_getElem?_getD, List.getElem?_map, List.getElem?_reverse (by omega), show (revL 40 n).length - 1 - ((revL 40 n).length - 1 - k) = k by omega, h1]
  exact letter_val (dig_lt n k)
theorem ap_size_le {n s : Nat} (h : n < 16 ^ s) : (apB (n : Int)).size ≤ s := by
  rw [apB_len, Int.toNat_natCast]
  exact rev_len_le 40 n s h
theorem ap_lt {n k : Nat} (h : n < 2 ^ 40) (hd : dig n k ≠ 0) : k < (apB (n : Int)).size := by
  rw [apB_len, Int.toNat_natCast]
  exact rev_dig (lt40 h) hd
theorem ap_out {n k : Nat} (h : n < 2 ^ 40) (hk : (apB (n : Int)).size ≤ k) : dig n k = 0 := by
  rw [apB_len, Int.toNat_natCast] at hk
  exact rev_out 40 n (lt40 h) k hk
/-- the sum of f over the first s places -/
def sumN (f : Nat → Int) : Nat → Int
  | 0 => 0
  | s + 1 => sumN f s + f s
theorem sumN_zero {f : Nat → Int} {s t : Nat} (h : ∀ k, s ≤ k → k < t → f k = 0) (hst : s ≤ t) : sumN f s = sumN f t := by
  induction t with
  | zero =>
    have : s = 0 := by omega
    rw [this]
  | succ t ih =>
    by_cases e : s = t + 1
    · rw [e]
    · rw [sumN, h t (by omega) (by omega), ih (fun k h1 h2 => h k h1 (by omega)) (by omega), Int.add_zero]
theorem sumN_congr {f g : Nat → Int} {s : Nat} (h : ∀ k, k < s → f k = g k) : sumN f s = sumN g s := by
  induction s with
  | zero => rfl
  | succ s ih => rw [sumN, sumN, h s (by omega), ih fun k hk => h k (by omega)]
theorem sumN_add (f g : Nat → Int) (s : Nat) : sumN (fun k => f k + g k) s = sumN f s + sumN g s := by
  induction s with
  | zero => rfl
  | succ s ih => simp only [sumN, ih]; omega
theorem sumN_mul (a : Int) (f : Nat → Int) (s : Nat) : a * sumN f s = sumN (fun k => a * f k) s := by
  induction s with
  | zero => simp [sumN]
  | succ s ih => rw [sumN, sumN, Int.mul_add, ih]
theorem range_sumN (f : Nat → Int) (s : Nat) : ((List.range s).map f).sum = sumN f s := by
  induction s with
  | zero => rfl
  | succ s ih => rw [List.range_succ, List.map_append, List.sum_append, ih]; simp [sumN]
theorem ks_sumN (f : Int → Int) (s : Nat) : ((rangeKs 0 s).map f).sum = sumN (fun k => f (k : Int)) s := by
  unfold rangeKs
  rw [List.map_map, ← range_sumN]
  congr 1
  refine List.map_congr_left fun k _ => ?_
  simp
theorem worth_is {n : Nat} (h : n < 16 ^ 6) (ns : List Int) : worthF (apB (n : Int)) ns = sumN (fun k => ns.getD k 0 * (dig n k : Int)) 6 := by
  have h40 : n < 2 ^ 40 := Nat.lt_of_lt_of_le h (by decide)
  unfold worthF
  rw [ks_sumN]
  rw [← sumN_zero (s := (apB (n : Int)).size) (t := 6) (fun k h1 _ => by rw [ap_out h40 h1]; simp) (ap_size_le h)]
  refine sumN_congr fun k hk => ?_
  unfold worthAt
  rw [Int.toNat_natCast, show (-1 - (k : Int) + ((apB (n : Int)).size : Int)).toNat = (apB (n : Int)).size - 1 - k by omega, ap_get h40 hk]
theorem or_nat (a b : Nat) : Builtin.bitOr (a : Int) (b : Int) = ((a ||| b : Nat) : Int) := by
  unfold Builtin.bitOr Builtin.bitAnd Builtin.bitNot
  have h1 : decide (0 ≤ -(a : Int) - 1) = false := by simp; omega
  have h2 : decide (0 ≤ -(b : Int) - 1) = false := by simp; omega
  rw [h1, h2]
  show _ = _
  dsimp only
  rw [show (-(-(a : Int) - 1) - 1).toNat = a by omega, show (-(-(b : Int) - 1) - 1).toNat = b by omega]
  omega
theorem dig_or (a b k : Nat) : dig (a ||| b) k = dig a k ||| dig b k := by
  unfold dig
  rw [show (16 : Nat) ^ k = 2 ^ (4 * k) by rw [Nat.pow_mul], show (16 : Nat) = 2 ^ 4 from rfl, Nat.or_div_two_pow, Nat.or_mod_two_pow]
theorem or_lt6 {a b : Nat} (ha : a < 16 ^ 6) (hb : b < 16 ^ 6) : a ||| b < 16 ^ 6 := by
  rw [show (16 : Nat) ^ 6 = 2 ^ 24 by decide] at *
  exact Nat.or_lt_two_pow ha hb
end Mine
end
section
open PySem PySem.W PyProof.Rows PySem.Calls
set_option maxRecDepth 100000
namespace Mine
/-- the mask of the rows that have a 1 at place k -/
def maskOf : List Nat → Nat → Nat
  | [], _ => 0
  | x :: l, k => dig x k + 2 * maskOf l k
def ordI : List Int := [1, 1, 2, 6, 24, 120]
/-- how many bits of g are set (five bits) -/
def popN (g : Nat) : Nat := g % 2 + g / 2 % 2 + g / 4 % 2 + g / 8 % 2 + g / 16 % 2
def meet (g m : Nat) : Nat := if g &&& m = 0 then 0 else 1
def Ones (x : Nat) : Prop := ∀ k, dig x k ≤ 1
/-- the union of the group g -/
def orL : List Nat → Nat → Nat
  | [], _ => 0
  | x :: l, g => (if g % 2 = 1 then x else 0) ||| orL l (g / 2)
theorem meet_zero (g : Nat) : meet g 0 = 0 := by simp [meet]
theorem meet_le (g m : Nat) : meet g m ≤ 1 := by
  unfold meet
  split <;> omega
theorem and_cons (g d m : Nat) (hd : d ≤ 1) : (g &&& (d + 2 * m) = 0) ↔ ((g % 2 = 0 ∨ d = 0) ∧ g / 2 &&& m = 0) := by
  have h1 : (g &&& (d + 2 * m)) % 2 = (g % 2) &&& d := by
    have := Nat.and_mod_two_pow (a := g) (b := d + 2 * m) (n := 1)
    rw [show (2 : Nat) ^ 1 = 2 from rfl] at this
    rw [this]
    congr 1
    omega
  have h2 : (g &&& (d + 2 * m)) / 2 = g / 2 &&& m := by
    have := Nat.and_div_two_pow (a := g) (b := d + 2 * m) (n := 1)
    rw [show (2 : Nat) ^ 1 = 2 from rfl] at this
    rw [this]
    congr 1
    omega
  have h3 : (g % 2) &&& d = 0 ↔ (g % 2 = 0 ∨ d = 0) := by
    rcases (by omega : g % 2 = 0 ∨ g % 2 = 1) with e | e <;> rcases (by omega : d = 0 ∨ d = 1) with f | f <;> rw [e, f] <;> decide
  rw [← h3, ← h1, ← h2]
  omega
theorem meet_cons (g d m : Nat) (hd : d ≤ 1) : meet g (d + 2 * m) = (if g % 2 = 1 then d else 0) ||| meet (g / 2) m := by
  have h := and_cons g d m hd
  unfold meet
  rcases (by omega : g % 2 = 0 ∨ g % 2 = 1) with e | e <;> rcases (by omega : d = 0 ∨ d = 1) with f | f <;> by_cases hm : g / 2 &&& m = 0 <;> simp [e, f, hm] at h ⊢ <;> simp [h]
theorem dig_orL : ∀ (l : List Nat), (∀ x ∈ l, Ones x) → ∀ g k, dig (orL l g) k = meet g (maskOf l k)
  | [], _, g, k => by rw [orL, maskOf, dig_zero, meet_zero]
  | x :: l, h, g, k => by
    rw [orL, maskOf, meet_cons _ _ _ (h x List.mem_cons_self k), dig_or, dig_orL l (fun y hy => h y (List.mem_cons_of_mem _ hy))]
    congr 1
    split
    · rfl
    · exact dig_zero k
theorem orL_lt : ∀ (l : List Nat), (∀ x ∈ l, x < 16 ^ 6) → ∀ g, orL l g < 16 ^ 6
  | [], _, g => by rw [orL]; decide
  | x :: l, h, g => by
    rw [orL]
    refine or_lt6 ?_ (orL_lt l (fun y hy => h y (List.mem_cons_of_mem _ hy)) _)
    split
    · exact h x List.mem_cons_self
    · decide
def stepU (us : List Int) (x : Int) : List Int := us ++ us.map (fun a => Builtin.bitOr a x)
theorem foldU_get : ∀ (l : List Nat) (us : List Int) (f : Nat → Nat), (∀ g, g < us.length → us[g]? = some (f g : Int)) → ∀ g, g < us.length * 2 ^ l.length →
    ((l.map (fun (x : Nat) => (x : Int))).foldl stepU us)[g]? = some ((f (g % us.length) ||| orL l (g / us.length) : Nat) : Int)
  | [], us, f, h, g, hg => by
    have hg' : g < us.length := by simpa using hg
    rw [orL, Nat.or_zero, Nat.mod_eq_of_lt hg']
    exact h g hg'
  | x :: l, us, f, h, g, hg => by
    have hs : 0 < us.length := Nat.pos_of_ne_zero fun e => by rw [e] at hg; simp at hg
    rw [List.map_cons, List.foldl_cons]
    have hlen : (stepU us (x : Int)).length = us.length * 2 := by simp [stepU]; omega
    have hf : ∀ g, g < (stepU us (x : Int)).length → (stepU us (x : Int))[g]? = some ((f (g % us.length) ||| (if g / us.length % 2 = 1 then x else 0) : Nat) : Int) := by
      intro g hg
      rw [hlen] at hg
      unfold stepU
      by_cases hlt : g < us.length
      · rw [List.getElem?_append_left hlt, h g hlt, Nat.mod_eq_of_lt hlt, Nat.div_eq_of_lt hlt]
        simp
      · have h1 : g - us.length < us.length := by omega
        have h2 : g / us.length = 1 := Nat.div_eq_of_lt_le (by omega) (by omega)
        have h3 : g % us.length = g - us.length := by rw [Nat.mod_eq_sub_mod (by omega), Nat.mod_eq_of_lt h1]
        rw [List.getElem?_append_right (by omega), List.getElem?_map, h _ h1, h2, h3]
        simp [or_nat]
    have ih := foldU_get l (stepU us (x : Int)) _ hf g (by rw [hlen, Nat.mul_assoc]; rw [List.length_cons, Nat.pow_succ, Nat.mul_comm (2 ^ l.length)] at hg; exact hg)
    rw [ih, hlen]
    congr 2
    have e1 : g % (us.length * 2) % us.length = g % us.length := Nat.mod_mul_right_mod _ _ _
    have e2 : g % (us.length * 2) / us.length = g / us.length % 2 := Nat.mod_mul_right_div_self _ _ _
    rw [e1, e2, Nat.mod_mod, orL, Nat.or_assoc, Nat.div_div_eq_div_mul]
def T (n i m g : Nat) : Int := if g / 2 ^ i % 2 = 0 then ordI.getD (popN g) 0 * ordI.getD (n - 1 - popN g) 0 * ((meet (g + 2 ^ i) m : Int) - (meet g m : Int)) else 0
def G (n i m : Nat) : Int := if m / 2 ^ i % 2 = 1 then ordI.getD n 0 / (popN m : Int) else 0
theorem T2 : ∀ m, m < 2 ^ 2 → ∀ i, i < 2 → sumN (T 2 i m) (2 ^ 2) = G 2 i m := by decide +kernel
theorem T3 : ∀ m, m < 2 ^ 3 → ∀ i, i < 3 → sumN (T 3 i m) (2 ^ 3) = G 3 i m := by decide +kernel
theorem T4 : ∀ m, m < 2 ^ 4 → ∀ i, i < 4 → sumN (T 4 i m) (2 ^ 4) = G 4 i m := by decide +kernel
theorem T5 : ∀ m, m < 2 ^ 5 → ∀ i, i < 5 → sumN (T 5 i m) (2 ^ 5) = G 5 i m := by decide +kernel
theorem T_is {n m i : Nat} (h2 : 2 ≤ n) (h5 : n ≤ 5) (hm : m < 2 ^ n) (hi : i < n) : sumN (T n i m) (2 ^ n) = G n i m := by
  rcases (by omega : n = 2 ∨ n = 3 ∨ n = 4 ∨ n = 5) with rfl | rfl | rfl | rfl
  · exact T2 m hm i hi
  · exact T3 m hm i hi
  · exact T4 m hm i hi
  · exact T5 m hm i hi
theorem sumN_swap (f : Nat → Nat → Int) (s t : Nat) : sumN (fun g => sumN (fun k => f g k) t) s = sumN (fun k => sumN (fun g => f g k) s) t := by
  induction s with
  | zero =>
    have : ∀ t, (0 : Int) = sumN (fun _ => 0) t := by
      intro t
      induction t with
      | zero => rfl
      | succ t ih => rw [sumN, ← ih]; rfl
    exact this t
  | succ s ih => simp only [sumN]; rw [ih, ← sumN_add]
theorem maskOf_lt : ∀ (l : List Nat), (∀ x ∈ l, Ones x) → ∀ k, maskOf l k < 2 ^ l.length
  | [], _, k => by simp [maskOf]
  | x :: l, h, k => by
    have h1 := maskOf_lt l (fun y hy => h y (List.mem_cons_of_mem _ hy)) k
    have h2 := h x List.mem_cons_self k
    rw [maskOf, List.length_cons, Nat.pow_succ]
    omega
theorem maskOf_bit : ∀ (l : List Nat), (∀ x ∈ l, Ones x) → ∀ k i, maskOf l k / 2 ^ i % 2 = dig (l.getD i 0) k
  | [], _, k, i => by simp [maskOf, dig_zero]
  | x :: l, h, k, i => by
    have h2 := h x List.mem_cons_self k
    rw [maskOf]
    cases i with
    | zero => simp; omega
    | succ i =>
      have h1 := maskOf_bit l (fun y hy => h y (List.mem_cons_of_mem _ hy)) k i
      rw [Nat.pow_succ, Nat.mul_comm (2 ^ i) 2, ← Nat.div_div_eq_div_mul, show (dig x k + 2 * maskOf l k) / 2 = maskOf l k by omega, h1]
      simp
theorem pop_cons {d m : Nat} (hd : d ≤ 1) (hm : m < 16) : popN (d + 2 * m) = d + popN m := by
  unfold popN
  omega
theorem maskOf_pop : ∀ (l : List Nat), (∀ x ∈ l, Ones x) → l.length ≤ 5 → ∀ k, popN (maskOf l k) = (l.map fun x => dig x k).sum
  | [], _, _, k => by simp [maskOf, popN]
  | x :: l, h, hl, k => by
    have h2 := h x List.mem_cons_self k
    have hl' : l.length ≤ 4 := by simpa using hl
    have h3 := maskOf_lt l (fun y hy => h y (List.mem_cons_of_mem _ hy)) k
    have h4 : maskOf l k < 16 := Nat.lt_of_lt_of_le h3 (Nat.pow_le_pow_right (by decide) hl')
    rw [maskOf, pop_cons h2 h4, maskOf_pop l (fun y hy => h y (List.mem_cons_of_mem _ hy)) (by omega)]
    simp
theorem shapley {l : List Nat} {n i : Nat} (hn : l.length = n) (h2 : 2 ≤ n) (h5 : n ≤ 5) (h1 : ∀ x ∈ l, Ones x) (h6 : ∀ x ∈ l, x < 16 ^ 6) (ns : List Int) (hi : i < n) :
    sumN (fun g => if g / 2 ^ i % 2 = 0 then ordI.getD (popN g) 0 * ordI.getD (n - 1 - popN g) 0 * (worthF (apB ((orL l (g + 2 ^ i) : Nat) : Int)) ns - worthF (apB ((orL l g : Nat) : Int)) ns) else 0) (2 ^ n)
      = sumN (fun k => if dig (l.getD i 0) k = 1 then ns.getD k 0 * (ordI.getD n 0 / (((l.map fun x => dig x k).sum : Nat) : Int)) else 0) 6 := by
  have key : ∀ g, (if g / 2 ^ i % 2 = 0 then ordI.getD (popN g) 0 * ordI.getD (n - 1 - popN g) 0 * (worthF (apB ((orL l (g + 2 ^ i) : Nat) : Int)) ns - worthF (apB ((orL l g : Nat) : Int)) ns) else 0)
      = sumN (fun k => ns.getD k 0 * T n i (maskOf l k) g) 6 := by
    intro g
    rw [worth_is (orL_lt l h6 _), worth_is (orL_lt l h6 _)]
    unfold T
    split
    · rw [Int.sub_eq_add_neg, ← Int.neg_one_mul (sumN _ _), sumN_mul, ← sumN_add, sumN_mul]
      refine sumN_congr fun k _ => ?_
      rw [dig_orL l h1, dig_orL l h1, Int.mul_left_comm (ns.getD k 0)]
      congr 1
      rw [Int.mul_sub]
      omega
    · have : ∀ t, (0 : Int) = sumN (fun k => ns.getD k 0 * 0) t := by
        intro t
        induction t with
        | zero => rfl
        | succ t ih => rw [sumN, ← ih]; simp
      exact this 6
  rw [sumN_congr fun g _ => key g, sumN_swap]
  refine sumN_congr fun k _ => ?_
  rw [← sumN_mul, T_is h2 h5 (hn ▸ maskOf_lt l h1 k) hi]
  unfold G
  rw [maskOf_bit l h1, maskOf_pop l h1 (by omega)]
  split
  · rfl
  · simp
end Mine
end
section
open PySem PySem.W PyProof.Rows PySem.Calls
set_option maxRecDepth 100000
namespace Mine
theorem unions_get (l : List Nat) (g : Nat) (hg : g < 2 ^ l.length) : (unionsOf (l.map (fun (x : Nat) => (x : Int))))[g]? = some ((orL l g : Nat) : Int) := by
  have h := foldU_get l [0] (fun _ => 0) (by intro g hg; have : g = 0 := by simpa using hg
                                             subst this; rfl) g (by simpa using hg)
  have e : unionsOf (l.map (fun (x : Nat) => (x : Int))) = (l.map (fun (x : Nat) => (x : Int))).foldl stepU [0] := rfl
  rw [e, h]
  simp
theorem sizes_get : ∀ n, n ≤ 5 → ∀ g, g < 2 ^ n → (sizesOf n)[g]? = some (popN g : Int) := by
  intro n hn
  rcases (by omega : n = 0 ∨ n = 1 ∨ n = 2 ∨ n = 3 ∨ n = 4 ∨ n = 5) with rfl | rfl | rfl | rfl | rfl | rfl <;> decide +kernel
/-- a row's number, plainly -/
def numN (j : Nat) (d : Int) : Nat := (numS (sentS j d)).toNat
def bitL (l : List Nat) (k : Nat) : Nat := if l.reverse.getD k 0 = 46 then 1 else 0
theorem num_nonneg (j : Nat) (d : Int) : numS (sentS j d) = (numN j d : Int) := by
  unfold numN
  have := (numC_bound (KStt.codes (sentS j d))).1
  unfold numS
  omega
def sentC (j : Nat) (a b c e : Nat) : List Nat := (if a = 46 then List.replicate j 46 else []) ++ [a, b, c, e]
theorem sentC_all (P : Nat → Nat → Nat → Nat → Nat → Prop) (h : ∀ j ∈ [1, 2], ∀ a ∈ [46, 98], ∀ b ∈ [46, 98], ∀ c ∈ [46, 98], ∀ e ∈ [46, 98], P j a b c e) {j : Nat} {d : Int} (h1 : 1 ≤ j) (h2 : j ≤ 2) : P j (sg d 0) (sg d 1) (sg d 2) (sg d 3) := by
  have m : ∀ k, sg d k ∈ [46, 98] := by
    intro k
    rcases sg_or d k with e | e <;> simp [e]
  have mj : j ∈ [1, 2] := by
    rcases (by omega : j = 1 ∨ j = 2) with rfl | rfl <;> simp
  exact h j mj _ (m 0) _ (m 1) _ (m 2) _ (m 3)
def numV (l : List Nat) : Int := numC (l.map fun (c : Nat) => (c : Int))
theorem num_C (j : Nat) (d : Int) : numS (sentS j d) = numV (sentC j (sg d 0) (sg d 1) (sg d 2) (sg d 3)) := rfl
theorem six {n : Nat} (h : n < 16 ^ 6) {k : Nat} (hk : 6 ≤ k) : dig n k = 0 := by
  unfold dig
  rw [Nat.div_eq_of_lt (Nat.lt_of_lt_of_le h (Nat.pow_le_pow_right (by decide) hk))]
theorem num_lt {j : Nat} {d : Int} (h1 : 1 ≤ j) (h2 : j ≤ 2) : numN j d < 16 ^ 6 := by
  unfold numN
  rw [num_C]
  exact sentC_all (fun j a b c e => (numV (sentC j a b c e)).toNat < 16 ^ 6) (by decide +kernel) h1 h2
theorem num_dig6 {j : Nat} {d : Int} (h1 : 1 ≤ j) (h2 : j ≤ 2) : ∀ k, k < 6 → dig (numN j d) k = bitL (sentL j d) k := by
  unfold numN
  rw [num_C]
  exact sentC_all (fun j a b c e => ∀ k, k < 6 → dig (numV (sentC j a b c e)).toNat k = bitL (sentC j a b c e) k) (by decide +kernel) h1 h2
theorem num_dig {j : Nat} {d : Int} (h1 : 1 ≤ j) (h2 : j ≤ 2) (k : Nat) : dig (numN j d) k = bitL (sentL j d) k := by
  by_cases hk : k < 6
  · exact num_dig6 h1 h2 k hk
  · rw [six (num_lt h1 h2) (by omega)]
    have := sent_len j d
    unfold bitL
    rw [List.getD_eq_getElem?_getD, List.getElem?_eq_none (by rw [List.length_reverse]; omega)]
    rfl
theorem num_ones {j : Nat} {d : Int} (h1 : 1 ≤ j) (h2 : j ≤ 2) : Ones (numN j d) := by
  intro k
  rw [num_dig h1 h2]
  unfold bitL
  split <;> omega
/-- six figures below 16, and no carry -/
theorem dig_of {c : Nat → Nat} (h : ∀ k, c k ≤ 5) : ∀ k, k < 6 → dig (c 0 + 16 * c 1 + 256 * c 2 + 4096 * c 3 + 65536 * c 4 + 1048576 * c 5) k = c k := by
  intro k hk
  have h0 := h 0
  have h1 := h 1
  have h2 := h 2
  have h3 := h 3
  have h4 := h 4
  have h5 := h 5
  unfold dig
  rcases (by omega : k = 0 ∨ k = 1 ∨ k = 2 ∨ k = 3 ∨ k = 4 ∨ k = 5) with rfl | rfl | rfl | rfl | rfl | rfl <;> omega
def V6 (c : Nat → Nat) : Nat := c 0 + 16 * c 1 + 256 * c 2 + 4096 * c 3 + 65536 * c 4 + 1048576 * c 5
theorem V6_self {n : Nat} (h : n < 16 ^ 6) : V6 (dig n) = n := by
  unfold V6 dig
  omega
theorem sum_V6 : ∀ (l : List Nat), (∀ x ∈ l, x < 16 ^ 6) → l.sum = V6 fun k => (l.map fun x => dig x k).sum
  | [], _ => rfl
  | x :: l, h => by
    have ih := sum_V6 l fun y hy => h y (List.mem_cons_of_mem _ hy)
    have e := V6_self (h x List.mem_cons_self)
    simp only [V6, List.map_cons, List.sum_cons] at ih e ⊢
    omega
theorem cnt_le : ∀ (l : List Nat), (∀ x ∈ l, Ones x) → ∀ k, (l.map fun x => dig x k).sum ≤ l.length
  | [], _, k => Nat.le_refl _
  | x :: l, h, k => by
    have ih := cnt_le l (fun y hy => h y (List.mem_cons_of_mem _ hy)) k
    have := h x List.mem_cons_self k
    simp only [List.map_cons, List.sum_cons, List.length_cons]
    omega
theorem cnt_pos : ∀ (l : List Nat) (k : Nat), (∃ x ∈ l, dig x k = 1) → 1 ≤ (l.map fun x => dig x k).sum
  | [], k, h => by
    obtain ⟨x, hx, _⟩ := h
    cases hx
  | x :: l, k, h => by
    obtain ⟨y, hy, e⟩ := h
    simp only [List.map_cons, List.sum_cons]
    rcases List.mem_cons.mp hy with rfl | hy
    · omega
    · have := cnt_pos l k ⟨y, hy, e⟩
      omega
theorem total_dig {l : List Nat} (h1 : ∀ x ∈ l, Ones x) (h6 : ∀ x ∈ l, x < 16 ^ 6) (h5 : l.length ≤ 5) : ∀ k, k < 6 → dig l.sum k = (l.map fun x => dig x k).sum := by
  rw [sum_V6 l h6]
  exact dig_of (c := fun k => (l.map fun x => dig x k).sum) fun k => Nat.le_trans (cnt_le l h1 k) h5
theorem V6_lt {c : Nat → Nat} (h : ∀ k, c k ≤ 5) : V6 c < 16 ^ 6 := by
  have h0 := h 0
  have h1 := h 1
  have h2 := h 2
  have h3 := h 3
  have h4 := h 4
  have h5 := h 5
  unfold V6
  omega
theorem V6_lt5 {c : Nat → Nat} (h : ∀ k, c k ≤ 5) (hz : c 5 = 0) : V6 c < 16 ^ 5 := by
  have h0 := h 0
  have h1 := h 1
  have h2 := h 2
  have h3 := h 3
  have h4 := h 4
  unfold V6
  omega
theorem total_lt {l : List Nat} (h1 : ∀ x ∈ l, Ones x) (h6 : ∀ x ∈ l, x < 16 ^ 6) (h5 : l.length ≤ 5) : l.sum < 16 ^ 6 := by
  rw [sum_V6 l h6]
  exact V6_lt fun k => Nat.le_trans (cnt_le l h1 k) h5
theorem total_lt5 {l : List Nat} (h1 : ∀ x ∈ l, Ones x) (h6 : ∀ x ∈ l, x < 16 ^ 6) (h5 : l.length ≤ 5) (hz : (l.map fun x => dig x 5).sum = 0) : l.sum < 16 ^ 5 := by
  rw [sum_V6 l h6]
  exact V6_lt5 (c := fun k => (l.map fun x => dig x k).sum) (fun k => Nat.le_trans (cnt_le l h1 k) h5) hz
def numsN (j : Nat) (ds : List Int) : List Nat := ds.map (numN j)
theorem numsN_ones {j : Nat} (h1 : 1 ≤ j) (h2 : j ≤ 2) (ds : List Int) : ∀ x ∈ numsN j ds, Ones x := by
  intro x hx
  obtain ⟨d, _, rfl⟩ := List.mem_map.mp hx
  exact num_ones h1 h2
theorem numsN_lt {j : Nat} (h1 : 1 ≤ j) (h2 : j ≤ 2) (ds : List Int) : ∀ x ∈ numsN j ds, x < 16 ^ 6 := by
  intro x hx
  obtain ⟨d, _, rfl⟩ := List.mem_map.mp hx
  exact num_lt h1 h2
theorem numsN_cast (j : Nat) (ds : List Int) : ds.map (fun d => numS (sentS j d)) = (numsN j ds).map fun (x : Nat) => (x : Int) := by
  unfold numsN
  rw [List.map_map]
  refine List.map_congr_left fun d _ => ?_
  exact num_nonneg j d
theorem sum_cast (l : List Nat) : (l.map fun (x : Nat) => (x : Int)).sum = ((l.sum : Nat) : Int) := by
  induction l with
  | nil => rfl
  | cons x l ih => simp only [List.map_cons, List.sum_cons, ih, Int.natCast_add]
theorem cntAt_is (j : Nat) (ds : List Int) (k : Nat) : cntAt (ds.map (sentS j)) (k : Int) = (((ds.map fun d => bitL (sentL j d) k).sum : Nat) : Int) := by
  unfold cntAt
  congr 1
  induction ds with
  | nil => rfl
  | cons d ds ih =>
    have hl : (sentS j d).length = (sentL j d).length := by simp [sentS, Str.length]
    have e : (decide (((sentS j d).length : Int) > (k : Int)) && ((sentS j d).cps.toList.getD ((sentS j d).length - 1 - (k : Int).toNat) 0 == 46)) = decide (bitL (sentL j d) k = 1) := by
      rw [hl, Int.toNat_natCast]
      show (_ && ((sentL j d).getD ((sentL j d).length - 1 - k) 0 == 46)) = _
      unfold bitL
      by_cases hk : k < (sentL j d).length
      · rw [List.getD_eq_getElem?_getD (l := (sentL j d).reverse), List.getElem?_reverse hk, ← List.getD_eq_getElem?_getD]
        rw [show decide (((sentL j d).length : Int) > (k : Int)) = true from decide_eq_true (by omega), Bool.true_and]
        generalize (sentL j d).getD ((sentL j d).length - 1 - k) 0 = c
        by_cases h46 : c = 46
        · rw [h46]
          rfl
        · simp [h46]
      · rw [List.getD_eq_getElem?_getD (l := (sentL j d).reverse), List.getElem?_eq_none (by rw [List.length_reverse]; omega)]
        simp
        omega
    rw [List.map_cons, List.filter_cons, e, List.map_cons, List.sum_cons]
    by_cases hb : bitL (sentL j d) k = 1
    · rw [if_pos (by simpa using hb), List.length_cons, ih, hb]
      omega
    · have : bitL (sentL j d) k = 0 := by
        unfold bitL at hb ⊢
        split at hb
        · omega
        · rename_i h
          rw [if_neg h]
      rw [if_neg (by simpa using hb), ih, this]
      omega
theorem bit_27 {j : Nat} (h1 : 1 ≤ j) (h2 : j ≤ 2) : bitL (sentL j 27) (j + 3) = 1 := by
  rcases (by omega : j = 1 ∨ j = 2) with rfl | rfl <;> decide +kernel
theorem len_27 {j : Nat} (h1 : 1 ≤ j) (h2 : j ≤ 2) : (sentS j 27).length = j + 4 := by
  rcases (by omega : j = 1 ∨ j = 2) with rfl | rfl <;> decide +kernel
theorem maxLen_sent {j : Nat} {ds : List Int} (h1 : 1 ≤ j) (h2 : j ≤ 2) (hm : 27 ∈ ds) : maxLen (ds.map (sentS j)) = ((j + 4 : Nat) : Int) := by
  refine maxLen_is ?_ ?_
  · refine List.mem_map.mpr ⟨sentS j 27, List.mem_map.mpr ⟨27, hm, rfl⟩, ?_⟩
    rw [len_27 h1 h2]
  · intro a ha
    obtain ⟨r, hr, rfl⟩ := List.mem_map.mp ha
    obtain ⟨d, _, rfl⟩ := List.mem_map.mp hr
    have := sentS_len j d
    omega
theorem cnt_bits {j : Nat} (h1 : 1 ≤ j) (h2 : j ≤ 2) (ds : List Int) (k : Nat) : ((numsN j ds).map fun x => dig x k).sum = (ds.map fun d => bitL (sentL j d) k).sum := by
  unfold numsN
  rw [List.map_map]
  congr 1
  refine List.map_congr_left fun d _ => ?_
  exact num_dig h1 h2 k
theorem zero5 : ∀ ds : List Int, (ds.map fun d => bitL (sentL 1 d) 5).sum = 0
  | [] => rfl
  | d :: ds => by
    have := sent_len 1 d
    have e : bitL (sentL 1 d) 5 = 0 := by
      unfold bitL
      rw [List.getD_eq_getElem?_getD, List.getElem?_eq_none (by rw [List.length_reverse]; omega)]
      rfl
    rw [List.map_cons, List.sum_cons, e, zero5 ds]
theorem word_is {j : Nat} {ds : List Int} (h1 : 1 ≤ j) (h2 : j ≤ 2) (hm : 27 ∈ ds) (h5 : ds.length ≤ 5) : apB (((numsN j ds).sum : Nat) : Int) = lettersB (ds.map (sentS j)) := by
  have hO := numsN_ones h1 h2 ds
  have hL := numsN_lt h1 h2 ds
  have hn : (numsN j ds).length ≤ 5 := by unfold numsN; rw [List.length_map]; exact h5
  have hlt := total_lt hO hL hn
  have hlt40 : (numsN j ds).sum < 16 ^ 40 := Nat.lt_of_lt_of_le hlt (Nat.pow_le_pow_right (by decide) (by decide))
  have hd := total_dig hO hL hn
  have htop : dig (numsN j ds).sum (j + 3) ≠ 0 := by
    rw [hd _ (by omega)]
    have := cnt_pos (numsN j ds) (j + 3) ⟨numN j 27, List.mem_map.mpr ⟨27, hm, rfl⟩, by rw [num_dig h1 h2]; exact bit_27 h1 h2⟩
    omega
  have hM : (numsN j ds).sum < 16 ^ (j + 3 + 1) := by
    rcases (by omega : j = 1 ∨ j = 2) with rfl | rfl
    · refine total_lt5 hO hL hn ?_
      rw [cnt_bits h1 h2]
      exact zero5 ds
    · exact hlt
  have hsz := rev_size hlt40 hM htop
  refine Array.ext' ?_
  rw [apB_list, Int.toNat_natCast]
  unfold lettersB
  rw [maxLen_sent h1 h2 hm, Int.toNat_natCast]
  refine List.ext_getElem? fun i => ?_
  by_cases hi : i < j + 4
  · rw [List.getElem?_reverse (by omega), hsz, show j + 3 + 1 - 1 - i = j + 3 - i by omega, rev_get 40 _ hlt40 _ (by omega), hd _ (by omega), cnt_bits h1 h2]
    unfold lettersOf
    rw [List.getElem?_map, List.getElem?_map, List.getElem?_range hi]
    show _ = some (65 + cntAt (ds.map (sentS j)) (((j + 4 : Nat) : Int) - 1 - (i : Int))).toNat.toUInt8
    rw [show ((j + 4 : Nat) : Int) - 1 - (i : Int) = ((j + 3 - i : Nat) : Int) by omega, cntAt_is]
    congr 1
  · rw [List.getElem?_eq_none (by rw [List.length_reverse]; omega), List.getElem?_eq_none (by simp [lettersOf]; omega)]
end Mine
end
section
open PySem PySem.W PyProof.Rows PySem.Calls
set_option maxRecDepth 100000
namespace Mine
theorem bit_int (g i : Nat) : ((g : Int).fdiv (2 ^ i)).fmod 2 = ((g / 2 ^ i % 2 : Nat) : Int) := by
  rw [Int.fdiv_eq_ediv_of_nonneg _ (Int.pow_nonneg (by decide)), Int.fmod_eq_emod_of_nonneg _ (by decide)]
  rw [show ((2 : Int) ^ i) = ((2 ^ i : Nat) : Int) by simp]
  omega
theorem sizes_f : ∀ n, n ≤ 5 → ∀ i, i < n → ∀ g, g < 2 ^ n → g / 2 ^ i % 2 = 0 → popN g ≤ n - 1 ∧ g + 2 ^ i < 2 ^ n := by
  intro n hn
  rcases (by omega : n = 0 ∨ n = 1 ∨ n = 2 ∨ n = 3 ∨ n = 4 ∨ n = 5) with rfl | rfl | rfl | rfl | rfl | rfl <;> decide +kernel
theorem sizes_getD {n g : Nat} (hn : n ≤ 5) (hg : g < 2 ^ n) : (sizesOf n).getD g 0 = (popN g : Int) := by
  rw [List.getD_eq_getElem?_getD, sizes_get n hn g hg]
  rfl
/-- what a group of rows adds, as the program reckons it -/
def termI (n i : Nat) (vals : List Int) (g : Int) : Int :=
  if (g.fdiv (2 ^ i)).fmod 2 = 0 then ordI.getD ((sizesOf n).getD g.toNat 0).toNat 0 * ordI.getD ((n : Int) - 1 - (sizesOf n).getD g.toNat 0).toNat 0 * (vals.getD (g + 2 ^ i).toNat 0 - vals.getD g.toNat 0) else 0
def valsOf (nums wo : List Int) : List Int := (unionsOf nums).map fun a => worthF (apB a) wo
theorem vals_getD {l : List Nat} {g : Nat} (wo : List Int) (hg : g < 2 ^ l.length) : (valsOf (l.map (fun (x : Nat) => (x : Int))) wo).getD g 0 = worthF (apB ((orL l g : Nat) : Int)) wo := by
  unfold valsOf
  rw [List.getD_eq_getElem?_getD, List.getElem?_map, unions_get l g hg]
  rfl
theorem term_is {l : List Nat} {n i g : Nat} (wo : List Int) (hl : l.length = n) (hn : n ≤ 5) (hi : i < n) (hg : g < 2 ^ n) :
    termI n i (valsOf (l.map (fun (x : Nat) => (x : Int))) wo) (g : Int) = (if g / 2 ^ i % 2 = 0 then ordI.getD (popN g) 0 * ordI.getD (n - 1 - popN g) 0 * (worthF (apB ((orL l (g + 2 ^ i) : Nat) : Int)) wo - worthF (apB ((orL l g : Nat) : Int)) wo) else 0) := by
  unfold termI
  rw [bit_int]
  by_cases hb : g / 2 ^ i % 2 = 0
  · obtain ⟨h1, h2⟩ := sizes_f n hn i hi g hg hb
    rw [if_pos (by omega), if_pos hb, Int.toNat_natCast, sizes_getD hn hg, Int.toNat_natCast, show ((g : Int) + 2 ^ i) = ((g + 2 ^ i : Nat) : Int) by simp, Int.toNat_natCast, vals_getD wo (by rw [hl]; exact h2), vals_getD wo (by rw [hl]; exact hg)]
    rw [show ((n : Int) - 1 - (popN g : Int)).toNat = n - 1 - popN g by omega]
  · rw [if_neg (by omega), if_neg hb]
def termS (W : Array UInt8) (n : Nat) (wo : List Int) (r : Str) (k : Int) : Int :=
  if r.cps.toList.getD (r.length - 1 - k.toNat) 0 = 46 then wo.getD k.toNat 0 * (ordI.getD n 0).fdiv ((KBw.bInts W).getD (-1 - k + (W.size : Int)).toNat 0 - 65) else 0
theorem sent_length (j : Nat) (d : Int) : (sentS j d).length = (sentL j d).length := by simp [sentS, Str.length]
theorem sent_bit {j k : Nat} {d : Int} (hk : k < (sentS j d).length) : ((sentS j d).cps.toList.getD ((sentS j d).length - 1 - k) 0 = 46) ↔ bitL (sentL j d) k = 1 := by
  rw [sent_length] at hk ⊢
  show (sentL j d).getD _ 0 = 46 ↔ _
  unfold bitL
  rw [List.getD_eq_getElem?_getD (l := (sentL j d).reverse), List.getElem?_reverse hk, ← List.getD_eq_getElem?_getD]
  generalize (sentL j d).getD ((sentL j d).length - 1 - k) 0 = c
  by_cases h : c = 46
  · rw [if_pos h]
    simp [h]
  · rw [if_neg h]
    simp [h]
theorem numsN_get {j i : Nat} {ds : List Int} (hi : i < ds.length) : (numsN j ds).getD i 0 = numN j (ds.getD i 0) := by
  unfold numsN
  simp [List.getD_eq_getElem?_getD, hi]
theorem ord_pos : ∀ n, n ≤ 5 → 0 ≤ ordI.getD n 0 := by decide
/-- a place at which row i has a dot -/
theorem place {j i k : Nat} {ds : List Int} (h1 : 1 ≤ j) (h2 : j ≤ 2) (h5 : ds.length ≤ 5) (hi : i < ds.length) (hd : dig (numN j (ds.getD i 0)) k = 1) (hk : k < 6) :
    k < (apB (((numsN j ds).sum : Nat) : Int)).size ∧ (KBw.bInts (apB (((numsN j ds).sum : Nat) : Int))).getD (-1 - (k : Int) + ((apB (((numsN j ds).sum : Nat) : Int)).size : Int)).toNat 0 - 65 = ((((numsN j ds).map fun x => dig x k).sum : Nat) : Int)
      ∧ 1 ≤ ((numsN j ds).map fun x => dig x k).sum ∧ ((numsN j ds).map fun x => dig x k).sum ≤ 5 := by
  have hO := numsN_ones h1 h2 ds
  have hL := numsN_lt h1 h2 ds
  have hn : (numsN j ds).length ≤ 5 := by unfold numsN; rw [List.length_map]; exact h5
  have h40 : (numsN j ds).sum < 2 ^ 40 := Nat.lt_of_lt_of_le (total_lt hO hL hn) (by decide)
  have hd6 := total_dig hO hL hn k hk
  have hp : 1 ≤ ((numsN j ds).map fun x => dig x k).sum := cnt_pos _ _ ⟨numN j (ds.getD i 0), List.mem_map.mpr ⟨ds.getD i 0, by simp [List.getD_eq_getElem?_getD, hi], rfl⟩, hd⟩
  have hlt := ap_lt h40 (k := k) (by omega)
  refine ⟨hlt, ?_, hp, Nat.le_trans (cnt_le _ hO k) hn⟩
  rw [show (-1 - (k : Int) + ((apB (((numsN j ds).sum : Nat) : Int)).size : Int)).toNat = (apB (((numsN j ds).sum : Nat) : Int)).size - 1 - k by omega, ap_get h40 hlt, hd6]
theorem shared {j n i : Nat} {ds : List Int} (h1 : 1 ≤ j) (h2 : j ≤ 2) (hn : ds.length = n) (hn2 : 2 ≤ n) (hn5 : n ≤ 5) (hi : i < n) (wo : List Int) :
    ((rangeKs 0 (2 ^ n)).map (termI n i (valsOf (ds.map fun d => numS (sentS j d)) wo))).sum
      = ((rangeKs 0 (sentS j (ds.getD i 0)).length).map (termS (apB (ds.map fun d => numS (sentS j d)).sum) n wo (sentS j (ds.getD i 0)))).sum := by
  have hO := numsN_ones h1 h2 ds
  have hL := numsN_lt h1 h2 ds
  have hl : (numsN j ds).length = n := by unfold numsN; rw [List.length_map]; exact hn
  rw [numsN_cast, sum_cast, ks_sumN, ks_sumN, sumN_congr fun g hg => term_is wo hl hn5 hi hg, shapley hl hn2 hn5 hO hL wo hi]
  have hlen : (sentS j (ds.getD i 0)).length ≤ 6 := Nat.le_trans (sentS_len _ _) (by omega)
  rw [numsN_get (by omega)]
  symm
  rw [← sumN_zero (s := (sentS j (ds.getD i 0)).length) (t := 6) (f := fun k => if dig (numN j (ds.getD i 0)) k = 1 then _ else 0) (fun k h3 _ => ?_) hlen]
  · refine sumN_congr fun k hk => ?_
    unfold termS
    rw [Int.toNat_natCast]
    have hb := sent_bit hk
    rw [← num_dig h1 h2] at hb
    by_cases hd : dig (numN j (ds.getD i 0)) k = 1
    · obtain ⟨_, e, hp, hq⟩ := place h1 h2 (by omega) (by omega) hd (by omega : k < 6)
      rw [if_pos (hb.mpr hd), if_pos hd, e, Int.fdiv_eq_ediv_of_nonneg _ (by omega)]
    · rw [if_neg fun h => hd (hb.mp h), if_neg hd]
  · rw [if_neg]
    rw [num_dig h1 h2]
    rw [sent_length] at h3
    unfold bitL
    rw [List.getD_eq_getElem?_getD, List.getElem?_eq_none (by rw [List.length_reverse]; omega)]
    simp
theorem worth_small {n : Nat} (h : n < 16 ^ 6) {ns : List Int} (hb : ∀ x ∈ ns, -1000001 ≤ x ∧ x ≤ 1000001) : -100000000 ≤ worthF (apB (n : Int)) ns ∧ worthF (apB (n : Int)) ns ≤ 100000000 := by
  rw [worth_is h]
  have key : ∀ k, -15000015 ≤ ns.getD k 0 * (dig n k : Int) ∧ ns.getD k 0 * (dig n k : Int) ≤ 15000015 := by
    intro k
    have h1 := getD_in hb k
    have h2 := dig_lt n k
    generalize ns.getD k 0 = a at *
    generalize dig n k = d at *
    rcases (by omega : d = 0 ∨ d = 1 ∨ d = 2 ∨ d = 3 ∨ d = 4 ∨ d = 5 ∨ d = 6 ∨ d = 7 ∨ d = 8 ∨ d = 9 ∨ d = 10 ∨ d = 11 ∨ d = 12 ∨ d = 13 ∨ d = 14 ∨ d = 15) with rfl | rfl | rfl | rfl | rfl | rfl | rfl | rfl | rfl | rfl | rfl | rfl | rfl | rfl | rfl | rfl <;> omega
  have h0 := key 0
  have h1 := key 1
  have h2 := key 2
  have h3 := key 3
  have h4 := key 4
  have h5 := key 5
  simp only [sumN]
  omega
end Mine
end
section
open PySem PySem.W PyProof.Rows PySem.Calls
set_option maxRecDepth 100000
namespace Mine
/-- a contract that speaks of one list of the ledger, called from the law's own frame -/
theorem use_clLH {kd ku : Nat} {w : World} {mean : ExcName → Option Value} {mg mb : Str → Option Value} {f : Addr} {news : List (Addr × Obj)} {p₀ : Addr × Obj} {pre : Prop} {vs : List Value} {R : Tok → Value}
    {qn : Str} {sc : Scope} {fa : Addr} {cd : Value} {base h₀ : Heap} {L : Addr} {m : Str → Option Value} {s : Shared} {Q E : Value → Shared → Prop}
    (h : Cl kd ku w mean mg mb f (p₀ :: news) pre vs R) (hm : p₀ ∈ news) (B : Below callerA base [] h₀) (F : Fr h₀ L s.heap m) (X : (Mine.hd.heap_39 w.params).In h₀) (N : News h₀ L s.heap news)
    (T : Top Mine.hd.view_39 (looseW Mine.hd.view_39 [Str.ofString "_twin_re_1", Str.ofString "_twin_re_2"]) mean mg mb h₀) (hk : sc.kind = .function) (hp : pre) (hd : kd ≤ 100) (hu : ku ≤ 1000)
    (k : ∀ (t : Tok) (h' : Heap) (tk' : Nat), Fr h₀ L h' m → News h₀ L h' news → Q (R t) { s with heap := h', toks := tk' }) :
    wpAny (model PySem.Challenge.rw_wn0007_01.row.prog w) (callerA.deeper (envOfC qn sc L fa cd)) (call (.ref f) vs) Q E s :=
  use_clL h B F X (fun p hp => by rcases List.mem_cons.mp hp with rfl | hp; exact N _ hm; exact N p hp) T hk hp hd hu fun t h' tk' F' N' => k t h' tk' F' fun p hp => N' p (List.mem_cons_of_mem _ hp)
end Mine
end
section
open PySem PySem.W PyProof.Rows PySem.Calls
set_option maxRecDepth 100000
set_option maxHeartbeats 8000000
namespace Mine
def Names9 (m : Str → Option Value) (oA vA zA uA sA : Addr) (W : Array UInt8) (many : Int) (tw tm₀ : Tok) : Prop :=
  m (Str.ofString "orders") = some (.ref oA) ∧ m (Str.ofString "values") = some (.ref vA) ∧ m (Str.ofString "word") = some (.bytes W tw) ∧ m (Str.ofString "sizes") = some (.ref zA) ∧ m (Str.ofString "unions") = some (.ref uA) ∧ m (Str.ofString "many") = some (.int many tm₀) ∧ m (Str.ofString "sent") = some (.ref sA)
theorem Names9.fr {h₀ h : Heap} {L : Addr} {m : Str → Option Value} {oA vA zA uA sA : Addr} {W : Array UInt8} {many : Int} {tw tm₀ : Tok} (N : Names9 m oA vA zA uA sA W many tw tm₀) (F : Fr h₀ L h m) :
    Fr h₀ L h (fun z => if z = Str.ofString "orders" then some (.ref oA) else if z = Str.ofString "values" then some (.ref vA) else if z = Str.ofString "word" then some (.bytes W tw) else if z = Str.ofString "sizes" then some (.ref zA) else if z = Str.ofString "unions" then some (.ref uA) else if z = Str.ofString "many" then some (.int many tm₀) else if z = Str.ofString "sent" then some (.ref sA) else m z) := by
  have e : (fun z => if z = Str.ofString "orders" then some (.ref oA) else if z = Str.ofString "values" then some (.ref vA) else if z = Str.ofString "word" then some (.bytes W tw) else if z = Str.ofString "sizes" then some (.ref zA) else if z = Str.ofString "unions" then some (.ref uA) else if z = Str.ofString "many" then some (.int many tm₀) else if z = Str.ofString "sent" then some (.ref sA) else m z) = m := by
    obtain ⟨h1, h2, h3, h4, h5, h6, h7⟩ := N
    funext z
    (repeat' split) <;> simp_all
  rw [e]
  exact F
local macro_rules | `(tactic| walk_at "InvPostN") => `(tactic| (k_here; refine hold ?_))
local macro_rules | `(tactic| walk_at "exec For Name Call cons nil") => `(tactic| (k_here; ((rename Mark2 => mk9); refine hold ?_)))
local macro_rules | `(tactic| walk_at "pyIter ref") => `(tactic| (k_here; ((rename Mark2 => mk9); refine hold ?_)))
local macro_rules | `(tactic| walk_at "call builtin:len") => `(tactic| (k_here; (with_reducible show wpAny _ _ (call (Value.builtin "len") [Value.ref _]) _ _ _); k_dflt (first | refine len_strsA (News.isList (by k_asm) (by k_mem)) (by assumption) (by omega) ?_ | refine kun_lenL (News.isList (by k_asm) (by k_mem)) (sizeInts (by assumption)) (by omega) ?_)))
local macro_rules | `(tactic| walk_at "subscriptTail") => `(tactic| (k_here; (with_reducible show wpAny _ _ (subscriptTail _ _ (Value.ref _) (Value.int _ _)) _ _ _); refine hold ?_))
local macro_rules | `(tactic| walk_at "subscriptTail Name Name ref int") => `(tactic| (k_here; refine hold ?_))
local macro_rules | `(tactic| walk_at "subscriptTail Name Subscript ref int") => `(tactic| (k_here; refine hold ?_))
local macro_rules | `(tactic| walk_at "subscriptTail Name BinOp ref int") => `(tactic| (k_here; refine hold ?_))
local macro_rules | `(tactic| walk_at "subscriptTail") => `(tactic| (k_here; (with_reducible show wpAny _ _ (subscriptTail _ _ (Value.bytes _ _) (Value.int _ _)) _ _ _); refine hold ?_))
local macro_rules | `(tactic| walk_at "call ref") => `(tactic| (k_here; (show wpAny _ _ (call (Value.ref 62) [Value.int _ _, Value.int _ _]) _ _ _); refine hold ?_))
local macro_rules | `(tactic| walk_at "call ref") => `(tactic| (k_here; (show wpAny _ _ (call (Value.ref 97) [Value.int _ _, Value.int _ _]) _ _ _); k_dflt ((refine' use_clL (sub_call _ _ _ _ _) ?k1 ?k2 ?k3 ?k4 ?k5 ?k6 ?k7 ?k8 ?k9 ?_); (case k1 => k_asm); (case k2 => k_asm); (case k3 => k_asm); (case k4 => k_asm); (case k5 => k_asm); (case k6 => first | exact rfl | assumption); (case k7 => exact True.intro); (case k8 => decide); (case k9 => decide); intro t9 h9 tk9 F9 N9; (try dsimp only); (try k_fold))))
local macro_rules | `(tactic| walk_at "call ref") => `(tactic| (k_here; (show wpAny _ _ (call (Value.ref 83) [Value.int _ _, Value.int _ _]) _ _ _); refine hold ?_))
local macro_rules | `(tactic| walk_at "call ref") => `(tactic| (k_here; (show wpAny _ _ (call (Value.ref 69) [Value.int _ _, Value.int _ _]) _ _ _); refine hold ?_))
local macro_rules | `(tactic| walk_at "binaryOp Mult int int") => `(tactic| (k_here; refine hold ?_))
theorem grp_T {f : Int → Int} {pre : List Int} {a g x : Int} (ha : a = (pre.map f).sum) (hf : f g = x) : a + x = ((pre ++ [g]).map f).sum := by
  rw [List.map_append, List.sum_append, ha, ← hf]
  simp
theorem grp_F {f : Int → Int} {pre : List Int} {a g : Int} (ha : a = (pre.map f).sum) (hf : f g = 0) : a = ((pre ++ [g]).map f).sum := by
  rw [List.map_append, List.sum_append, ha]
  simp [hf]
theorem ord_small (i : Nat) : 0 ≤ ordI.getD i 0 ∧ ordI.getD i 0 ≤ 120 := by
  by_cases h : i < 6
  · rcases (by omega : i = 0 ∨ i = 1 ∨ i = 2 ∨ i = 3 ∨ i = 4 ∨ i = 5) with rfl | rfl | rfl | rfl | rfl | rfl <;> decide
  · rw [List.getD_eq_getElem?_getD, List.getElem?_eq_none (by show 6 ≤ i; omega)]
    decide
theorem prod_small {a b : Int} (ha : 0 ≤ a ∧ a ≤ 120) (hb : 0 ≤ b ∧ b ≤ 120) : 0 ≤ a * b ∧ a * b ≤ 14400 :=
  ⟨Int.mul_nonneg ha.1 hb.1, Int.le_trans (Int.mul_le_mul ha.2 hb.2 hb.1 (by decide)) (by decide)⟩
theorem vals_small {nums : List Int} {l : List Nat} {wo : List Int} (e : nums = l.map (fun (x : Nat) => (x : Int))) (h6 : ∀ x ∈ l, x < 16 ^ 6) (hb : ∀ x ∈ wo, -1000001 ≤ x ∧ x ≤ 1000001) (k : Nat) : -100000000 ≤ (valsOf nums wo).getD k 0 ∧ (valsOf nums wo).getD k 0 ≤ 100000000 := by
  rw [List.getD_eq_getElem?_getD]
  cases h : (valsOf nums wo)[k]? with
  | none => exact ⟨by decide, by decide⟩
  | some x =>
    obtain ⟨a, ha, rfl⟩ := List.mem_map.mp (List.mem_of_getElem? h)
    subst e
    have hlt := (List.getElem?_of_mem ha)
    obtain ⟨g, hg⟩ := hlt
    have hl := (List.getElem?_eq_some_iff.mp hg).1
    rw [unionsOf_len, List.length_map] at hl
    rw [unions_get l g hl] at hg
    rw [← Option.some.inj hg]
    exact worth_small (orL_lt l h6 g) hb
theorem group_facts {n i g : Nat} (hn : n ≤ 5) (hi : i < n) (hg : g < 2 ^ n) (hb : ((g : Int).fdiv (2 ^ i)).fmod 2 = 0) : 0 ≤ (sizesOf n).getD g 0 ∧ (sizesOf n).getD g 0 ≤ (n : Int) - 1 ∧ g + 2 ^ i < 2 ^ n := by
  rw [bit_int] at hb
  obtain ⟨h1, h2⟩ := sizes_f n hn i hi g hg (by omega)
  rw [sizes_getD hn hg]
  exact ⟨by omega, by omega, h2⟩
theorem law_F {w : World} {mean : ExcName → Option Value} {mg mb : Str → Option Value} {base h₀ : Heap} {L fa : Addr} {cd oc : Value} {od : Option Addr} {osl : Array (Option Value)} {fd : FuncData} {s : Shared} {Q : Flow → Shared → Prop} {E : Value → Shared → Prop}
    {c1 c2 c3 c4 c5 c6 c7 : Obj} {m₀ : Str → Option Value} {sA : Addr} {ss : List Value} {ks kw kn kz ku ko kv n tm : Nat} {wA nA zA uA oA vA : Addr} {zv uv ov vv : List Value} {tm₀ tw : Tok} {ms : List Value} {nums : List Int} {us : List Value} {wo : List Int} {ds : List Int} 
    (ho : (Mine.hd.heap_39 w.params).lookup 121 = some ⟨oc, od, .func fd, osl⟩)
    (B : Below callerA base [] h₀) (X : (Mine.hd.heap_39 w.params).In h₀) (T : Top Mine.hd.view_39 (looseW Mine.hd.view_39 [Str.ofString "_twin_re_1", Str.ofString "_twin_re_2"]) mean mg mb h₀)
    (F : Fr h₀ L s.heap m₀) (N9 : Names9 m₀ oA vA zA uA sA (apB nums.sum) nums.length tw tm₀)
    (N : News h₀ L s.heap [(oA, W.listOf ov.toArray ko), (vA, W.listOf vv.toArray kv), (zA, W.listOf zv.toArray kz), (uA, W.listOf uv.toArray ku), (nA, W.listOf ms.toArray kn), (wA, W.listOf us.toArray kw), (sA, W.listOf ss.toArray ks), (L + 1 + 1 + 1 + 1 + 1 + 1 + 1, c7), (L + 1 + 1 + 1 + 1 + 1 + 1, c6), (L + 1 + 1 + 1 + 1 + 1, c5), (L + 1 + 1 + 1 + 1, c4), (L + 1 + 1 + 1, c3), (L + 1 + 1, c2), (L + 1, c1)])
    (hz : IntsAre zv (sizesOf n)) (hu : IntsAre uv (unionsOf nums)) (hov : IntsAre ov ordI) (hvv : IntsAre vv (valsOf nums wo))
    (d6 : c6.data = .cell (some (.ref wA))) 
    (hwo : IntsAre us wo) (hwl : wo.length = 6) (hwb : ∀ x ∈ wo, -1000001 ≤ x ∧ x ≤ 1000001)
    (hnums : nums = ds.map fun d => numS (sentS tm d))
    (hss : StrsAre ss (ds.map (sentS tm))) (hn : ds.length = n) (hn2 : 2 ≤ n) (hn5 : n ≤ 5) (htm1 : 1 ≤ tm) (htm2 : tm ≤ 2)
    (hE : PassesOwn (model PySem.Challenge.rw_wn0007_01.row.prog w) (callerA.deeper (envOfC fd.qualname fd.scope L fa cd)) (envOfC fd.qualname fd.scope L fa cd) E)
    (hQ : ∀ h' tk m' news', Fr h₀ L h' m' → News h₀ L h' news' → Q (.ret (.bool true)) { s with heap := h', toks := tk }) :
    wpAny (model PySem.Challenge.rw_wn0007_01.row.prog w) (callerA.deeper (envOfC fd.qualname fd.scope L fa cd)) (execs ((bodyOf fd).drop 19) (envOfC fd.qualname fd.scope L fa cd)) Q E s := by
  k_with_none
  w_top off
  revert ho
  k_fill
  intro ho
  have ho2 := ho
  rw [show (Mine.hd.heap_39 w.params).lookup 121 = some _ from by k_is] at ho
  injection ho with ho
  injection ho with _ _ ho _
  injection ho with ho
  subst ho
  unfold bodyOf
  dsimp only [List.drop]
  have hnl : nums.length = n := by rw [hnums, List.length_map, hn]
  have hul0 : (unionsOf nums).length = 2 ^ n := by rw [unionsOf_len, hnl]
  have hul : (unionsOf nums).length ≤ 32 := by rw [hul0]; exact pow_small (Nat.le_refl n) hn5
  have hul1 : 4 ≤ (unionsOf nums).length := by rw [hul0]; exact Nat.pow_le_pow_right (by decide : 0 < 2) hn2
  have hnum2 : nums = (numsN tm ds).map (fun (x : Nat) => (x : Int)) := by rw [hnums, numsN_cast]
  have hvs := vals_small (wo := wo) hnum2 (numsN_lt htm1 htm2 ds) hwb
  have hvl : (valsOf nums wo).length = 2 ^ n := by unfold valsOf; rw [List.length_map, hul0]
  have hzl : (sizesOf n).length = 2 ^ n := sizesOf_len n
  have ho6 : ordI.length = 6 := rfl
  have hsum : nums.sum = (((numsN tm ds).sum : Nat) : Int) := by rw [hnum2, sum_cast]
  have hszl : (apB nums.sum).size ≤ 40 := apB_size _
  subst hnl
  have F0 := N9.fr F
  clear F N9
  have mk2 : Mark2 := ⟨⟩
  k_steps
  unfold Hold
  refine For_invT h₀ ?_ (by intro _; rfl) hE
  k_steps
  unfold Hold
  (rename Mark2 => mk9); clear mk9
  (rename News _ _ _ _ => NN); (rename Fr _ _ _ _ => FF)
  (rename IsRange _ _ _ _ _ _ _ _ => hR)
  refine iterT_range (env := envOfC _ _ L fa cd) (n := nums.length) (fun i m nx => Names9 m oA vA zA uA sA (apB nums.sum) nums.length tw tm₀ ∧ nx = [(oA, W.listOf ov.toArray ko), (vA, W.listOf vv.toArray kv), (zA, W.listOf zv.toArray kz), (uA, W.listOf uv.toArray ku), (nA, W.listOf ms.toArray kn), (wA, W.listOf us.toArray kw), (sA, W.listOf ss.toArray ks), (L + 1 + 1 + 1 + 1 + 1 + 1 + 1, c7), (L + 1 + 1 + 1 + 1 + 1 + 1, c6), (L + 1 + 1 + 1 + 1 + 1, c5), (L + 1 + 1 + 1 + 1, c4), (L + 1 + 1 + 1, c3), (L + 1 + 1, c2), (L + 1, c1)]) (by rfl) hR (small_one (by omega) (by omega) (by omega) (by omega)) (by rw [rangeSize_nat]; omega) FF (fun p hp => NN p (by first | exact hp | exact List.mem_cons_of_mem _ hp)) ⟨⟨rfl, rfl, rfl, rfl, rfl, rfl, rfl⟩, rfl⟩ ?_ ?_
  · rintro i t m₁ news₁ s₁ own hi hadr hoff ⟨n9, rfl⟩ F₁ N₁
    have F₂ : Fr h₀ L _ _ := n9.fr F₁
    have N₂ : News h₀ L _ _ := N₁
    clear F₁ N₁ n9
    simp only [List.cons_append, List.nil_append] at N₂
    (try dsimp only)
    simp only [Int.zero_add, Int.mul_one]
    have hsr : (ds.map (sentS tm)).length = nums.length := by rw [List.length_map, hn]
    have hrow : (ds.map (sentS tm)).getD i Str.empty = sentS tm (ds.getD i 0) := by
      have : i < ds.length := by omega
      simp [List.getD_eq_getElem?_getD, this]
    have hsh : ((rangeKs 0 (2 ^ nums.length)).map (termI nums.length i (valsOf nums wo))).sum = ((rangeKs 0 (sentS tm (ds.getD i 0)).length).map (termS (apB nums.sum) nums.length wo (sentS tm (ds.getD i 0)))).sum := by
      have := shared (n := nums.length) htm1 htm2 hn hn2 hn5 hi wo
      rw [← hnums] at this
      exact this
    have hr6 : (sentS tm (ds.getD i 0)).length ≤ 6 := Nat.le_trans (sentS_len _ _) (by omega)
    k_with "pyIter ref" => (k_of "group" => k_state (fun pre brought => brought = (pre.map (termI nums.length i (valsOf nums wo))).sum) "brought")
    k_with "pyIter ref" => (k_of "k" => k_state (fun pre share => share = (pre.map (termS (apB nums.sum) nums.length wo (sentS tm (ds.getD i 0)))).sum) "share")
    k_with "state" => first | exact rfl | exact grp_T (by with_reducible assumption) (by with_reducible assumption) | exact grp_F (by with_reducible assumption) (by with_reducible assumption)
    k_steps
    · unfold Hold
      (rename ((_ : Int).fdiv _).fmod 2 = 0 => hb)
      obtain ⟨g, hgN, hgl⟩ : ∃ g : Nat, kN = (g : Int) ∧ g < 2 ^ nums.length := ⟨kPre.length, by omega, by omega⟩
      subst hgN
      rw [Int.toNat_natCast] at hb
      obtain ⟨hs1, hs2, hs3⟩ := group_facts hn5 hi hgl hb
      have hs3' : (g : Int) + 2 ^ i < ((2 ^ nums.length : Nat) : Int) := by exact_mod_cast hs3
      have hpos : (0 : Int) < 2 ^ i := Int.pow_pos (by decide)
      have h32 : 2 ^ nums.length ≤ 32 := pow_small (Nat.le_refl _) hn5
      have hf : termI nums.length i (valsOf nums wo) (g : Int) = _ := if_pos hb
      rw [Int.toNat_natCast] at hf
      have hv1 := hvs ((g : Int) + 2 ^ i).toNat
      have hv2 := hvs g
      have ho1 := ord_small ((sizesOf nums.length).getD g 0).toNat
      have ho2' := ord_small ((nums.length : Int) - 1 - (sizesOf nums.length).getD g 0).toNat
      refine item_intsX (News.isList (by k_asm) (by k_mem)) hz (by omega) (by omega) (by omega) ?_
      intro t1
      rw [Int.toNat_natCast]
      k_steps
      unfold Hold
      refine item_intsX (News.isList (by k_asm) (by k_mem)) hov (by omega) (by omega) (by omega) ?_
      intro t2
      k_steps
      unfold Hold
      refine item_intsX (News.isList (by k_asm) (by k_mem)) hz (by omega) (by omega) (by omega) ?_
      intro t3
      rw [Int.toNat_natCast]
      k_steps
      unfold Hold
      refine item_intsX (News.isList (by k_asm) (by k_mem)) hov (by omega) (by omega) (by omega) ?_
      intro t4
      k_steps
      unfold Hold
      have hw := prod_small ho1 ho2'
      refine mul_int ?_ (IntMulOk.of_left (intBits_le_64 (by omega) (by omega)))
      k_steps
      unfold Hold
      rw [Int.toNat_natCast]
      refine item_intsX (News.isList (by k_asm) (by k_mem)) hvv (by omega) (by omega) (by omega) ?_
      intro t5
      k_steps
      unfold Hold
      refine item_intsX (News.isList (by k_asm) (by k_mem)) hvv (by omega) (by omega) (by omega) ?_
      intro t6
      rw [Int.toNat_natCast]
      k_steps
      unfold Hold
      refine' use_clL (mul_call _ _ _ _ _) ?k1 ?k2 ?k3 ?k4 ?k5 ?k6 ?k7 ?k8 ?k9 ?_
      case k1 => k_asm
      case k2 => k_asm
      case k3 => k_asm
      case k4 => k_asm
      case k5 => k_asm
      case k6 => first | exact rfl | assumption
      case k7 => exact ⟨by omega, by omega⟩
      case k8 => decide
      case k9 => decide
      intro t9 h9 tk9 F9 N9
      (try dsimp only)
      (try k_fold)
      k_steps
      unfold Hold
      refine use_clL (add_call _ _ _ _ _) (by k_asm) (by k_asm) (by k_asm) (by k_asm) (by k_asm) (by first | exact rfl | assumption) True.intro (by decide) (by decide) ?_
      intro t8 h8 tk8 F8 N8
      (try dsimp only)
      (try k_fold)
      k_steps
      unfold Hold
      dsimp only [InvPostN]
      clear hv1 hv2 ho1 ho2' hs1 hs2 hs3 hs3' hpos h32
      (rename News _ _ _ _ => nE')
      refine kst_end ⟨_, _⟩ (by assumption) nE' (by kst_in) (by (intro p hp; kst_mem)) (by rfl) True.intro (by kst_all) (by kst_same) ?_
      exact grp_T kInv hf
    · unfold Hold
      (rename ¬((_ : Int).fdiv _).fmod 2 = 0 => hb)
      rw [Int.toNat_natCast] at hb
      have hf : termI nums.length i (valsOf nums wo) kN = 0 := if_neg hb
      dsimp only [InvPostN]
      (rename News _ _ _ _ => nE')
      refine kst_end ⟨_, _⟩ (by assumption) nE' (by kst_in) (by (intro p hp; kst_mem)) (by rfl) True.intro (by kst_all) (by kst_same) ?_
      exact grp_F kInv hf
    · unfold Hold
      (rename _ = (List.map (termI nums.length i (valsOf nums wo)) _).sum => hbr)
      refine item_strsA (News.isList (by k_asm) (by k_mem)) hss (by omega) (by omega) (by omega) ?_
      intro t10
      rw [Int.toNat_natCast, hrow]
      k_steps
      · unfold Hold
        obtain ⟨k, hkN, hkl⟩ : ∃ k : Nat, kN = (k : Int) ∧ k < (sentS tm (ds.getD i 0)).length := ⟨kPre.length, by omega, by omega⟩
        subst hkN
        refine item_strsA (News.isList (by k_asm) (by k_mem)) hss (by omega) (by omega) (by omega) ?_
        intro t11
        rw [Int.toNat_natCast, hrow]
        have hib := item_back (r := sentS tm (ds.getD i 0)) (k := (k : Int)) (by omega) (by omega)
        k_steps
        · unfold Hold
          (rename (Txt.item _ _ == _) = true => h46)
          rw [hib, beq_iff_eq] at h46
          have hf : termS (apB nums.sum) nums.length wo (sentS tm (ds.getD i 0)) (k : Int) = _ := if_pos h46
          rw [Int.toNat_natCast] at h46
          have hd := (sent_bit hkl).mp h46
          rw [← num_dig htm1 htm2] at hd
          obtain ⟨hpl, hpe, hp1, hp5⟩ := place htm1 htm2 (by omega) (by omega) hd (by omega)
          rw [← hsum] at hpl hpe
          have hwk := getD_in hwb k
          have hon := ord_small nums.length
          rw [Int.toNat_natCast] at hf
          refine item_intsX (News.isList (by k_asm) (by k_mem)) hwo (by omega) (by omega) (by omega) ?_
          intro t12
          rw [Int.toNat_natCast]
          k_steps
          unfold Hold
          refine item_intsX (News.isList (by k_asm) (by k_mem)) hov (by omega) (by omega) (by omega) ?_
          intro t13
          rw [Int.toNat_natCast]
          k_steps
          unfold Hold
          refine bytesR_K (by omega) (by omega) (by omega) ?_
          intro xw t14 k14 hxw _ _
          rw [← hxw] at hpe hf
          clear hxw
          k_steps
          unfold Hold
          refine' use_clL (floordiv_call _ _ _ _ _) ?k1 ?k2 ?k3 ?k4 ?k5 ?k6 ?k7 ?k8 ?k9 ?_
          case k1 => k_asm
          case k2 => k_asm
          case k3 => k_asm
          case k4 => k_asm
          case k5 => k_asm
          case k6 => first | exact rfl | assumption
          case k7 => exact ⟨by omega, by omega, by omega, by omega⟩
          case k8 => decide
          case k9 => decide
          intro t9 h9 tk9 F9 N9
          (try dsimp only)
          (try k_fold)
          k_steps
          unfold Hold
          refine mul_int ?_ (IntMulOk.of_left (intBits_le_64 (by omega) (by omega)))
          k_steps
          unfold Hold
          dsimp only [InvPostN]
          (rename News _ _ _ _ => nE')
          refine kst_end ⟨_, _⟩ (by assumption) nE' (by kst_in) (by (intro p hp; kst_mem)) (by rfl) True.intro (by kst_all) (by kst_same) ?_
          exact grp_T kInv hf
        · unfold Hold
          (rename (Txt.item _ _ == _) = false => h46)
          rw [hib, beq_eq_false_iff_ne] at h46
          have hf : termS (apB nums.sum) nums.length wo (sentS tm (ds.getD i 0)) (k : Int) = 0 := if_neg h46
          dsimp only [InvPostN]
          (rename News _ _ _ _ => nE')
          refine kst_end ⟨_, _⟩ (by assumption) nE' (by kst_in) (by (intro p hp; kst_mem)) (by rfl) True.intro (by kst_all) (by kst_same) ?_
          exact grp_F kInv hf
      all_goals
        rw [Int.sub_zero, Int.toNat_natCast, hul0, hsh] at hbr
        rw [Int.sub_zero, Int.toNat_natCast] at kInv
        have hEQ := hbr.trans kInv.symm
        first
        | exact absurd hEQ (by assumption)
        | skip
      refine ⟨_, _, _, _, _, rfl, kFr, kNews, ?e1, ?e2, ?e3, ⟨⟨rfl, rfl, rfl, rfl, rfl, rfl, rfl⟩, rfl⟩⟩
      case e1 => kst_in
      case e2 => (intro p hp; kst_mem)
      case e3 => rfl
  · rintro m₁ news₁ h tk ⟨n9, rfl⟩ F₁ N₁
    have F₂ : Fr h₀ L _ _ := n9.fr F₁
    have N₂ : News h₀ L _ _ := N₁
    clear F₁ N₁ n9
    (try dsimp only)
    k_steps
    exact hQ _ _ _ _ F₂ N₂
end Mine
end
section
open PySem PySem.W PyProof.Rows PySem.Calls
set_option maxRecDepth 100000
set_option maxHeartbeats 8000000
namespace Mine
theorem unions_mem {l : List Nat} (h6 : ∀ x ∈ l, x < 16 ^ 6) {a : Int} (h : a ∈ unionsOf (l.map (fun (x : Nat) => (x : Int)))) : ∃ u : Nat, a = (u : Int) ∧ u < 16 ^ 6 := by
  obtain ⟨g, hg⟩ := List.getElem?_of_mem h
  have hlt := (List.getElem?_eq_some_iff.mp hg).1
  rw [unionsOf_len, List.length_map] at hlt
  rw [unions_get l g hlt] at hg
  exact ⟨_, (Option.some.inj hg).symm, orL_lt l h6 g⟩
theorem union_ok {nums : List Int} {l : List Nat} (e : nums = l.map (fun (x : Nat) => (x : Int))) (h6 : ∀ x ∈ l, x < 16 ^ 6) {a : Int} (h : a ∈ unionsOf nums) : 0 ≤ a ∧ a < 2 ^ 40 ∧ (apB a).size ≤ 6 := by
  subst e
  obtain ⟨u, rfl, hu⟩ := unions_mem h6 h
  exact ⟨by omega, by omega, ap_size_le hu⟩
local macro_rules | `(tactic| walk_at "eval ListComp") => `(tactic| (k_here; (refine hold ?_)))
local macro_rules | `(tactic| walk_at "CompSrc") => `(tactic| (k_here; (refine hold ?_)))
local macro_rules | `(tactic| walk_at "CompEnd") => `(tactic| (k_here; (refine hold ?_)))
local macro_rules | `(tactic| walk_at "execs cons") => `(tactic| (k_here; ((rename Mark => mk9); refine hold ?_)))
local macro_rules | `(tactic| walk_at "exec Assign cons ListComp") => `(tactic| (k_here; (refine hold ?_)))
local macro_rules | `(tactic| walk_at "call ref") => `(tactic| (k_here; (show wpAny _ _ (call (Value.ref 55) [Value.int _ _]) _ _ _); k_dflt ((refine' use_clL (int2ap_call _ _ _) ?k1 ?k2 ?k3 ?k4 ?k5 ?k6 ?k7 ?k8 ?k9 ?_); (case k1 => k_asm); (case k2 => k_asm); (case k3 => k_asm); (case k4 => k_asm); (case k5 => k_asm); (case k6 => first | exact rfl | assumption); (case k7 => exact ⟨by assumption, by assumption⟩); (case k8 => decide); (case k9 => decide); intro t9 h9 tk9 F9 N9; (try dsimp only); (try k_fold))))
local macro_rules | `(tactic| walk_at "call ref") => `(tactic| (k_here; (show wpAny _ _ (call (Value.ref 111) [Value.bytes _ _, Value.ref _]) _ _ _); k_dflt ((refine' use_clLH (law_worth_call _ _ _ _ _ _ _ (by assumption) (by assumption) (by assumption)) ?km ?k1 ?k2 ?k3 ?k4 ?k5 ?k6 ?k7 ?k8 ?k9 ?_); (case k1 => k_asm); (case k2 => k_asm); (case k3 => k_asm); (case k4 => k_asm); (case km => k_mem); (case k5 => k_asm); (case k6 => first | exact rfl | assumption); (case k7 => assumption); (case k8 => decide); (case k9 => decide); intro t9 h9 tk9 F9 N9; (try dsimp only); (try k_fold))))
theorem law_E {w : World} {mean : ExcName → Option Value} {mg mb : Str → Option Value} {base h₀ : Heap} {L fa : Addr} {cd oc : Value} {od : Option Addr} {osl : Array (Option Value)} {fd : FuncData} {s : Shared} {Q : Flow → Shared → Prop} {E : Value → Shared → Prop}
    {c1 c2 c3 c4 c5 c6 c7 : Obj} {u : Str → Option Value} {sA : Addr} {ss : List Value} {ks kw kn kz ku n tm : Nat} {wA nA zA uA : Addr} {zv uv : List Value} {tv tm₀ tw : Tok} {ms : List Value} {nums : List Int} {us : List Value} {wo : List Int} {ds : List Int} 
    (ho : (Mine.hd.heap_39 w.params).lookup 121 = some ⟨oc, od, .func fd, osl⟩)
    (B : Below callerA base [] h₀) (X : (Mine.hd.heap_39 w.params).In h₀) (T : Top Mine.hd.view_39 (looseW Mine.hd.view_39 [Str.ofString "_twin_re_1", Str.ofString "_twin_re_2"]) mean mg mb h₀)
    (F : Fr h₀ L s.heap (fun z => if z = Str.ofString "word" then some (.bytes (apB nums.sum) tw) else if z = Str.ofString "sizes" then some (.ref zA) else if z = Str.ofString "unions" then some (.ref uA) else if z = Str.ofString "total" then some (.int nums.sum tv) else if z = Str.ofString "many" then some (.int (nums.length : Int) tm₀) else if z = Str.ofString "numbers" then some (.ref nA) else if z = Str.ofString "sent" then some (.ref sA) else u z))
    (N : News h₀ L s.heap [(zA, W.listOf zv.toArray kz), (uA, W.listOf uv.toArray ku), (nA, W.listOf ms.toArray kn), (wA, W.listOf us.toArray kw), (sA, W.listOf ss.toArray ks), (L + 1 + 1 + 1 + 1 + 1 + 1 + 1, c7), (L + 1 + 1 + 1 + 1 + 1 + 1, c6), (L + 1 + 1 + 1 + 1 + 1, c5), (L + 1 + 1 + 1 + 1, c4), (L + 1 + 1 + 1, c3), (L + 1 + 1, c2), (L + 1, c1)])
    (hz : IntsAre zv (sizesOf n)) (hu : IntsAre uv (unionsOf nums))
    (d6 : c6.data = .cell (some (.ref wA))) 
    (hwo : IntsAre us wo) (hwl : wo.length = 6) (hwb : ∀ x ∈ wo, -1000001 ≤ x ∧ x ≤ 1000001)
    (hnums : nums = ds.map fun d => numS (sentS tm d))
    (hss : StrsAre ss (ds.map (sentS tm))) (hn : ds.length = n) (hn2 : 2 ≤ n) (hn5 : n ≤ 5) (htm1 : 1 ≤ tm) (htm2 : tm ≤ 2)
    (hE : PassesOwn (model PySem.Challenge.rw_wn0007_01.row.prog w) (callerA.deeper (envOfC fd.qualname fd.scope L fa cd)) (envOfC fd.qualname fd.scope L fa cd) E)
    (hQ : ∀ h' tk m' news', Fr h₀ L h' m' → News h₀ L h' news' → Q (.ret (.bool true)) { s with heap := h', toks := tk }) :
    wpAny (model PySem.Challenge.rw_wn0007_01.row.prog w) (callerA.deeper (envOfC fd.qualname fd.scope L fa cd)) (execs ((bodyOf fd).drop 17) (envOfC fd.qualname fd.scope L fa cd)) Q E s := by
  k_with_none
  w_top off
  revert ho
  k_fill
  intro ho
  have ho2 := ho
  rw [show (Mine.hd.heap_39 w.params).lookup 121 = some _ from by k_is] at ho
  injection ho with ho
  injection ho with _ _ ho _
  injection ho with ho
  subst ho
  unfold bodyOf
  dsimp only [List.drop]
  have hnl : nums.length = n := by rw [hnums, List.length_map, hn]
  have hnum2 : nums = (numsN tm ds).map (fun (x : Nat) => (x : Int)) := by rw [hnums, numsN_cast]
  have hul : (unionsOf nums).length ≤ 32 := by
    rw [unionsOf_len, hnl]
    exact pow_small (Nat.le_refl n) hn5
  k_steps
  unfold Hold
  refine LCg.Assign_ListComp_U (F₀ := by k_asm) (by rfl) (by with_unfolding_all rfl) (by with_unfolding_all rfl) (by decide) (by rfl) (by decide) (by rfl) (by rfl) (by rfl) ?_
  k_steps
  unfold Hold
  refine LCg.CompSrc.ledger (by rfl) (by k_asm) (by k_asm) (by k_mem) (by rw [List.size_toArray, hu.length]; simp only [sizeLine]; omega) ?_
  intro g''
  refine comp_rest (xs := unionsOf nums) (fun a v => ∃ t : Tok, v = .int (worthF (apB a) wo) t) (fun a v => ∃ t : Tok, v = .int a t) (by rw [List.size_toArray, hu.length]) ?_ ?_ ?_
  · rintro j v hj hv
    exact ints_at hu j v (by simpa using hv)
  · rintro a v I' oI' C' oC' D' m' ys' h' tk' E' hk ⟨t, rfl⟩ hC' hx' F' N' off' ne'
    obtain ⟨ha0, ha1, ha2⟩ := union_ok hnum2 (numsN_lt htm1 htm2 ds) hk
    k_steps
    unfold Hold
    refine LCg.CompEnd.intro (by assumption) (by assumption) _ (by intro p hp; first | exact hp | exact List.mem_cons_of_mem _ hp) (by assumption) (.inr ⟨_, by k_mem, rfl, _, rfl⟩) ⟨rfl, _, rfl⟩
  · intro ys8 hys
    have hvals := hys.ints
    have mk : Mark := ⟨⟩
    k_steps
    unfold Hold
    refine wpAny_execs_cons ?_
    (try dsimp only)
    k_steps
    unfold Hold
    (rename Fr _ _ _ _ => FF)
    (rename News _ _ _ _ => NN)
    exact law_F (nums := nums) (n := n) (ds := ds) (wo := wo) (zv := zv) (uv := uv) (us := us) (ss := ss) ho2 B X T FF ⟨rfl, rfl, rfl, rfl, rfl, rfl, rfl⟩ NN hz hu (.cons _ _ (.cons _ _ (.cons _ _ (.cons _ _ (.cons _ _ (.cons _ _ .nil)))))) hvals d6 hwo hwl hwb hnums hss hn hn2 hn5 htm1 htm2 hE hQ
end Mine
end
section
open PySem PySem.W PyProof.Rows PySem.Calls
set_option maxRecDepth 100000
set_option maxHeartbeats 8000000
namespace Mine
local macro_rules | `(tactic| walk_at "eval ListComp") => `(tactic| (k_here; (refine hold ?_)))
local macro_rules | `(tactic| walk_at "CompSrc") => `(tactic| (k_here; (refine hold ?_)))
local macro_rules | `(tactic| walk_at "CompEnd") => `(tactic| (k_here; (refine hold ?_)))
local macro_rules | `(tactic| walk_at "call builtin:str.join") => `(tactic| (k_here; (refine hold ?_)))
local macro_rules | `(tactic| walk_at "call builtin:len") => `(tactic| (k_here; (with_reducible show wpAny _ _ (call (Value.builtin "len") [Value.ref _]) _ _ _); k_dflt (first | refine len_strsA (News.isList (by k_asm) (by k_mem)) (by assumption) (by omega) ?_ | refine kun_lenL (Fr.lst (by k_asm) (by assumption)) (sizeInts (by assumption)) (by omega) ?_)))
local macro_rules | `(tactic| walk_at "InvEndN") => `(tactic| (k_dflt (kst_close)))
local macro_rules | `(tactic| walk_at "exec For") => `(tactic| (k_here; (refine hold ?_)))
local macro_rules | `(tactic| walk_at "subscriptTail Name Name ref int") => `(tactic| (k_here; k_dflt (first | (refine hold ?_)))) 
local macro_rules | `(tactic| walk_at "binaryOp Add str str") => `(tactic| (k_here; (refine hold ?_)))
local macro_rules | `(tactic| walk_at "execs cons") => `(tactic| (k_here; ((rename Mark => mk9); refine hold ?_)))
local macro_rules | `(tactic| walk_at "exec Assign cons ListComp") => `(tactic| (k_here; (refine hold ?_)))
local macro_rules | `(tactic| walk_at "call ref") => `(tactic| (k_here; (show wpAny _ _ (call (Value.ref 62) [Value.int _ _, Value.int _ _]) _ _ _); k_dflt ((refine' use_clL (add_call _ _ _ _ _) ?k1 ?k2 ?k3 ?k4 ?k5 ?k6 ?k7 ?k8 ?k9 ?_); (case k1 => k_asm); (case k2 => k_asm); (case k3 => k_asm); (case k4 => k_asm); (case k5 => k_asm); (case k6 => first | exact rfl | assumption); (case k7 => exact True.intro); (case k8 => decide); (case k9 => decide); intro t9 h9 tk9 F9 N9; (try dsimp only); (try k_fold))))
local macro_rules | `(tactic| walk_at "call ref") => `(tactic| (k_here; (show wpAny _ _ (call (Value.ref 90) [Value.int _ _, Value.int _ _]) _ _ _); k_dflt ((refine' use_clL (or_call _ _ _ _ _) ?k1 ?k2 ?k3 ?k4 ?k5 ?k6 ?k7 ?k8 ?k9 ?_); (case k1 => k_asm); (case k2 => k_asm); (case k3 => k_asm); (case k4 => k_asm); (case k5 => k_asm); (case k6 => first | exact rfl | assumption); (case k7 => exact True.intro); (case k8 => decide); (case k9 => decide); intro t9 h9 tk9 F9 N9; (try dsimp only); (try k_fold))))
local macro_rules | `(tactic| walk_at "pyIter ref") => `(tactic| (k_here; (refine hold ?_)))
local macro_rules | `(tactic| walk_at "call ref") => `(tactic| (k_here; (show wpAny _ _ (call (Value.ref 55) [Value.int _ _]) _ _ _); k_dflt ((refine' use_clL (int2ap_call _ _ _) ?k1 ?k2 ?k3 ?k4 ?k5 ?k6 ?k7 ?k8 ?k9 ?_); (case k1 => k_asm); (case k2 => k_asm); (case k3 => k_asm); (case k4 => k_asm); (case k5 => k_asm); (case k6 => first | exact rfl | assumption); (case k7 => exact ⟨by assumption, by assumption⟩); (case k8 => decide); (case k9 => decide); intro t9 h9 tk9 F9 N9; (try dsimp only); (try k_fold))))
local macro_rules | `(tactic| walk_at "call ref") => `(tactic| (k_here; (show wpAny _ _ (call (Value.ref 116) [Value.ref _]) _ _ _); refine hold ?_))
theorem law_D {w : World} {mean : ExcName → Option Value} {mg mb : Str → Option Value} {base h₀ : Heap} {L fa : Addr} {cd oc : Value} {od : Option Addr} {osl : Array (Option Value)} {fd : FuncData} {s : Shared} {Q : Flow → Shared → Prop} {E : Value → Shared → Prop}
    {c1 c2 c3 c4 c5 c6 c7 : Obj} {u : Str → Option Value} {sA : Addr} {ss : List Value} {ks kw kn kz ku n tm : Nat} {wA nA zA uA : Addr} {zv uv : List Value} {tv tm₀ : Tok} {ms : List Value} {nums : List Int} {us : List Value} {wo : List Int} {ds : List Int} 
    (ho : (Mine.hd.heap_39 w.params).lookup 121 = some ⟨oc, od, .func fd, osl⟩)
    (B : Below callerA base [] h₀) (X : (Mine.hd.heap_39 w.params).In h₀) (T : Top Mine.hd.view_39 (looseW Mine.hd.view_39 [Str.ofString "_twin_re_1", Str.ofString "_twin_re_2"]) mean mg mb h₀)
    (F : Fr h₀ L s.heap (fun z => if z = Str.ofString "sizes" then some (.ref zA) else if z = Str.ofString "unions" then some (.ref uA) else if z = Str.ofString "total" then some (.int nums.sum tv) else if z = Str.ofString "many" then some (.int (nums.length : Int) tm₀) else if z = Str.ofString "numbers" then some (.ref nA) else if z = Str.ofString "sent" then some (.ref sA) else u z))
    (N : News h₀ L s.heap [(zA, W.listOf zv.toArray kz), (uA, W.listOf uv.toArray ku), (nA, W.listOf ms.toArray kn), (wA, W.listOf us.toArray kw), (sA, W.listOf ss.toArray ks), (L + 1 + 1 + 1 + 1 + 1 + 1 + 1, c7), (L + 1 + 1 + 1 + 1 + 1 + 1, c6), (L + 1 + 1 + 1 + 1 + 1, c5), (L + 1 + 1 + 1 + 1, c4), (L + 1 + 1 + 1, c3), (L + 1 + 1, c2), (L + 1, c1)])
    (hz : IntsAre zv (sizesOf n)) (hu : IntsAre uv (unionsOf nums))
    (d6 : c6.data = .cell (some (.ref wA))) 
    (hwo : IntsAre us wo) (hwl : wo.length = 6) (hwb : ∀ x ∈ wo, -1000001 ≤ x ∧ x ≤ 1000001)
    (hms : IntsAre ms nums) (hnums : nums = ds.map fun d => numS (sentS tm d))
    (hss : StrsAre ss (ds.map (sentS tm))) (h27 : 27 ∈ ds) (hn : ds.length = n) (hn2 : 2 ≤ n) (hn5 : n ≤ 5) (htm1 : 1 ≤ tm) (htm2 : tm ≤ 2)
    (hE : PassesOwn (model PySem.Challenge.rw_wn0007_01.row.prog w) (callerA.deeper (envOfC fd.qualname fd.scope L fa cd)) (envOfC fd.qualname fd.scope L fa cd) E)
    (hQ : ∀ h' tk m' news', Fr h₀ L h' m' → News h₀ L h' news' → Q (.ret (.bool true)) { s with heap := h', toks := tk }) :
    wpAny (model PySem.Challenge.rw_wn0007_01.row.prog w) (callerA.deeper (envOfC fd.qualname fd.scope L fa cd)) (execs ((bodyOf fd).drop 15) (envOfC fd.qualname fd.scope L fa cd)) Q E s := by
  k_with_none
  w_top off
  revert ho
  k_fill
  intro ho
  have ho2 := ho
  rw [show (Mine.hd.heap_39 w.params).lookup 121 = some _ from by k_is] at ho
  injection ho with ho
  injection ho with _ _ ho _
  injection ho with ho
  subst ho
  unfold bodyOf
  dsimp only [List.drop]
  have hnl : nums.length = n := by rw [hnums, List.length_map, hn]
  have hnum2 : nums = (numsN tm ds).map (fun (x : Nat) => (x : Int)) := by rw [hnums, numsN_cast]
  have hsum : nums.sum = (((numsN tm ds).sum : Nat) : Int) := by rw [hnum2, sum_cast]
  have hsl := total_lt (numsN_ones htm1 htm2 ds) (numsN_lt htm1 htm2 ds) (by unfold numsN; rw [List.length_map]; omega)
  have hs0 : 0 ≤ nums.sum := by omega
  have hs1 : nums.sum < 2 ^ 40 := by omega
  have hwd : apB nums.sum = lettersB (ds.map (sentS tm)) := by rw [hsum]; exact word_is htm1 htm2 h27 (by omega)
  have hrl : (ds.map (sentS tm)).length ≤ 5 := by rw [List.length_map]; omega
  have hrn : ds.map (sentS tm) ≠ [] := by intro h; have := congrArg List.length h; rw [List.length_map, List.length_nil] at this; omega
  have hrb : ∀ x ∈ ds.map (sentS tm), x.length ≤ 6 := by
    intro x hx
    obtain ⟨d, _, rfl⟩ := List.mem_map.mp hx
    have := sentS_len tm d
    omega
  have mk : Mark := ⟨⟩
  k_steps
  unfold Hold
  refine wpAny_execs_cons ?_
  (try dsimp only)
  k_steps
  unfold Hold
  refine wpAny_execs_cons ?_
  (try dsimp only)
  k_steps
  unfold Hold
  refine' use_clLH (law_letters_call _ _ _ _ _ hss hrl hrn hrb) ?km ?k1 ?k2 ?k3 ?k4 ?k5 ?k6 True.intro (by decide) (by decide) ?_
  case k1 => k_asm
  case k2 => k_asm
  case k3 => k_asm
  case k4 => k_asm
  case km => k_mem
  case k5 => k_asm
  case k6 => first | exact rfl | assumption
  intro t9 h9 tk9 F9 N9
  (try dsimp only)
  (try k_fold)
  k_steps
  · exact absurd (show ((apB nums.sum).toList != (lettersB (ds.map (sentS tm))).toList) = true by assumption) (by rw [hwd]; simp)
  · unfold Hold
    (rename Fr _ _ _ _ => FF)
    (rename News _ _ _ _ => NN)
    exact law_E (nums := nums) (n := n) (ds := ds) (wo := wo) (zv := zv) (uv := uv) (us := us) (ss := ss) ho2 B X T FF NN hz hu d6 hwo hwl hwb hnums hss hn hn2 hn5 htm1 htm2 hE hQ
end Mine
end
section
open PySem PySem.W PyProof.Rows PySem.Calls
set_option maxRecDepth 100000
set_option maxHeartbeats 8000000
namespace Mine
local macro_rules | `(tactic| walk_at "eval ListComp") => `(tactic| (k_here; (refine hold ?_)))
local macro_rules | `(tactic| walk_at "CompSrc") => `(tactic| (k_here; (refine hold ?_)))
local macro_rules | `(tactic| walk_at "CompEnd") => `(tactic| (k_here; (refine hold ?_)))
local macro_rules | `(tactic| walk_at "call builtin:str.join") => `(tactic| (k_here; (refine hold ?_)))
local macro_rules | `(tactic| walk_at "call builtin:len") => `(tactic| (k_here; (with_reducible show wpAny _ _ (call (Value.builtin "len") [Value.ref _]) _ _ _); k_dflt (first | refine len_strsA (News.isList (by k_asm) (by k_mem)) (by assumption) (by omega) ?_ | refine kun_lenL (Fr.lst (by k_asm) (by assumption)) (sizeInts (by assumption)) (by omega) ?_)))
local macro_rules | `(tactic| walk_at "InvEndN") => `(tactic| (k_dflt (kst_close)))
local macro_rules | `(tactic| walk_at "exec For") => `(tactic| (k_here; (refine hold ?_)))
local macro_rules | `(tactic| walk_at "subscriptTail Name Name ref int") => `(tactic| (k_here; k_dflt (first | (refine hold ?_)))) 
local macro_rules | `(tactic| walk_at "binaryOp Add str str") => `(tactic| (k_here; (refine hold ?_)))
local macro_rules | `(tactic| walk_at "execs cons") => `(tactic| (k_here; ((rename Mark => mk9); refine hold ?_)))
local macro_rules | `(tactic| walk_at "exec Assign cons ListComp") => `(tactic| (k_here; (refine hold ?_)))
local macro_rules | `(tactic| walk_at "call ref") => `(tactic| (k_here; (show wpAny _ _ (call (Value.ref 62) [Value.int _ _, Value.int _ _]) _ _ _); k_dflt ((refine' use_clL (add_call _ _ _ _ _) ?k1 ?k2 ?k3 ?k4 ?k5 ?k6 ?k7 ?k8 ?k9 ?_); (case k1 => k_asm); (case k2 => k_asm); (case k3 => k_asm); (case k4 => k_asm); (case k5 => k_asm); (case k6 => first | exact rfl | assumption); (case k7 => exact True.intro); (case k8 => decide); (case k9 => decide); intro t9 h9 tk9 F9 N9; (try dsimp only); (try k_fold))))
local macro_rules | `(tactic| walk_at "call ref") => `(tactic| (k_here; (show wpAny _ _ (call (Value.ref 90) [Value.int _ _, Value.int _ _]) _ _ _); k_dflt ((refine' use_clL (or_call _ _ _ _ _) ?k1 ?k2 ?k3 ?k4 ?k5 ?k6 ?k7 ?k8 ?k9 ?_); (case k1 => k_asm); (case k2 => k_asm); (case k3 => k_asm); (case k4 => k_asm); (case k5 => k_asm); (case k6 => first | exact rfl | assumption); (case k7 => exact True.intro); (case k8 => decide); (case k9 => decide); intro t9 h9 tk9 F9 N9; (try dsimp only); (try k_fold))))
local macro_rules | `(tactic| walk_at "pyIter ref") => `(tactic| (k_here; (refine hold ?_)))
local macro_rules | `(tactic| k_ne) => `(tactic| (refine neN ?_; (try dsimp only); (with_reducible first | assumption | (refine Ne.symm ?_; assumption)))) 
theorem law_C {w : World} {mean : ExcName → Option Value} {mg mb : Str → Option Value} {base h₀ : Heap} {L fa : Addr} {cd oc : Value} {od : Option Addr} {osl : Array (Option Value)} {fd : FuncData} {s : Shared} {Q : Flow → Shared → Prop} {E : Value → Shared → Prop}
    {c1 c2 c3 c4 c5 c6 c7 : Obj} {u : Str → Option Value} {sA : Addr} {ss : List Value} {ks kw kn n tm : Nat} {wA nA : Addr} {ms : List Value} {nums : List Int} {us : List Value} {wo : List Int} {ds : List Int} 
    (ho : (Mine.hd.heap_39 w.params).lookup 121 = some ⟨oc, od, .func fd, osl⟩)
    (B : Below callerA base [] h₀) (X : (Mine.hd.heap_39 w.params).In h₀) (T : Top Mine.hd.view_39 (looseW Mine.hd.view_39 [Str.ofString "_twin_re_1", Str.ofString "_twin_re_2"]) mean mg mb h₀)
    (F : Fr h₀ L s.heap (fun z => if z = Str.ofString "numbers" then some (.ref nA) else (fun z => if z = Str.ofString "sent" then some (.ref sA) else u z) z))
    (N : News h₀ L s.heap [(nA, W.listOf ms.toArray kn), (wA, W.listOf us.toArray kw), (sA, W.listOf ss.toArray ks), (L + 1 + 1 + 1 + 1 + 1 + 1 + 1, c7), (L + 1 + 1 + 1 + 1 + 1 + 1, c6), (L + 1 + 1 + 1 + 1 + 1, c5), (L + 1 + 1 + 1 + 1, c4), (L + 1 + 1 + 1, c3), (L + 1 + 1, c2), (L + 1, c1)])
    (o3 : LCg.Off1 nA [(wA, W.listOf us.toArray kw), (sA, W.listOf ss.toArray ks), (L + 1 + 1 + 1 + 1 + 1 + 1 + 1, c7), (L + 1 + 1 + 1 + 1 + 1 + 1, c6), (L + 1 + 1 + 1 + 1 + 1, c5), (L + 1 + 1 + 1 + 1, c4), (L + 1 + 1 + 1, c3), (L + 1 + 1, c2), (L + 1, c1)])
    (o2 : LCg.Off1 wA [(sA, W.listOf ss.toArray ks), (L + 1 + 1 + 1 + 1 + 1 + 1 + 1, c7), (L + 1 + 1 + 1 + 1 + 1 + 1, c6), (L + 1 + 1 + 1 + 1 + 1, c5), (L + 1 + 1 + 1 + 1, c4), (L + 1 + 1 + 1, c3), (L + 1 + 1, c2), (L + 1, c1)])
    (o1 : LCg.Off1 sA [(L + 1 + 1 + 1 + 1 + 1 + 1 + 1, c7), (L + 1 + 1 + 1 + 1 + 1 + 1, c6), (L + 1 + 1 + 1 + 1 + 1, c5), (L + 1 + 1 + 1 + 1, c4), (L + 1 + 1 + 1, c3), (L + 1 + 1, c2), (L + 1, c1)])
    (d6 : c6.data = .cell (some (.ref wA))) (d7 : c7.data = .cell none)
    (hwo : IntsAre us wo) (hwl : wo.length = 6) (hwb : ∀ x ∈ wo, -1000001 ≤ x ∧ x ≤ 1000001)
    (hms : IntsAre ms nums) (hnums : nums = ds.map fun d => numS (sentS tm d))
    (hss : StrsAre ss (ds.map (sentS tm))) (h27 : 27 ∈ ds) (hn : ds.length = n) (hn2 : 2 ≤ n) (hn5 : n ≤ 5) (htm1 : 1 ≤ tm) (htm2 : tm ≤ 2)
    (hE : PassesOwn (model PySem.Challenge.rw_wn0007_01.row.prog w) (callerA.deeper (envOfC fd.qualname fd.scope L fa cd)) (envOfC fd.qualname fd.scope L fa cd) E)
    (hQ : ∀ h' tk m' news', Fr h₀ L h' m' → News h₀ L h' news' → Q (.ret (.bool true)) { s with heap := h', toks := tk }) :
    wpAny (model PySem.Challenge.rw_wn0007_01.row.prog w) (callerA.deeper (envOfC fd.qualname fd.scope L fa cd)) (execs ((bodyOf fd).drop 10) (envOfC fd.qualname fd.scope L fa cd)) Q E s := by
  k_with_none
  w_top off
  revert ho
  k_fill
  intro ho
  have ho2 := ho
  rw [show (Mine.hd.heap_39 w.params).lookup 121 = some _ from by k_is] at ho
  injection ho with ho
  injection ho with _ _ ho _
  injection ho with ho
  subst ho
  unfold bodyOf
  dsimp only [List.drop]
  simp only [LCg.Off1, and_true] at o1 o2 o3
  have hnl : nums.length = n := by rw [hnums, List.length_map, hn]
  k_steps
  unfold Hold
  refine For_invT h₀ ?_ (by intro _; rfl) hE
  k_steps
  unfold Hold
  (rename News _ _ _ _ => NN); (rename Fr _ _ _ _ => FF)
  refine iterT_listF (env := envOfC _ _ L fa cd) (fun i m nx => ∃ (zA uA : Addr) (zv uv : List Value) (kz ku : Nat) (o7 : Obj) (ov : Option Value) (tv tm₀ : Tok), m = (fun z => if z = Str.ofString "sizes" then some (.ref zA) else if z = Str.ofString "unions" then some (.ref uA) else if z = Str.ofString "total" then some (.int (nums.take i).sum tv) else if z = Str.ofString "many" then some (.int (nums.length : Int) tm₀) else if z = Str.ofString "numbers" then some (.ref nA) else if z = Str.ofString "sent" then some (.ref sA) else u z) ∧
    nx = [(zA, W.listOf zv.toArray kz), (uA, W.listOf uv.toArray ku), (nA, W.listOf ms.toArray kn), (wA, W.listOf us.toArray kw), (sA, W.listOf ss.toArray ks), (L + 1 + 1 + 1 + 1 + 1 + 1 + 1, o7), (L + 1 + 1 + 1 + 1 + 1 + 1, c6), (L + 1 + 1 + 1 + 1 + 1, c5), (L + 1 + 1 + 1 + 1, c4), (L + 1 + 1 + 1, c3), (L + 1 + 1, c2), (L + 1, c1)] ∧ o7.data = .cell ov ∧ IntsAre zv (sizesOf i) ∧ IntsAre uv (unionsOf (nums.take i)) ∧
    LCg.Off1 zA [(uA, W.listOf uv.toArray ku), (nA, W.listOf ms.toArray kn), (wA, W.listOf us.toArray kw), (sA, W.listOf ss.toArray ks), (L + 1 + 1 + 1 + 1 + 1 + 1 + 1, o7), (L + 1 + 1 + 1 + 1 + 1 + 1, c6), (L + 1 + 1 + 1 + 1 + 1, c5), (L + 1 + 1 + 1 + 1, c4), (L + 1 + 1 + 1, c3), (L + 1 + 1, c2), (L + 1, c1)] ∧ LCg.Off1 uA [(nA, W.listOf ms.toArray kn), (wA, W.listOf us.toArray kw), (sA, W.listOf ss.toArray ks), (L + 1 + 1 + 1 + 1 + 1 + 1 + 1, o7), (L + 1 + 1 + 1 + 1 + 1 + 1, c6), (L + 1 + 1 + 1 + 1 + 1, c5), (L + 1 + 1 + 1 + 1, c4), (L + 1 + 1 + 1, c3), (L + 1 + 1, c2), (L + 1, c1)]) (by rfl) (by k_mem) hms FF NN ?_ ?_ ?_ ?_
  · refine ⟨_, _, _, _, _, _, _, _, _, _, rfl, rfl, d7, .cons _ _ .nil, .cons _ _ .nil, ?_, ?_⟩
    · simp only [LCg.Off1, and_true]
      omega
    · simp only [LCg.Off1, and_true]
      omega
  · rintro i m nx ⟨zA, uA, zv, uv, kz, ku, o7, ov, tv, tm₀, rfl, rfl, _⟩
    k_mem
  · rintro i k t m₁ news₁ s₁ I oI hk hoff ⟨zA, uA, zv, uv, kz, ku, o7, ov, tv, tm₀, rfl, rfl, d7', hz, hu, oz, ou⟩ F₁ N₁
    simp only [LCg.Off1, and_true] at oz ou
    replace hoff := off1_of hoff
    simp only [LCg.Off1, and_true] at hoff
    obtain ⟨_, _, _, _, _, _, _, _, _, _, _, _⟩ := hoff
    obtain ⟨_, _, _, _, _, _, _, _, _, _, _⟩ := oz
    obtain ⟨_, _, _, _, _, _, _, _, _, _⟩ := ou
    obtain ⟨_, _, _, _, _, _, _, _, _⟩ := o3
    obtain ⟨_, _, _, _, _, _, _, _⟩ := o2
    obtain ⟨_, _, _, _, _, _, _⟩ := o1
    have F₂ : Fr h₀ L _ _ := F₁
    have N₂ : News h₀ L _ _ := N₁
    clear F₁ N₁
    have mk : Mark := ⟨⟩
    k_steps
    unfold Hold
    refine wpAny_execs_cons ?_
    (try dsimp only)
    k_steps
    unfold Hold
    refine wpAny_execs_cons ?_
    (try dsimp only)
    k_steps
    unfold Hold
    have hpw := pow_small (i := i) (n := n) (by have := (List.getElem?_eq_some_iff.mp hk).1; omega) hn5
    have hul : (unionsOf (nums.take i)).length ≤ 32 := by
      rw [unionsOf_len, List.length_take]
      exact Nat.le_trans (Nat.pow_le_pow_right (by decide) (Nat.min_le_left _ _)) hpw
    have hzl : (sizesOf i).length ≤ 32 := by rw [sizesOf_len]; exact hpw
    refine LCg.ListComp_U (F₀ := by k_asm) (by with_unfolding_all rfl) (by decide) (by rfl) (by decide) (by rfl) ?_
    k_steps
    unfold Hold
    refine LCg.CompSrc.ledger (by rfl) (by k_asm) (by k_asm) (by k_mem) (by rw [List.size_toArray, hu.length]; simp only [sizeLine]; omega) ?_
    intro g'
    refine comp_rest (xs := unionsOf (nums.take i)) (fun a v => ∃ t : Tok, v = .int (Builtin.bitOr a k) t) (fun a v => ∃ t : Tok, v = .int a t) (by rw [List.size_toArray, hu.length]) ?_ ?_ ?_
    · rintro j v hj hv
      exact ints_at hu j v (by simpa using hv)
    · rintro a v I' oI' C' oC' D' m' ys' h' tk' E' hk ⟨t, rfl⟩ hC' hx' F' N' off' ne'
      k_steps
      unfold Hold
      refine LCg.CompEnd.intro (by assumption) (by assumption) _ (by intro p hp; first | exact hp | exact List.mem_cons_of_mem _ hp) (by assumption) (.inr ⟨_, by k_mem, rfl, _, rfl⟩) ⟨rfl, _, rfl⟩
    · intro ys8 hys
      have hun := hys.ints
      k_steps
      unfold Hold
      rename_i DA hA1 tkA oA DU wsU hU1 hu2 lU hX FX NX
      refine wpAny_execs_cons ?_
      (try dsimp only)
      k_steps
      unfold Hold
      refine LCg.ListComp_U (F₀ := by k_asm) (by with_unfolding_all rfl) (by decide) (by rfl) (by decide) (by rfl) ?_
      k_steps
      unfold Hold
      refine LCg.CompSrc.ledger (by rfl) (by k_asm) (by k_asm) (by k_mem) (by rw [List.size_toArray, hz.length]; simp only [sizeLine]; omega) ?_
      intro g''
      refine comp_rest (xs := sizesOf i) (fun a v => ∃ t : Tok, v = .int (a + 1) t) (fun a v => ∃ t : Tok, v = .int a t) (by rw [List.size_toArray, hz.length]) ?_ ?_ ?_
      · rintro j v hj hv
        exact ints_at hz j v (by simpa using hv)
      · rintro a v I' oI' C' oC' D' m' ys' h' tk' E' hk ⟨t, rfl⟩ hC' hx' F' N' off' ne'
        k_steps
        unfold Hold
        refine LCg.CompEnd.intro (by assumption) (by assumption) _ (by intro p hp; first | exact hp | exact List.mem_cons_of_mem _ hp) (by assumption) (.inr ⟨_, by k_mem, rfl, _, rfl⟩) ⟨rfl, _, rfl⟩
      · intro ys9 hys9
        have hzn := hys9.ints
        k_steps
        rename_i DB hB1 tkB oB DZ wsZ hZ1 hz2 lZ hE1 FE NE
        have e1 := take_snoc hk
        refine TurnEnd.intro FE NE _ ?sub ?off ⟨DZ, DU, wsZ, wsU, 0, 0, _, _, ?tv, tm₀, ?map, rfl, by assumption, hz2, ?hu, ?oz, ?ou⟩
        case map =>
          rw [e1, List.sum_append]
          simp only [List.sum_cons, List.sum_nil, Int.add_zero]
          funext z
          (repeat' split) <;> first | rfl | simp_all
        case hu =>
          rw [e1, unionsOf_snoc]
          exact hu2
        case sub =>
          intro p hp
          simp only [List.mem_cons, List.not_mem_nil, or_false] at hp ⊢
          rcases hp with h | h | h | h | h | h | h | h | h | h | h | h | h <;> simp only [h, true_or, or_true]
        case off =>
          refine mem_of_off1 ?_
          simp only [LCg.Off1, and_true]
          rcases lU with ⟨_, _, _, _, _, _, _, _, _, _, _, _, _, _⟩
          rcases lZ with ⟨_, _, _, _, _, _, _, _, _, _, _, _, _, _, _, _⟩
          refine ⟨?_, ?_, ?_, ?_, ?_, ?_, ?_, ?_, ?_, ?_, ?_, ?_⟩ <;> with_reducible first | assumption | exact Nat.ne_of_gt (by assumption)
        case oz =>
          simp only [LCg.Off1, and_true]
          rcases lZ with ⟨_, _, _, _, _, _, _, _, _, _, _, _, _, _, _, _⟩
          refine ⟨?_, ?_, ?_, ?_, ?_, ?_, ?_, ?_, ?_, ?_, ?_⟩ <;> with_reducible exact Nat.ne_of_lt (by assumption)
        case ou =>
          simp only [LCg.Off1, and_true]
          rcases lU with ⟨_, _, _, _, _, _, _, _, _, _, _, _, _, _⟩
          refine ⟨?_, ?_, ?_, ?_, ?_, ?_, ?_, ?_, ?_, ?_⟩ <;> with_reducible exact Nat.ne_of_lt (by assumption)
  · rintro m₁ news₁ h tk ⟨zA, uA, zv, uv, kz, ku, o7, ov, tv, tm₀, rfl, rfl, d7', hz, hu, oz, ou⟩ F₁ N₁
    dsimp only
    have mk : Mark := ⟨⟩
    k_steps
    unfold Hold
    (rename Fr _ _ _ _ => FF)
    (rename News _ _ _ _ => NN)
    rw [List.take_length] at FF hu
    rw [hnl] at hz
    exact law_D (nums := nums) (n := n) (ds := ds) (wo := wo) (zv := zv) (uv := uv) (us := us) (ss := ss) ho2 B X T FF NN hz hu d6 hwo hwl hwb hms hnums hss h27 hn hn2 hn5 htm1 htm2 hE hQ
end Mine
end
section
open PySem PySem.W PyProof.Rows PySem.Calls
set_option maxRecDepth 100000
set_option maxHeartbeats 8000000
namespace Mine
local macro_rules | `(tactic| walk_at "pad") => `(tactic| fail)
local macro_rules | `(tactic| walk_at "pad") => `(tactic| fail)
local macro_rules | `(tactic| walk_at "eval ListComp") => `(tactic| (k_here; (refine hold ?_)))
local macro_rules | `(tactic| walk_at "CompSrc") => `(tactic| (k_here; (refine hold ?_)))
local macro_rules | `(tactic| walk_at "CompEnd") => `(tactic| (k_here; (refine hold ?_)))
local macro_rules | `(tactic| walk_at "call builtin:str.join") => `(tactic| (k_here; (refine hold ?_)))
local macro_rules | `(tactic| walk_at "call builtin:len") => `(tactic| (k_here; (with_reducible show wpAny _ _ (call (Value.builtin "len") [Value.ref _]) _ _ _); k_dflt (first | refine len_strsA (News.isList (by k_asm) (by k_mem)) (by assumption) (by omega) ?_ | refine kun_lenL (Fr.lst (by k_asm) (by assumption)) (sizeInts (by assumption)) (by omega) ?_)))
local macro_rules | `(tactic| walk_at "InvEndN") => `(tactic| (k_dflt (kst_close)))
local macro_rules | `(tactic| walk_at "exec For") => `(tactic| (k_here; (refine hold ?_)))
local macro_rules | `(tactic| walk_at "subscriptTail Name Name ref int") => `(tactic| (k_here; k_dflt (first | (refine hold ?_)))) 
local macro_rules | `(tactic| walk_at "binaryOp Add str str") => `(tactic| (k_here; (refine hold ?_)))
local macro_rules | `(tactic| walk_at "execs cons") => `(tactic| (k_here; ((rename Mark => mk9); refine hold ?_)))
local macro_rules | `(tactic| walk_at "exec Assign cons ListComp") => `(tactic| (k_here; (refine hold ?_)))
local macro_rules | `(tactic| walk_at "call ref") => `(tactic| (k_here; (show wpAny _ _ (call (Value.ref 104) [Value.str _ _]) _ _ _); k_dflt ((refine' use_clL (law_number_call _ _ _) ?k1 ?k2 ?k3 ?k4 ?k5 ?k6 ?k7 ?k8 ?k9 ?_); (case k1 => k_asm); (case k2 => k_asm); (case k3 => k_asm); (case k4 => k_asm); (case k5 => k_asm); (case k6 => first | exact rfl | assumption); (case k7 => exact Nat.le_trans (sentS_len _ _) (by omega)); (case k8 => decide); (case k9 => decide); intro t9 h9 tk9 F9 N9; (try dsimp only); (try k_fold))))
local macro_rules | `(tactic| walk_at "call builtin:str.split") => `(tactic| (k_here; (refine hold ?_)))
local macro_rules | `(tactic| walk_at "subscriptTail Name Slice ref ref") => `(tactic| (k_here; refine hold ?_))
theorem mem_skip2 {α : Type} {p a b c : α} {l : List α} (h : p ∈ a :: l) : p ∈ a :: b :: c :: l := by
  rcases List.mem_cons.mp h with rfl | h
  · exact List.mem_cons_self
  · exact List.mem_cons_of_mem _ (List.mem_cons_of_mem _ (List.mem_cons_of_mem _ h))
theorem law_B2 {w : World} {mean : ExcName → Option Value} {mg mb : Str → Option Value} {base h₀ : Heap} {L fa : Addr} {cd oc : Value} {od : Option Addr} {osl : Array (Option Value)} {fd : FuncData} {s : Shared} {Q : Flow → Shared → Prop} {E : Value → Shared → Prop}
    {c1 c2 c3 c4 c5 c6 c7 : Obj} {u : Str → Option Value} {sA : Addr} {ss : List Value} {ks kw n tm : Nat} {wA : Addr} {us : List Value} {wo : List Int} {ds : List Int} {tt : Tok}
    (ho : (Mine.hd.heap_39 w.params).lookup 121 = some ⟨oc, od, .func fd, osl⟩)
    (B : Below callerA base [] h₀) (X : (Mine.hd.heap_39 w.params).In h₀) (T : Top Mine.hd.view_39 (looseW Mine.hd.view_39 [Str.ofString "_twin_re_1", Str.ofString "_twin_re_2"]) mean mg mb h₀)
    (F : Fr h₀ L s.heap (fun z => if z = Str.ofString "sent" then some (.ref sA) else (fun y => if y = Str.ofString "text" then some (.str (textS tm ds) tt) else u y) z)) (N : News h₀ L s.heap [(wA, W.listOf us.toArray kw), (sA, W.listOf ss.toArray ks), (L + 1 + 1 + 1 + 1 + 1 + 1 + 1, c7), (L + 1 + 1 + 1 + 1 + 1 + 1, c6), (L + 1 + 1 + 1 + 1 + 1, c5), (L + 1 + 1 + 1 + 1, c4), (L + 1 + 1 + 1, c3), (L + 1 + 1, c2), (L + 1, c1)])
    (o2 : LCg.Off1 wA [(sA, W.listOf ss.toArray ks), (L + 1 + 1 + 1 + 1 + 1 + 1 + 1, c7), (L + 1 + 1 + 1 + 1 + 1 + 1, c6), (L + 1 + 1 + 1 + 1 + 1, c5), (L + 1 + 1 + 1 + 1, c4), (L + 1 + 1 + 1, c3), (L + 1 + 1, c2), (L + 1, c1)])
    (o1 : LCg.Off1 sA [(L + 1 + 1 + 1 + 1 + 1 + 1 + 1, c7), (L + 1 + 1 + 1 + 1 + 1 + 1, c6), (L + 1 + 1 + 1 + 1 + 1, c5), (L + 1 + 1 + 1 + 1, c4), (L + 1 + 1 + 1, c3), (L + 1 + 1, c2), (L + 1, c1)])
    (d6 : c6.data = .cell (some (.ref wA))) (d7 : c7.data = .cell none)
    (hwo : IntsAre us wo) (hwl : wo.length = 6) (hwb : ∀ x ∈ wo, -1000001 ≤ x ∧ x ≤ 1000001)
    (hss : StrsAre ss (ds.map (sentS tm))) (h27 : 27 ∈ ds) (hn : ds.length = n) (hn2 : 2 ≤ n) (hn5 : n ≤ 5) (htm1 : 1 ≤ tm) (htm2 : tm ≤ 2)
    (hE : PassesOwn (model PySem.Challenge.rw_wn0007_01.row.prog w) (callerA.deeper (envOfC fd.qualname fd.scope L fa cd)) (envOfC fd.qualname fd.scope L fa cd) E)
    (hQ : ∀ h' tk m' news', Fr h₀ L h' m' → News h₀ L h' news' → Q (.ret (.bool true)) { s with heap := h', toks := tk }) :
    wpAny (model PySem.Challenge.rw_wn0007_01.row.prog w) (callerA.deeper (envOfC fd.qualname fd.scope L fa cd)) (execs ((bodyOf fd).drop 9) (envOfC fd.qualname fd.scope L fa cd)) Q E s := by
  k_with_none
  w_top off
  revert ho
  k_fill
  intro ho
  have ho2 := ho
  rw [show (Mine.hd.heap_39 w.params).lookup 121 = some _ from by k_is] at ho
  injection ho with ho
  injection ho with _ _ ho _
  injection ho with ho
  subst ho
  unfold bodyOf
  dsimp only [List.drop]
  simp only [LCg.Off1, and_true] at o1 o2
  k_steps
  unfold Hold
  refine LCg.Assign_ListComp_U (F₀ := by k_asm) (by rfl) (by with_unfolding_all rfl) (by with_unfolding_all rfl) (by decide) (by rfl) (by decide) (by rfl) (by rfl) (by rfl) ?_
  k_steps
  unfold Hold
  obtain ⟨tj, rfl⟩ : ∃ j, tm = j + 1 := ⟨tm - 1, by omega⟩
  have htl : (textS (tj + 1) ds).length ≤ 100 := text_len (by omega) (by omega)
  refine splitN1A (by k_asm) (by k_asm) (by decide +kernel) ?_ (by simp only [sizeLine]; omega)
  intro l9 h9 k9 e9 st9 le9 il9 F9 N9
  rw [split_text tj ds (by intro h; rw [h] at hn; simp at hn; omega)] at e9
  rw [e9] at st9
  generalize hD9 : s.heap.objs.size = D9 at *
  dsimp only
  k_steps
  unfold Hold
  refine kmk_slice (its := (strValues l9).toArray) (lo := none) (hi := some (-1)) (by k_asm) (by k_asm) il9 (by kmk_part) (by kmk_part) ?_ (by with_unfolding_all rfl) (by kmk_pure) (by rw [List.size_toArray, st9.len_eq]; simp only [sizeLine, List.length_append, List.length_map, List.length_singleton]; omega)
  intro D8 h8 F8 N8 l8
  have hq := pick_init st9
  rw [show slicePick (strValues l9).toArray none (some (-1)) none = (slicePick (strValues l9).toArray none (some (-1)) none).toList.toArray from Array.toArray_toList.symm] at N8
  generalize (slicePick (strValues l9).toArray none (some (-1)) none).toList = qs at hq N8
  (try k_lt l8)
  dsimp only
  k_steps
  unfold Hold
  refine LCg.CompSrc.ledger (by rfl) (by k_asm) (by k_asm) (by k_mem) (by simp [sizeLine, hq.len_eq]; omega) ?_
  intro g''
  refine comp_rest (xs := ds) (fun d v => ∃ t : Tok, v = .int (numS (sentS (tj + 1) d)) t) (fun d v => ∃ t : Tok, v = .str (sentS (tj + 1) d) t) (by simp [hq.len_eq]) ?_ ?_ ?_
  · rintro j v hj hv
    obtain ⟨x, hx, t, rfl⟩ := strs_at hq j v (by simpa using hv)
    rw [List.getElem?_map] at hx
    cases hd : ds[j]? with
    | none => rw [hd] at hx; cases hx
    | some d => rw [hd] at hx; cases hx; exact ⟨_, rfl, t, rfl⟩
  · rintro d v I' oI' C' oC' D' m' ys' h' tk' E' hk ⟨t, rfl⟩ hC' hx' F' N' off' ne'
    k_steps
    unfold Hold
    refine LCg.CompEnd.intro (by assumption) (by assumption) _ (by intro p hp; first | exact hp | exact List.mem_cons_of_mem _ hp) (by assumption) (.inr ⟨_, by k_mem, rfl, _, rfl⟩) ⟨rfl, _, rfl⟩
  · intro ys8 hys
    have hnm := hys.ints
    have mk : Mark := ⟨⟩
    k_steps
    unfold Hold
    (rename Fr _ _ _ _ => FF)
    (rename News _ _ _ _ => NN)
    (rename D8 ≠ _ ∧ _ => oo)
    exact law_C (n := n) (ds := ds) (wo := wo) (us := us) (ss := ss) (tm := tj + 1) ho2 B X T FF (fun p hp => NN p (mem_skip2 hp)) (by simp only [LCg.Off1, and_true]; exact oo.2.2) (by simp only [LCg.Off1, and_true]; exact o2) (by simp only [LCg.Off1, and_true]; exact o1) d6 d7 hwo hwl hwb hnm rfl hss h27 hn hn2 hn5 htm1 htm2 hE hQ
end Mine
end
section
open PySem PySem.W PyProof.Rows PySem.Calls
set_option maxRecDepth 100000
set_option maxHeartbeats 8000000
namespace Mine
local macro_rules | `(tactic| walk_at "execs cons") => `(tactic| (k_here; ((rename Mark2 => mk9); refine hold ?_)))
local macro_rules | `(tactic| walk_at "exec Assign cons ListComp") => `(tactic| (k_here; ((rename Mark => mk9); refine hold ?_)))
local macro_rules | `(tactic| walk_at "execs cons") => `(tactic| (k_here; ((rename Mark => mk9); (show wpAny _ _ (execs (Stmt.Assign _ (Expr.ListComp _ _ _ _) _ :: _) _) _ _ _); refine hold ?_)))
local macro_rules | `(tactic| walk_at "eval ListComp") => `(tactic| (k_here; (refine hold ?_)))
local macro_rules | `(tactic| walk_at "CompSrc") => `(tactic| (k_here; (refine hold ?_)))
local macro_rules | `(tactic| walk_at "CompEnd") => `(tactic| (k_here; (refine hold ?_)))
local macro_rules | `(tactic| walk_at "call builtin:str.join") => `(tactic| (k_here; (refine hold ?_)))
local macro_rules | `(tactic| walk_at "call builtin:len") => `(tactic| (k_here; (with_reducible show wpAny _ _ (call (Value.builtin "len") [Value.ref _]) _ _ _); k_dflt (first | refine len_strsA (News.isList (by k_asm) (by k_mem)) (by assumption) (by omega) ?_ | refine kun_lenL (Fr.lst (by k_asm) (by assumption)) (sizeInts (by assumption)) (by omega) ?_)))
local macro_rules | `(tactic| walk_at "InvEndN") => `(tactic| (k_dflt (kst_close)))
local macro_rules | `(tactic| walk_at "exec For") => `(tactic| (k_here; (refine hold ?_)))
local macro_rules | `(tactic| walk_at "call ref") => `(tactic| (k_here; (show wpAny _ _ (call (Value.ref 48) [Value.str _ _]) _ _ _); k_dflt ((refine' use_clL (quotedata_call _ _ _) ?k1 ?k2 ?k3 ?k4 ?k5 ?k6 ?k7 ?k8 ?k9 ?_); (case k1 => k_asm); (case k2 => k_asm); (case k3 => k_asm); (case k4 => k_asm); (case k5 => k_asm); (case k6 => first | exact rfl | assumption); (case k7 => first | omega | exact Nat.le_trans (text_len (by omega) (by omega)) (by decide)); (case k8 => decide); (case k9 => decide); intro t9 h9 tk9 F9 N9; (try dsimp only); (try k_fold))))
local macro_rules | `(tactic| walk_at "subscriptTail Name Name ref int") => `(tactic| (k_here; k_dflt (first | (refine hold ?_)))) 
local macro_rules | `(tactic| walk_at "binaryOp Add str str") => `(tactic| (k_here; (refine hold ?_)))
local macro_rules | `(tactic| walk_at "subscriptTail Name Slice ref ref") => `(tactic| (k_here; refine hold ?_))
local macro_rules | `(tactic| walk_at "call builtin:sum") => `(tactic| (k_here; refine hold ?_))
theorem mem_skip1 {α : Type} {p a b : α} {l : List α} (h : p ∈ a :: l) : p ∈ a :: b :: l := by
  rcases List.mem_cons.mp h with rfl | h
  · exact List.mem_cons_self
  · exact List.mem_cons_of_mem _ (List.mem_cons_of_mem _ h)
theorem law_B {w : World} {mean : ExcName → Option Value} {mg mb : Str → Option Value} {base h₀ : Heap} {L fa : Addr} {cd oc : Value} {od : Option Addr} {osl : Array (Option Value)} {fd : FuncData} {s : Shared} {Q : Flow → Shared → Prop} {E : Value → Shared → Prop}
    {c1 c2 c3 c4 c5 c6 c7 : Obj} {l : Addr} {vs : List Value} {ns : List Int} {u : Str → Option Value} {sA : Addr} {ss : List Value} {ks n tm : Nat} {ds : List Int} {tt : Tok}
    (ho : (Mine.hd.heap_39 w.params).lookup 121 = some ⟨oc, od, .func fd, osl⟩)
    (B : Below callerA base [] h₀) (X : (Mine.hd.heap_39 w.params).In h₀) (T : Top Mine.hd.view_39 (looseW Mine.hd.view_39 [Str.ofString "_twin_re_1", Str.ofString "_twin_re_2"]) mean mg mb h₀)
    (F : Fr h₀ L s.heap (fun z => if z = Str.ofString "sent" then some (.ref sA) else (fun y => if y = Str.ofString "text" then some (.str (textS tm ds) tt) else u y) z)) (N : News h₀ L s.heap [(sA, W.listOf ss.toArray ks), (L + 1 + 1 + 1 + 1 + 1 + 1 + 1, c7), (L + 1 + 1 + 1 + 1 + 1 + 1, c6), (L + 1 + 1 + 1 + 1 + 1, c5), (L + 1 + 1 + 1 + 1, c4), (L + 1 + 1 + 1, c3), (L + 1 + 1, c2), (L + 1, c1)])
    (o1 : LCg.Off1 sA [(L + 1 + 1 + 1 + 1 + 1 + 1 + 1, c7), (L + 1 + 1 + 1 + 1 + 1 + 1, c6), (L + 1 + 1 + 1 + 1 + 1, c5), (L + 1 + 1 + 1 + 1, c4), (L + 1 + 1 + 1, c3), (L + 1 + 1, c2), (L + 1, c1)])
    (d1 : c1.data = .cell (some (.ref l))) (d5 : c5.data = .cell none) (d6 : c6.data = .cell none) (d7 : c7.data = .cell none)
    (hl : h₀.IsList l vs.toArray) (hi : IntsAre vs ns) (hlen : ns.length ≤ 63)
    (hss : StrsAre ss (ds.map (sentS tm))) (h27 : 27 ∈ ds) (hn : ds.length = n) (hn2 : 2 ≤ n) (hn5 : n ≤ 5) (htm1 : 1 ≤ tm) (htm2 : tm ≤ 2)
    (hE : PassesOwn (model PySem.Challenge.rw_wn0007_01.row.prog w) (callerA.deeper (envOfC fd.qualname fd.scope L fa cd)) (envOfC fd.qualname fd.scope L fa cd) E)
    (hQ : ∀ h' tk m' news', Fr h₀ L h' m' → News h₀ L h' news' → Q (.ret (.bool true)) { s with heap := h', toks := tk }) :
    wpAny (model PySem.Challenge.rw_wn0007_01.row.prog w) (callerA.deeper (envOfC fd.qualname fd.scope L fa cd)) (execs ((bodyOf fd).drop 7) (envOfC fd.qualname fd.scope L fa cd)) Q E s := by
  k_with_none
  w_top off
  revert ho
  k_fill
  intro ho
  have ho2 := ho
  rw [show (Mine.hd.heap_39 w.params).lookup 121 = some _ from by k_is] at ho
  injection ho with ho
  injection ho with _ _ ho _
  injection ho with ho
  subst ho
  unfold bodyOf
  dsimp only [List.drop]
  simp only [LCg.Off1, and_true] at o1
  k_steps
  unfold Hold
  refine LCg.ListComp_U (F₀ := by k_asm) (by with_unfolding_all rfl) (by decide) (by rfl) (by decide) (by rfl) ?_
  k_steps
  unfold Hold
  refine LCg.CompSrc.range (n := 6) (by rfl) (by k_asm) (by k_asm) (by assumption) (by decide) (by decide) (by decide) ?_
  intro g'
  refine comp_rest (xs := rangeKs 0 6) (fun _ v => ∃ (x : Int) (t : Tok), v = .int x t ∧ -1000001 ≤ x ∧ x ≤ 1000001) (fun k v => ∃ t : Tok, v = .int k t) rfl ?_ ?_ ?_
  · rintro j v hj ⟨t, rfl⟩
    exact ⟨_, by simp [rangeKs, hj], t, rfl⟩
  · rintro k v I' oI' C' oC' D' m' ys' h' tk' E' hk ⟨t, rfl⟩ hC' hx' F' N' off' ne'
    obtain ⟨hk0, hk1⟩ := mem_rangeKs hk
    k_steps
    unfold Hold
    refine' kmk_slice3_lit (its := vs.toArray) (lo := some k) (hi := some 63) (st := some 6) (zs := (slicePick vs.toArray (some k) (some 63) (some 6)).toList) ?xF ?xN ?xl ?xp ?xq ?xr ?xz0 rfl ?_ ?xs ?xt ?xz
    case xF => k_asm
    case xN => k_asm
    case xl => exact Fr.lst (by assumption) (by assumption)
    case xp => kmk_part
    case xq => kmk_part
    case xr => kmk_part
    case xz0 => decide
    case xs => with_unfolding_all rfl
    case xt => kmk_pure
    case xz => rw [List.size_toArray, hi.length]; simp only [sizeLine]; omega
    intro D9 h9 F9 N9 l9
    obtain ⟨ms, hms⟩ := pick_ints hi (some k) (some 63) (some 6)
    (try k_lt l9)
    dsimp only
    k_steps
    unfold Hold
    refine sumK (by rfl) (by k_asm) (by k_asm) (News.isList (by k_asm) (by k_mem)) hms ?_
    intro h8 k8 t8 F8 N8
    dsimp only
    k_steps
    unfold Hold
    refine item_intsX (ns := [5, 3, 8, 2, 7, 1]) (News.isList (by k_asm) (by k_mem)) (.cons _ _ (.cons _ _ (.cons _ _ (.cons _ _ (.cons _ _ (.cons _ _ .nil)))))) (by omega) (by simp only [List.length_cons, List.length_nil]; omega) (by omega) ?_
    intro t7
    k_steps
    unfold Hold
    refine LCg.CompEnd.intro (by assumption) (by assumption) _ (by intro p hp; first | exact hp | exact List.mem_cons_of_mem _ hp | exact List.mem_cons_of_mem _ (List.mem_cons_of_mem _ hp)) (by assumption) True.intro ⟨rfl, _, _, rfl, worth_in _⟩
  · intro ys8 hys
    obtain ⟨wo, hwo, hwl, hwb⟩ := hys.someInts
    have mk : Mark := ⟨⟩
    k_steps
    unfold Hold
    (rename Fr _ _ _ _ => FF)
    (rename News _ _ _ _ => NN)
    (rename _ ≠ _ ∧ sA ≠ _ ∧ _ => oo)
    (rename Obj.data _ = Data.cell (some _) => d6)
    exact law_B2 (n := n) (ds := ds) (wo := wo) (ss := ss) (tm := tm) ho2 B X T FF (fun p hp => NN p (mem_skip1 hp)) (by simp only [LCg.Off1, and_true]; exact oo.2) (by simp only [LCg.Off1, and_true]; exact o1) d6 d7 hwo hwl hwb hss h27 hn hn2 hn5 htm1 htm2 hE hQ
end Mine
end
section
open PySem PySem.W PyProof.Rows PySem.Calls
set_option maxRecDepth 100000
set_option maxHeartbeats 8000000
namespace Mine
local macro_rules | `(tactic| walk_at "execs cons") => `(tactic| (k_here; ((rename Mark2 => mk9); refine hold ?_)))
local macro_rules | `(tactic| walk_at "exec Assign cons ListComp") => `(tactic| (k_here; (refine hold ?_)))
local macro_rules | `(tactic| walk_at "eval ListComp") => `(tactic| (k_here; (refine hold ?_)))
local macro_rules | `(tactic| walk_at "CompSrc") => `(tactic| (k_here; (refine hold ?_)))
local macro_rules | `(tactic| walk_at "CompEnd") => `(tactic| (k_here; (refine hold ?_)))
local macro_rules | `(tactic| walk_at "call builtin:str.join") => `(tactic| (k_here; (refine hold ?_)))
local macro_rules | `(tactic| walk_at "call builtin:len") => `(tactic| (k_here; (with_reducible show wpAny _ _ (call (Value.builtin "len") [Value.ref _]) _ _ _); k_dflt (first | refine len_strsA (News.isList (by k_asm) (by k_mem)) (by assumption) (by omega) ?_ | refine kun_lenL (Fr.lst (by k_asm) (by assumption)) (sizeInts (by assumption)) (by omega) ?_)))
local macro_rules | `(tactic| walk_at "InvEndN") => `(tactic| (k_dflt (kst_close)))
local macro_rules | `(tactic| walk_at "exec For") => `(tactic| (k_here; (refine hold ?_)))
local macro_rules | `(tactic| walk_at "call ref") => `(tactic| (k_here; (show wpAny _ _ (call (Value.ref 48) [Value.str _ _]) _ _ _); k_dflt ((refine' use_clL (quotedata_call _ _ _) ?k1 ?k2 ?k3 ?k4 ?k5 ?k6 ?k7 ?k8 ?k9 ?_); (case k1 => k_asm); (case k2 => k_asm); (case k3 => k_asm); (case k4 => k_asm); (case k5 => k_asm); (case k6 => first | exact rfl | assumption); (case k7 => first | omega | exact Nat.le_trans (text_len (by omega) (by omega)) (by decide)); (case k8 => decide); (case k9 => decide); intro t9 h9 tk9 F9 N9; (try dsimp only); (try k_fold))))
local macro_rules | `(tactic| walk_at "subscriptTail Name Name ref int") => `(tactic| (k_here; k_dflt (first | (refine item_strsA (News.isList (by k_asm) (by k_mem)) (by assumption) (by omega) (by omega) (by omega) ?_; intro _)))) 
local macro_rules | `(tactic| walk_at "binaryOp Add str str") => `(tactic| (k_here; (refine hold ?_)))
local macro_rules | `(tactic| walk_at "subscriptTail Name Constant str int") => `(tactic| (k_here; (show wpAny _ _ (subscriptTail _ _ (Value.str (rowS _) _) (Value.int 0 _)) _ _ _); k_dflt (refine item_row0 ?_)))
local macro_rules | `(tactic| walk_at "binaryOp Mult str int") => `(tactic| (k_here; k_dflt (refine mul_dot (by assumption) (by assumption) ?_; intro t9 k9)))
theorem law_A2 {w : World} {mean : ExcName → Option Value} {mg mb : Str → Option Value} {base h₀ : Heap} {L fa : Addr} {cd oc : Value} {od : Option Addr} {osl : Array (Option Value)} {fd : FuncData} {s : Shared} {Q : Flow → Shared → Prop} {E : Value → Shared → Prop}
    {c1 c2 c3 c4 c5 c6 c7 : Obj} {l : Addr} {vs : List Value} {ns : List Int} {u : Str → Option Value} {dA rA : Addr} {ws ys : List Value} {kr n tm : Nat} {tt t4 : Tok} {ds : List Int} {rs : List Str}
    (ho : (Mine.hd.heap_39 w.params).lookup 121 = some ⟨oc, od, .func fd, osl⟩)
    (B : Below callerA base [] h₀) (X : (Mine.hd.heap_39 w.params).In h₀) (T : Top Mine.hd.view_39 (looseW Mine.hd.view_39 [Str.ofString "_twin_re_1", Str.ofString "_twin_re_2"]) mean mg mb h₀)
    (F : Fr h₀ L s.heap (fun y => if y = Str.ofString "text" then some (.str (textS tm ds) tt) else u y)) (N : News h₀ L s.heap [(rA, W.listOf ys.toArray kr), (dA, W.listOf ws.toArray 0), (L + 1 + 1 + 1 + 1 + 1 + 1 + 1, c7), (L + 1 + 1 + 1 + 1 + 1 + 1, c6), (L + 1 + 1 + 1 + 1 + 1, c5), (L + 1 + 1 + 1 + 1, c4), (L + 1 + 1 + 1, c3), (L + 1 + 1, c2), (L + 1, c1)])
    (o1 : LCg.Off1 rA [(dA, W.listOf ws.toArray 0), (L + 1 + 1 + 1 + 1 + 1 + 1 + 1, c7), (L + 1 + 1 + 1 + 1 + 1 + 1, c6), (L + 1 + 1 + 1 + 1 + 1, c5), (L + 1 + 1 + 1 + 1, c4), (L + 1 + 1 + 1, c3), (L + 1 + 1, c2), (L + 1, c1)])
    (o2 : LCg.Off1 dA [(L + 1 + 1 + 1 + 1 + 1 + 1 + 1, c7), (L + 1 + 1 + 1 + 1 + 1 + 1, c6), (L + 1 + 1 + 1 + 1 + 1, c5), (L + 1 + 1 + 1 + 1, c4), (L + 1 + 1 + 1, c3), (L + 1 + 1, c2), (L + 1, c1)])
    (d1 : c1.data = .cell (some (.ref l))) (d2 : c2.data = .cell (some (.ref dA))) (d3 : c3.data = .cell (some (.ref rA))) (d4 : c4.data = .cell (some (.int (tm : Int) t4))) (htm1 : 1 ≤ tm) (htm2 : tm ≤ 2) (d5 : c5.data = .cell none) (d6 : c6.data = .cell none) (d7 : c7.data = .cell none)
    (hl : h₀.IsList l vs.toArray) (hi : IntsAre vs ns) (hlen : ns.length ≤ 63)
    (h27 : 27 ∈ ds) (hdr : IntsAre ws ds) (hrs : StrsAre ys rs) (hn : ds.length = n) (hn2 : 2 ≤ n) (hn5 : n ≤ 5) (hr : rs = ds.map rowS)
    (hE : PassesOwn (model PySem.Challenge.rw_wn0007_01.row.prog w) (callerA.deeper (envOfC fd.qualname fd.scope L fa cd)) (envOfC fd.qualname fd.scope L fa cd) E)
    (hQ : ∀ h' tk m' news', Fr h₀ L h' m' → News h₀ L h' news' → Q (.ret (.bool true)) { s with heap := h', toks := tk }) :
    wpAny (model PySem.Challenge.rw_wn0007_01.row.prog w) (callerA.deeper (envOfC fd.qualname fd.scope L fa cd)) (execs ((bodyOf fd).drop 5) (envOfC fd.qualname fd.scope L fa cd)) Q E s := by
  k_with_none
  w_top off
  revert ho
  k_fill
  intro ho
  have ho2 := ho
  rw [show (Mine.hd.heap_39 w.params).lookup 121 = some _ from by k_is] at ho
  injection ho with ho
  injection ho with _ _ ho _
  injection ho with ho
  subst ho
  unfold bodyOf
  dsimp only [List.drop]
  simp only [LCg.Off1, and_true] at o1 o2
  have hrn : rs.length = n := by rw [hr, List.length_map, hn]
  k_steps
  unfold Hold
  refine LCg.Assign_ListComp_U (F₀ := by k_asm) (by rfl) (by with_unfolding_all rfl) (by with_unfolding_all rfl) (by decide) (by rfl) (by decide) (by rfl) (by rfl) (by rfl) ?_
  k_steps
  unfold Hold
  refine LCg.CompSrc.ledger (by rfl) (by k_asm) (by k_asm) (by k_mem) (by simp [sizeLine, hrs.len_eq]; omega) ?_
  intro g'
  refine comp_rest (xs := ds) (fun d v => ∃ t : Tok, v = .str (sentS tm d) t) (fun d v => ∃ t : Tok, v = .str (rowS d) t) (by simp [hrs.len_eq, hn, hrn]) ?_ ?_ ?_
  · rintro j v hj hv
    obtain ⟨x, hx, t, rfl⟩ := strs_at hrs j v (by simpa using hv)
    rw [hr, List.getElem?_map] at hx
    cases hd : ds[j]? with
    | none => rw [hd] at hx; cases hx
    | some d => rw [hd] at hx; cases hx; exact ⟨_, rfl, t, rfl⟩
  · rintro d v I' oI' C' oC' D' m' ys' h' tk' E' hk ⟨t, rfl⟩ hC' hx' F' N' off' ne'
    k_steps
    · unfold Hold
      refine add_str (fun t8 k8 => ?_) (by show (List.replicate tm 46).toArray.size + 4 ≤ _; simp only [List.size_toArray, List.length_replicate, sizeLine]; omega)
      rw [sentS_T (by assumption)]
      k_steps
      unfold Hold
      refine LCg.CompEnd.intro (by assumption) (by assumption) _ (by intro p hp; first | exact hp | exact List.mem_cons_of_mem _ hp) (by assumption) (.inr ⟨_, by k_mem, rfl, _, rfl⟩) ⟨rfl, _, rfl⟩
    · unfold Hold
      refine add_str (fun t8 k8 => ?_) (by rw [nil_str]; show 0 + 4 ≤ _; decide)
      rw [sentS_F (by assumption)]
      k_steps
      unfold Hold
      refine LCg.CompEnd.intro (by assumption) (by assumption) _ (by intro p hp; first | exact hp | exact List.mem_cons_of_mem _ hp) (by assumption) (.inr ⟨_, by k_mem, rfl, _, rfl⟩) ⟨rfl, _, rfl⟩
  · intro ys8 hys
    have hst := hys.strs
    k_steps
    unfold Hold
    refine LCg.ListComp_U (F₀ := by k_asm) (by with_unfolding_all rfl) (by decide) (by rfl) (by decide) (by rfl) ?_
    k_steps
    unfold Hold
    refine LCg.CompSrc.ledger (by rfl) (by k_asm) (by k_asm) (by k_mem) (by simp [sizeLine, hst.len_eq]; omega) ?_
    intro g''
    refine comp_rest (xs := ds) (fun d v => ∃ t : Tok, v = .str (blockS tm d) t) (fun d v => ∃ t : Tok, v = .str (sentS tm d) t) (by simp [hst.len_eq]) ?_ ?_ ?_
    · rintro j v hj hv
      exact hys.at j v (by simpa using hv)
    · rintro d v I' oI' C' oC' D' m' ys' h' tk' E' hk ⟨t, rfl⟩ hC' hx' F' N' off' ne'
      k_steps
      unfold Hold
      refine add_str (fun t8 k8 => ?_) (by refine Nat.le_trans (Nat.add_le_add (sentS_len _ _) (show (Str.ofString "\r\n").length ≤ 2 by decide +kernel)) ?_; simp only [sizeLine]; omega)
      k_steps
      unfold Hold
      refine LCg.CompEnd.intro (by assumption) (by assumption) _ (by intro p hp; first | exact hp | exact List.mem_cons_of_mem _ hp) (by assumption) (.inr ⟨_, by k_mem, rfl, _, rfl⟩) ⟨rfl, _, rfl⟩
    · intro ys9 hys9
      have hst9 := hys9.strs
      k_steps
      unfold Hold
      refine join_listW (News.isList (by k_asm) (by k_mem)) hst9 (by decide) (Nat.le_trans (wt_ones _ _ 8 fun a _ => Nat.le_trans (block_len _ _) (by omega)) (by rw [hn]; omega)) ?_
      intro t8 k8
      rw [show Txt.join (Str.ofString "") (ds.map (blockS tm)) = textS tm ds from by rw [nil_str]; obtain ⟨j, rfl⟩ : ∃ j, tm = j + 1 := ⟨tm - 1, by omega⟩; rfl]
      have m2 : Mark2 := ⟨⟩
      k_steps
      · exact absurd (show (textS tm ds != textS tm ds) = true by assumption) (by simp)
      · unfold Hold
        (rename Fr _ _ _ _ => FF)
        (rename News _ _ _ _ => NN)
        (rename rA ≠ _ ∧ dA ≠ _ ∧ _ => oo)
        exact law_B (n := n) (ds := ds) (ss := ys8) (tm := tm) ho2 B X T FF (fun p hp => NN p (List.mem_cons_of_mem _ (mem_skip2 hp))) (by simp only [LCg.Off1, and_true]; exact oo.2.2) d1 d5 d6 d7 hl hi hlen hst h27 hn hn2 hn5 htm1 htm2 hE hQ
end Mine
end
section
open PySem PySem.W PyProof.Rows PySem.Calls
set_option maxRecDepth 100000
set_option maxHeartbeats 8000000
namespace Mine
local macro_rules | `(tactic| walk_at "execs cons") => `(tactic| (k_here; ((rename Mark2 => mk9); refine hold ?_)))
local macro_rules | `(tactic| walk_at "execs cons") => `(tactic| (k_here; (show wpAny _ _ (execs (Stmt.Assign _ (Expr.ListComp _ _ _ _) _ :: _) _) _ _ _); refine hold ?_))
local macro_rules | `(tactic| walk_at "exec Assign cons ListComp") => `(tactic| (k_here; (refine hold ?_)))
local macro_rules | `(tactic| walk_at "eval ListComp") => `(tactic| (k_here; (refine hold ?_)))
local macro_rules | `(tactic| walk_at "CompSrc") => `(tactic| (k_here; (refine hold ?_)))
local macro_rules | `(tactic| walk_at "CompEnd") => `(tactic| (k_here; (refine hold ?_)))
local macro_rules | `(tactic| walk_at "call builtin:str.join") => `(tactic| (k_here; (refine hold ?_)))
local macro_rules | `(tactic| walk_at "call builtin:len") => `(tactic| (k_here; (with_reducible show wpAny _ _ (call (Value.builtin "len") [Value.ref _]) _ _ _); k_dflt (first | refine len_strsA (News.isList (by k_asm) (by k_mem)) (by assumption) (by omega) ?_ | refine kun_lenL (Fr.lst (by k_asm) (by assumption)) (sizeInts (by assumption)) (by omega) ?_)))
local macro_rules | `(tactic| walk_at "InvEndN") => `(tactic| (k_dflt (kst_close)))
local macro_rules | `(tactic| walk_at "exec For") => `(tactic| (k_here; (refine hold ?_)))
local macro_rules | `(tactic| walk_at "call ref") => `(tactic| (k_here; (show wpAny _ _ (call (Value.ref 48) [Value.str _ _]) _ _ _); k_dflt ((refine' use_clL (quotedata_call _ _ _) ?k1 ?k2 ?k3 ?k4 ?k5 ?k6 ?k7 ?k8 ?k9 ?_); (case k1 => k_asm); (case k2 => k_asm); (case k3 => k_asm); (case k4 => k_asm); (case k5 => k_asm); (case k6 => first | exact rfl | assumption); (case k7 => first | omega | exact Nat.le_trans (text_len (by omega) (by omega)) (by decide)); (case k8 => decide); (case k9 => decide); intro t9 h9 tk9 F9 N9; (try dsimp only); (try k_fold))))
local macro_rules | `(tactic| walk_at "subscriptTail Name Name ref int") => `(tactic| (k_here; k_dflt (first | (refine item_strsA (News.isList (by k_asm) (by k_mem)) (by assumption) (by omega) (by omega) (by omega) ?_; intro _)))) 
local macro_rules | `(tactic| walk_at "binaryOp Add str str") => `(tactic| (k_here; (refine hold ?_)))
theorem law_A {w : World} {mean : ExcName → Option Value} {mg mb : Str → Option Value} {base h₀ : Heap} {L fa : Addr} {cd oc : Value} {od : Option Addr} {osl : Array (Option Value)} {fd : FuncData} {s : Shared} {Q : Flow → Shared → Prop} {E : Value → Shared → Prop}
    {c1 c2 c3 c4 c5 c6 c7 : Obj} {l : Addr} {vs : List Value} {ns : List Int} {u : Str → Option Value} {dA rA : Addr} {ws ys : List Value} {kr n : Nat} {ds : List Int} {rs : List Str}
    (ho : (Mine.hd.heap_39 w.params).lookup 121 = some ⟨oc, od, .func fd, osl⟩)
    (B : Below callerA base [] h₀) (X : (Mine.hd.heap_39 w.params).In h₀) (T : Top Mine.hd.view_39 (looseW Mine.hd.view_39 [Str.ofString "_twin_re_1", Str.ofString "_twin_re_2"]) mean mg mb h₀)
    (F : Fr h₀ L s.heap u) (N : News h₀ L s.heap [(rA, W.listOf ys.toArray kr), (dA, W.listOf ws.toArray 0), (L + 1 + 1 + 1 + 1 + 1 + 1 + 1, c7), (L + 1 + 1 + 1 + 1 + 1 + 1, c6), (L + 1 + 1 + 1 + 1 + 1, c5), (L + 1 + 1 + 1 + 1, c4), (L + 1 + 1 + 1, c3), (L + 1 + 1, c2), (L + 1, c1)])
    (o1 : LCg.Off1 rA [(dA, W.listOf ws.toArray 0), (L + 1 + 1 + 1 + 1 + 1 + 1 + 1, c7), (L + 1 + 1 + 1 + 1 + 1 + 1, c6), (L + 1 + 1 + 1 + 1 + 1, c5), (L + 1 + 1 + 1 + 1, c4), (L + 1 + 1 + 1, c3), (L + 1 + 1, c2), (L + 1, c1)])
    (o2 : LCg.Off1 dA [(L + 1 + 1 + 1 + 1 + 1 + 1 + 1, c7), (L + 1 + 1 + 1 + 1 + 1 + 1, c6), (L + 1 + 1 + 1 + 1 + 1, c5), (L + 1 + 1 + 1 + 1, c4), (L + 1 + 1 + 1, c3), (L + 1 + 1, c2), (L + 1, c1)])
    (d1 : c1.data = .cell (some (.ref l))) (d2 : c2.data = .cell (some (.ref dA))) (d3 : c3.data = .cell (some (.ref rA))) (d4 : c4.data = .cell none) (d5 : c5.data = .cell none) (d6 : c6.data = .cell none) (d7 : c7.data = .cell none)
    (hl : h₀.IsList l vs.toArray) (hi : IntsAre vs ns) (hlen : ns.length ≤ 63)
    (h27 : 27 ∈ ds) (hdr : IntsAre ws ds) (hrs : StrsAre ys rs) (hn : ds.length = n) (hn2 : 2 ≤ n) (hn5 : n ≤ 5) (hr : rs = ds.map rowS)
    (hE : PassesOwn (model PySem.Challenge.rw_wn0007_01.row.prog w) (callerA.deeper (envOfC fd.qualname fd.scope L fa cd)) (envOfC fd.qualname fd.scope L fa cd) E)
    (hQ : ∀ h' tk m' news', Fr h₀ L h' m' → News h₀ L h' news' → Q (.ret (.bool true)) { s with heap := h', toks := tk }) :
    wpAny (model PySem.Challenge.rw_wn0007_01.row.prog w) (callerA.deeper (envOfC fd.qualname fd.scope L fa cd)) (execs ((bodyOf fd).drop 2) (envOfC fd.qualname fd.scope L fa cd)) Q E s := by
  k_with_none
  w_top off
  revert ho
  k_fill
  intro ho
  have ho2 := ho
  rw [show (Mine.hd.heap_39 w.params).lookup 121 = some _ from by k_is] at ho
  injection ho with ho
  injection ho with _ _ ho _
  injection ho with ho
  subst ho
  unfold bodyOf
  dsimp only [List.drop]
  simp only [LCg.Off1, and_true] at o1 o2
  have hrn : rs.length = n := by rw [hr, List.length_map, hn]
  have hm0 : 0 ≤ (ns.length : Int).fmod 2 := by rw [Int.fmod_eq_emod_of_nonneg _ (by decide)]; omega
  have hm2 : (ns.length : Int).fmod 2 < 2 := by rw [Int.fmod_eq_emod_of_nonneg _ (by decide)]; omega
  have hrg : ∀ j, j < n → rs.getD j Str.empty = rowS (ds.getD j 0) := by
    intro j hj
    subst hr
    simp [hn, hj]
  k_steps
  unfold Hold
  refine LCg.ListComp_U (F₀ := by k_asm) (by with_unfolding_all rfl) (by decide) (by rfl) (by decide) (by rfl) ?_
  k_steps
  unfold Hold
  refine LCg.CompSrc.range (n := n) (by rfl) (by k_asm) (by k_asm) (by assumption) (small_one (by omega) (by omega) (by omega) (by omega)) (by rw [rangeSize_nat]; omega) (by simp only [sizeLine]; omega) ?_
  intro g'
  refine comp_rest (xs := rangeKs 0 n) (fun k v => ∃ t : Tok, v = .str (pieceS (ds.getD k.toNat 0)) t) (fun k v => ∃ t : Tok, v = .int k t) (rangeKs_length 0 n) ?_ ?_ ?_
  · rintro j v hj ⟨t, rfl⟩
    exact ⟨_, by simp [rangeKs, hj], t, rfl⟩
  · rintro k v I' oI' C' oC' D' m' ys' h' tk' E' hk ⟨t, rfl⟩ hC' hx' F' N' off' ne'
    obtain ⟨hk0, hk1⟩ := mem_rangeKs hk
    have hrk := hrg k.toNat (by omega)
    k_steps
    all_goals
      unfold Hold
      rw [hrk]
      refine add_str (fun t8 k8 => ?_) (by refine Nat.le_trans (m := 4 + 2) (Nat.add_le_add (Nat.le_refl 4) ?_) (by decide); decide +kernel)
      k_steps
      unfold Hold
    · refine LCg.CompEnd.intro (by assumption) (by assumption) _ (by intro p hp; first | exact hp | exact List.mem_cons_of_mem _ hp) (by assumption) True.intro ⟨rfl, _, congrArg (Value.str · _) (congrArg _ (end_0 (by assumption)))⟩
    · refine LCg.CompEnd.intro (by assumption) (by assumption) _ (by intro p hp; first | exact hp | exact List.mem_cons_of_mem _ hp) (by assumption) True.intro ⟨rfl, _, congrArg (Value.str · _) (congrArg _ (end_1 (by assumption)))⟩
    · refine LCg.CompEnd.intro (by assumption) (by assumption) _ (by intro p hp; first | exact hp | exact List.mem_cons_of_mem _ hp) (by assumption) True.intro ⟨rfl, _, congrArg (Value.str · _) (congrArg _ (end_2 (by assumption)))⟩
  · intro ys8 hys
    have hst := hys.strs
    k_steps
    unfold Hold
    refine join_listW (News.isList (by k_asm) (by k_mem)) hst (by decide) (Nat.le_trans (wt_ones _ _ 6 fun a _ => piece_len _) (by rw [rangeKs_length]; omega)) ?_
    intro t8 k8
    rw [show Txt.join (Str.ofString "") ((rangeKs 0 n).map fun k => pieceS (ds.getD k.toNat 0)) = textS 0 ds from by rw [nil_str, ← hn, map_range_get]; rfl]
    have m2 : Mark2 := ⟨⟩
    k_steps
    unfold Hold
    (rename Mark2 => m2); clear m2
    k_with "pyIter ref" => k_state (fun pre text => text = textS pre.length ds ∧ text.length ≤ 100) "text"
    k_with "state" => first | exact ⟨rfl, text_len (by omega) (by omega)⟩ | refine hold ?_
    k_steps
    · (rename News _ _ _ _ => nE')
      refine kst_end ⟨_, _⟩ (by assumption) nE' (by first | kst_in | kst_inAny) (by first | (intro p hp; kst_mem) | kst_anyIn) (by rfl) (by kst_facts) (by kst_all) (by kst_same) ?_
      dsimp only
      refine text_turn (by assumption) ?_ ?_
      · omega
      · omega
    unfold Hold
    (rename Obj.data _ = Data.cell (some _) => d4')
    (rename Str => tx)
    (rename tx = textS _ ds => htx)
    obtain ⟨tm, htm, ht1, ht2⟩ : ∃ tm : Nat, 1 + (ns.length : Int).fmod 2 = (tm : Int) ∧ 1 ≤ tm ∧ tm ≤ 2 := ⟨(1 + (ns.length : Int).fmod 2).toNat, by omega, by omega, by omega⟩
    rw [rangeKs_length, Int.sub_zero, htm, Int.toNat_natCast] at htx
    subst htx
    rw [htm] at d4'
    have kF2 := fr_as (x := Str.ofString "text") (v := .str (textS tm ds) _) kFr (by rfl)
    exact law_A2 (n := n) (ds := ds) (ys := ys) (ws := ws) (rs := rs) (tm := tm) ho2 B X T kF2 (fun p hp => kNews p (List.mem_cons_of_mem _ hp)) (by simp only [LCg.Off1, and_true]; exact o1) (by simp only [LCg.Off1, and_true]; exact o2) d1 d2 d3 d4' ht1 ht2 d5 d6 d7 hl hi hlen h27 hdr hrs hn hn2 hn5 hr hE hQ
end Mine
end
section
open PySem PySem.W PyProof.Rows PySem.Calls
set_option maxRecDepth 100000
set_option maxHeartbeats 8000000
namespace Mine
local macro_rules | `(tactic| walk_at "execs cons") => `(tactic| (k_here; ((rename Mark2 => mk9); refine hold ?_)))
local macro_rules | `(tactic| walk_at "eval ListComp") => `(tactic| (k_here; (show wpAny _ _ (eval (Expr.ListComp (Expr.Call (Expr.Attribute _ _ _) _ _ _) _ _ _) _) _ _ _); refine hold ?_))
local macro_rules | `(tactic| walk_at "eval ListComp") => `(tactic| (k_here; ((rename Mark => mk9); refine hold ?_)))
local macro_rules | `(tactic| walk_at "CompSrc") => `(tactic| (k_here; ((rename Mark => mk9); refine hold ?_)))
local macro_rules | `(tactic| walk_at "CompEnd") => `(tactic| (k_here; ((rename Mark => mk9); refine hold ?_)))
local macro_rules | `(tactic| walk_at "call builtin:str.join") => `(tactic| (k_here; ((rename Mark => mk9); refine hold ?_)))
theorem mem_skip5 {α : Type} {p a b c d e : α} {l : List α} (h : p ∈ a :: b :: l) : p ∈ a :: b :: c :: d :: e :: l := by
  rcases List.mem_cons.mp h with rfl | h
  · exact List.mem_cons_self
  · rcases List.mem_cons.mp h with rfl | h
    · exact List.mem_cons_of_mem _ List.mem_cons_self
    · exact List.mem_cons_of_mem _ (List.mem_cons_of_mem _ (List.mem_cons_of_mem _ (List.mem_cons_of_mem _ (List.mem_cons_of_mem _ h))))
theorem law_body {w : World} {mean : ExcName → Option Value} {mg mb : Str → Option Value} {base h₀ : Heap} {L fa : Addr} {cd oc : Value} {od : Option Addr} {osl : Array (Option Value)} {fd : FuncData} {s : Shared} {Q : Flow → Shared → Prop} {E : Value → Shared → Prop}
    {c1 c2 c3 c4 c5 c6 c7 : Obj} {l : Addr} {vs : List Value} {ns : List Int} {u : Str → Option Value}
    (ho : (Mine.hd.heap_39 w.params).lookup 121 = some ⟨oc, od, .func fd, osl⟩)
    (B : Below callerA base [] h₀) (X : (Mine.hd.heap_39 w.params).In h₀) (T : Top Mine.hd.view_39 (looseW Mine.hd.view_39 [Str.ofString "_twin_re_1", Str.ofString "_twin_re_2"]) mean mg mb h₀)
    (F : Fr h₀ L s.heap u) (N : News h₀ L s.heap [(L + 1 + 1 + 1 + 1 + 1 + 1 + 1, c7), (L + 1 + 1 + 1 + 1 + 1 + 1, c6), (L + 1 + 1 + 1 + 1 + 1, c5), (L + 1 + 1 + 1 + 1, c4), (L + 1 + 1 + 1, c3), (L + 1 + 1, c2), (L + 1, c1)])
    (d1 : c1.data = .cell (some (.ref l))) (d2 : c2.data = .cell none) (d3 : c3.data = .cell none) (d4 : c4.data = .cell none) (d5 : c5.data = .cell none) (d6 : c6.data = .cell none) (d7 : c7.data = .cell none)
    (hl : h₀.IsList l vs.toArray) (hi : IntsAre vs ns) (hlen : ns.length ≤ 63)
    (hE : PassesOwn (model PySem.Challenge.rw_wn0007_01.row.prog w) (callerA.deeper (envOfC fd.qualname fd.scope L fa cd)) (envOfC fd.qualname fd.scope L fa cd) E)
    (hQ : ∀ h' tk m' news', Fr h₀ L h' m' → News h₀ L h' news' → Q (.ret (.bool true)) { s with heap := h', toks := tk }) :
    wpAny (model PySem.Challenge.rw_wn0007_01.row.prog w) (callerA.deeper (envOfC fd.qualname fd.scope L fa cd)) (execs (bodyOf fd) (envOfC fd.qualname fd.scope L fa cd)) Q E s := by
  k_with_none
  w_top off
  revert ho
  k_fill
  intro ho
  have ho2 := ho
  rw [show (Mine.hd.heap_39 w.params).lookup 121 = some _ from by k_is] at ho
  injection ho with ho
  injection ho with _ _ ho _
  injection ho with ho
  subst ho
  unfold bodyOf
  dsimp only
  k_steps
  unfold Hold
  have mk : Mark := ⟨⟩
  refine ListComp_UC (fun i v => ∃ (n : Int) (t : Tok), (drawnOf ns)[i]? = some n ∧ v = .str (rowS n) t) (by k_asm) (by with_unfolding_all rfl) (by rfl) (by rfl) (by decide) ?_
  k_steps
  (rename IntsAre _ (_ ++ _) => hdr)
  refine SrcC.ledger (by rfl) (by k_asm) (by k_asm) (by k_mem) (by simp [sizeLine, hdr.length]; omega) ?_ ?_
  · intro i v I oI C oC D X oX ys h tk E' hv hcell F' N' off ne
    obtain ⟨n, hn, t, rfl⟩ := ints_at hdr i v (by simpa using hv)
    k_steps
    unfold Hold
    refine LCg.ListComp_U (F₀ := by k_asm) (by with_unfolding_all rfl) (by decide) (by rfl) (by decide) (by rfl) ?_
    k_steps
    unfold Hold
    refine LCg.CompSrc.range (by rfl) (by k_asm) (by k_asm) (by assumption) (by decide) (by rfl) (by decide) ?_
    intro g'
    refine comp_rest (xs := rangeKs 0 4) (fun k v => ∃ t : Tok, v = .str ⟨#[sg n k]⟩ t) (fun k v => ∃ t : Tok, v = .int k t) rfl ?_ ?_ ?_
    · rintro j v hj ⟨t, rfl⟩
      exact ⟨_, by simp [rangeKs, hj], t, rfl⟩
    · rintro k v I' oI' C' oC' D' m' ys' h' tk' E' hk ⟨t, rfl⟩ hC' hx' F' N' off' ne'
      have hk' := mem_rangeKs hk
      obtain ⟨hk0, hk1⟩ := hk'
      k_steps
      · unfold Hold
        refine LCg.CompEnd.intro (by assumption) (by assumption) _ (fun p hp => hp) (by assumption) True.intro ⟨rfl, _, congrArg (Value.str · _) (sg_T (by assumption))⟩
      · unfold Hold
        refine LCg.CompEnd.intro (by assumption) (by assumption) _ (fun p hp => hp) (by assumption) True.intro ⟨rfl, _, congrArg (Value.str · _) (sg_F (by assumption))⟩
    · intro ys8 hys
      have hst := hys.strs
      k_steps
      unfold Hold
      refine join_listW (News.isList (by k_asm) (by k_mem)) hst (by decide) (Nat.le_trans (wt_ones _ _ 1 fun a _ => Nat.le_refl 1) (by decide)) ?_
      intro t8 k8
      rw [row_join]
      k_steps
      unfold Hold
      refine LCg.CompEnd.intro (by assumption) (by assumption) _ (fun p hp => List.mem_cons_of_mem _ hp) (by assumption) True.intro ⟨rfl, n, _, hn, rfl⟩
  · intro D ys h tk hyl hR F' N' off
    simp only [LCg.Off1, and_true] at off
    dsimp only
    have m2 : Mark2 := ⟨⟩
    k_steps
    unfold Hold
    (rename _ < _ ∧ _ < _ ∧ _ < _ ∧ _ < _ ∧ _ < _ ∧ _ < _ ∧ _ < _ ∧ _ < _ ∧ _ < _ ∧ _ < _ => lts)
    (rename Fr _ _ _ _ => FF)
    (rename News _ _ _ _ => NN)
    obtain ⟨_, _, _, q1, q2, q3, q4, q5, q6, q7⟩ := lts
    have hlen2 : ys.length = (drawnOf ns).length := by rw [hyl, List.size_toArray, hdr.length]; rfl
    have hdl : (drawnOf ns).length = min 3 ns.length + 2 := by simp [drawnOf]
    exact law_A (n := (drawnOf ns).length) (ds := drawnOf ns) (rs := (drawnOf ns).map rowS) (ns := ns) (vs := vs) (ys := ys) ho2 B X T FF (fun p hp => NN p (mem_skip5 hp)) (by simp only [LCg.Off1, and_true]; exact ⟨off.1, off.2.2.2.2⟩) (by simp only [LCg.Off1, and_true]; exact ⟨Nat.ne_of_lt q1, Nat.ne_of_lt q2, Nat.ne_of_lt q3, Nat.ne_of_lt q4, Nat.ne_of_lt q5, Nat.ne_of_lt q6, Nat.ne_of_lt q7⟩) d1 (by assumption) (by assumption) d4 d5 d6 d7 hl hi hlen (by simp [drawnOf]) hdr (strs_of hlen2 hR) rfl (by omega) (by omega) rfl hE hQ
end Mine
end
section
open PySem PySem.W PyProof.Rows PySem.Calls
set_option maxRecDepth 100000
set_option maxHeartbeats 8000000
namespace Mine
local macro_rules | `(tactic| walk_at "execs cons") => `(tactic| (k_here; refine hold ?_))
theorem final : PySem.Challenge.rw_wn0007_01.Holds := by
  k_with_none
  w_top off
  refine Mine.hd ?_
  k_go0
  all_goals (try k_fold)
  k_steps
  unfold Hold
  (rename Fr _ _ _ _ => F0)
  (rename News _ _ _ _ => N0)
  (rename Frag.In _ _ => KX)
  (rename Below _ _ _ _ => K0)
  (rename Top _ _ _ _ _ _ => T0)
  (rename IntsAre _ _ => hI)
  (rename Heap.IsList _ _ _ => hL)
  (rename ¬ _ < _ => hc)
  (rename World => ww)
  have ho := (show (Mine.hd.heap_39 (World.params ww)).lookup 121 = some _ from by k_is)
  refine law_body ho K0 KX T0 F0 N0 ?d1 ?d2 ?d3 ?d4 ?d5 ?d6 ?d7 hL hI (by omega) ?hE ?hQ
  case d1 => with_unfolding_all assumption
  case d2 => with_unfolding_all assumption
  case d3 => with_unfolding_all assumption
  case d4 => with_unfolding_all assumption
  case d5 => with_unfolding_all assumption
  case d6 => with_unfolding_all assumption
  case d7 => with_unfolding_all assumption
  case hE => passes_own
  case hQ =>
    intro h' tk m' news' F' N'
    k_steps
  all_goals w_report
end Mine
end
theorem PySem.Challenge.cw_wn0007_01_holds : PySem.Challenge.rw_wn0007_01.Holds :=
  Mine.final
