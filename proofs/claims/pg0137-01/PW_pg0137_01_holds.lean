import PyProof.Rows.All
import Wide.All
import OpenK.AllK
import Wide.FinOn
import PySem.Challenge.RW_pg0137_01
set_option Elab.async false
set_option rowWalk.seconds 0
set_option compiler.extract_closed false
theorem Mine.resetHd : True := by
  w_top off
  exact True.intro
-- text Hd
section
open PySem PySem.W PyProof.Rows
set_option maxRecDepth 100000
set_option maxHeartbeats 8000000
namespace Mine
open_top hd for PySem.Challenge.rw_pg0137_01
/-- the names that the view leaves loose, as the head hands them on -/
noncomputable def looL : List Str :=
  looseW hd.view_39 [Str.ofString "insort_right", Str.ofString "bisect_right", Str.ofString "_twin_re_1", Str.ofString "_twin_re_2"] ++ List.map (fun x => x.name) (recsOf hd.view_39) ++ List.map (fun x => x.fst) (litsOf hd.view_39) ++
    List.map (fun x => x.name) (clssOf hd.view_39 (looseW hd.view_39 [Str.ofString "insort_right", Str.ofString "bisect_right", Str.ofString "_twin_re_1", Str.ofString "_twin_re_2"]))
end Mine
end
theorem Mine.resetRe1 : True := by
  w_top off
  exact True.intro
-- text Re1
section
open PySem PySem.W PyProof.Rows PySem.Spec PySem.Calls
set_option maxRecDepth 100000
namespace Mine
theorem slot_sub : Slot "re.Pattern" "sub" "re.Pattern.sub" :=
  .of (owner := "re.Pattern") (n := "sub") (by rw [typeLookup_type, builtinLookup_eq_fast]; kernel_rfl) (by decide +kernel) (by decide +kernel) (by decide +kernel)
    (by first | exact .inl (by decide +kernel) | exact .inr (by decide +kernel)) (by rw [isSubtype_type]; kernel_rfl)
theorem type_sub : typeOf (.builtin "re.Pattern.sub") = pure (.type "method_descriptor") := by show builtinType _ = _; rw [builtinType_eq_fast]; kernel_rfl
theorem entry_sub : entryFor table "re.Pattern.sub" = some Builtin.«re.Pattern.sub» := entryFor_of_tree (by kernel_rfl)
theorem entry_loop : entryFor table "re.Pattern.sub.loop" = some Builtin.«re.Pattern.sub.loop» := entryFor_of_tree (by kernel_rfl)
theorem plain_pat : PlainAttrs "re.Pattern" := ⟨⟨"object.__getattribute__", by rw [typeLookup_type, builtinLookup_eq_fast]; kernel_rfl, by decide +kernel⟩, by rw [typeLookup_type, builtinLookup_eq_fast]; kernel_rfl⟩

theorem args_sub (a b c : Value) : argsOk "re.Pattern.sub" ⟨[a, b, c], []⟩ := by
  unfold argsOk; kernel_rfl
end Mine
end
theorem Mine.resetRe2 : True := by
  w_top off
  exact True.intro
-- text Re2
section
open PySem
set_option maxRecDepth 100000
namespace Mine
noncomputable def c1 : Array Nat := #[14,4,0,1,1,6,1,16,46,1]
noncomputable def c2 : Array Nat := #[14,9,4,1,2,16,10,16,13,0,7,7,16,13,16,10,15,18,5,16,10,15,13,11,16,13,5,5,0,16,10,1,15,2,0,1]

theorem runFor_add (n k : Nat) (m : Sre.M) : Sre.M.runFor (n + k) m = Sre.M.runFor n (Sre.M.runFor k m) := by
  induction k generalizing m with
  | zero => rfl
  | succ k ih =>
    show (if m.outcome.isSome then m else Sre.M.runFor (n + k) m.step) = Sre.M.runFor n (if m.outcome.isSome then m else Sre.M.runFor k m.step)
    cases h : m.outcome.isSome with
    | true =>
      simp only [if_true]
      cases n with
      | zero => rfl
      | succ n => show m = if m.outcome.isSome then m else _; rw [h]; rfl
    | false => simp only [Bool.false_eq_true, if_false]; exact ih m.step
theorem runFor_done (n : Nat) (m : Sre.M) (h : m.outcome.isSome = true) : Sre.M.runFor n m = m := by
  cases n with
  | zero => rfl
  | succ n => show (if m.outcome.isSome then m else _) = m; rw [h]; rfl

/-- the machine for the dot at a line's head, about to look at place s -/
noncomputable def B1 (text : Array Nat) (lim s : Nat) (first must : Bool) (seen : Sre.Seen) : Sre.M :=
  { code := c1, text, lim, start := s, lastStart := lim, wholeText := false, mustAdvance := must, pc := 5, pos := s, handed := s, outermost := first, marks := #[], lastmark := -1, lastindex := -1, loops := #[], inner := none,
    frames := [{ wait := .nextStart, pc := 5, pos := s, outermost := first }], weight := 1, answer := none, seen, outcome := none }
noncomputable def B1h (text : Array Nat) (lim s : Nat) (first must : Bool) (seen : Sre.Seen) : Sre.M :=
  { B1 text lim s first must seen with pc := 7 }
noncomputable def B1y (text : Array Nat) (lim s : Nat) (first must : Bool) (seen : Sre.Seen) : Sre.M :=
  { B1 text lim s first must seen with pc := 9, pos := s + 1 }
noncomputable def B1n (text : Array Nat) (lim s pc : Nat) (first must : Bool) (seen : Sre.Seen) : Sre.M :=
  { B1 text lim s first must seen with pc, answer := some false }

theorem b1_step (text lim s first must seen) :
    (B1 text lim s first must seen).step = if (s == 0 || text.getD (s - 1) 0 == 10) = true then B1h text lim s first must ((seen.add 6).add 44) else B1n text lim s 5 first must ((seen.add 6).add 44) := by
  kernel_rfl
theorem b1h_step (text lim s first must seen) (h : s < lim) :
    (B1h text lim s first must seen).step = if (text.getD s 0 == 46) = true then B1y text lim s first must (seen.add 16) else B1n text lim s 7 first must (seen.add 16) := by
  have e : (B1h text lim s first must seen).step = if s ≥ lim then B1n text lim s 7 first must (seen.add 16) else
     match (Except.ok (text.getD s 0 == 46, seen.add 16) : Except String (Bool × Sre.Seen)) with
    | .error why => { B1h text lim s first must (seen.add 16) with outcome := some (.stuck why) }
    | .ok (false, seen) => B1n text lim s 7 first must seen
    | .ok (true, seen) => B1y text lim s first must seen := by kernel_rfl
  rw [e, if_neg (by omega)]
  cases text.getD s 0 == 46 <;> rfl
theorem b1h_end (text s first must seen) :
    (B1h text s s first must seen).step = B1n text s s 7 first must (seen.add 16) := by
  have e : (B1h text s s first must seen).step = if s ≥ s then B1n text s s 7 first must (seen.add 16) else
     match (Except.ok (text.getD s 0 == 46, seen.add 16) : Except String (Bool × Sre.Seen)) with
    | .error why => { B1h text s s first must (seen.add 16) with outcome := some (.stuck why) }
    | .ok (false, seen) => B1n text s s 7 first must seen
    | .ok (true, seen) => B1y text s s first must seen := by kernel_rfl
  rw [e, if_pos (by omega)]
theorem b1n_step (text lim s pc first must seen) : (B1n text lim s pc first must seen).step =
    if s < lim then B1 text lim (s + 1) false false seen else { B1n text lim s 5 first must seen with frames := [], weight := 0 } := by kernel_rfl
theorem b1y_run (text lim s first must seen) (h : must = true → False) : Sre.M.runFor 3 (B1y text lim s first must seen) =
    { B1y text lim s first must (seen.add 1) with handed := s + 1, pc := 5, pos := s, answer := some true, frames := [], weight := 0, outcome := some .matched } := by
  cases must with
  | true => exact (h rfl).elim
  | false => cases first <;> kernel_rfl

noncomputable def hit1 (text : Array Nat) (s : Nat) : Bool := (s == 0 || text.getD (s - 1) 0 == 10) && text.getD s 0 == 46
noncomputable def next1 (text : Array Nat) : (fuel p : Nat) → Option Nat
  | 0, _ => none
  | f + 1, p => if hit1 text p then some p else next1 text f (p + 1)

/-- the machine ends at m' after at most N steps -/
noncomputable def Ends (m : Sre.M) (N : Nat) (m' : Sre.M) : Prop := m'.outcome.isSome = true ∧ ∃ k, k ≤ N ∧ Sre.M.runFor k m = m'
theorem Ends.run {m m' : Sre.M} {N n : Nat} (h : Ends m N m') (hn : N ≤ n) : Sre.M.runFor n m = m' := by
  obtain ⟨ho, k, hk, e⟩ := h
  have : n = (n - k) + k := by omega
  rw [this, runFor_add, e, runFor_done _ _ ho]
theorem Ends.before {m m1 m' : Sre.M} {N k : Nat} (e : Sre.M.runFor k m = m1) (h : Ends m1 N m') : Ends m (N + k) m' := by
  obtain ⟨ho, j, hj, e'⟩ := h
  exact ⟨ho, j + k, by omega, by rw [runFor_add, e, e']⟩

theorem step_run (m : Sre.M) (h : m.outcome = none) (n : Nat) : Sre.M.runFor (n + 1) m = Sre.M.runFor n m.step := by
  show (if m.outcome.isSome then m else _) = _
  rw [h]; rfl

theorem next1_no {text : Array Nat} {f p : Nat} (h : hit1 text p = false) : next1 text (f + 1) p = next1 text f (p + 1) := by
  show (if hit1 text p = true then some p else next1 text f (p + 1)) = _
  rw [h]; rfl
theorem next1_yes {text : Array Nat} {f p : Nat} (h : hit1 text p = true) : next1 text (f + 1) p = some p := by
  show (if hit1 text p = true then some p else next1 text f (p + 1)) = _
  rw [h]; rfl
theorem b1n_end (text s pc first seen) : Sre.M.runFor 2 (B1n text s s pc first false seen) = { B1n text s s 5 first false seen with frames := [], weight := 0, outcome := some .failed } := by
  rw [step_run _ rfl, b1n_step, if_neg (Nat.lt_irrefl _)]
  rfl
theorem search1 (text : Array Nat) (lim : Nat) : ∀ (f p : Nat) (first : Bool) (seen : Sre.Seen), p + f = lim →
    ∃ m', Ends (B1 text lim p first false seen) (5 * f + 5) m' ∧ (match next1 text f p with
      | some s => m'.outcome = some .matched ∧ m'.start = s ∧ m'.handed = s + 1
      | none => m'.outcome = some .failed) := by
  intro f
  induction f with
  | zero =>
    intro p first seen hp
    have hp' : p = lim := by omega
    subst hp'
    show ∃ m' : Sre.M, _ ∧ m'.outcome = some Sre.Outcome.failed
    cases hc : (p == 0 || text.getD (p - 1) 0 == 10) with
    | true =>
      have key : Sre.M.runFor 4 (B1 text p p first false seen) = Sre.M.runFor 2 (B1n text p p 7 first false (((seen.add 6).add 44).add 16)) := by
        rw [step_run _ rfl, b1_step, hc, if_pos rfl, step_run _ rfl, b1h_end]
      rw [b1n_end] at key
      exact ⟨_, ⟨by rfl, 4, by omega, key⟩, by rfl⟩
    | false =>
      have key : Sre.M.runFor 3 (B1 text p p first false seen) = Sre.M.runFor 2 (B1n text p p 5 first false ((seen.add 6).add 44)) := by
        rw [step_run _ rfl, b1_step, hc, if_neg Bool.false_ne_true]
      rw [b1n_end] at key
      exact ⟨_, ⟨by rfl, 3, by omega, key⟩, by rfl⟩
  | succ f ih =>
    intro p first seen hp
    have hlt : p < lim := by omega
    cases hc : (p == 0 || text.getD (p - 1) 0 == 10) with
    | true =>
      cases hd : text.getD p 0 == 46 with
      | true =>
        have hh : hit1 text p = true := by unfold hit1; rw [hc, hd]; rfl
        rw [next1_yes hh]
        have key : Sre.M.runFor 5 (B1 text lim p first false seen) = Sre.M.runFor 3 (B1y text lim p first false (((seen.add 6).add 44).add 16)) := by
          rw [step_run _ rfl, b1_step, hc, if_pos rfl, step_run _ rfl, b1h_step _ _ _ _ _ _ hlt, hd, if_pos rfl]
        rw [b1y_run _ _ _ _ _ _ (by intro h; cases h)] at key
        exact ⟨_, ⟨by rfl, 5, by omega, key⟩, by exact ⟨rfl, rfl, rfl⟩⟩
      | false =>
        have hh : hit1 text p = false := by unfold hit1; rw [hc, hd]; rfl
        rw [next1_no hh]
        obtain ⟨m', hm, h2⟩ := ih (p + 1) false (((seen.add 6).add 44).add 16) (by omega)
        refine ⟨m', ?_, h2⟩
        have := Ends.before (m := B1 text lim p first false seen) (k := 3) (by rw [step_run _ rfl, b1_step, hc, if_pos rfl, step_run _ rfl, b1h_step _ _ _ _ _ _ hlt, hd, if_neg Bool.false_ne_true, step_run _ rfl, b1n_step, if_pos hlt]; rfl) hm
        obtain ⟨ho, j, hj, e⟩ := this
        exact ⟨ho, j, by omega, e⟩
    | false =>
        have hh : hit1 text p = false := by unfold hit1; rw [hc]; rfl
        rw [next1_no hh]
        obtain ⟨m', hm, h2⟩ := ih (p + 1) false ((seen.add 6).add 44) (by omega)
        refine ⟨m', ?_, h2⟩
        have := Ends.before (m := B1 text lim p first false seen) (k := 2) (by rw [step_run _ rfl, b1_step, hc, if_neg Bool.false_ne_true, step_run _ rfl, b1n_step, if_pos hlt]; rfl) hm
        obtain ⟨ho, j, hj, e⟩ := this
        exact ⟨ho, j, by omega, e⟩

theorem forSearch1 (text : Array Nat) (p lim : Nat) (h : p < lim) : Sre.forSearch c1 text 0 p lim false = B1 text lim p true false (({} : Sre.Seen).add 14) := by
  have e : Sre.forSearch c1 text 0 p lim false = if (decide (p > lim) || decide (lim - p < 1)) = true
      then { code := c1, text, lim, start := p, pc := 5, pos := p, handed := p, marks := #[], mustAdvance := false, seen := ({} : Sre.Seen).add 14, answer := some false }
      else B1 text lim p true false (({} : Sre.Seen).add 14) := by kernel_rfl
  rw [e, if_neg]
  simp; omega
theorem forSearch1_end (text : Array Nat) (p : Nat) : Ends (Sre.forSearch c1 text 0 p p false) 1
     { code := c1, text, lim := p, start := p, pc := 5, pos := p, handed := p, marks := #[], mustAdvance := false, seen := ({} : Sre.Seen).add 14, answer := some false, outcome := some .failed } := by
  have e : Sre.forSearch c1 text 0 p p false = if (decide (p > p) || decide (p - p < 1)) = true
      then { code := c1, text, lim := p, start := p, pc := 5, pos := p, handed := p, marks := #[], mustAdvance := false, seen := ({} : Sre.Seen).add 14, answer := some false }
      else B1 text p p true false (({} : Sre.Seen).add 14) := by kernel_rfl
  refine ⟨rfl, 1, Nat.le_refl _, ?_⟩
  rw [e, if_pos (by simp)]
  rfl

/-- what a search for the dot comes to -/
theorem find1 (text : Array Nat) (p lim : Nat) (h : p ≤ lim) : ∃ m', Ends (Sre.forSearch c1 text 0 p lim false) (5 * (lim - p) + 5) m' ∧ (match next1 text (lim - p) p with
      | some s => m'.outcome = some .matched ∧ m'.start = s ∧ m'.handed = s + 1
      | none => m'.outcome = some .failed) := by
  by_cases hl : p < lim
  · rw [forSearch1 text p lim hl]
    exact search1 text lim (lim - p) p true _ (by omega)
  · have : p = lim := by omega
    subst this
    rw [Nat.sub_self]
    obtain ⟨ho, k, hk, e⟩ := forSearch1_end text p
    exact ⟨_, ⟨ho, k, by omega, e⟩, rfl⟩
end Mine
end
theorem Mine.resetRe3 : True := by
  w_top off
  exact True.intro
-- text Re3
section
open PySem
set_option maxRecDepth 100000
namespace Mine
/-- the machine for the line ends, at place s -/
noncomputable def B2 (text : Array Nat) (lim s : Nat) (first : Bool) (seen : Sre.Seen) : Sre.M :=
  { code := c2, text, lim, start := s, lastStart := lim, wholeText := false, mustAdvance := false, pc := 10, pos := s, handed := s, outermost := first, marks := #[], lastmark := -1, lastindex := -1, loops := #[], inner := none,
    frames := [{ wait := .nextStart, pc := 10, pos := s, outermost := first }], weight := 1, answer := none, seen, outcome := none }
/-- within the branch that begins at alt -/
noncomputable def G2 (text : Array Nat) (lim s : Nat) (first : Bool) (seen : Sre.Seen) (alt pc pos : Nat) (ans : Option Bool) : Sre.M :=
  { B2 text lim s first seen with pc, pos, answer := ans, weight := 2, frames := [{ wait := .nextBranch, pc := alt, pos := s, outermost := first }, { wait := .nextStart, pc := 10, pos := s, outermost := first }] }
noncomputable def H2 (text : Array Nat) (lim s : Nat) (first : Bool) (seen : Sre.Seen) (ans : Option Bool) : Sre.M :=
  { B2 text lim s first seen with pc := 29, pos := s + 1, handed := s + 1, outermost := false, answer := ans, weight := 3, frames := [{ wait := .lookNot, pc := 26, pos := s + 1, outermost := first }, { wait := .nextBranch, pc := 23, pos := s, outermost := first }, { wait := .nextStart, pc := 10, pos := s, outermost := first }] }
noncomputable def E2 (text : Array Nat) (lim s e : Nat) (first : Bool) (seen : Sre.Seen) : Sre.M :=
  { B2 text lim s first seen with pc := 10, pos := s, handed := e, answer := some true, weight := 0, frames := [], outcome := some .matched }

variable (text : Array Nat) (lim s : Nat) (first : Bool) (seen : Sre.Seen)
theorem b2_step : (B2 text lim s first seen).step = G2 text lim s first (seen.add 7) 11 12 s none := by kernel_rfl

theorem g2_13a (h : s < lim) : (G2 text lim s first seen 11 12 s none).step = if (text.getD s 0 == 13) = true then G2 text lim s first (seen.add 16) 11 14 (s + 1) none else G2 text lim s first (seen.add 16) 11 12 s (some false) := by
  have e : (G2 text lim s first seen 11 12 s none).step = if s ≥ lim then G2 text lim s first (seen.add 16) 11 12 s (some false) else
     match (Except.ok (text.getD s 0 == 13, seen.add 16) : Except String (Bool × Sre.Seen)) with
    | .error why => { G2 text lim s first (seen.add 16) 11 12 s none with outcome := some (.stuck why) }
    | .ok (false, seen) => G2 text lim s first seen 11 12 s (some false)
    | .ok (true, seen) => G2 text lim s first seen 11 14 (s + 1) none := by kernel_rfl
  rw [e, if_neg (by omega)]
  cases text.getD s 0 == 13 <;> rfl
theorem g2_10a (h : s + 1 < lim) : (G2 text lim s first seen 11 14 (s + 1) none).step = if (text.getD (s + 1) 0 == 10) = true then G2 text lim s first (seen.add 16) 11 16 (s + 2) none else G2 text lim s first (seen.add 16) 11 14 (s + 1) (some false) := by
  have e : (G2 text lim s first seen 11 14 (s + 1) none).step = if s + 1 ≥ lim then G2 text lim s first (seen.add 16) 11 14 (s + 1) (some false) else
     match (Except.ok (text.getD (s + 1) 0 == 10, seen.add 16) : Except String (Bool × Sre.Seen)) with
    | .error why => { G2 text lim s first (seen.add 16) 11 14 (s + 1) none with outcome := some (.stuck why) }
    | .ok (false, seen) => G2 text lim s first seen 11 14 (s + 1) (some false)
    | .ok (true, seen) => G2 text lim s first seen 11 16 (s + 2) none := by kernel_rfl
  rw [e, if_neg (by omega)]
  cases text.getD (s + 1) 0 == 10 <;> rfl
theorem g2_10a_end (h : lim ≤ s + 1) : (G2 text lim s first seen 11 14 (s + 1) none).step = G2 text lim s first (seen.add 16) 11 14 (s + 1) (some false) := by
  have e : (G2 text lim s first seen 11 14 (s + 1) none).step = if s + 1 ≥ lim then G2 text lim s first (seen.add 16) 11 14 (s + 1) (some false) else
     match (Except.ok (text.getD (s + 1) 0 == 10, seen.add 16) : Except String (Bool × Sre.Seen)) with
    | .error why => { G2 text lim s first (seen.add 16) 11 14 (s + 1) none with outcome := some (.stuck why) }
    | .ok (false, seen) => G2 text lim s first seen 11 14 (s + 1) (some false)
    | .ok (true, seen) => G2 text lim s first seen 11 16 (s + 2) none := by kernel_rfl
  rw [e, if_pos (by omega)]
theorem g2_no11 (pc pos : Nat) : (G2 text lim s first seen 11 pc pos (some false)).step = G2 text lim s first seen 18 19 s none := by kernel_rfl
theorem g2_no18 (pc pos : Nat) : (G2 text lim s first seen 18 pc pos (some false)).step = G2 text lim s first seen 23 24 s none := by kernel_rfl
theorem g2_10b (h : s < lim) : (G2 text lim s first seen 18 19 s none).step = if (text.getD s 0 == 10) = true then G2 text lim s first (seen.add 16) 18 21 (s + 1) none else G2 text lim s first (seen.add 16) 18 19 s (some false) := by
  have e : (G2 text lim s first seen 18 19 s none).step = if s ≥ lim then G2 text lim s first (seen.add 16) 18 19 s (some false) else
     match (Except.ok (text.getD s 0 == 10, seen.add 16) : Except String (Bool × Sre.Seen)) with
    | .error why => { G2 text lim s first (seen.add 16) 18 19 s none with outcome := some (.stuck why) }
    | .ok (false, seen) => G2 text lim s first seen 18 19 s (some false)
    | .ok (true, seen) => G2 text lim s first seen 18 21 (s + 1) none := by kernel_rfl
  rw [e, if_neg (by omega)]
  cases text.getD s 0 == 10 <;> rfl
theorem g2_13b (h : s < lim) : (G2 text lim s first seen 23 24 s none).step = if (text.getD s 0 == 13) = true then G2 text lim s first (seen.add 16) 23 26 (s + 1) none else G2 text lim s first (seen.add 16) 23 24 s (some false) := by
  have e : (G2 text lim s first seen 23 24 s none).step = if s ≥ lim then G2 text lim s first (seen.add 16) 23 24 s (some false) else
     match (Except.ok (text.getD s 0 == 13, seen.add 16) : Except String (Bool × Sre.Seen)) with
    | .error why => { G2 text lim s first (seen.add 16) 23 24 s none with outcome := some (.stuck why) }
    | .ok (false, seen) => G2 text lim s first seen 23 24 s (some false)
    | .ok (true, seen) => G2 text lim s first seen 23 26 (s + 1) none := by kernel_rfl
  rw [e, if_neg (by omega)]
  cases text.getD s 0 == 13 <;> rfl
theorem g2_look : (G2 text lim s first seen 23 26 (s + 1) none).step = H2 text lim s first (seen.add 5) none := by kernel_rfl
theorem h2_end (h : lim ≤ s + 1) : (H2 text lim s first seen none).step = H2 text lim s first (seen.add 16) (some false) := by
  have e : (H2 text lim s first seen none).step = if s + 1 ≥ lim then H2 text lim s first (seen.add 16) (some false) else
     match (Except.ok (text.getD (s + 1) 0 == 10, seen.add 16) : Except String (Bool × Sre.Seen)) with
    | .error why => { H2 text lim s first (seen.add 16) none with outcome := some (.stuck why) }
    | .ok (false, seen) => H2 text lim s first seen (some false)
    | .ok (true, seen) => { H2 text lim s first seen none with pc := 31, pos := s + 2 } := by kernel_rfl
  rw [e, if_pos (by omega)]
theorem h2_10 (h : s + 1 < lim) (hc : (text.getD (s + 1) 0 == 10) = false) : (H2 text lim s first seen none).step = H2 text lim s first (seen.add 16) (some false) := by
  have e : (H2 text lim s first seen none).step = if s + 1 ≥ lim then H2 text lim s first (seen.add 16) (some false) else
     match (Except.ok (text.getD (s + 1) 0 == 10, seen.add 16) : Except String (Bool × Sre.Seen)) with
    | .error why => { H2 text lim s first (seen.add 16) none with outcome := some (.stuck why) }
    | .ok (false, seen) => H2 text lim s first seen (some false)
    | .ok (true, seen) => { H2 text lim s first seen none with pc := 31, pos := s + 2 } := by kernel_rfl
  rw [e, if_neg (by omega), hc]
theorem h2_no : (H2 text lim s first seen (some false)).step = { G2 text lim s first seen 23 32 (s + 1) none with handed := s + 1 } := by kernel_rfl
theorem g2_end16 (e : Nat) : Sre.M.runFor 5 (G2 text lim s first seen 11 16 e none) = E2 text lim s e first ((seen.add 15).add 1) := by cases first <;> kernel_rfl
theorem g2_end21 (e : Nat) : Sre.M.runFor 5 (G2 text lim s first seen 18 21 e none) = E2 text lim s e first ((seen.add 15).add 1) := by cases first <;> kernel_rfl
theorem g2_end32 (e : Nat) : Sre.M.runFor 5 { G2 text lim s first seen 23 32 e none with handed := e } = E2 text lim s e first ((seen.add 15).add 1) := by cases first <;> kernel_rfl

/-- where the line end that begins at s ends -/
noncomputable def end2 (text : Array Nat) (lim s : Nat) : Nat := if text.getD s 0 == 13 && decide (s + 1 < lim) && text.getD (s + 1) 0 == 10 then s + 2 else s + 1
noncomputable def hit2 (text : Array Nat) (s : Nat) : Bool := text.getD s 0 == 10 || text.getD s 0 == 13

theorem b2_run (h : s < lim) (hh : hit2 text s = true) : ∃ m', Ends (B2 text lim s first seen) 20 m' ∧ m'.outcome = some .matched ∧ m'.start = s ∧ m'.handed = end2 text lim s := by
  cases h13 : text.getD s 0 == 13 with
  | false =>
    have h10 : (text.getD s 0 == 10) = true := by unfold hit2 at hh; rw [h13, Bool.or_false] at hh; exact hh
    have he : end2 text lim s = s + 1 := by unfold end2; rw [h13]; rfl
    have key : Sre.M.runFor 9 (B2 text lim s first seen) = Sre.M.runFor 5 (G2 text lim s first (((seen.add 7).add 16).add 16) 18 21 (s + 1) none) := by
      rw [step_run _ rfl, b2_step, step_run _ rfl, g2_13a _ _ _ _ _ h, h13, if_neg Bool.false_ne_true, step_run _ rfl, g2_no11, step_run _ rfl, g2_10b _ _ _ _ _ h, h10, if_pos rfl]
    rw [g2_end21] at key
    exact ⟨_, ⟨by rfl, 9, by omega, key⟩, by rw [he]; exact ⟨rfl, rfl, rfl⟩⟩
  | true =>
    have n10 : (text.getD s 0 == 10) = false := by
      have := eq_of_beq h13
      rw [this]; rfl
    by_cases hl : s + 1 < lim
    · cases h1 : text.getD (s + 1) 0 == 10 with
      | true =>
        have he : end2 text lim s = s + 2 := by unfold end2; rw [h13, h1, decide_eq_true hl]; rfl
        have key : Sre.M.runFor 8 (B2 text lim s first seen) = Sre.M.runFor 5 (G2 text lim s first (((seen.add 7).add 16).add 16) 11 16 (s + 2) none) := by
          rw [step_run _ rfl, b2_step, step_run _ rfl, g2_13a _ _ _ _ _ h, h13, if_pos rfl, step_run _ rfl, g2_10a _ _ _ _ _ hl, h1, if_pos rfl]
        rw [g2_end16] at key
        exact ⟨_, ⟨by rfl, 8, by omega, key⟩, by rw [he]; exact ⟨rfl, rfl, rfl⟩⟩
      | false =>
        have he : end2 text lim s = s + 1 := by unfold end2; rw [h13, h1, decide_eq_true hl]; rfl
        have key : Sre.M.runFor 15 (B2 text lim s first seen) = Sre.M.runFor 6 (H2 text lim s first (((((((seen.add 7).add 16).add 16).add 16).add 16).add 5).add 16) (some false)) := by
          rw [step_run _ rfl, b2_step, step_run _ rfl, g2_13a _ _ _ _ _ h, h13, if_pos rfl, step_run _ rfl, g2_10a _ _ _ _ _ hl, h1, if_neg Bool.false_ne_true, step_run _ rfl, g2_no11, step_run _ rfl, g2_10b _ _ _ _ _ h, n10, if_neg Bool.false_ne_true,
            step_run _ rfl, g2_no18, step_run _ rfl, g2_13b _ _ _ _ _ h, h13, if_pos rfl, step_run _ rfl, g2_look, step_run _ rfl, h2_10 _ _ _ _ _ hl h1]
        rw [step_run (H2 text lim s first _ (some false)) rfl, h2_no, g2_end32] at key
        exact ⟨_, ⟨by rfl, 15, by omega, key⟩, by rw [he]; exact ⟨rfl, rfl, rfl⟩⟩
    · have he : end2 text lim s = s + 1 := by unfold end2; rw [h13, decide_eq_false hl]; rfl
      have hl' : lim ≤ s + 1 := by omega
      have key : Sre.M.runFor 15 (B2 text lim s first seen) = Sre.M.runFor 6 (H2 text lim s first (((((((seen.add 7).add 16).add 16).add 16).add 16).add 5).add 16) (some false)) := by
          rw [step_run _ rfl, b2_step, step_run _ rfl, g2_13a _ _ _ _ _ h, h13, if_pos rfl, step_run _ rfl, g2_10a_end _ _ _ _ _ hl', step_run _ rfl, g2_no11, step_run _ rfl, g2_10b _ _ _ _ _ h, n10, if_neg Bool.false_ne_true,
            step_run _ rfl, g2_no18, step_run _ rfl, g2_13b _ _ _ _ _ h, h13, if_pos rfl, step_run _ rfl, g2_look, step_run _ rfl, h2_end _ _ _ _ _ hl']
      rw [step_run (H2 text lim s first _ (some false)) rfl, h2_no, g2_end32] at key
      exact ⟨_, ⟨by rfl, 15, by omega, key⟩, by rw [he]; exact ⟨rfl, rfl, rfl⟩⟩

noncomputable def next2 (text : Array Nat) : (fuel p : Nat) → Option Nat
  | 0, _ => none
  | f + 1, p => if hit2 text p then some p else next2 text f (p + 1)
theorem next2_no {text : Array Nat} {f p : Nat} (h : hit2 text p = false) : next2 text (f + 1) p = next2 text f (p + 1) := by
  show (if hit2 text p = true then some p else next2 text f (p + 1)) = _
  rw [h]; rfl
theorem next2_yes {text : Array Nat} {f p : Nat} (h : hit2 text p = true) : next2 text (f + 1) p = some p := by
  show (if hit2 text p = true then some p else next2 text f (p + 1)) = _
  rw [h]; rfl
theorem inSet2 (c : Nat) (seen : Sre.Seen) : ∃ seen', Sre.inSet c2 c c2.size 5 true seen = .ok (c == 10 || c == 13, seen') := by
  have e : Sre.inSet c2 c c2.size 5 true seen = if (c == 10) = true then .ok (true, seen.add 16) else if (c == 13) = true then .ok (true, (seen.add 16).add 16) else .ok (false, ((seen.add 16).add 16).add 0) := by kernel_rfl
  rw [e]
  cases c == 10 with
  | true => exact ⟨_, rfl⟩
  | false => cases c == 13 <;> exact ⟨_, rfl⟩
/-- the look for a first sign -/
theorem admitted2 (m : Sre.M) (hm : m.code = c2) : ∀ (f p : Nat) (seen : Sre.Seen), p + f = m.lim →
    ∃ seen', m.admitted (f + 1) p seen = .ok (next2 m.text f p, seen') ∧ ∀ s, next2 m.text f p = some s → p ≤ s ∧ s < m.lim ∧ hit2 m.text s = true := by
  intro f
  induction f with
  | zero =>
    intro p seen hp
    refine ⟨seen, ?_, fun s h => by cases h⟩
    show (if p ≥ m.lim then _ else _) = _
    rw [if_pos (by omega)]; rfl
  | succ f ih =>
    intro p seen hp
    obtain ⟨seen', e⟩ := inSet2 (m.text.getD p 0) seen
    have u : m.admitted (f + 1 + 1) p seen = match Sre.inSet m.code (m.text.getD p 0) m.code.size 5 true seen with
      | .ok (true, seen) => .ok (some p, seen)
      | .ok (false, seen) => m.admitted (f + 1) (p + 1) seen
      | .error why => .error why := by
      show (if p ≥ m.lim then _ else _) = _
      rw [if_neg (by omega)]; rfl
    rw [u, hm, e]
    cases hh : hit2 m.text p with
    | true =>
      have : (m.text.getD p 0 == 10 || m.text.getD p 0 == 13) = true := hh
      rw [this, next2_yes hh]
      exact ⟨_, rfl, fun s h => by cases h; exact ⟨Nat.le_refl _, by omega, hh⟩⟩
    | false =>
      have : (m.text.getD p 0 == 10 || m.text.getD p 0 == 13) = false := hh
      rw [this, next2_no hh]
      obtain ⟨s2, e2, h2⟩ := ih (p + 1) seen' (by omega)
      exact ⟨s2, e2, fun s h => by obtain ⟨a, b, c⟩ := h2 s h; exact ⟨by omega, b, c⟩⟩

/-- the machine before its first look -/
noncomputable def I2 (text : Array Nat) (lim p last : Nat) (seen : Sre.Seen) (ans : Option Bool) : Sre.M :=
  { code := c2, text, lim, start := p, lastStart := last, pc := 10, pos := p, handed := p, marks := #[], mustAdvance := false, seen, answer := ans }
theorem forSearch2 (text : Array Nat) (p lim : Nat) : Sre.forSearch c2 text 0 p lim false = if (decide (p > lim) || decide (lim - p < 1)) = true
      then I2 text lim p 0 (({} : Sre.Seen).add 14) (some false)
      else match (I2 text lim p lim (({} : Sre.Seen).add 14) none).admitted (lim + 1 - p) p (({} : Sre.Seen).add 14) with
        | .ok (some s, seen) => B2 text lim s true seen
        | .ok (none, seen) => I2 text lim p lim seen (some false)
        | .error why => { I2 text lim p lim (({} : Sre.Seen).add 14) none with outcome := some (.stuck why) } := by kernel_rfl
theorem i2_end (text : Array Nat) (lim p last : Nat) (seen : Sre.Seen) : Ends (I2 text lim p last seen (some false)) 1 { I2 text lim p last seen (some false) with outcome := some .failed } :=
  ⟨rfl, 1, Nat.le_refl _, by kernel_rfl⟩
/-- what a search for a line end comes to -/
theorem find2 (text : Array Nat) (p lim : Nat) (h : p ≤ lim) : ∃ m', Ends (Sre.forSearch c2 text 0 p lim false) 20 m' ∧ (match next2 text (lim - p) p with
      | some s => m'.outcome = some .matched ∧ m'.start = s ∧ m'.handed = end2 text lim s
      | none => m'.outcome = some .failed) := by
  rw [forSearch2]
  by_cases hl : p < lim
  · rw [if_neg (by simp; omega)]
    have : lim + 1 - p = (lim - p) + 1 := by omega
    rw [this]
    obtain ⟨s2, e2, h2⟩ := admitted2 (I2 text lim p lim (({} : Sre.Seen).add 14) none) rfl (lim - p) p (({} : Sre.Seen).add 14) (by show p + (lim - p) = lim; omega)
    have e2' : (I2 text lim p lim (({} : Sre.Seen).add 14) none).admitted ((lim - p) + 1) p (({} : Sre.Seen).add 14) = .ok (next2 text (lim - p) p, s2) := e2
    have h2' : ∀ s, next2 text (lim - p) p = some s → p ≤ s ∧ s < lim ∧ hit2 text s = true := h2
    rw [e2']
    cases hn : next2 text (lim - p) p with
    | none =>
      obtain ⟨ho, k, hk, e⟩ := i2_end text lim p lim s2
      exact ⟨_, ⟨ho, k, by omega, e⟩, rfl⟩
    | some s =>
      obtain ⟨a, b, c⟩ := h2' s hn
      exact b2_run text lim s true s2 b c
  · have : p = lim := by omega
    subst this
    rw [if_pos (by simp), Nat.sub_self]
    obtain ⟨ho, k, hk, e⟩ := i2_end text p p 0 (({} : Sre.Seen).add 14)
    exact ⟨_, ⟨ho, k, by omega, e⟩, rfl⟩
end Mine
end
theorem Mine.resetRe4 : True := by
  w_top off
  exact True.intro
-- text Re4
section
open PySem PySem.Builtin PySem.Builtin.Re PyProof.Rows
set_option maxRecDepth 100000
namespace Mine
section
variable {M : Model} {A : Around} {E : Value → Shared → Prop} {s : Shared}
theorem wp_drive {m' : Sre.M} {Q : Sre.M → Shared → Prop} (hQ : Q m' s) : ∀ (t : Nat) (m : Sre.M), (∃ k, k ≤ 4 * t ∧ 0 < t ∧ m'.outcome.isSome = true ∧ Sre.M.runFor k m = m') → wpAny M A (reDrive t m) Q E s := by
  intro t
  induction t with
  | zero => rintro m ⟨k, _, h, _⟩; exact absurd h (Nat.lt_irrefl _)
  | succ t ih =>
    rintro m ⟨k, hk, _, ho, e⟩
    show wpAny M A (if (m.runFor 4).outcome.isSome then pure (m.runFor 4) else do rule "sre.turn"; reDrive t (m.runFor 4)) Q E s
    have hle : k ≤ 4 → m.runFor 4 = m' := fun h4 => Ends.run ⟨ho, k, Nat.le_refl _, e⟩ h4
    have hgt : 4 < k → Sre.M.runFor (k - 4) (m.runFor 4) = m' := fun h4 => by
      rw [← runFor_add, show k - 4 + 4 = k by omega, e]
    cases hb : (m.runFor 4).outcome.isSome with
    | true =>
      have : m.runFor 4 = m' := by
        by_cases h4 : k ≤ 4
        · exact hle h4
        · have := hgt (by omega)
          rw [runFor_done _ _ hb] at this
          exact this
      simp only [if_true]
      exact wpAny_pure (this ▸ hQ)
    | false =>
      have h4 : 4 < k := by
        apply Nat.lt_of_not_le
        intro h4
        rw [hle h4, ho] at hb
        cases hb
      simp only [Bool.false_eq_true, if_false]
      exact wpAny_bind (wpAny_rule (ih _ ⟨k - 4, by omega, by omega, ho, hgt h4⟩))

theorem wp_run {m m' : Sre.M} {N : Nat} {Q : Option Sre.M → Shared → Prop} (h : Ends m N m') (hN : N ≤ 1000000)
    (hq : match m'.outcome with | some .matched => Q (some m') s | some .failed => Q none s | _ => False) : wpAny M A (reRunToEnd m) Q E s := by
  obtain ⟨ho, k, hk, e⟩ := h
  unfold reRunToEnd
  refine wpAny_bind (wp_drive (m' := m') ?_ (2 ^ 64) m ⟨k, by omega, by omega, ho, e⟩)
  refine wpAny_bind (wpAny_forIn_list _ (fun _ _ s' => s' = s) _ (fun i rest b s' hs => ?_) (fun b s' hs => ?_) _ _ rfl)
  · subst hs
    split
    · exact wpAny_bind (wpAny_rule (wpAny_pure rfl))
    · exact wpAny_pure rfl
  · subst hs
    cases hm : m'.outcome with
    | none => rw [hm] at hq; exact hq.elim
    | some o =>
      rw [hm] at hq
      cases o with
      | matched => exact wpAny_pure hq
      | failed => exact wpAny_pure hq
      | stuck why => exact hq.elim

/-- a compiled pattern without groups, for texts -/
noncomputable def PatAt (h : Heap) (a : Addr) (code : Array Nat) : Prop :=
  ∃ o vs c oc items n, h.get? a = some o ∧ o.cls = .type "re.Pattern" ∧ o.dict = none ∧ o.data = .fields vs ∧ vs.getD 5 .none = .ref c ∧ vs.getD 2 .none = rawInt 0 ∧ vs.getD 6 .none = rawInt 0 ∧
    h.get? c = some oc ∧ oc.data = .seq items n ∧ (items.map reRawOf).map (·.toNat) = code
theorem PatAt.keeps {h h' : Heap} {a : Addr} {code : Array Nat} (p : PatAt h a code) (hk : ∀ b o, h.get? b = some o → h'.get? b = some o) : PatAt h' a code := by
  obtain ⟨o, vs, c, oc, items, n, ho, h1, h2, h3, h4, h5, h6, hc, h7, h8⟩ := p
  exact ⟨o, vs, c, oc, items, n, hk _ _ ho, h1, h2, h3, h4, h5, h6, hk _ _ hc, h7, h8⟩

theorem wp_target {a : Addr} {code : Array Nat} {x : Str} {t : Tok} {Q : ReTarget → Shared → Prop} (p : PatAt s.heap a code)
    (hq : Q { pattern := .ref a, string := .str x t, code, text := x.cps, kind := 0, groups := 0, pos := 0, lim := x.cps.size } s) : wpAny M A (reWholeTarget (.ref a) (.str x t)) Q E s := by
  obtain ⟨o, vs, c, oc, items, n, ho, h1, h2, h3, h4, h5, h6, hc, h7, h8⟩ := p
  unfold reWholeTarget
  refine wpAny_bind (wpAny_fieldsOf ho h3 ?_)
  refine wpAny_bind (wpAny_pure ?_)
  dsimp only
  rw [h4, h5, h6]
  refine wpAny_bind (wpAny_pure ?_)
  unfold reRawItems
  refine wpAny_bind (wpAny_bind (wpAny_seqItems hc h7 (wpAny_pure ?_)))
  refine wpAny_pure ?_
  show Q { pattern := .ref a, string := .str x t, code := (items.map reRawOf).map (·.toNat), text := x.cps, kind := 0, groups := 0, pos := 0, lim := x.cps.size } s
  rw [h8]; exact hq
end
end Mine
end
theorem Mine.resetRe5 : True := by
  w_top off
  exact True.intro
-- text Re5
section
open PySem PySem.Builtin PySem.Builtin.Re PyProof.Rows
set_option maxRecDepth 100000
namespace Mine
noncomputable def KeepBut (l : Addr) (h h' : Heap) : Prop := ∀ b o, b ≠ l → h.get? b = some o → h'.get? b = some o
theorem KeepBut.refl (l : Addr) (h : Heap) : KeepBut l h h := fun _ _ _ e => e
theorem KeepBut.trans {l : Addr} {h h' h'' : Heap} (x : KeepBut l h h') (y : KeepBut l h' h'') : KeepBut l h h'' := fun b o n e => y b o n (x b o n e)

structure Finder (code text : Array Nat) (next : Nat → Option (Nat × Nat)) : Prop where
  run : ∀ p, p ≤ text.size → ∃ m' N, N ≤ 1000000 ∧ Ends (Sre.forSearch code text 0 p text.size false) N m' ∧ (match next p with
      | some (s, e) => m'.outcome = some .matched ∧ m'.start = s ∧ m'.handed = e
      | none => m'.outcome = some .failed)
  on : ∀ p s e, p ≤ text.size → next p = some (s, e) → p ≤ s ∧ s < e ∧ e ≤ text.size

noncomputable def outFrom (text : Array Nat) (repl : List Nat) (next : Nat → Option (Nat × Nat)) : (fuel p : Nat) → List Nat
  | 0, _ => []
  | f + 1, p => match next p with
    | some (s, e) => (text.extract p s).toList ++ (repl ++ outFrom text repl next f e)
    | none => (text.extract p text.size).toList

noncomputable def cat (ys : List Str) : List Nat := ys.flatMap (·.cps.toList)
theorem cat_snoc (ys : List Str) (y : Str) : cat (ys ++ [y]) = cat ys ++ y.cps.toList := by simp [cat]
theorem cat_length (ys : List Str) : (cat ys).length = (ys.map (·.length)).sum := by
  induction ys with
  | nil => rfl
  | cons y ys ih => simp only [cat, List.flatMap_cons, List.length_append, List.map_cons, List.sum_cons, Array.length_toList] at *; rw [ih]; rfl
theorem join_cat (ys : List Str) : Str.join ⟨#[]⟩ ys = ⟨(cat ys).toArray⟩ := by
  induction ys with
  | nil => rfl
  | cons y ys ih =>
    cases ys with
    | nil => simp [Str.join, cat]
    | cons z zs =>
      show y ++ ⟨#[]⟩ ++ Str.join ⟨#[]⟩ (z :: zs) = _
      rw [ih]
      show (⟨y.cps ++ #[] ++ (cat (z :: zs)).toArray⟩ : Str) = ⟨(y.cps.toList ++ cat (z :: zs)).toArray⟩
      congr 1
      simp

theorem strsAre_snoc {vs : List Value} {ys : List Str} (h : StrsAre vs ys) (y : Str) (t : Tok) : StrsAre (vs ++ [.str y t]) (ys ++ [y]) := by
  induction h with
  | nil => exact .cons y t .nil
  | cons y' t' _ ih => exact .cons y' t' ih

theorem push_list {h : Heap} {l : Addr} {items : Array Value} (hl : h.IsList l items) (v : Value) :
    (h.update l (Obj.mapSeq (·.push v))).IsList l (items.push v) ∧ KeepBut l h (h.update l (Obj.mapSeq (·.push v))) := by
  obtain ⟨o, ho, hc, n, hd⟩ := hl
  have hs : Heap.SameBut l h (h.update l (Obj.mapSeq (·.push v))) := Heap.SameBut.update ..
  obtain ⟨n', hn'⟩ := Obj.data_mapSeq hd (·.push v)
  refine ⟨⟨o.mapSeq (·.push v), Heap.get?_update_self _ ho (Obj.isFreed_of_seq hn'), by rw [Obj.cls_mapSeq]; exact hc, n', hn'⟩, fun b o' hb e => (hs.2 b hb).trans e⟩

section
variable {M : Model} {A : Around} {E : Value → Shared → Prop} {s : Shared}
theorem wp_push {l : Addr} {items : Array Value} {v : Value} {Q : Unit → Shared → Prop} (hl : s.heap.IsList l items) (hz : items.size ≤ 100000)
    (h : ∀ h', h'.IsList l (items.push v) → KeepBut l s.heap h' → Q () { s with heap := h' }) : wpAny M A (updateSeq l (·.push v)) Q E s := by
  obtain ⟨o, ho, hc, n, hd⟩ := id hl
  refine wpAny_updateSeq ho hd (h _ (push_list hl v).1 (push_list hl v).2) ?_ ?_
  · have : sizeLine = 2 ^ 24 := rfl
    omega
  · have : sizeLine = 2 ^ 24 := rfl
    rw [Array.size_push]; omega
theorem wp_slice {text : Array Nat} {b e : Nat} {Q : Value → Shared → Prop} (hz : text.size ≤ 100000)
    (h : ∀ t, Q (.str ⟨text.extract b e⟩ t) { s with toks := s.toks + 1 }) : wpAny M A (reSlice text 0 b e) Q E s := by
  show wpAny M A (mkStr ⟨text.extract b e⟩) Q E s
  refine wpAny_mkStr (h _) ?_
  show (text.extract b e).size ≤ sizeLine
  have : sizeLine = 2 ^ 24 := rfl
  rw [Array.size_extract]; omega
end

section
variable {prog : Program} {w : World} {A : Around} 
theorem sub_loop {code : Array Nat} {x : Str} {next : Nat → Option (Nat × Nat)} (hf : Finder code x.cps next) (hx : x.cps.size ≤ 1000) {repl : Str} (hrl : repl.cps.size ≤ 2) {a l : Addr} {t tr : Tok} {R : Result → Shared → Prop} :
    ∀ (fuel p : Nat) (n : Int) (s : Shared) (items : Array Value) (ys : List Str), p ≤ x.cps.size → x.cps.size - p < fuel → (∀ h', KeepBut l s.heap h' → PatAt h' a code) →
      s.heap.IsList l items → StrsAre items.toList ys → (cat ys).length ≤ 2 * p → ys.length ≤ 2 * p →
      (∀ t' h' tk', KeepBut l s.heap h' → R (.ok (.ret (.str ⟨(cat ys ++ outFrom x.cps repl.cps.toList next fuel p).toArray⟩ t'))) { s with heap := h', toks := tk' }) →
      codeAny (model prog w) A (.builtin "re.Pattern.sub.loop" ⟨[.ref a, .str x t, .str repl tr, rawInt 0, rawInt 0, rawInt n, rawInt p, rawInt p, .bool false, .ref l, .bool false], []⟩) R s := by
  intro fuel
  induction fuel with
  | zero => intro p n s items ys _ h; exact absurd h (Nat.not_lt_zero _)
  | succ fuel ih =>
    intro p n s items ys hp hfuel hP hl hi hc hy hR
    have hsz : items.size = ys.length := by
      obtain ⟨lv, hv, ht⟩ := strsAre_values hi
      have : items.toList.length = ys.length := by rw [hv, ← ht]; simp [strValues]
      rw [← this]; simp
    refine codeAny_builtin entry_loop ?_
    rw [Around.under_plainId (by decide +kernel)]
    unfold Builtin.«re.Pattern.sub.loop»
    refine wpAny_bind (wp_target (hP _ (KeepBut.refl _ _)) ?_)
    refine wpAny_bind (wpAny_pure ?_)
    dsimp only
    rw [Int.toNat_natCast]
    obtain ⟨m', N, hN, hE, hm⟩ := hf.run p hp
    refine wpAny_bind ?_
    rw [if_neg (by simp)]
    refine wp_run hE hN ?_
    have done0 : ∀ (s' : Shared) (items' : Array Value) (ys' : List Str), s'.heap.IsList l items' → StrsAre items'.toList ys' → (cat ys').length ≤ 3000 → 
          (∀ t' h' tk', KeepBut l s'.heap h' → R (.ok (.ret (.str ⟨(cat ys').toArray⟩ t'))) { s' with heap := h', toks := tk' }) →
          wpAny (model prog w) A.in1 (do
            let joiner ← reSlice x.cps 0 0 0
            let __do_lift ← seqItems? (.ref l)
            if (__do_lift.getD #[]).isEmpty = true then do
              let text ← pure joiner
              ret text
            else do
              let text ← call (.builtin "str.join") [joiner, .ref l]
              ret text)
            (fun fin s' => match fin with | .done f => R (.ok f) s' | .again c' => c'.quiet = true ∧ codeAny (model prog w) A c' R s') (fun e s' => R (.error e) s') s' := by
        intro s' items' ys' hl' hi' hc' hR'
        obtain ⟨o, ho, hcl, n', hd⟩ := id hl'
        refine wpAny_bind (wp_slice (by omega) fun tj => ?_)
        refine wpAny_bind (wpAny_seqItems ho hd ?_)
        have e0 : x.cps.extract 0 0 = #[] := by simp
        rw [e0]
        cases hem : ((some items').getD #[]).isEmpty with
        | true =>
          have : items' = #[] := by simpa using hem
          subst this
          have : ys' = [] := by cases hi'; rfl
          subst this
          rw [if_pos rfl]
          exact wpAny_bind (wpAny_pure (wpAny_pure (hR' tj _ _ (KeepBut.refl _ _))))
        | false =>
          rw [if_neg Bool.false_ne_true]
          refine wpAny_bind (join_list (s := { s' with toks := s'.toks + 1 }) hl' hi' ?_ fun t' k => wpAny_pure ?_)
          · rw [← cat_length]; show _ + ys'.length * 0 ≤ _; omega
          · have : Txt.join ⟨#[]⟩ ys' = ⟨(cat ys').toArray⟩ := (StrLaws.glued_eq_join _ _).trans (join_cat ys')
            rw [this]
            exact hR' t' _ _ (KeepBut.refl _ _)
    cases hn : next p with
    | none =>
      rw [hn] at hm
      rw [show m'.outcome = some .failed from hm]
      show wpAny (model prog w) A.in1 (if p < x.cps.size then _ else _) _ _ s
      have eo : outFrom x.cps repl.cps.toList next (fuel + 1) p = (x.cps.extract p x.cps.size).toList := by
        show (match next p with | some (s, e) => _ | none => _) = _
        rw [hn]
      rw [eo] at hR
      split
      · refine wpAny_bind (wp_slice (by omega) fun tj => ?_)
        refine wpAny_bind (wp_push (s := { s with toks := s.toks + 1 }) hl (by omega) fun h' hl' hk => ?_)
        have hi' := strsAre_snoc hi ⟨x.cps.extract p x.cps.size⟩ tj
        refine done0 { s with toks := s.toks + 1, heap := h' } _ _ hl' (by rw [Array.toList_push]; exact hi') ?_ ?_
        · rw [cat_snoc]; simp only [List.length_append, Array.length_toList, Array.size_extract]; omega
        · intro t' h'' tk' hk'
          rw [cat_snoc]
          exact hR t' h'' tk' (hk.trans hk')
      · have e0 : (x.cps.extract p x.cps.size).toList = [] := by
          have : p = x.cps.size := by omega
          subst this; simp
        rw [e0, List.append_nil] at hR
        exact done0 s _ _ hl hi (by omega) hR
    | some se =>
      obtain ⟨s0, e⟩ := se
      rw [hn] at hm
      obtain ⟨hm1, hm2, hm3⟩ := hm
      obtain ⟨o1, o2, o3⟩ := hf.on p s0 e hp hn
      rw [hm1]
      show wpAny (model prog w) A.in1 (if p < m'.start then _ else _) _ _ s
      rw [hm2, hm3]
      have eo : outFrom x.cps repl.cps.toList next (fuel + 1) p = (x.cps.extract p s0).toList ++ (repl.cps.toList ++ outFrom x.cps repl.cps.toList next fuel e) := by
        show (match next p with | some (s, e) => _ | none => _) = _
        rw [hn]
      rw [eo] at hR
      have hb : (e == s0) = false := by simp; omega
      have step : ∀ (s' : Shared) (items' : Array Value) (ys' : List Str), s'.heap.IsList l items' → StrsAre items'.toList ys' → items'.size ≤ 100000 → (cat ys').length + 2 ≤ 2 * e → ys'.length + 1 ≤ 2 * e → KeepBut l s.heap s'.heap →
          (∀ t' h' tk', KeepBut l s'.heap h' → R (.ok (.ret (.str ⟨(cat ys' ++ (repl.cps.toList ++ outFrom x.cps repl.cps.toList next fuel e)).toArray⟩ t'))) { s' with heap := h', toks := tk' }) →
          wpAny (model prog w) A.in1 (do
            let item ← pure (Value.str repl tr)
            if (item != Value.none) = true then do
                updateSeq l fun x => x.push item
                again (Code.builtin "re.Pattern.sub.loop" { pos := [Value.ref a, Value.str x t, Value.str repl tr, rawInt 0, rawInt 0, rawInt (n + 1), rawInt (e : Nat), rawInt (e : Nat), Value.bool (e == s0), Value.ref l, Value.bool false] })
              else again (Code.builtin "re.Pattern.sub.loop" { pos := [Value.ref a, Value.str x t, Value.str repl tr, rawInt 0, rawInt 0, rawInt (n + 1), rawInt (e : Nat), rawInt (e : Nat), Value.bool (e == s0), Value.ref l, Value.bool false] }))
            (fun fin s' => match fin with | .done f => R (.ok f) s' | .again c' => c'.quiet = true ∧ codeAny (model prog w) A c' R s') (fun e s' => R (.error e) s') s' := by
        intro s' items' ys' hl' hi' hz' hc' hy' hk' hR'
        refine wpAny_bind (wpAny_pure ?_)
        rw [if_pos (show (Value.str repl tr != Value.none) = true from rfl)]
        refine wpAny_bind (wp_push hl' hz' fun h2 hl2 hk2 => ?_)
        refine wpAny_pure ⟨plainId_quiet (by decide +kernel) _, ?_⟩
        rw [hb]
        refine ih e (n + 1) { s' with heap := h2 } _ _ o3 (by omega) (fun h3 hk3 => hP h3 ((hk'.trans hk2).trans hk3)) hl2 (by rw [Array.toList_push]; exact strsAre_snoc hi' repl tr) ?_ ?_ ?_
        · rw [cat_snoc]; simp only [List.length_append, Array.length_toList]; omega
        · simp only [List.length_append, List.length_cons, List.length_nil]; omega
        · intro t' h3 tk' hk3
          rw [cat_snoc, List.append_assoc]
          exact hR' t' h3 tk' (hk2.trans hk3)
      split
      · refine wpAny_bind (wp_slice (by omega) fun tj => ?_)
        refine wpAny_bind (wp_push (s := { s with toks := s.toks + 1 }) hl (by omega) fun h' hl' hk => ?_)
        have hi' := strsAre_snoc hi ⟨x.cps.extract p s0⟩ tj
        rw [if_pos (show ((0 : Int) == 0) = true from by decide)]
        refine step { s with toks := s.toks + 1, heap := h' } _ _ hl' (by rw [Array.toList_push]; exact hi') (by rw [Array.size_push]; omega) ?_ ?_ hk ?_
        · rw [cat_snoc]; simp only [List.length_append, Array.length_toList, Array.size_extract]; omega
        · simp only [List.length_append, List.length_cons, List.length_nil]; omega
        · intro t' h'' tk' hk'
          rw [cat_snoc, List.append_assoc]
          exact hR t' h'' tk' (hk.trans hk')
      · have e0 : (x.cps.extract p s0).toList = [] := by
          have : p = s0 := by omega
          subst this; simp
        rw [e0, List.nil_append] at hR
        rw [if_pos (show ((0 : Int) == 0) = true from by decide)]
        exact step s _ _ hl hi (by omega) (by omega) (by omega) (KeepBut.refl _ _) hR
end
end Mine
end
theorem Mine.resetRe6 : True := by
  w_top off
  exact True.intro
-- text Re6
section
open PySem PySem.Builtin PySem.Builtin.Re PyProof.Rows
set_option maxRecDepth 100000
namespace Mine
theorem str_nocall : typeLookup (.type "str") "__call__" = pure none := by rw [typeLookup_type, builtinLookup_eq_fast]; kernel_rfl
theorem reNamed3 (a b : Value) : reNamed "re.Pattern.sub" "sub" ["repl", "string", "count"] 2 [a, b] [] = pure [some a, some b, none] := by kernel_rfl
section
variable {prog : Program} {w : World} {A : Around} {E : Value → Shared → Prop} {s : Shared}
theorem get_sub {M : Model} {a : Addr} {code : Array Nat} {pl : Sem Bool} {Q : Value × List Value → Shared → Prop} (p : PatAt s.heap a code) (h : Q (.builtin "re.Pattern.sub", [.ref a]) s) :
    wpAny M A (getMethod (.ref a) "sub" pl) Q E s := by
  obtain ⟨o, vs, c, oc, items, n, ho, h1, h2, h3, _⟩ := p
  exact getMethod_builtin ⟨o, ho, h1⟩ plain_pat slot_sub type_sub (fun b e => by cases e; exact ⟨o, ho, h2⟩) h

theorem wp_sub {code : Array Nat} {x repl : Str} {next : Nat → Option (Nat × Nat)} (hf : Finder code x.cps next) (hx : x.cps.size ≤ 1000) (hrl : repl.cps.size ≤ 2) (hr : repl.cps.contains 92 = false)
    {a : Addr} {t tr : Tok} {Q : Value → Shared → Prop} (p : PatAt s.heap a code)
    (hQ : ∀ t' h' tk', (∀ b o, s.heap.get? b = some o → h'.get? b = some o) → Q (.str ⟨(outFrom x.cps repl.cps.toList next (x.cps.size + 1) 0).toArray⟩ t') { s with heap := h', toks := tk' }) :
    wpAny (model prog w) A (call (.builtin "re.Pattern.sub") [.ref a, .str repl tr, .str x t]) Q E s := by
  have hT : s.TypeIs (.ref a) "re.Pattern" := by
    obtain ⟨o, vs, c, oc, items, n, ho, h1, _⟩ := p
    exact ⟨o, ho, h1⟩
  refine wpAny_call (codeAny_call_builtin slot_sub.plain entry_sub (slot_sub.check _ _ _ _ _ _ _ _ hT (args_sub _ _ _) ?_))
  show wpAny (model prog w) A.in1 (reSubstitute "re.Pattern.sub" "sub" false ⟨[.ref a, .str repl tr, .str x t], []⟩) _ _ s
  unfold reSubstitute
  refine wpAny_bind (wpAny_of_eq (reNamed3 _ _) ?_)
  refine wpAny_bind (wpAny_pure ?_)
  refine wpAny_bind (wpAny_specialOf (T := "str") rfl str_nocall ?_)
  refine wpAny_bind (wpAny_bind (wpAny_pure ?_))
  refine wpAny_pure ?_
  refine wpAny_bind (wpAny_pure ?_)
  dsimp only
  rw [hr, if_neg (by simp), if_pos (by rfl)]
  refine wpAny_bind (wpAny_pure ?_)
  refine wpAny_bind (wpAny_holding (wp_target p ?_))
  rw [if_neg (by dsimp only; decide)]
  refine wpAny_bind (wpAny_newList ?_)
  refine wpAny_pure ⟨plainId_quiet (by decide +kernel) _, ?_⟩
  have hk0 : ∀ b o, s.heap.get? b = some o → (s.heap.push { cls := .type "list", data := .seq ([] : List Value).toArray }).get? b = some o := fun b o e => Heap.get?_push_of_some _ e
  have hlt : ∀ b o, s.heap.get? b = some o → b ≠ s.heap.objs.size := fun b o e => Nat.ne_of_lt (Heap.lt_size e)
  refine sub_loop hf hx hrl (x.cps.size + 1) 0 0 { s with heap := s.heap.push { cls := .type "list", data := .seq ([] : List Value).toArray } } #[] [] (Nat.zero_le _) (by omega) ?_ ?_ .nil (Nat.zero_le _) (Nat.zero_le _) ?_
  · intro h' hk
    exact p.keeps fun b o e => hk b o (hlt b o e) (hk0 b o e)
  · exact ⟨_, Heap.get?_push_size _ rfl, rfl, _, rfl⟩
  · intro t' h' tk' hk
    exact hQ t' h' tk' fun b o e => hk b o (hlt b o e) (hk0 b o e)
end
end Mine
end
theorem Mine.resetRe7 : True := by
  w_top off
  exact True.intro
-- text Re7
section
open PySem
set_option maxRecDepth 100000
namespace Mine
noncomputable def fnd1 (text : Array Nat) (p : Nat) : Option (Nat × Nat) := (next1 text (text.size - p) p).map fun s => (s, s + 1)
noncomputable def fnd2 (text : Array Nat) (p : Nat) : Option (Nat × Nat) := (next2 text (text.size - p) p).map fun s => (s, end2 text text.size s)
theorem next1_on {text : Array Nat} : ∀ {f p s : Nat}, next1 text f p = some s → p ≤ s ∧ s < p + f := by
  intro f
  induction f with
  | zero => intro p s h; cases h
  | succ f ih =>
    intro p s h
    cases hh : hit1 text p with
    | true => rw [next1_yes hh] at h; cases h; omega
    | false => rw [next1_no hh] at h; have := ih h; omega
theorem next2_on {text : Array Nat} : ∀ {f p s : Nat}, next2 text f p = some s → p ≤ s ∧ s < p + f := by
  intro f
  induction f with
  | zero => intro p s h; cases h
  | succ f ih =>
    intro p s h
    cases hh : hit2 text p with
    | true => rw [next2_yes hh] at h; cases h; omega
    | false => rw [next2_no hh] at h; have := ih h; omega
theorem end2_on (text : Array Nat) (lim s : Nat) (h : s < lim) : s < end2 text lim s ∧ end2 text lim s ≤ lim := by
  unfold end2
  split
  · rename_i hh
    simp only [Bool.and_eq_true, decide_eq_true_eq] at hh
    omega
  · omega
theorem finder1 (text : Array Nat) (h : text.size ≤ 1000) : Finder c1 text (fnd1 text) := by
  refine ⟨fun p hp => ?_, fun p s e hp hn => ?_⟩
  · obtain ⟨m', hE, hm⟩ := find1 text p text.size hp
    refine ⟨m', _, by omega, hE, ?_⟩
    unfold fnd1
    cases hn : next1 text (text.size - p) p with
    | none => rw [hn] at hm; exact hm
    | some s => rw [hn] at hm; exact hm
  · unfold fnd1 at hn
    cases h1 : next1 text (text.size - p) p with
    | none => rw [h1] at hn; cases hn
    | some s' =>
      rw [h1] at hn
      cases hn
      have := next1_on h1
      omega
theorem finder2 (text : Array Nat) : Finder c2 text (fnd2 text) := by
  refine ⟨fun p hp => ?_, fun p s e hp hn => ?_⟩
  · obtain ⟨m', hE, hm⟩ := find2 text p text.size hp
    refine ⟨m', _, by omega, hE, ?_⟩
    unfold fnd2
    cases hn : next2 text (text.size - p) p with
    | none => rw [hn] at hm; exact hm
    | some s => rw [hn] at hm; exact hm
  · unfold fnd2 at hn
    cases h1 : next2 text (text.size - p) p with
    | none => rw [h1] at hn; cases hn
    | some s' =>
      rw [h1] at hn
      cases hn
      have h2 := next2_on h1
      have := end2_on text text.size s (by omega)
      omega

noncomputable def sub1 : Bool → List Nat → List Nat
  | _, [] => []
  | b, c :: r => if (b && c == 46) = true then 46 :: 46 :: sub1 false r else c :: sub1 (c == 10) r
noncomputable def sub2 : List Nat → List Nat
  | [] => []
  | 13 :: 10 :: r => 13 :: 10 :: sub2 r
  | c :: r => if (c == 10 || c == 13) = true then 13 :: 10 :: sub2 r else c :: sub2 r

theorem getD_list (text : Array Nat) (i : Nat) : text.getD i 0 = text.toList.getD i 0 := by simp
theorem drop_cons (text : Array Nat) (p : Nat) (h : p < text.size) : text.toList.drop p = text.getD p 0 :: text.toList.drop (p + 1) := by
  rw [List.drop_eq_getElem_cons (by simpa using h)]
  simp [h]
theorem ext_list (text : Array Nat) (p s : Nat) : (text.extract p s).toList = (text.toList.drop p).take (s - p) := by
  simp [List.extract_eq_take_drop]

noncomputable def bol (text : Array Nat) (p : Nat) : Bool := p == 0 || text.getD (p - 1) 0 == 10
theorem bol_succ (text : Array Nat) (p : Nat) : bol text (p + 1) = (text.getD p 0 == 10) := by
  unfold bol
  simp

theorem gap1 (text : Array Nat) : ∀ (f p : Nat), p + f = text.size → sub1 (bol text p) (text.toList.drop p) = match next1 text f p with
    | some s => (text.extract p s).toList ++ (46 :: 46 :: sub1 (bol text (s + 1)) (text.toList.drop (s + 1)))
    | none => (text.extract p text.size).toList := by
  intro f
  induction f with
  | zero =>
    intro p hp
    have : p = text.size := by omega
    subst this
    have e : text.toList.drop text.size = [] := by simp
    rw [e]
    show [] = (text.extract text.size text.size).toList
    simp
  | succ f ih =>
    intro p hp
    have hlt : p < text.size := by omega
    rw [drop_cons text p hlt]
    cases hh : hit1 text p with
    | true =>
      rw [next1_yes hh]
      have e46 : text.getD p 0 = 46 := by unfold hit1 at hh; simp only [Bool.and_eq_true, beq_iff_eq] at hh; exact hh.2
      have hb : bol text p = true := by unfold hit1 at hh; simp only [Bool.and_eq_true] at hh; exact hh.1
      show (if (bol text p && text.getD p 0 == 46) = true then _ else _) = (text.extract p p).toList ++ _
      rw [hb, e46, bol_succ, e46]
      simp
    | false =>
      rw [next1_no hh]
      have hc : (bol text p && text.getD p 0 == 46) = false := hh
      show (if (bol text p && text.getD p 0 == 46) = true then _ else _) = _
      rw [hc, if_neg Bool.false_ne_true, ← bol_succ, ih (p + 1) (by omega)]
      cases hn : next1 text f (p + 1) with
      | none =>
        show _ :: (text.extract (p + 1) text.size).toList = (text.extract p text.size).toList
        rw [ext_list, ext_list, drop_cons text p hlt, show text.size - p = (text.size - (p + 1)) + 1 by omega, List.take_succ_cons]
      | some s =>
        have := next1_on hn
        show _ :: ((text.extract (p + 1) s).toList ++ _) = (text.extract p s).toList ++ _
        rw [ext_list, ext_list, drop_cons text p hlt, show s - p = (s - (p + 1)) + 1 by omega, List.take_succ_cons, List.cons_append]

theorem out1 (text : Array Nat) : ∀ (fuel p : Nat), p ≤ text.size → text.size - p < fuel → outFrom text [46, 46] (fnd1 text) fuel p = sub1 (bol text p) (text.toList.drop p) := by
  intro fuel
  induction fuel with
  | zero => intro p _ h; exact absurd h (Nat.not_lt_zero _)
  | succ fuel ih =>
    intro p hp hf
    rw [gap1 text (text.size - p) p (by omega)]
    show (match fnd1 text p with | some (s, e) => _ | none => _) = _
    unfold fnd1
    cases hn : next1 text (text.size - p) p with
    | none => rfl
    | some s =>
      have := next1_on hn
      show (text.extract p s).toList ++ ([46, 46] ++ outFrom text [46, 46] (fnd1 text) fuel (s + 1)) = _
      rw [ih (s + 1) (by omega) (by omega)]
      rfl

theorem sub2_no {c : Nat} {r : List Nat} (h : (c == 10 || c == 13) = false) : sub2 (c :: r) = c :: sub2 r := by
  rw [sub2]
  · rw [h]; rfl
  · intro r' hc hr
    subst hc
    cases h
theorem gap2 (text : Array Nat) : ∀ (f p : Nat), p + f = text.size → sub2 (text.toList.drop p) = match next2 text f p with
    | some s => (text.extract p s).toList ++ (13 :: 10 :: sub2 (text.toList.drop (end2 text text.size s)))
    | none => (text.extract p text.size).toList := by
  intro f
  induction f with
  | zero =>
    intro p hp
    have : p = text.size := by omega
    subst this
    have e : text.toList.drop text.size = [] := by simp
    rw [e]
    show [] = (text.extract text.size text.size).toList
    simp
  | succ f ih =>
    intro p hp
    have hlt : p < text.size := by omega
    cases hh : hit2 text p with
    | true =>
      rw [next2_yes hh]
      show sub2 (text.toList.drop p) = (text.extract p p).toList ++ _
      have e0 : (text.extract p p).toList = [] := by simp
      rw [e0, List.nil_append]
      by_cases hx : (text.getD p 0 == 13 && decide (p + 1 < text.size) && text.getD (p + 1) 0 == 10) = true
      · have he : end2 text text.size p = p + 2 := by unfold end2; rw [hx]; rfl
        simp only [Bool.and_eq_true, decide_eq_true_eq, beq_iff_eq] at hx
        rw [he, drop_cons text p hlt, drop_cons text (p + 1) hx.1.2, hx.1.1, hx.2]
        rfl
      · have he : end2 text text.size p = p + 1 := by unfold end2; rw [if_neg hx]
        rw [he, drop_cons text p hlt, sub2]
        · have : (text.getD p 0 == 10 || text.getD p 0 == 13) = true := hh
          rw [this]; rfl
        · intro r' hc hr
          apply hx
          rw [hc]
          by_cases hl : p + 1 < text.size
          · rw [drop_cons text (p + 1) hl] at hr
            injection hr with h1 h2
            rw [decide_eq_true hl, h1]; rfl
          · have : text.toList.drop (p + 1) = [] := by
              apply List.drop_eq_nil_of_le
              simp; omega
            rw [this] at hr; cases hr
    | false =>
      rw [next2_no hh, drop_cons text p hlt, sub2_no hh, ih (p + 1) (by omega)]
      cases hn : next2 text f (p + 1) with
      | none =>
        show _ :: (text.extract (p + 1) text.size).toList = (text.extract p text.size).toList
        rw [ext_list, ext_list, drop_cons text p hlt, show text.size - p = (text.size - (p + 1)) + 1 by omega, List.take_succ_cons]
      | some s =>
        have := next2_on hn
        show _ :: ((text.extract (p + 1) s).toList ++ _) = (text.extract p s).toList ++ _
        rw [ext_list, ext_list, drop_cons text p hlt, show s - p = (s - (p + 1)) + 1 by omega, List.take_succ_cons, List.cons_append]
theorem out2 (text : Array Nat) : ∀ (fuel p : Nat), p ≤ text.size → text.size - p < fuel → outFrom text [13, 10] (fnd2 text) fuel p = sub2 (text.toList.drop p) := by
  intro fuel
  induction fuel with
  | zero => intro p _ h; exact absurd h (Nat.not_lt_zero _)
  | succ fuel ih =>
    intro p hp hf
    rw [gap2 text (text.size - p) p (by omega)]
    show (match fnd2 text p with | some (s, e) => _ | none => _) = _
    unfold fnd2
    cases hn : next2 text (text.size - p) p with
    | none => rfl
    | some s =>
      have h1 := next2_on hn
      have h2 := end2_on text text.size s (by omega)
      show (text.extract p s).toList ++ ([13, 10] ++ outFrom text [13, 10] (fnd2 text) fuel (end2 text text.size s)) = _
      rw [ih _ (by omega) (by omega)]
      rfl
end Mine
end
theorem Mine.resetRe8 : True := by
  w_top off
  exact True.intro
-- text Re8
section
open PySem PyProof.Rows
set_option maxRecDepth 100000
namespace Mine
/-- what quotedata makes of a text -/
noncomputable def quo (x : Str) : Str := ⟨(sub1 true (sub2 x.cps.toList)).toArray⟩
/-- a mail: a times x, b rows: a line end and d dots -/
noncomputable def mailL (a b : Nat) (nl : List Nat) (d : Nat) : List Nat := List.replicate a 120 ++ (List.replicate b (nl ++ List.replicate d 46)).flatten
theorem mailL_length (a b d : Nat) (nl : List Nat) : (mailL a b nl d).length = a + b * (nl.length + d) := by
  simp [mailL, List.length_flatten, List.map_replicate, List.sum_replicate_nat]
theorem sub2_x (a : Nat) (r : List Nat) : sub2 (List.replicate a 120 ++ r) = List.replicate a 120 ++ sub2 r := by
  induction a with
  | zero => rfl
  | succ a ih => rw [List.replicate_succ, List.cons_append, sub2_no (by rfl), ih]; rfl
theorem sub2_dots (d : Nat) (r : List Nat) : sub2 (List.replicate d 46 ++ r) = List.replicate d 46 ++ sub2 r := by
  induction d with
  | zero => rfl
  | succ d ih => rw [List.replicate_succ, List.cons_append, sub2_no (by rfl), ih]; rfl
theorem sub2_nl (nl : List Nat) (h : nl = [10] ∨ nl = [13] ∨ nl = [13, 10]) (r : List Nat) (d : Nat) : sub2 (nl ++ (List.replicate (d + 1) 46 ++ r)) = 13 :: 10 :: (List.replicate (d + 1) 46 ++ sub2 r) := by
  rcases h with rfl | rfl | rfl
  · show sub2 (10 :: (List.replicate (d + 1) 46 ++ r)) = _
    rw [sub2]
    · rw [sub2_dots]; rfl
    · intro r' hc; cases hc
  · show sub2 (13 :: (List.replicate (d + 1) 46 ++ r)) = _
    rw [sub2]
    · rw [sub2_dots]; rfl
    · intro r' _ hr
      rw [List.replicate_succ, List.cons_append] at hr
      cases hr
  · show sub2 (13 :: 10 :: (List.replicate (d + 1) 46 ++ r)) = _
    rw [sub2, sub2_dots]
theorem sub2_rows (nl : List Nat) (h : nl = [10] ∨ nl = [13] ∨ nl = [13, 10]) (d b : Nat) :
    sub2 (List.replicate b (nl ++ List.replicate (d + 1) 46)).flatten = (List.replicate b ([13, 10] ++ List.replicate (d + 1) 46)).flatten := by
  induction b with
  | zero => rfl
  | succ b ih =>
    rw [List.replicate_succ, List.flatten_cons, List.append_assoc, sub2_nl nl h, ih, List.replicate_succ (n := b), List.flatten_cons]
    rfl
theorem sub1_x (a : Nat) (r : List Nat) (b : Bool) (hr : ∀ b, sub1 b r = sub1 false r) : sub1 b (List.replicate a 120 ++ r) = List.replicate a 120 ++ sub1 false r := by
  induction a generalizing b with
  | zero => exact hr b
  | succ a ih =>
    rw [List.replicate_succ, List.cons_append]
    show (if (b && (120 : Nat) == 46) = true then _ else 120 :: sub1 ((120 : Nat) == 10) _) = _
    rw [show (b && (120 : Nat) == 46) = false from by cases b <;> rfl, if_neg Bool.false_ne_true, ih]
    rfl
theorem sub1_dots (d : Nat) (r : List Nat) : sub1 false (List.replicate d 46 ++ r) = List.replicate d 46 ++ sub1 false r := by
  induction d with
  | zero => rfl
  | succ d ih =>
    rw [List.replicate_succ, List.cons_append]
    show 46 :: sub1 ((46 : Nat) == 10) _ = _
    rw [show ((46 : Nat) == 10) = false from rfl, ih]
    rfl
theorem sub1_row (d : Nat) (r : List Nat) (b : Bool) :
    sub1 b ([13, 10] ++ (List.replicate (d + 1) 46 ++ r)) = [13, 10] ++ (List.replicate (d + 2) 46 ++ sub1 false r) := by
  show (if (b && (13 : Nat) == 46) = true then _ else 13 :: sub1 ((13 : Nat) == 10) _) = _
  rw [show (b && (13 : Nat) == 46) = false from by cases b <;> rfl, if_neg Bool.false_ne_true]
  show 13 :: sub1 false (10 :: _) = _
  show 13 :: 10 :: sub1 true (List.replicate (d + 1) 46 ++ r) = _
  rw [List.replicate_succ, List.cons_append]
  show 13 :: 10 :: 46 :: 46 :: sub1 false (List.replicate d 46 ++ r) = _
  rw [sub1_dots d r]
  rfl
theorem sub1_rows (d b : Nat) : (∀ c, sub1 c (List.replicate b ([13, 10] ++ List.replicate (d + 1) 46)).flatten = sub1 false (List.replicate b ([13, 10] ++ List.replicate (d + 1) 46)).flatten) ∧
    sub1 false (List.replicate b ([13, 10] ++ List.replicate (d + 1) 46)).flatten = (List.replicate b ([13, 10] ++ List.replicate (d + 2) 46)).flatten := by
  induction b with
  | zero => exact ⟨fun _ => rfl, rfl⟩
  | succ b ih =>
    have e : ∀ c, sub1 c (List.replicate (b + 1) ([13, 10] ++ List.replicate (d + 1) 46)).flatten = (List.replicate (b + 1) ([13, 10] ++ List.replicate (d + 2) 46)).flatten := by
      intro c
      rw [List.replicate_succ, List.flatten_cons, List.append_assoc, sub1_row d _ c, ih.2, List.replicate_succ (n := b), List.flatten_cons, List.append_assoc]
    exact ⟨fun c => (e c).trans (e false).symm, e false⟩
/-- one hour of a mail -/
theorem quo_mail (a b d : Nat) (nl : List Nat) (h : nl = [10] ∨ nl = [13] ∨ nl = [13, 10]) : quo ⟨(mailL a b nl (d + 1)).toArray⟩ = ⟨(mailL a b [13, 10] (d + 2)).toArray⟩ := by
  unfold quo
  congr 2
  show sub1 true (sub2 (mailL a b nl (d + 1))) = _
  unfold mailL
  rw [sub2_x, sub2_rows nl h, sub1_x _ _ _ (sub1_rows d b).1, (sub1_rows d b).2]

theorem c1_of : ((#[Value.int 14 0, Value.int 4 0, Value.int 0 0, Value.int 1 0, Value.int 1 0, Value.int 6 0, Value.int 1 0, Value.int 16 0, Value.int 46 0, Value.int 1 0] : Array Value).map Builtin.Re.reRawOf).map (·.toNat) = c1 := by decide +kernel

section
variable {prog : Program} {w : World} {A : Around} {E : Value → Shared → Prop} {s : Shared}
theorem wp_dot {x : Str} (hx : x.cps.size ≤ 1000) {a : Addr} {t tr : Tok} {Q : Value → Shared → Prop} (p : PatAt s.heap a c1)
    (hQ : ∀ t' h' tk', (∀ b o, s.heap.get? b = some o → h'.get? b = some o) → Q (.str ⟨(sub1 true x.cps.toList).toArray⟩ t') { s with heap := h', toks := tk' }) :
    wpAny (model prog w) A (call (.builtin "re.Pattern.sub") [.ref a, .str (Str.ofString "..") tr, .str x t]) Q E s := by
  refine wp_sub (finder1 x.cps hx) hx (by decide +kernel) (by decide +kernel) p ?_
  have e : (Str.ofString "..").cps.toList = [46, 46] := by decide +kernel
  rw [e, out1 x.cps (x.cps.size + 1) 0 (Nat.zero_le _) (by omega)]
  exact hQ
theorem wp_crlf {x : Str} (hx : x.cps.size ≤ 1000) {a : Addr} {t tr : Tok} {Q : Value → Shared → Prop} (p : PatAt s.heap a c2)
    (hQ : ∀ t' h' tk', (∀ b o, s.heap.get? b = some o → h'.get? b = some o) → Q (.str ⟨(sub2 x.cps.toList).toArray⟩ t') { s with heap := h', toks := tk' }) :
    wpAny (model prog w) A (call (.builtin "re.Pattern.sub") [.ref a, .str (Str.ofString "\r\n") tr, .str x t]) Q E s := by
  refine wp_sub (finder2 x.cps) hx (by decide +kernel) (by decide +kernel) p ?_
  have e : (Str.ofString "\r\n").cps.toList = [13, 10] := by decide +kernel
  rw [e, out2 x.cps (x.cps.size + 1) 0 (Nat.zero_le _) (by omega)]
  exact hQ
end
theorem sub2_len : ∀ (l : List Nat), (sub2 l).length ≤ 2 * l.length
  | [] => Nat.le_refl _
  | [c] => by
    rw [sub2]
    · split <;> simp [sub2]
    · intro r _ h; cases h
  | c :: c' :: r => by
    have h1 := sub2_len r
    have h2 := sub2_len (c' :: r)
    by_cases h : c = 13 ∧ c' = 10
    · obtain ⟨rfl, rfl⟩ := h
      rw [sub2]; simp only [List.length_cons]; omega
    · rw [sub2]
      · split <;> simp only [List.length_cons] at * <;> omega
      · intro r' hc hr
        injection hr with h3 h4
        exact h ⟨hc, h3⟩
end Mine
end
theorem Mine.resetT1 : True := by
  w_top off
  exact True.intro
-- text T1
section
open PySem PySem.W PyProof.Rows PySem.Spec PySem.Calls
set_option maxRecDepth 100000
set_option maxHeartbeats 8000000
namespace Mine
noncomputable def subst (a b : Str) : Int := if a = b then 0 else if Txt.lower a = Txt.lower b then 1 else 2
noncomputable abbrev lawClaim (w : World) (mean : ExcName → Option Value) (mg mb : Str → Option Value) := CbClaim PySem.Challenge.rw_pg0137_01.row.prog w (hd.heap_39 w.params) topProg looL mean mg mb
theorem c_subst (w : World) (mean : ExcName → Option Value) (mg mb : Str → Option Value) (a b : Str) (ta tb : Tok) (news : List (Addr × Obj)) (ha : a.length = 1) (hb : b.length = 1) :
   lawClaim w mean mg mb 73 news [] True [Value.str a ta, Value.str b tb] (fun t => Value.int (subst a b) t) := by
  unfold lawClaim
  k_fill
  dsimp only [CbClaim, CbLists, CbRet]; intros; rename_i hret
  refine wpAny_call ?_
  k_dflt cell_enter
  k_steps
  all_goals (try (k_with "tree" => simp only [subst]; simp_all))
  all_goals cb_end hret
end Mine
end
theorem Mine.resetT2 : True := by
  w_top off
  exact True.intro
-- text T2
section
open PySem PySem.W PyProof.Rows PySem.Spec PySem.Calls
set_option maxRecDepth 100000
set_option maxHeartbeats 8000000
namespace Mine
theorem pat1 {P : Params} {h : Heap} (X : (hd.heap_39 P).In h) : PatAt h 54 c1 :=
  ⟨{ cls := .type "re.Pattern", data := .fields #[Value.str (Str.ofString "(?m)^\\.") 314, Value.int 40 327, Value.int 0 0, Value.none, Value.none, Value.ref 53, Value.int 0 0] }, _, 53,
   { cls := .type "tuple", data := .seq #[Value.int 14 0, Value.int 4 0, Value.int 0 0, Value.int 1 0, Value.int 1 0, Value.int 6 0, Value.int 1 0, Value.int 16 0, Value.int 46 0, Value.int 1 0] }, _, _,
   X 54 _ (by kernel_rfl), rfl, rfl, rfl, rfl, rfl, rfl, X 53 _ (by kernel_rfl), rfl, by decide +kernel⟩
theorem pat2 {P : Params} {h : Heap} (X : (hd.heap_39 P).In h) : PatAt h 59 c2 :=
  ⟨{ cls := .type "re.Pattern", data := .fields #[Value.str (Str.ofString "(?:\\r\\n|\\n|\\r(?!\\n))") 330, Value.int 32 369, Value.int 0 0, Value.none, Value.none, Value.ref 58, Value.int 0 0] }, _, 58,
   { cls := .type "tuple", data := .seq #[Value.int 14 0, Value.int 9 0, Value.int 4 0, Value.int 1 0, Value.int 2 0, Value.int 16 0, Value.int 10 0,
        Value.int 16 0, Value.int 13 0, Value.int 0 0, Value.int 7 0, Value.int 7 0, Value.int 16 0, Value.int 13 0,
        Value.int 16 0, Value.int 10 0, Value.int 15 0, Value.int 18 0, Value.int 5 0, Value.int 16 0, Value.int 10 0,
        Value.int 15 0, Value.int 13 0, Value.int 11 0, Value.int 16 0, Value.int 13 0, Value.int 5 0, Value.int 5 0,
        Value.int 0 0, Value.int 16 0, Value.int 10 0, Value.int 1 0, Value.int 15 0, Value.int 2 0, Value.int 0 0,
        Value.int 1 0] }, _, _,
   X 59 _ (by kernel_rfl), rfl, rfl, rfl, rfl, rfl, rfl, X 58 _ (by kernel_rfl), rfl, by decide +kernel⟩
section
variable {prog : Program} {w : World} {A : Around} {E : Value → Shared → Prop} {s : Shared} {h₀ : Heap} {L : Addr} {m : Str → Option Value} {news : List (Addr × Obj)}
theorem wp_dotK {x : Str} (F : Fr h₀ L s.heap m) (N : News h₀ L s.heap news) (hx : x.cps.size ≤ 1000) {a : Addr} {t tr : Tok} {Q : Value → Shared → Prop} (p : PatAt s.heap a c1)
    (hQ : ∀ t' h' tk', Fr h₀ L h' m → News h₀ L h' news → Q (.str ⟨(sub1 true x.cps.toList).toArray⟩ t') { s with heap := h', toks := tk' }) :
    wpAny (model prog w) A (call (.builtin "re.Pattern.sub") [.ref a, .str (Str.ofString "..") tr, .str x t]) Q E s :=
  wp_dot hx p fun t' h' tk' hk => hQ t' h' tk' (F.keeps hk) (N.keeps hk)
theorem wp_crlfK {x : Str} (F : Fr h₀ L s.heap m) (N : News h₀ L s.heap news) (hx : x.cps.size ≤ 1000) {a : Addr} {t tr : Tok} {Q : Value → Shared → Prop} (p : PatAt s.heap a c2)
    (hQ : ∀ t' h' tk', Fr h₀ L h' m → News h₀ L h' news → Q (.str ⟨(sub2 x.cps.toList).toArray⟩ t') { s with heap := h', toks := tk' }) :
    wpAny (model prog w) A (call (.builtin "re.Pattern.sub") [.ref a, .str (Str.ofString "\r\n") tr, .str x t]) Q E s :=
  wp_crlf hx p fun t' h' tk' hk => hQ t' h' tk' (F.keeps hk) (N.keeps hk)
end
local macro_rules | `(tactic| walk_at "getMethod ref") => `(tactic| (k_here; refine get_sub (by first | exact pat1 (by k_in) | exact pat2 (by k_in)) ?_; (try dsimp only)))
local macro_rules | `(tactic| walk_at "call builtin:re.Pattern.sub") => `(tactic| (k_here; first
   | (refine wp_dotK (by k_asm) (by k_asm) ?kz (by exact pat1 (by k_in)) ?_; (case kz => assumption); intro t' h' tk' F' N'; (try dsimp only))
   | (refine wp_crlfK (by k_asm) (by k_asm) ?kz (by exact pat2 (by k_in)) ?_; (case kz => assumption); intro t' h' tk' F' N'; (try dsimp only))))
theorem c_quo (w : World) (mean : ExcName → Option Value) (mg mb : Str → Option Value) (a : Str) (ta : Tok) (news : List (Addr × Obj)) (ha : a.cps.size ≤ 500)  :
   lawClaim w mean mg mb 66 news [] True [Value.str a ta] (fun t => Value.str (quo a) t) := by
  unfold lawClaim
  k_fill
  dsimp only [CbClaim, CbLists, CbRet]; intros; rename_i hret
  have ha2 : ({ cps := (sub2 a.cps.toList).toArray } : Str).cps.size ≤ 1000 := by
    have h := sub2_len a.cps.toList
    have e : a.cps.toList.length = a.cps.size := Array.length_toList
    show (sub2 a.cps.toList).toArray.size ≤ 1000
    rw [List.size_toArray]; omega
  have ha1 : a.cps.size ≤ 1000 := by omega
  refine wpAny_call ?_
  k_dflt cell_enter
  k_steps
  k_with "tree" => rfl
  all_goals cb_end hret
end Mine
end
theorem Mine.resetT4 : True := by
  w_top off
  exact True.intro
-- text T4
section
open PySem PySem.W PyProof.Rows PySem.Spec PySem.Calls
set_option maxRecDepth 100000
set_option maxHeartbeats 8000000
namespace Mine
/-- a key function, by what it gives: called while the list at l lies ahead of rest on the ledger -/
noncomputable abbrev KeyOk (w : World) (mean : ExcName → Option Value) (mg mb : Str → Option Value) (f l : Addr) (rest : List (Addr × Obj)) (k : Int) (v : Int) : Prop :=
  ∀ (dp un : Nat) (gd : Option (List Code)) (cn : Str) (cs : Scope) (a : Addr) (ccd : Value) (cl : List (Str × Addr)) (outer : List Env) (A₀ : Around) (base h₀ : Heap) (L : Addr) (m : Str → Option Value) (s : Shared) (Q E : Value → Shared → Prop) (o : Obj) (t : Tok),
    Below A₀ base outer h₀ → Fr h₀ L s.heap m → (hd.heap_39 w.params).In h₀ → News h₀ L s.heap ((l, o) :: rest) → Top topProg looL mean mg mb h₀ → cs.kind = .function →
    dp + 4 < recursionLimit → un + 30 < cLine → (∀ (t : Tok) (h' : Heap) (tk' : Nat), Fr h₀ L h' m → News h₀ L h' ((l, o) :: rest) → Q (.int v t) { s with heap := h', toks := tk' }) →
    wpAny (model PySem.Challenge.rw_pg0137_01.row.prog w) (ktrTop dp un gd cn cs L a ccd cl outer) (call (.ref f) [.int k t]) Q E s
noncomputable def KeyAll (w : World) (mean : ExcName → Option Value) (mg mb : Str → Option Value) (f l : Addr) (rest : List (Addr × Obj)) (ℓ : Int → Int) : Prop := ∀ k, 0 ≤ k → k < 4 → KeyOk w mean mg mb f l rest k (ℓ k)
local macro_rules | `(tactic| k_all) => `(tactic| assumption)
local macro_rules | `(tactic| walk_at "call ref") => `(tactic| (k_here; k_dflt (refine wpAny_call ?_; refine' code_def ?k1 ?k2 ?k3 ?k4 ?k5 ?kA ?kF ?kK ?k6 ?k7 ?k8 ?k9 ?kB ?_ ?c2 ?c3 ?c4 ?c5; (case kA => exact rfl); (case kF => exact rfl); (case kK => exact rfl); (case k1 => k_asm); (case k2 => k_asm); (case k3 => k_asm); (case k4 => k_asm); (case k5 => k_asm); (case k6 => k_is); (case k7 => k_is); (case k8 => ktr_room); (case k9 => first | exact BindsTo.of_eq rfl | exact binds_K (by k_in) rfl (by k_is) rfl rfl rfl | fail "k_enter: no rule for these arguments"); (case c5 => decide); (case kB => exact locs rfl); (case c2 => exact rfl); (case c3 => exact rfl); (case c4 => exact rfl); k_whole; intro g' L' h' FG' F' N' B' X' T'; (try dsimp only); (try k_lift B'); (try k_fold))))
local macro_rules | `(tactic| k_mem) => `(tactic| assumption)
local macro_rules | `(tactic| walk_at "callWith ref") => `(tactic| (k_here; k_dflt (refine' callWith_F ?k1 ?_; (case k1 => exact FnAt.of (by k_asm) (by k_mem)); k_whole)))
local macro_rules | `(tactic| walk_at "call ref") => `(tactic| (k_here; (with_reducible rename KeyAll _ _ _ _ _ _ _ _ => hK); k_dflt (
   refine' hK _ ?ka ?kb _ _ _ _ _ _ _ _ _ _ _ _ _ _ _ _ _ _ _ ?k1 ?k2 ?k3 ?k4 ?k6 ?k7 ?k8 ?k9 ?_; (case k1 => k_asm); (case k2 => k_asm); (case k3 => k_asm); (case k4 => k_asm); (case k6 => k_asm); (case k7 => exact rfl); (case k8 => ktr_room); (case k9 => ktr_units); (case ka => first | assumption | omega); (case kb => first | assumption | omega); k_whole; intro t' h' tk' F' N'; (try dsimp only); (try k_fold))))
noncomputable def ins0 (_ℓ : Int → Int) (x : Int) : List Int := [x]
noncomputable def ins1 (ℓ : Int → Int) (x i0 : Int) : List Int := if ℓ x < ℓ i0 then [x, i0] else [i0, x]
noncomputable def ins2 (ℓ : Int → Int) (x i0 i1 : Int) : List Int := if ℓ x < ℓ i1 then (if ℓ x < ℓ i0 then [x, i0, i1] else [i0, x, i1]) else [i0, i1, x]
noncomputable def ins3 (ℓ : Int → Int) (x i0 i1 i2 : Int) : List Int := if ℓ x < ℓ i1 then (if ℓ x < ℓ i0 then [x, i0, i1, i2] else [i0, x, i1, i2]) else (if ℓ x < ℓ i2 then [i0, i1, x, i2] else [i0, i1, i2, x])

theorem c_ins0 (w : World) (mean : ExcName → Option Value) (mg mb : Str → Option Value) (f l : Nat) (x : Int)  (n : Nat) (t : Tok) (ℓ : Int → Int) (rest : List (Addr × Obj)) (hrest : ∀ p ∈ rest, p.1 ≠ l)
   (hK : KeyAll w mean mg mb f l rest ℓ) {oc : Value} {od : Option Addr} {fd : FuncData} {sl : Array (Option Value)} (hf : (f, (⟨oc, od, .func fd, sl⟩ : Obj)) ∈ rest) (hx0 : 0 ≤ x) (hx4 : x < 4) 
   (dp un : Nat) (gd : Option (List Code)) (cn : Str) (cs : Scope) (a : Addr) (ccd : Value) (cl : List (Str × Addr)) (outer : List Env) (A₀ : Around) (base h₀ : Heap) (L : Addr) (m : Str → Option Value) (s : Shared) (Q E : Value → Shared → Prop)
   (B : Below A₀ base outer h₀) (F : Fr h₀ L s.heap m) (X : (hd.heap_39 w.params).In h₀) (N : News h₀ L s.heap ((l, W.listOf #[] n) :: rest))
   (T : Top topProg looL mean mg mb h₀) (hck : cs.kind = .function)
   (hdp : dp + 8 < recursionLimit) (hun : un + 60 < cLine)
   (hret : ∀ (y0 : Int) (v0 : Tok) (h' : Heap) (tk' n' : Nat), [y0] = ins0 ℓ x  → Fr h₀ L h' m → News h₀ L h' ((l, W.listOf #[.int y0 v0] n') :: rest) → Q .none { s with heap := h', toks := tk' }) :
   wpAny (model PySem.Challenge.rw_pg0137_01.row.prog w) (ktrTop dp un gd cn cs L a ccd cl outer) (call (.ref 40) [.ref l, .int x t] [(Str.ofString "key", .ref f)]) Q E s := by
  revert X; k_fill; intro X
  refine wpAny_call ?_
  k_dflt (refine' code_def ?k1 ?k2 ?k3 ?k4 ?k5 ?kA ?kF ?kK ?k6 ?k7 ?k8 ?k9 ?kB ?_ ?c2 ?c3 ?c4 ?c5; (case kA => exact rfl); (case kF => exact rfl); (case kK => assumption); (case k1 => k_asm); (case k2 => k_asm); (case k3 => k_asm); (case k4 => k_asm); (case k5 => k_asm); (case k6 => k_is); (case k7 => k_is); (case k8 => ktr_room); (case k9 => first | exact BindsTo.of_eq rfl | exact binds_K (by k_in) rfl (by k_is) rfl rfl rfl | fail "k_enter: no rule for these arguments"); (case c5 => decide); (case kB => exact locs rfl); (case c2 => exact rfl); (case c3 => exact rfl); (case c4 => exact rfl); k_whole; intro g' L' h' FG' F' N' B' X' T'; (try dsimp only); (try k_lift B'); (try k_fold))
  k_steps
  all_goals (refine' hret _ _ _ _ _ ?e ?f ?n; (case f => k_asm); (case n => k_asm); (case e => (unfold ins0; first | rfl | exact ((if_pos (by assumption)).trans (if_pos (by assumption))).symm | exact ((if_pos (by assumption)).trans (if_neg (by assumption))).symm | exact ((if_neg (by assumption)).trans (if_pos (by assumption))).symm | exact ((if_neg (by assumption)).trans (if_neg (by assumption))).symm | exact (if_pos (by assumption)).symm | exact (if_neg (by assumption)).symm)))

theorem c_ins1 (w : World) (mean : ExcName → Option Value) (mg mb : Str → Option Value) (f l : Nat) (x : Int) (i0 : Int) (u0 : Tok) (n : Nat) (t : Tok) (ℓ : Int → Int) (rest : List (Addr × Obj)) (hrest : ∀ p ∈ rest, p.1 ≠ l)
   (hK : KeyAll w mean mg mb f l rest ℓ) {oc : Value} {od : Option Addr} {fd : FuncData} {sl : Array (Option Value)} (hf : (f, (⟨oc, od, .func fd, sl⟩ : Obj)) ∈ rest) (hx0 : 0 ≤ x) (hx4 : x < 4) (hi0 : 0 ≤ i0) (hj0 : i0 < 4)
   (dp un : Nat) (gd : Option (List Code)) (cn : Str) (cs : Scope) (a : Addr) (ccd : Value) (cl : List (Str × Addr)) (outer : List Env) (A₀ : Around) (base h₀ : Heap) (L : Addr) (m : Str → Option Value) (s : Shared) (Q E : Value → Shared → Prop)
   (B : Below A₀ base outer h₀) (F : Fr h₀ L s.heap m) (X : (hd.heap_39 w.params).In h₀) (N : News h₀ L s.heap ((l, W.listOf #[.int i0 u0] n) :: rest))
   (T : Top topProg looL mean mg mb h₀) (hck : cs.kind = .function)
   (hdp : dp + 8 < recursionLimit) (hun : un + 60 < cLine)
   (hret : ∀ (y0 y1 : Int) (v0 v1 : Tok) (h' : Heap) (tk' n' : Nat), [y0, y1] = ins1 ℓ x i0 → Fr h₀ L h' m → News h₀ L h' ((l, W.listOf #[.int y0 v0, .int y1 v1] n') :: rest) → Q .none { s with heap := h', toks := tk' }) :
   wpAny (model PySem.Challenge.rw_pg0137_01.row.prog w) (ktrTop dp un gd cn cs L a ccd cl outer) (call (.ref 40) [.ref l, .int x t] [(Str.ofString "key", .ref f)]) Q E s := by
  revert X; k_fill; intro X
  refine wpAny_call ?_
  k_dflt (refine' code_def ?k1 ?k2 ?k3 ?k4 ?k5 ?kA ?kF ?kK ?k6 ?k7 ?k8 ?k9 ?kB ?_ ?c2 ?c3 ?c4 ?c5; (case kA => exact rfl); (case kF => exact rfl); (case kK => assumption); (case k1 => k_asm); (case k2 => k_asm); (case k3 => k_asm); (case k4 => k_asm); (case k5 => k_asm); (case k6 => k_is); (case k7 => k_is); (case k8 => ktr_room); (case k9 => first | exact BindsTo.of_eq rfl | exact binds_K (by k_in) rfl (by k_is) rfl rfl rfl | fail "k_enter: no rule for these arguments"); (case c5 => decide); (case kB => exact locs rfl); (case c2 => exact rfl); (case c3 => exact rfl); (case c4 => exact rfl); k_whole; intro g' L' h' FG' F' N' B' X' T'; (try dsimp only); (try k_lift B'); (try k_fold))
  k_steps
  all_goals (refine' hret _ _ _ _ _ _ _ ?e ?f ?n; (case f => k_asm); (case n => k_asm); (case e => (unfold ins1; first | rfl | exact ((if_pos (by assumption)).trans (if_pos (by assumption))).symm | exact ((if_pos (by assumption)).trans (if_neg (by assumption))).symm | exact ((if_neg (by assumption)).trans (if_pos (by assumption))).symm | exact ((if_neg (by assumption)).trans (if_neg (by assumption))).symm | exact (if_pos (by assumption)).symm | exact (if_neg (by assumption)).symm)))

theorem c_ins2 (w : World) (mean : ExcName → Option Value) (mg mb : Str → Option Value) (f l : Nat) (x : Int) (i0 i1 : Int) (u0 u1 : Tok) (n : Nat) (t : Tok) (ℓ : Int → Int) (rest : List (Addr × Obj)) (hrest : ∀ p ∈ rest, p.1 ≠ l)
   (hK : KeyAll w mean mg mb f l rest ℓ) {oc : Value} {od : Option Addr} {fd : FuncData} {sl : Array (Option Value)} (hf : (f, (⟨oc, od, .func fd, sl⟩ : Obj)) ∈ rest) (hx0 : 0 ≤ x) (hx4 : x < 4) (hi0 : 0 ≤ i0) (hj0 : i0 < 4) (hi1 : 0 ≤ i1) (hj1 : i1 < 4)
   (dp un : Nat) (gd : Option (List Code)) (cn : Str) (cs : Scope) (a : Addr) (ccd : Value) (cl : List (Str × Addr)) (outer : List Env) (A₀ : Around) (base h₀ : Heap) (L : Addr) (m : Str → Option Value) (s : Shared) (Q E : Value → Shared → Prop)
   (B : Below A₀ base outer h₀) (F : Fr h₀ L s.heap m) (X : (hd.heap_39 w.params).In h₀) (N : News h₀ L s.heap ((l, W.listOf #[.int i0 u0, .int i1 u1] n) :: rest))
   (T : Top topProg looL mean mg mb h₀) (hck : cs.kind = .function)
   (hdp : dp + 8 < recursionLimit) (hun : un + 60 < cLine)
   (hret : ∀ (y0 y1 y2 : Int) (v0 v1 v2 : Tok) (h' : Heap) (tk' n' : Nat), [y0, y1, y2] = ins2 ℓ x i0 i1 → Fr h₀ L h' m → News h₀ L h' ((l, W.listOf #[.int y0 v0, .int y1 v1, .int y2 v2] n') :: rest) → Q .none { s with heap := h', toks := tk' }) :
   wpAny (model PySem.Challenge.rw_pg0137_01.row.prog w) (ktrTop dp un gd cn cs L a ccd cl outer) (call (.ref 40) [.ref l, .int x t] [(Str.ofString "key", .ref f)]) Q E s := by
  revert X; k_fill; intro X
  refine wpAny_call ?_
  k_dflt (refine' code_def ?k1 ?k2 ?k3 ?k4 ?k5 ?kA ?kF ?kK ?k6 ?k7 ?k8 ?k9 ?kB ?_ ?c2 ?c3 ?c4 ?c5; (case kA => exact rfl); (case kF => exact rfl); (case kK => assumption); (case k1 => k_asm); (case k2 => k_asm); (case k3 => k_asm); (case k4 => k_asm); (case k5 => k_asm); (case k6 => k_is); (case k7 => k_is); (case k8 => ktr_room); (case k9 => first | exact BindsTo.of_eq rfl | exact binds_K (by k_in) rfl (by k_is) rfl rfl rfl | fail "k_enter: no rule for these arguments"); (case c5 => decide); (case kB => exact locs rfl); (case c2 => exact rfl); (case c3 => exact rfl); (case c4 => exact rfl); k_whole; intro g' L' h' FG' F' N' B' X' T'; (try dsimp only); (try k_lift B'); (try k_fold))
  k_steps
  all_goals (refine' hret _ _ _ _ _ _ _ _ _ ?e ?f ?n; (case f => k_asm); (case n => k_asm); (case e => (unfold ins2; first | rfl | exact ((if_pos (by assumption)).trans (if_pos (by assumption))).symm | exact ((if_pos (by assumption)).trans (if_neg (by assumption))).symm | exact ((if_neg (by assumption)).trans (if_pos (by assumption))).symm | exact ((if_neg (by assumption)).trans (if_neg (by assumption))).symm | exact (if_pos (by assumption)).symm | exact (if_neg (by assumption)).symm)))

theorem c_ins3 (w : World) (mean : ExcName → Option Value) (mg mb : Str → Option Value) (f l : Nat) (x : Int) (i0 i1 i2 : Int) (u0 u1 u2 : Tok) (n : Nat) (t : Tok) (ℓ : Int → Int) (rest : List (Addr × Obj)) (hrest : ∀ p ∈ rest, p.1 ≠ l)
   (hK : KeyAll w mean mg mb f l rest ℓ) {oc : Value} {od : Option Addr} {fd : FuncData} {sl : Array (Option Value)} (hf : (f, (⟨oc, od, .func fd, sl⟩ : Obj)) ∈ rest) (hx0 : 0 ≤ x) (hx4 : x < 4) (hi0 : 0 ≤ i0) (hj0 : i0 < 4) (hi1 : 0 ≤ i1) (hj1 : i1 < 4) (hi2 : 0 ≤ i2) (hj2 : i2 < 4)
   (dp un : Nat) (gd : Option (List Code)) (cn : Str) (cs : Scope) (a : Addr) (ccd : Value) (cl : List (Str × Addr)) (outer : List Env) (A₀ : Around) (base h₀ : Heap) (L : Addr) (m : Str → Option Value) (s : Shared) (Q E : Value → Shared → Prop)
   (B : Below A₀ base outer h₀) (F : Fr h₀ L s.heap m) (X : (hd.heap_39 w.params).In h₀) (N : News h₀ L s.heap ((l, W.listOf #[.int i0 u0, .int i1 u1, .int i2 u2] n) :: rest))
   (T : Top topProg looL mean mg mb h₀) (hck : cs.kind = .function)
   (hdp : dp + 8 < recursionLimit) (hun : un + 60 < cLine)
   (hret : ∀ (y0 y1 y2 y3 : Int) (v0 v1 v2 v3 : Tok) (h' : Heap) (tk' n' : Nat), [y0, y1, y2, y3] = ins3 ℓ x i0 i1 i2 → Fr h₀ L h' m → News h₀ L h' ((l, W.listOf #[.int y0 v0, .int y1 v1, .int y2 v2, .int y3 v3] n') :: rest) → Q .none { s with heap := h', toks := tk' }) :
   wpAny (model PySem.Challenge.rw_pg0137_01.row.prog w) (ktrTop dp un gd cn cs L a ccd cl outer) (call (.ref 40) [.ref l, .int x t] [(Str.ofString "key", .ref f)]) Q E s := by
  revert X; k_fill; intro X
  refine wpAny_call ?_
  k_dflt (refine' code_def ?k1 ?k2 ?k3 ?k4 ?k5 ?kA ?kF ?kK ?k6 ?k7 ?k8 ?k9 ?kB ?_ ?c2 ?c3 ?c4 ?c5; (case kA => exact rfl); (case kF => exact rfl); (case kK => assumption); (case k1 => k_asm); (case k2 => k_asm); (case k3 => k_asm); (case k4 => k_asm); (case k5 => k_asm); (case k6 => k_is); (case k7 => k_is); (case k8 => ktr_room); (case k9 => first | exact BindsTo.of_eq rfl | exact binds_K (by k_in) rfl (by k_is) rfl rfl rfl | fail "k_enter: no rule for these arguments"); (case c5 => decide); (case kB => exact locs rfl); (case c2 => exact rfl); (case c3 => exact rfl); (case c4 => exact rfl); k_whole; intro g' L' h' FG' F' N' B' X' T'; (try dsimp only); (try k_lift B'); (try k_fold))
  k_steps
  all_goals (refine' hret _ _ _ _ _ _ _ _ _ _ _ ?e ?f ?n; (case f => k_asm); (case n => k_asm); (case e => (unfold ins3; first | rfl | exact ((if_pos (by assumption)).trans (if_pos (by assumption))).symm | exact ((if_pos (by assumption)).trans (if_neg (by assumption))).symm | exact ((if_neg (by assumption)).trans (if_pos (by assumption))).symm | exact ((if_neg (by assumption)).trans (if_neg (by assumption))).symm | exact (if_pos (by assumption)).symm | exact (if_neg (by assumption)).symm)))

end Mine
end
theorem Mine.resetT5k : True := by
  w_top off
  exact True.intro
-- text T5k
section
open PySem PySem.W PyProof.Rows PySem.Spec PySem.Calls
set_option maxRecDepth 100000
set_option maxHeartbeats 8000000
namespace Mine
noncomputable def pick4 (a0 a1 a2 a3 : Int) (k : Int) : Int := if k = 0 then a0 else if k = 1 then a1 else if k = 2 then a2 else a3
/-- the lambda of the law's own helper, read off the def -/
noncomputable def lamOf (e : Option Obj) : Expr := match e with
  | some ⟨_, _, .func fd, _⟩ => (match fd.body with
    | .stmts [_, .For _ _ [.Expr (.Call _ _ [⟨_, v, _⟩] _) _] _ _, _] => v
    | _ => .Constant .none 0 ⟨0, 0, 0, 0⟩)
  | _ => .Constant .none 0 ⟨0, 0, 0, 0⟩
theorem KeyAll.of {w : World} {mean : ExcName → Option Value} {mg mb : Str → Option Value} {f l : Addr} {p1 p2 p3 p4 : Addr × Obj} {rest : List (Addr × Obj)} {ℓ : Int → Int} (h1 : p1 ∈ rest) (h2 : p2 ∈ rest) (h3 : p3 ∈ rest) (h4 : p4 ∈ rest)
    (K : KeyAll w mean mg mb f l (p1 :: p2 :: p3 :: p4 :: rest) ℓ) : KeyAll w mean mg mb f l rest ℓ := by
  intro k hk0 hk4 dp un gd cn cs a ccd cl outer A₀ base h₀ L m s Q E o t B F X N T hck hdp hun hret
  refine K k hk0 hk4 dp un gd cn cs a ccd cl outer A₀ base h₀ L m s Q E o t B F X (fun p hp => N p ?_) T hck hdp hun (fun t h' tk' F' N' => hret t h' tk' F' fun p hp => N' p ?_)
  · rcases List.mem_cons.mp hp with rfl | hp
    · exact .head _
    · refine .tail _ ?_
      rcases List.mem_cons.mp hp with rfl | hp
      · exact h1
      · rcases List.mem_cons.mp hp with rfl | hp
        · exact h2
        · rcases List.mem_cons.mp hp with rfl | hp
          · exact h3
          · rcases List.mem_cons.mp hp with rfl | hp
            · exact h4
            · exact hp
  · rcases List.mem_cons.mp hp with rfl | hp
    · exact .head _
    · exact .tail _ (.tail _ (.tail _ (.tail _ (.tail _ hp))))
theorem c_key (w : World) (mean : ExcName → Option Value) (mg mb : Str → Option Value) (f l c cc lm : Nat) (params : Arguments) (body : Expr) (scope : Scope) (pos : Pos) (pm ctv : Value) (a0 a1 a2 a3 : Str) (t0 t1 t2 t3 : Tok) (n : Nat) (oc oo : Obj) (vs : Array Value) (tq : Tok) (rest : List (Addr × Obj))
   (hlam : lamOf ((hd.heap_39 w.params).lookup 87) = .Lambda params body scope pos)
   (h0 : a0.length ≤ 1000) (h1 : a1.length ≤ 1000) (h2 : a2.length ≤ 1000) (h3 : a3.length ≤ 1000)
   (d1 : oc.data = .fields vs) (d2 : vs[1]? = some (.str (Str.ofString "_law_order" ++ Str.ofString ".<locals>." ++ Str.ofString "<lambda>") tq)) (d3 : oo.data = .cell (some (.ref lm))) :
   KeyAll w mean mg mb f l ((f, kla_obj (Str.ofString "<lambda>") (Str.ofString "_law_order" ++ Str.ofString ".<locals>." ++ Str.ofString "<lambda>") params body scope [(Str.ofString "mails", cc)] pm c ctv) :: (c, oc) :: (cc, oo) :: (lm, W.listOf #[.str a0 t0, .str a1 t1, .str a2 t2, .str a3 t3] n) :: rest) (pick4 a0.length a1.length a2.length a3.length) := by
  injection hlam with e1 e2 e3 e4
  subst e1 e2 e3 e4
  intro k hk0 hk4 dp un gd cn cs a ccd cl outer A₀ base h₀ L m s Q E o t B F X N T hck hdp hun hret
  revert X; k_fill; intro X
  have hk : k = 0 ∨ k = 1 ∨ k = 2 ∨ k = 3 := by omega
  have CH : CodeHd h₀ 86 82 := codeHd_of_K X (by kernel_rfl)
  rcases hk with rfl | rfl | rfl | rfl
  · refine wpAny_call ?_
    k_dflt (refine' kla_code ?k1p ?k2p ?k3p ?k4p ?k5p ?kAp ?kFp ?kKp ?k6p ?k7p ?k8p ?k9p ?kBp ?_ ?c2p ?c3p ?c4p ?c5p; (case kAp => exact rfl); (case kFp => exact rfl); (case kKp => assumption); (case k1p => k_asm); (case k2p => k_asm); (case k3p => k_asm); (case k4p => k_asm); (case k5p => k_asm); (case k6p => k_mem); (case k7p => exact codeRec_news (by k_asm) (by k_mem) (by assumption) (by assumption)); (case k8p => ktr_room); (case k9p => exact rfl); (case c5p => decide); (case kBp => exact locs rfl); (case c2p => exact rfl); (case c3p => exact rfl); (case c4p => exact rfl); k_whole; intro g' L' h' FG' F' N' B' X' T'; (try dsimp only); (try k_lift B'); (try k_fold))
    k_steps
    all_goals (refine' cb_retI (Q := Q) hret ?zep ?zfp ?znp; (case zfp => k_asm); (case znp => k_asm); (case zep => rfl))
  · refine wpAny_call ?_
    k_dflt (refine' kla_code ?k1q ?k2q ?k3q ?k4q ?k5q ?kAq ?kFq ?kKq ?k6q ?k7q ?k8q ?k9q ?kBq ?_ ?c2q ?c3q ?c4q ?c5q; (case kAq => exact rfl); (case kFq => exact rfl); (case kKq => assumption); (case k1q => k_asm); (case k2q => k_asm); (case k3q => k_asm); (case k4q => k_asm); (case k5q => k_asm); (case k6q => k_mem); (case k7q => exact codeRec_news (by k_asm) (by k_mem) (by assumption) (by assumption)); (case k8q => ktr_room); (case k9q => exact rfl); (case c5q => decide); (case kBq => exact locs rfl); (case c2q => exact rfl); (case c3q => exact rfl); (case c4q => exact rfl); k_whole; intro g' L' h' FG' F' N' B' X' T'; (try dsimp only); (try k_lift B'); (try k_fold))
    k_steps
    all_goals (refine' cb_retI (Q := Q) hret ?zeq ?zfq ?znq; (case zfq => k_asm); (case znq => k_asm); (case zeq => rfl))
  · refine wpAny_call ?_
    k_dflt (refine' kla_code ?k1r ?k2r ?k3r ?k4r ?k5r ?kAr ?kFr ?kKr ?k6r ?k7r ?k8r ?k9r ?kBr ?_ ?c2r ?c3r ?c4r ?c5r; (case kAr => exact rfl); (case kFr => exact rfl); (case kKr => assumption); (case k1r => k_asm); (case k2r => k_asm); (case k3r => k_asm); (case k4r => k_asm); (case k5r => k_asm); (case k6r => k_mem); (case k7r => exact codeRec_news (by k_asm) (by k_mem) (by assumption) (by assumption)); (case k8r => ktr_room); (case k9r => exact rfl); (case c5r => decide); (case kBr => exact locs rfl); (case c2r => exact rfl); (case c3r => exact rfl); (case c4r => exact rfl); k_whole; intro g' L' h' FG' F' N' B' X' T'; (try dsimp only); (try k_lift B'); (try k_fold))
    k_steps
    all_goals (refine' cb_retI (Q := Q) hret ?zer ?zfr ?znr; (case zfr => k_asm); (case znr => k_asm); (case zer => rfl))
  · refine wpAny_call ?_
    k_dflt (refine' kla_code ?k1s ?k2s ?k3s ?k4s ?k5s ?kAs ?kFs ?kKs ?k6s ?k7s ?k8s ?k9s ?kBs ?_ ?c2s ?c3s ?c4s ?c5s; (case kAs => exact rfl); (case kFs => exact rfl); (case kKs => assumption); (case k1s => k_asm); (case k2s => k_asm); (case k3s => k_asm); (case k4s => k_asm); (case k5s => k_asm); (case k6s => k_mem); (case k7s => exact codeRec_news (by k_asm) (by k_mem) (by assumption) (by assumption)); (case k8s => ktr_room); (case k9s => exact rfl); (case c5s => decide); (case kBs => exact locs rfl); (case c2s => exact rfl); (case c3s => exact rfl); (case c4s => exact rfl); k_whole; intro g' L' h' FG' F' N' B' X' T'; (try dsimp only); (try k_lift B'); (try k_fold))
    k_steps
    all_goals (refine' cb_retI (Q := Q) hret ?zes ?zfs ?zns; (case zfs => k_asm); (case zns => k_asm); (case zes => rfl))
end Mine
end
theorem Mine.resetFm : True := by
  w_top off
  exact True.intro
-- text Fm
section
open PySem PySem.W PyProof.Rows PySem.Spec PySem.Calls
set_option maxRecDepth 100000
namespace Mine
/-- what a call hands back, the hidden part of the ledger told anew -/
noncomputable def WithRest (h₀ : Heap) (L : Addr) (rest : List (Addr × Obj)) (R : Result → Shared → Prop) (r : Result) (s : Shared) : Prop := News h₀ L s.heap rest → R r s
section
variable {prog : Program} {w : World} {A A₀ : Around} {s : Shared} {K : Frag} {L : Addr} {h₀ base : Heap} {m mg mb : Str → Option Value} {news rest : List (Addr × Obj)} {p : Program} {loose : List Str} {mean : ExcName → Option Value}
  {env : Env} {outer : List Env} {R : Result → Shared → Prop} {name qual : Str} {params : Arguments} {body : List Stmt} {scope : Scope} {dV kV doc pm cdv ct oc : Value} {an od : Option Addr} {osl : Array (Option Value)} {f : Addr} {args : Args} {binds : List (Str × Value)}
theorem leave_rest (B : Below A₀ base outer h₀) (F : Fr h₀ L s.heap m) (N : News h₀ L s.heap news) (NR : News h₀ L s.heap rest) (hoff : ∀ q ∈ rest, q.1 ∉ news.map (·.1)) (hA : A.frames = some (env :: outer)) (hf : env.frame = some L) (hke : env.scope.kind = .function) :
    Fr h₀ L (hideAll s.heap (news.map (·.1))) m ∧ Below A base (env :: outer) (hideAll s.heap (news.map (·.1))) ∧ h₀.StaysIn (hideAll s.heap (news.map (·.1))) ∧
      ∀ v s', LeaveK h₀ L m (hideAll s.heap (news.map (·.1))) (WithRest h₀ L rest R) v s' → R (.ok (.ret v)) s' := by
  obtain ⟨FG, BG, st, lv⟩ := groundX (R := WithRest h₀ L rest R) B F N hA hf hke
  refine ⟨FG, BG, st, fun v s' hl => ?_⟩
  have hR := lv v s' hl
  obtain ⟨L', m', news', F', N', k⟩ := hl
  exact hR fun q hq => ⟨F'.keep _ _ (hideAll_get _ (NR q hq).1 (hoff q hq)), (NR q hq).2⟩
theorem def_fr (B : Below A₀ base outer h₀) (F : Fr h₀ L s.heap m) (X₀ : K.In h₀) (N : News h₀ L s.heap news) (NR : News h₀ L s.heap rest) (hoff : ∀ q ∈ rest, q.1 ∉ news.map (·.1)) (T : Top p loose mean mg mb h₀) (hA : A.frames = some (env :: outer)) (hf : env.frame = some L) (hke : env.scope.kind = .function)
    (ho : K.lookup f = some ⟨oc, od, .func (fnOf name qual params body scope dV kV doc pm an cdv ct), osl⟩) (hcd : codeIn K cdv qual = true) (hroom : A.depth < recursionLimit)
    (hbind : BindsTo s (fnOf name qual params body scope dV kV doc pm an cdv ct) args binds) (hloc : ∀ y ∈ binds, scope.names.lookup y.1 = some .local)
    (h : ∀ g L' h₁, Fr h₀ L g m → Fr g L' h₁ (fun y => binds.reverse.lookup y) → News g L' h₁ news → Below A base (env :: outer) g → K.In g → Top p loose mean mg mb g →
      wpAny (model prog w) (A.deeper (envOf qual scope L' f cdv)) (execs body (envOf qual scope L' f cdv))
        (fun fl s' => LeaveK h₀ L m g (WithRest h₀ L rest R) (match fl with | .ret v => v | _ => .none) s')
        (fun e s' => wpAny (model prog w) (A.deeper (envOf qual scope L' f cdv)) (leaving (envOf qual scope L' f cdv) e) (fun _ s'' => R (.error e) s'') (fun e' s'' => R (.error e') s'') s')
        { s with heap := h₁, toks := s.toks + binds.length })
    (hco : scope.isCoroutine = false) (hgen : scope.isGenerator = false) (hk : scope.kind = .function)
    (hcell : ∀ x ∈ scope.names, x.2 ≠ .cell) : codeAny (model prog w) A (.call (.ref f) args) R s := by
  obtain ⟨FG, BG, st, lv⟩ := leave_rest (R := R) B F N NR hoff hA hf hke
  refine codeAny_call_def (fd := fnOf name qual params body scope dV kV doc pm an cdv ct) (body := body) (binds := binds) hroom ((X₀.keeps F.keep) _ _ ho) rfl (T.nolimit.keeps F.keep) (codeRec_of (X₀.keeps F.keep) hcd) rfl hbind hcell hloc (fun h₁ hns hk₁ => ?_) hco hgen hk
  exact wpAny_mono (h _ s.heap.objs.size h₁ FG ⟨hns, fun b o e => hk₁ b o (of_hideAll _ e), Nat.le_of_eq (hideAll_size _ _)⟩
    (fun q hq => ⟨hk₁ _ _ (N q hq).1, Nat.ne_of_lt (Heap.lt_size (N q hq).1), hideAll_none _ (List.mem_map_of_mem hq)⟩) BG (X₀.keeps st) (T.keeps st)) (fun fl s' hl => lv _ _ hl) fun _ _ y => y
theorem defC_fr (B : Below A₀ base outer h₀) (F : Fr h₀ L s.heap m) (X₀ : K.In h₀) (N : News h₀ L s.heap news) (NR : News h₀ L s.heap rest) (hoff : ∀ q ∈ rest, q.1 ∉ news.map (·.1)) (T : Top p loose mean mg mb h₀) (hA : A.frames = some (env :: outer)) (hf : env.frame = some L) (hke : env.scope.kind = .function)
    (ho : K.lookup f = some ⟨oc, od, .func (fnOf name qual params body scope dV kV doc pm an cdv ct), osl⟩) (hcd : codeIn K cdv qual = true) (hroom : A.depth < recursionLimit)
    (hbind : BindsTo s (fnOf name qual params body scope dV kV doc pm an cdv ct) args binds) (hkind : (binds.all fun y => scope.names.lookup y.1 == some .local || scope.names.lookup y.1 == some .cell) = true)
    (hnd : ((cellsFrom 0 scope.names []).map (·.1)).Nodup)
    (h : ∀ g L' h₁ tk cells, Fr h₀ L g m → Fr g L' h₁ (bindL (envOfC qual scope L' f cdv).kindOf binds fun _ => none) → News g L' h₁ (cells ++ news) →
      CellsAre (bindC (envOfC qual scope L' f cdv).kindOf binds fun _ => none) (cellsFrom (L' + 1) scope.names []) cells → Below A base (env :: outer) g → K.In g → Top p loose mean mg mb g → (∀ p ∈ news, p.1 < L') → (∀ q ∈ rest, q.1 < L') →
      wpAny (model prog w) (A.deeper (envOfC qual scope L' f cdv)) (execs body (envOfC qual scope L' f cdv))
        (fun fl s' => LeaveK h₀ L m g (WithRest h₀ L rest R) (match fl with | .ret v => v | _ => .none) s')
        (fun e s' => wpAny (model prog w) (A.deeper (envOfC qual scope L' f cdv)) (leaving (envOfC qual scope L' f cdv) e) (fun _ s'' => R (.error e) s'') (fun e' s'' => R (.error e') s'') s')
        { s with heap := h₁, toks := tk })
    (hco : scope.isCoroutine = false) (hgen : scope.isGenerator = false) (hk : scope.kind = .function) : codeAny (model prog w) A (.call (.ref f) args) R s := by
  obtain ⟨FG, BG, st, lv⟩ := leave_rest (R := R) B F N NR hoff hA hf hke
  have X := X₀.keeps F.keep
  refine codeAny_call_function hroom (X _ _ ho) rfl hco hgen rfl (codeRec_of X hcd) (hbind _ _ _ _ ?_)
  refine wpAny_newFunctionEnv_cells hk (kindsX hkind _) fun env' he s' x => ?_
  subst he
  refine ⟨(T.nolimit.keeps F.keep).keeps x.toInCall.keep, codeAny_func ?_⟩
  obtain ⟨h₁, tk, rfl, _⟩ := x.done
  have hk₁ := x.toInCall.keep
  obtain ⟨cells, NC, Y⟩ := Cl.news (h₀ := s.heap) (Nat.le_refl _) fun n c hm => ⟨x.cell n c (lookup_of_mem_nodup (cellsFrom_names scope.names 0 (s.heap.objs.size + 1) [] [] rfl ▸ hnd) hm), x.above n c hm⟩
  refine wpAny_mono (h _ s.heap.objs.size h₁ tk cells FG ⟨x.toInCall.ns, fun b o e => hk₁ b o (of_hideAll _ e), Nat.le_of_eq (hideAll_size _ _)⟩ (fun q hq => ?_) Y BG (X₀.keeps st) (T.keeps st) (fun q hq => Heap.lt_size (N q hq).1) (fun q hq => Heap.lt_size (NR q hq).1)) (fun fl s' hl => lv _ _ hl) fun _ _ y => y
  rcases List.mem_append.mp hq with hq | hq
  · refine ⟨(NC q hq).1, (NC q hq).2.1, ?_⟩
    cases e : (hideAll s.heap (news.map (·.1))).get? q.1 with
    | none => rfl
    | some o => have := of_hideAll _ e; rw [(NC q hq).2.2] at this; cases this
  · exact ⟨hk₁ _ _ (N q hq).1, Nat.ne_of_lt (Heap.lt_size (N q hq).1), hideAll_none _ (List.mem_map_of_mem hq)⟩
end
end Mine
end
theorem Mine.resetT5 : True := by
  w_top off
  exact True.intro
-- text T5
section
open PySem PySem.W PyProof.Rows PySem.Spec PySem.Calls
set_option maxRecDepth 100000
set_option maxHeartbeats 8000000
namespace Mine
theorem news_front2 {h₀ h : Heap} {L : Addr} {a b q : Addr × Obj} {B : List (Addr × Obj)} (N : News h₀ L h (a :: b :: q :: B)) : News h₀ L h (q :: a :: b :: B) := fun p hp => N p (by
  rcases List.mem_cons.mp hp with rfl | hp
  · exact .tail _ (.tail _ (.head _))
  · rcases List.mem_cons.mp hp with rfl | hp
    · exact .head _
    · rcases List.mem_cons.mp hp with rfl | hp
      · exact .tail _ (.head _)
      · exact .tail _ (.tail _ (.tail _ hp)))
theorem news_front3 {h₀ h : Heap} {L : Addr} {a b c q : Addr × Obj} {B : List (Addr × Obj)} (N : News h₀ L h (a :: b :: c :: q :: B)) : News h₀ L h (q :: a :: b :: c :: B) := fun p hp => N p (by
  rcases List.mem_cons.mp hp with rfl | hp
  · exact .tail _ (.tail _ (.tail _ (.head _)))
  · rcases List.mem_cons.mp hp with rfl | hp
    · exact .head _
    · rcases List.mem_cons.mp hp with rfl | hp
      · exact .tail _ (.head _)
      · rcases List.mem_cons.mp hp with rfl | hp
        · exact .tail _ (.tail _ (.head _))
        · exact .tail _ (.tail _ (.tail _ (.tail _ hp))))
theorem news4 {h₀ h : Heap} {L : Addr} {p1 p2 p3 p4 : Addr × Obj} {news : List (Addr × Obj)} (N : News h₀ L h news) (h1 : p1 ∈ news) (h2 : p2 ∈ news) (h3 : p3 ∈ news) (h4 : p4 ∈ news) : News h₀ L h [p1, p2, p3, p4] := fun p hp => N p (by
  rcases List.mem_cons.mp hp with rfl | hp
  · exact h1
  · rcases List.mem_cons.mp hp with rfl | hp
    · exact h2
    · rcases List.mem_cons.mp hp with rfl | hp
      · exact h3
      · rcases List.mem_cons.mp hp with rfl | hp
        · exact h4
        · cases hp)
theorem ins1_bd {ℓ : Int → Int} {x i0 y0 y1 : Int} (e : [y0, y1] = ins1 ℓ x i0) (h0 : 0 ≤ x) (h1 : x < 4) (h2 : 0 ≤ i0) (h3 : i0 < 4) : 0 ≤ y0 ∧ y0 < 4 ∧ 0 ≤ y1 ∧ y1 < 4 := by
  unfold ins1 at e
  split at e <;> (simp only [List.cons.injEq, and_true] at e; omega)
theorem ins2_bd {ℓ : Int → Int} {x i0 i1 y0 y1 y2 : Int} (e : [y0, y1, y2] = ins2 ℓ x i0 i1) (h0 : 0 ≤ x) (h1 : x < 4) (h2 : 0 ≤ i0) (h3 : i0 < 4) (h4 : 0 ≤ i1) (h5 : i1 < 4) : 0 ≤ y0 ∧ y0 < 4 ∧ 0 ≤ y1 ∧ y1 < 4 ∧ 0 ≤ y2 ∧ y2 < 4 := by
  unfold ins2 at e
  (repeat' split at e) <;> (simp only [List.cons.injEq, and_true] at e; omega)
/-- the order of four lengths, as the law's own function lays it -/
noncomputable def Ordered (ℓ : Int → Int) (y0 y1 y2 y3 : Int) : Prop :=
  ∃ a0 a1 b0 b1 b2, [a0, a1] = ins1 ℓ 1 0 ∧ [b0, b1, b2] = ins2 ℓ 2 a0 a1 ∧ [y0, y1, y2, y3] = ins3 ℓ 3 b0 b1 b2
theorem c_order (w : World) (mean : ExcName → Option Value) (mg mb : Str → Option Value) (lm : Nat) (a0 a1 a2 a3 : Str) (t0 t1 t2 t3 : Tok) (n : Nat) (hlm : 82 ≠ lm) (h0 : a0.length ≤ 1000) (h1 : a1.length ≤ 1000) (h2 : a2.length ≤ 1000) (h3 : a3.length ≤ 1000)  (rest : List (Addr × Obj))
   (dp un : Nat) (gd : Option (List Code)) (cn : Str) (cs : Scope) (a : Addr) (ccd : Value) (cl : List (Str × Addr)) (outer : List Env) (A₀ : Around) (base h₀ : Heap) (L : Addr) (m : Str → Option Value) (s : Shared) (Q E : Value → Shared → Prop)
   (B : Below A₀ base outer h₀) (F : Fr h₀ L s.heap m) (X : (hd.heap_39 w.params).In h₀) (N : News h₀ L s.heap [(lm, W.listOf #[.str a0 t0, .str a1 t1, .str a2 t2, .str a3 t3] n), (82, tabObj #[])]) (NR : News h₀ L s.heap rest) (hoff : ∀ q ∈ rest, q.1 ∉ ([(lm, W.listOf #[.str a0 t0, .str a1 t1, .str a2 t2, .str a3 t3] n), (82, tabObj #[])] : List (Addr × Obj)).map (·.1))
   (T : Top topProg looL mean mg mb h₀) (hck : cs.kind = .function)
   (hdp : dp + 12 < recursionLimit) (hun : un + 80 < cLine)
   (hret : ∀ (r : Nat) (y0 y1 y2 y3 : Int) (v0 v1 v2 v3 : Tok) (c' n' : Nat) (oc' : Obj) (vs' : Array Value) (t' : Tok) (h' : Heap) (tk' : Nat), Ordered (pick4 a0.length a1.length a2.length a3.length) y0 y1 y2 y3 → 82 < c' → lm < r → oc'.data = .fields vs' → vs'[1]? = some (.str (Str.ofString "_law_order" ++ Str.ofString ".<locals>." ++ Str.ofString "<lambda>") t') → Fr h₀ L h' m →
     News h₀ L h' [(r, W.listOf #[.int y0 v0, .int y1 v1, .int y2 v2, .int y3 v3] n'), (c', oc'), (lm, W.listOf #[.str a0 t0, .str a1 t1, .str a2 t2, .str a3 t3] n), (82, tabObj (#[] ++ #[rawInt ((87 : Nat) : Int), rawInt ((39 : Nat) : Int), .ref c']))] → News h₀ L h' rest → (∀ q ∈ rest, q.1 < r) → Q (Value.ref r) { s with heap := h', toks := tk' }) :
   wpAny (model PySem.Challenge.rw_pg0137_01.row.prog w) (ktrTop dp un gd cn cs L a ccd cl outer) (call (.ref 87) [Value.ref lm]) Q E s := by
  revert X; k_fill; intro X
  refine wpAny_call ?_
  k_dflt (refine' defC_fr ?k1 ?k2 ?k3 ?k4 NR hoff ?k5 ?kA ?kF ?kK ?k6 ?k7 ?k8 ?k9 ?kB ?kD ?_ ?c2 ?c3 ?c4; (case kA => exact rfl); (case kF => exact rfl); (case kK => assumption); (case k1 => k_asm); (case k2 => k_asm); (case k3 => k_asm); (case k4 => k_asm); (case k5 => k_asm); (case k6 => k_is); (case k7 => k_is); (case k8 => ktr_room); (case k9 => first | exact BindsTo.of_eq rfl | exact binds_K (by k_in) rfl (by k_is) rfl rfl rfl | fail "k_enter: no rule for these arguments"); (case kB => exact rfl); (case kD => decide +kernel); (case c2 => exact rfl); (case c3 => exact rfl); (case c4 => exact rfl); k_whole; intro g' L' h' tk' cells' FG' F' N' Y' B' X' T' l1 lR; (try k_lt l1); k_cells Y'; (try simp only [List.cons_append, List.nil_append] at N'); (try dsimp only); (try k_lift B'); (try k_fold))
  have CH : CodeHd g' 86 82 := codeHd_of_K X' (by kernel_rfl)
  k_steps
  k_here
  k_dflt (refine' c_ins0 w mean mg mb _ _ _  _ _ (pick4 a0.length a1.length a2.length a3.length) _ ?hresta ?hKa ?hfa ?x0a ?x4a  _ _ _ _ _ _ _ _ _ _ _ _ _ _ _ _ _ ?kBa ?kFa ?kXa ?kNa ?kTa ?hcka ?hdpa ?huna ?hreta)
  case kNa => first | exact news_front3 (by k_asm) | exact news_front2 (by k_asm)
  case kBa => k_asm
  case kFa => k_asm
  case kXa => k_asm
  case kTa => k_asm
  case hcka => exact rfl
  case hdpa => ktr_room
  case huna => ktr_units
  case hresta => k_all
  case hfa => k_mem
  case x0a => omega
  case x4a => omega
  case hKa =>
    k_dflt (refine' KeyAll.of ?m1a ?m2a ?m3a ?m4a (c_key w mean mg mb _ _ _ _ lm _ _ _ _ _ _ a0 a1 a2 a3 t0 t1 t2 t3 n _ _ _ _ _ ?hla h0 h1 h2 h3 ?d1a ?d2a ?d3a))
    case m1a => k_dflt k_mem
    case hla => k_dflt (exact rfl)
    case m2a => k_mem
    case m3a => k_mem
    case m4a => k_mem
    case d1a => assumption
    case d2a => assumption
    case d3a => k_dflt assumption
  intro y00 v00 h' tk' n' e0 F' N'
  (try dsimp only)
  simp only [ins0, List.cons.injEq, and_true] at e0
  subst e0
  (try k_fold)
  k_steps
  k_here
  k_dflt (refine' c_ins1 w mean mg mb _ _ _ _ _ _ _ (pick4 a0.length a1.length a2.length a3.length) _ ?hrestb ?hKb ?hfb ?x0b ?x4b ?i0b ?j0b _ _ _ _ _ _ _ _ _ _ _ _ _ _ _ _ _ ?kBb ?kFb ?kXb ?kNb ?kTb ?hckb ?hdpb ?hunb ?hretb)
  case kNb => first | exact news_front3 (by k_asm) | exact news_front2 (by k_asm)
  case kBb => k_asm
  case kFb => k_asm
  case kXb => k_asm
  case kTb => k_asm
  case hckb => exact rfl
  case hdpb => ktr_room
  case hunb => ktr_units
  case hrestb => k_all
  case hfb => k_mem
  case x0b => omega
  case x4b => omega
  case hKb =>
    k_dflt (refine' KeyAll.of ?m1b ?m2b ?m3b ?m4b (c_key w mean mg mb _ _ _ _ lm _ _ _ _ _ _ a0 a1 a2 a3 t0 t1 t2 t3 n _ _ _ _ _ ?hlb h0 h1 h2 h3 ?d1b ?d2b ?d3b))
    case m1b => k_dflt k_mem
    case hlb => k_dflt (exact rfl)
    case m2b => k_mem
    case m3b => k_mem
    case m4b => k_mem
    case d1b => assumption
    case d2b => assumption
    case d3b => k_dflt assumption
  case i0b => omega
  case j0b => omega
  intro y10 y11 v10 v11 h' tk' n' e1 F' N'
  (try dsimp only)
  have b1 := ins1_bd e1 (by omega) (by omega) (by omega) (by omega)
  (try k_fold)
  k_steps
  k_here
  k_dflt (refine' c_ins2 w mean mg mb _ _ _ _ _ _ _ _ _ (pick4 a0.length a1.length a2.length a3.length) _ ?hrestc ?hKc ?hfc ?x0c ?x4c ?i0c ?j0c ?i1c ?j1c _ _ _ _ _ _ _ _ _ _ _ _ _ _ _ _ _ ?kBc ?kFc ?kXc ?kNc ?kTc ?hckc ?hdpc ?hunc ?hretc)
  case kNc => first | exact news_front3 (by k_asm) | exact news_front2 (by k_asm)
  case kBc => k_asm
  case kFc => k_asm
  case kXc => k_asm
  case kTc => k_asm
  case hckc => exact rfl
  case hdpc => ktr_room
  case hunc => ktr_units
  case hrestc => k_all
  case hfc => k_mem
  case x0c => omega
  case x4c => omega
  case hKc =>
    k_dflt (refine' KeyAll.of ?m1c ?m2c ?m3c ?m4c (c_key w mean mg mb _ _ _ _ lm _ _ _ _ _ _ a0 a1 a2 a3 t0 t1 t2 t3 n _ _ _ _ _ ?hlc h0 h1 h2 h3 ?d1c ?d2c ?d3c))
    case m1c => k_dflt k_mem
    case hlc => k_dflt (exact rfl)
    case m2c => k_mem
    case m3c => k_mem
    case m4c => k_mem
    case d1c => assumption
    case d2c => assumption
    case d3c => k_dflt assumption
  case i0c => omega
  case j0c => omega
  case i1c => omega
  case j1c => omega
  intro y20 y21 y22 v20 v21 v22 h' tk' n' e2 F' N'
  (try dsimp only)
  have b2 := ins2_bd e2 (by omega) (by omega) (by omega) (by omega) (by omega) (by omega)
  (try k_fold)
  k_steps
  k_here
  k_dflt (refine' c_ins3 w mean mg mb _ _ _ _ _ _ _ _ _ _ _ (pick4 a0.length a1.length a2.length a3.length) _ ?hrestd ?hKd ?hfd ?x0d ?x4d ?i0d ?j0d ?i1d ?j1d ?i2d ?j2d _ _ _ _ _ _ _ _ _ _ _ _ _ _ _ _ _ ?kBd ?kFd ?kXd ?kNd ?kTd ?hckd ?hdpd ?hund ?hretd)
  case kNd => first | exact news_front3 (by k_asm) | exact news_front2 (by k_asm)
  case kBd => k_asm
  case kFd => k_asm
  case kXd => k_asm
  case kTd => k_asm
  case hckd => exact rfl
  case hdpd => ktr_room
  case hund => ktr_units
  case hrestd => k_all
  case hfd => k_mem
  case x0d => omega
  case x4d => omega
  case hKd =>
    k_dflt (refine' KeyAll.of ?m1d ?m2d ?m3d ?m4d (c_key w mean mg mb _ _ _ _ lm _ _ _ _ _ _ a0 a1 a2 a3 t0 t1 t2 t3 n _ _ _ _ _ ?hld h0 h1 h2 h3 ?d1d ?d2d ?d3d))
    case m1d => k_dflt k_mem
    case hld => k_dflt (exact rfl)
    case m2d => k_mem
    case m3d => k_mem
    case m4d => k_mem
    case d1d => assumption
    case d2d => assumption
    case d3d => k_dflt assumption
  case i0d => omega
  case j0d => omega
  case i1d => omega
  case j1d => omega
  case i2d => omega
  case j2d => omega
  intro y30 y31 y32 y33 v30 v31 v32 v33 h' tk' n' e3 F' N'
  (try dsimp only)
  (try k_fold)
  k_steps
  (with_reducible rename News _ _ _ _ => N9)
  intro NR9
  refine' hret _ y30 y31 y32 y33 v30 v31 v32 v33 _ _ _ _ _ _ _ ⟨y10, y11, y20, y21, y22, ?E1, ?E2, ?E3⟩ ?c82 ?lr ?od ?ov ?FF ?NN NR9 ?lq
  case lq => (intro q hq; refine Nat.lt_trans (lR q hq) ?_; exact (show @LT.lt Nat _ L' _ by omega))
  case NN => (refine' news4 ?NN1 ?NN2 ?NN3 ?NN4 ?NN5; (case NN1 => exact N9); (case NN2 => k_mem); (case NN5 => k_mem); (case NN3 => k_mem); (case NN4 => k_mem))
  case FF => k_asm
  case od => assumption
  case ov => assumption
  case E1 => exact e1
  case E2 => exact e2
  case E3 => exact e3
  case c82 => omega
  case lr => omega
end Mine
end
theorem Mine.resetT6 : True := by
  w_top off
  exact True.intro
-- text T6
section
open PySem PySem.W PyProof.Rows PySem.Spec PySem.Calls
set_option maxRecDepth 100000
set_option maxHeartbeats 8000000
namespace Mine
theorem c_order2 (w : World) (mean : ExcName → Option Value) (mg mb : Str → Option Value) (lm : Nat) (a0 a1 a2 a3 : Str) (t0 t1 t2 t3 : Tok) (n : Nat) (hlm : 82 ≠ lm) (h0 : a0.length ≤ 1000) (h1 : a1.length ≤ 1000) (h2 : a2.length ≤ 1000) (h3 : a3.length ≤ 1000) (c' : Nat) (oc' : Obj) (vs' : Array Value) (tq' : Tok) (hc82 : 82 < c') (hclm : c' ≠ lm) (hod : oc'.data = .fields vs') (hov : vs'[1]? = some (.str (Str.ofString "_law_order" ++ Str.ofString ".<locals>." ++ Str.ofString "<lambda>") tq')) (rest : List (Addr × Obj))
   (dp un : Nat) (gd : Option (List Code)) (cn : Str) (cs : Scope) (a : Addr) (ccd : Value) (cl : List (Str × Addr)) (outer : List Env) (A₀ : Around) (base h₀ : Heap) (L : Addr) (m : Str → Option Value) (s : Shared) (Q E : Value → Shared → Prop)
   (B : Below A₀ base outer h₀) (F : Fr h₀ L s.heap m) (X : (hd.heap_39 w.params).In h₀) (N : News h₀ L s.heap [(lm, W.listOf #[.str a0 t0, .str a1 t1, .str a2 t2, .str a3 t3] n), (c', oc'), (82, tabObj (#[] ++ #[rawInt ((87 : Nat) : Int), rawInt ((39 : Nat) : Int), .ref c']))]) (NR : News h₀ L s.heap rest) (hoff : ∀ q ∈ rest, q.1 ∉ ([(lm, W.listOf #[.str a0 t0, .str a1 t1, .str a2 t2, .str a3 t3] n), (c', oc'), (82, tabObj (#[] ++ #[rawInt ((87 : Nat) : Int), rawInt ((39 : Nat) : Int), .ref c']))] : List (Addr × Obj)).map (·.1))
   (T : Top topProg looL mean mg mb h₀) (hck : cs.kind = .function)
   (hdp : dp + 12 < recursionLimit) (hun : un + 80 < cLine)
   (hret : ∀ (r : Nat) (y0 y1 y2 y3 : Int) (v0 v1 v2 v3 : Tok) (n' : Nat) (h' : Heap) (tk' : Nat), Ordered (pick4 a0.length a1.length a2.length a3.length) y0 y1 y2 y3 → lm < r → Fr h₀ L h' m →
     News h₀ L h' [(r, W.listOf #[.int y0 v0, .int y1 v1, .int y2 v2, .int y3 v3] n'), (c', oc'), (lm, W.listOf #[.str a0 t0, .str a1 t1, .str a2 t2, .str a3 t3] n), (82, tabObj (#[] ++ #[rawInt ((87 : Nat) : Int), rawInt ((39 : Nat) : Int), .ref c']))] → News h₀ L h' rest → (∀ q ∈ rest, q.1 < r) → Q (Value.ref r) { s with heap := h', toks := tk' }) :
   wpAny (model PySem.Challenge.rw_pg0137_01.row.prog w) (ktrTop dp un gd cn cs L a ccd cl outer) (call (.ref 87) [Value.ref lm]) Q E s := by
  revert X; k_fill; intro X
  refine wpAny_call ?_
  k_dflt (refine' defC_fr ?k1 ?k2 ?k3 ?k4 NR hoff ?k5 ?kA ?kF ?kK ?k6 ?k7 ?k8 ?k9 ?kB ?kD ?_ ?c2 ?c3 ?c4; (case kA => exact rfl); (case kF => exact rfl); (case kK => assumption); (case k1 => k_asm); (case k2 => k_asm); (case k3 => k_asm); (case k4 => k_asm); (case k5 => k_asm); (case k6 => k_is); (case k7 => k_is); (case k8 => ktr_room); (case k9 => first | exact BindsTo.of_eq rfl | exact binds_K (by k_in) rfl (by k_is) rfl rfl rfl | fail "k_enter: no rule for these arguments"); (case kB => exact rfl); (case kD => decide +kernel); (case c2 => exact rfl); (case c3 => exact rfl); (case c4 => exact rfl); k_whole; intro g' L' h' tk' cells' FG' F' N' Y' B' X' T' l1 lR; (try k_lt l1); k_cells Y'; (try simp only [List.cons_append, List.nil_append] at N'); (try dsimp only); (try k_lift B'); (try k_fold))
  have CH : CodeHd g' 86 82 := codeHd_of_K X' (by kernel_rfl)
  k_steps
  k_here
  k_dflt (refine' c_ins0 w mean mg mb _ _ _  _ _ (pick4 a0.length a1.length a2.length a3.length) _ ?hresta ?hKa ?hfa ?x0a ?x4a  _ _ _ _ _ _ _ _ _ _ _ _ _ _ _ _ _ ?kBa ?kFa ?kXa ?kNa ?kTa ?hcka ?hdpa ?huna ?hreta)
  case kNa => first | exact news_front3 (by k_asm) | exact news_front2 (by k_asm)
  case kBa => k_asm
  case kFa => k_asm
  case kXa => k_asm
  case kTa => k_asm
  case hcka => exact rfl
  case hdpa => ktr_room
  case huna => ktr_units
  case hresta => k_all
  case hfa => k_mem
  case x0a => omega
  case x4a => omega
  case hKa =>
    k_dflt (refine' KeyAll.of ?m1a ?m2a ?m3a ?m4a (c_key w mean mg mb _ _ _ _ lm _ _ _ _ _ _ a0 a1 a2 a3 t0 t1 t2 t3 n _ _ _ _ _ ?hla h0 h1 h2 h3 ?d1a ?d2a ?d3a))
    case m1a => k_dflt k_mem
    case hla => k_dflt (exact rfl)
    case m2a => k_mem
    case m3a => k_mem
    case m4a => k_mem
    case d1a => assumption
    case d2a => assumption
    case d3a => k_dflt assumption
  intro y00 v00 h' tk' n' e0 F' N'
  (try dsimp only)
  simp only [ins0, List.cons.injEq, and_true] at e0
  subst e0
  (try k_fold)
  k_steps
  k_here
  k_dflt (refine' c_ins1 w mean mg mb _ _ _ _ _ _ _ (pick4 a0.length a1.length a2.length a3.length) _ ?hrestb ?hKb ?hfb ?x0b ?x4b ?i0b ?j0b _ _ _ _ _ _ _ _ _ _ _ _ _ _ _ _ _ ?kBb ?kFb ?kXb ?kNb ?kTb ?hckb ?hdpb ?hunb ?hretb)
  case kNb => first | exact news_front3 (by k_asm) | exact news_front2 (by k_asm)
  case kBb => k_asm
  case kFb => k_asm
  case kXb => k_asm
  case kTb => k_asm
  case hckb => exact rfl
  case hdpb => ktr_room
  case hunb => ktr_units
  case hrestb => k_all
  case hfb => k_mem
  case x0b => omega
  case x4b => omega
  case hKb =>
    k_dflt (refine' KeyAll.of ?m1b ?m2b ?m3b ?m4b (c_key w mean mg mb _ _ _ _ lm _ _ _ _ _ _ a0 a1 a2 a3 t0 t1 t2 t3 n _ _ _ _ _ ?hlb h0 h1 h2 h3 ?d1b ?d2b ?d3b))
    case m1b => k_dflt k_mem
    case hlb => k_dflt (exact rfl)
    case m2b => k_mem
    case m3b => k_mem
    case m4b => k_mem
    case d1b => assumption
    case d2b => assumption
    case d3b => k_dflt assumption
  case i0b => omega
  case j0b => omega
  intro y10 y11 v10 v11 h' tk' n' e1 F' N'
  (try dsimp only)
  have b1 := ins1_bd e1 (by omega) (by omega) (by omega) (by omega)
  (try k_fold)
  k_steps
  k_here
  k_dflt (refine' c_ins2 w mean mg mb _ _ _ _ _ _ _ _ _ (pick4 a0.length a1.length a2.length a3.length) _ ?hrestc ?hKc ?hfc ?x0c ?x4c ?i0c ?j0c ?i1c ?j1c _ _ _ _ _ _ _ _ _ _ _ _ _ _ _ _ _ ?kBc ?kFc ?kXc ?kNc ?kTc ?hckc ?hdpc ?hunc ?hretc)
  case kNc => first | exact news_front3 (by k_asm) | exact news_front2 (by k_asm)
  case kBc => k_asm
  case kFc => k_asm
  case kXc => k_asm
  case kTc => k_asm
  case hckc => exact rfl
  case hdpc => ktr_room
  case hunc => ktr_units
  case hrestc => k_all
  case hfc => k_mem
  case x0c => omega
  case x4c => omega
  case hKc =>
    k_dflt (refine' KeyAll.of ?m1c ?m2c ?m3c ?m4c (c_key w mean mg mb _ _ _ _ lm _ _ _ _ _ _ a0 a1 a2 a3 t0 t1 t2 t3 n _ _ _ _ _ ?hlc h0 h1 h2 h3 ?d1c ?d2c ?d3c))
    case m1c => k_dflt k_mem
    case hlc => k_dflt (exact rfl)
    case m2c => k_mem
    case m3c => k_mem
    case m4c => k_mem
    case d1c => assumption
    case d2c => assumption
    case d3c => k_dflt assumption
  case i0c => omega
  case j0c => omega
  case i1c => omega
  case j1c => omega
  intro y20 y21 y22 v20 v21 v22 h' tk' n' e2 F' N'
  (try dsimp only)
  have b2 := ins2_bd e2 (by omega) (by omega) (by omega) (by omega) (by omega) (by omega)
  (try k_fold)
  k_steps
  k_here
  k_dflt (refine' c_ins3 w mean mg mb _ _ _ _ _ _ _ _ _ _ _ (pick4 a0.length a1.length a2.length a3.length) _ ?hrestd ?hKd ?hfd ?x0d ?x4d ?i0d ?j0d ?i1d ?j1d ?i2d ?j2d _ _ _ _ _ _ _ _ _ _ _ _ _ _ _ _ _ ?kBd ?kFd ?kXd ?kNd ?kTd ?hckd ?hdpd ?hund ?hretd)
  case kNd => first | exact news_front3 (by k_asm) | exact news_front2 (by k_asm)
  case kBd => k_asm
  case kFd => k_asm
  case kXd => k_asm
  case kTd => k_asm
  case hckd => exact rfl
  case hdpd => ktr_room
  case hund => ktr_units
  case hrestd => k_all
  case hfd => k_mem
  case x0d => omega
  case x4d => omega
  case hKd =>
    k_dflt (refine' KeyAll.of ?m1d ?m2d ?m3d ?m4d (c_key w mean mg mb _ _ _ _ lm _ _ _ _ _ _ a0 a1 a2 a3 t0 t1 t2 t3 n _ _ _ _ _ ?hld h0 h1 h2 h3 ?d1d ?d2d ?d3d))
    case m1d => k_dflt k_mem
    case hld => k_dflt (exact rfl)
    case m2d => k_mem
    case m3d => k_mem
    case m4d => k_mem
    case d1d => assumption
    case d2d => assumption
    case d3d => k_dflt assumption
  case i0d => omega
  case j0d => omega
  case i1d => omega
  case j1d => omega
  case i2d => omega
  case j2d => omega
  intro y30 y31 y32 y33 v30 v31 v32 v33 h' tk' n' e3 F' N'
  (try dsimp only)
  (try k_fold)
  k_steps
  (with_reducible rename News _ _ _ _ => N9)
  intro NR9
  refine' hret _ y30 y31 y32 y33 v30 v31 v32 v33 _ _ _ ⟨y10, y11, y20, y21, y22, ?E1, ?E2, ?E3⟩ ?lr ?FF ?NN NR9 ?lq
  case lq => (intro q hq; refine Nat.lt_trans (lR q hq) ?_; exact (show @LT.lt Nat _ L' _ by omega))
  case NN => (refine' news4 ?NN1 ?NN2 ?NN3 ?NN4 ?NN5; (case NN1 => exact N9); (case NN2 => k_mem); (case NN5 => k_mem); (case NN3 => k_mem); (case NN4 => k_mem))
  case FF => k_asm
  case E1 => exact e1
  case E2 => exact e2
  case E3 => exact e3
  case lr => omega
end Mine
end
theorem Mine.resetT9 : True := by
  w_top off
  exact True.intro
-- text T9
section
open PySem PySem.W PyProof.Rows PySem.Spec PySem.Calls
set_option maxRecDepth 100000
set_option maxHeartbeats 8000000
namespace Mine
/-- the table of the helper's code objects: empty, or with the lambda's code -/
noncomputable def TabOk (cq : Nat) (oq ot : Obj) : Prop := (cq = 82 ∧ oq = ot ∧ ot = tabObj #[]) ∨
  (82 < cq ∧ ∃ vs t, oq.data = .fields vs ∧ vs[1]? = some (.str (Str.ofString "_law_order" ++ Str.ofString ".<locals>." ++ Str.ofString "<lambda>") t) ∧ ot = tabObj (#[] ++ #[rawInt ((87 : Nat) : Int), rawInt ((39 : Nat) : Int), .ref cq]))
theorem c_orderB (w : World) (mean : ExcName → Option Value) (mg mb : Str → Option Value) (lm cq : Nat) (oq ot : Obj) (hT : TabOk cq oq ot) (a0 a1 a2 a3 : Str) (t0 t1 t2 t3 : Tok) (n : Nat) (hlm : 82 ≠ lm) (hcl : cq ≠ lm) (h0 : a0.length ≤ 1000) (h1 : a1.length ≤ 1000) (h2 : a2.length ≤ 1000) (h3 : a3.length ≤ 1000) (rest : List (Addr × Obj))
   (dp un : Nat) (gd : Option (List Code)) (cn : Str) (cs : Scope) (a : Addr) (ccd : Value) (cl : List (Str × Addr)) (outer : List Env) (A₀ : Around) (base h₀ : Heap) (L : Addr) (m : Str → Option Value) (s : Shared) (Q E : Value → Shared → Prop)
   (B : Below A₀ base outer h₀) (F : Fr h₀ L s.heap m) (X : (hd.heap_39 w.params).In h₀) (N : News h₀ L s.heap [(lm, W.listOf #[.str a0 t0, .str a1 t1, .str a2 t2, .str a3 t3] n), (cq, oq), (82, ot)]) (NR : News h₀ L s.heap rest) (hoff : ∀ q ∈ rest, q.1 ≠ lm ∧ q.1 ≠ cq ∧ q.1 ≠ 82)
   (T : Top topProg looL mean mg mb h₀) (hck : cs.kind = .function)
   (hdp : dp + 12 < recursionLimit) (hun : un + 80 < cLine)
   (hret : ∀ (r : Nat) (y0 y1 y2 y3 : Int) (v0 v1 v2 v3 : Tok) (cq' n' : Nat) (oq' ot' : Obj) (h' : Heap) (tk' : Nat), Ordered (pick4 a0.length a1.length a2.length a3.length) y0 y1 y2 y3 → TabOk cq' oq' ot' → 82 < cq' → lm < r → Fr h₀ L h' m →
     News h₀ L h' [(r, W.listOf #[.int y0 v0, .int y1 v1, .int y2 v2, .int y3 v3] n'), (lm, W.listOf #[.str a0 t0, .str a1 t1, .str a2 t2, .str a3 t3] n), (cq', oq'), (82, ot')] → News h₀ L h' rest → (∀ q ∈ rest, q.1 < r) → Q (Value.ref r) { s with heap := h', toks := tk' }) :
   wpAny (model PySem.Challenge.rw_pg0137_01.row.prog w) (ktrTop dp un gd cn cs L a ccd cl outer) (call (.ref 87) [Value.ref lm]) Q E s := by
  rcases hT with ⟨rfl, rfl, rfl⟩ | ⟨hc, vs, t, hd1, hd2, rfl⟩
  · refine c_order w mean mg mb lm a0 a1 a2 a3 t0 t1 t2 t3 n hlm h0 h1 h2 h3 rest dp un gd cn cs a ccd cl outer A₀ base h₀ L m s Q E B F X (fun p hp => N p ?_) NR (fun q hq hm => ?_) T hck hdp hun ?_
    · rcases List.mem_cons.mp hp with rfl | hp
      · exact .head _
      · exact .tail _ (.tail _ hp)
    · have := hoff q hq
      simp only [List.map_cons, List.map_nil, List.mem_cons, List.not_mem_nil, or_false] at hm
      rcases hm with e | e
      · exact this.1 e
      · exact this.2.2 e
    · intro r y0 y1 y2 y3 v0 v1 v2 v3 c' n' oc' vs' t' h' tk' hO hc' hr e1 e2 F' N' NR' hq
      refine hret r y0 y1 y2 y3 v0 v1 v2 v3 c' n' oc' _ h' tk' hO (.inr ⟨hc', vs', t', e1, e2, rfl⟩) hc' hr F' (fun p hp => N' p ?_) NR' hq
      simp only [List.mem_cons, List.not_mem_nil, or_false] at hp ⊢
      rcases hp with h | h | h | h
      · exact .inl h
      · exact .inr (.inr (.inl h))
      · exact .inr (.inl h)
      · exact .inr (.inr (.inr h))
  · refine c_order2 w mean mg mb lm a0 a1 a2 a3 t0 t1 t2 t3 n hlm h0 h1 h2 h3 cq oq vs t hc hcl hd1 hd2 rest dp un gd cn cs a ccd cl outer A₀ base h₀ L m s Q E B F X N NR (fun q hq hm => ?_) T hck hdp hun ?_
    · have := hoff q hq
      simp only [List.map_cons, List.map_nil, List.mem_cons, List.not_mem_nil, or_false] at hm
      rcases hm with e | e | e
      · exact this.1 e
      · exact this.2.1 e
      · exact this.2.2 e
    · intro r y0 y1 y2 y3 v0 v1 v2 v3 n' h' tk' hO hr F' N' NR' hq
      refine hret r y0 y1 y2 y3 v0 v1 v2 v3 cq n' oq _ h' tk' hO (.inr ⟨hc, vs, t, hd1, hd2, rfl⟩) hc hr F' (fun p hp => N' p ?_) NR' hq
      simp only [List.mem_cons, List.not_mem_nil, or_false] at hp ⊢
      rcases hp with h | h | h | h
      · exact .inl h
      · exact .inr (.inr (.inl h))
      · exact .inr (.inl h)
      · exact .inr (.inr (.inr h))
end Mine
end
theorem Mine.resetL1 : True := by
  w_top off
  exact True.intro
-- text L1
section
open PySem PySem.W PyProof.Rows PySem.Spec PySem.Calls
set_option maxRecDepth 100000
namespace Mine
theorem fr_eqm {h₀ h : Heap} {L : Addr} {m m' : Str → Option Value} (F : Fr h₀ L h m) (e : ∀ y, m y = m' y) : Fr h₀ L h m' := by
  have : m = m' := funext e
  exact this ▸ F
/-- a while that turns one int of the frame: the state between the turns -/
noncomputable def W1 (h₀ : Heap) (L : Addr) (v : Str) (m0 : Str → Option Value) (news : List (Addr × Obj)) (s : Shared) (J : Nat → Int → Prop) (n : Nat) (s' : Shared) : Prop :=
  ∃ (k : Int) (t : Tok) (h' : Heap) (tk' : Nat), s' = { s with heap := h', toks := tk' } ∧ J n k ∧ Fr h₀ L h' (fun y => if y = v then some (.int k t) else m0 y) ∧ News h₀ L h' news
noncomputable def W1Next (h₀ : Heap) (L : Addr) (v : Str) (m0 : Str → Option Value) (news : List (Addr × Obj)) (s : Shared) (J : Nat → Int → Prop) (n : Nat) (s' : Shared) : Prop := ∃ i, i < n ∧ W1 h₀ L v m0 news s J i s'
/-- behind it -/
noncomputable def W1Out (h₀ : Heap) (L : Addr) (v : Str) (m0 : Str → Option Value) (news : List (Addr × Obj)) (s : Shared) (X : Int → Prop) (s' : Shared) : Prop :=
  ∃ (k : Int) (t : Tok) (h' : Heap) (tk' : Nat), s' = { s with heap := h', toks := tk' } ∧ X k ∧ Fr h₀ L h' (fun y => if y = v then some (.int k t) else m0 y) ∧ News h₀ L h' news
noncomputable def W1Post (h₀ : Heap) (L : Addr) (v : Str) (m0 : Str → Option Value) (news : List (Addr × Obj)) (s : Shared) (J : Nat → Int → Prop) (n : Nat) (f : Flow) (s' : Shared) : Prop := match f with
  | .next => W1Next h₀ L v m0 news s J n s'
  | .cont => W1Next h₀ L v m0 news s J n s'
  | _ => False
noncomputable def W1End (h₀ : Heap) (L : Addr) (v : Str) (m0 : Str → Option Value) (news : List (Addr × Obj)) (s : Shared) (X : Int → Prop) (f : Flow) (s' : Shared) : Prop := match f with
  | .next => W1Out h₀ L v m0 news s X s'
  | _ => False
section
variable {prog : Program} {w : World} {A : Around} {s : Shared} {env : Env} {h₀ : Heap} {v : Str} {m0 : Str → Option Value} {news : List (Addr × Obj)} {test : Expr} {body : List Stmt} {R : Result → Shared → Prop}
theorem while1 (J : Nat → Int → Prop) (X : Int → Prop) {k0 : Int} {t0 : Tok} (n0 : Nat) (F : Fr h₀ env.locals s.heap m0) (N : News h₀ env.locals s.heap news) (hv : m0 v = some (.int k0 t0)) (hj : J n0 k0)
    (turn : ∀ n k t h' tk', J n k → Fr h₀ env.locals h' (fun y => if y = v then some (.int k t) else m0 y) → News h₀ env.locals h' news →
      wpAny (model prog w) A (isTrue test env (eval test env)) (fun b s₂ =>
        if b then wpAny (model prog w) A (execs body env) (W1Post h₀ env.locals v m0 news s J n) (fun _ _ => False) s₂
        else wpAny (model prog w) A (execs [] env) (W1End h₀ env.locals v m0 news s X) (fun _ _ => False) s₂)
        (fun _ _ => False) { s with heap := h', toks := tk' })
    (done : ∀ k t h' tk', X k → Fr h₀ env.locals h' (fun y => if y = v then some (.int k t) else m0 y) → News h₀ env.locals h' news → R (.ok .next) { s with heap := h', toks := tk' }) :
    codeAny (model prog w) A (.whileLoop test body [] env) R s := by
  refine codeAny_whileLoop (W1 h₀ env.locals v m0 news s J) (fun n s' hI => ?_) n0 ⟨k0, t0, s.heap, s.toks, rfl, hj, fr_eqm F fun y => ?_, N⟩
  · obtain ⟨k, t, h', tk', rfl, hJ, F', N'⟩ := hI
    refine wpAny_mono (turn n k t h' tk' hJ F' N') (fun b s₂ hb => ?_) (fun _ _ x => x.elim)
    cases b with
    | true =>
      simp only [if_true] at hb ⊢
      refine wpAny_mono hb (fun f s₃ hf => ?_) (fun _ _ x => x.elim)
      cases f with
      | next => exact hf
      | cont => exact hf
      | brk => exact hf.elim
      | ret => exact hf.elim
    | false =>
      simp only [Bool.false_eq_true, if_false] at hb ⊢
      refine wpAny_mono hb (fun f s₃ hf => ?_) (fun _ _ x => x.elim)
      cases f with
      | next =>
        obtain ⟨k, t, h', tk', rfl, hX, F', N'⟩ := hf
        exact done k t h' tk' hX F' N'
      | cont => exact hf.elim
      | brk => exact hf.elim
      | ret => exact hf.elim
  · by_cases h : y = v
    · subst h; rw [if_pos rfl]; exact hv
    · rw [if_neg h]
end
end Mine
end
theorem Mine.resetL2 : True := by
  w_top off
  exact True.intro
-- text L2
section
open PySem PySem.W PyProof.Rows PySem.Spec PySem.Calls PySem.Builtin PySem.Builtin.Str
set_option maxRecDepth 100000
namespace Mine
noncomputable def ch (x : Str) (i : Nat) : Nat := x.cps.getD i 0
theorem item_nat {x : Str} {p : Nat} (h : p < x.length) : Txt.item x (p : Int) = ⟨#[ch x p]⟩ := by
  have := item_closes (x := x) (i := (p : Int)) ⟨by omega, by omega⟩
  rw [Int.toNat_natCast] at this
  exact eq_of_beq this
theorem item_neg {x : Str} {q : Nat} (h1 : 1 ≤ q) (h : q ≤ x.length) : Txt.item x (-(q : Int)) = ⟨#[ch x (x.length - q)]⟩ := by
  have := item_closes_neg (x := x) (i := -(q : Int)) (j := ((x.length - q : Nat) : Int)) (by omega) (by omega) (by omega)
  rw [Int.toNat_natCast] at this
  exact eq_of_beq this
theorem one_eq {c d : Nat} : ((⟨#[c]⟩ : Str) == ⟨#[d]⟩) = (c == d) := by
  by_cases h : c = d
  · subst h; simp
  · rw [beq_eq_false_iff_ne.mpr h]
    apply beq_eq_false_iff_ne.mpr
    intro e
    injection e with e
    injection e with e
    injection e with e
    exact h e
theorem slice_drop {x : Str} {p : Nat} (h : p ≤ x.length) : Txt.slice x (some (p : Int)) none = ⟨(x.cps.toList.drop p).toArray⟩ := by
  have := slice_from_eq (x := x) (i := (p : Int)) (b := (x.length : Int)) (by omega) (by omega) rfl
  rw [this, Int.toNat_natCast]
  congr 2
  apply List.take_of_length_le
  simp only [List.length_drop, Array.length_toList]
  show x.length - p ≤ _
  omega
theorem slice_all {x : Str} : Txt.slice x none none = x := by
  show StrLaws.sliceText x none none = x
  unfold StrLaws.sliceText
  rw [StrLaws.sliceIdx_none_lo, StrLaws.sliceIdx_none_hi]
  have := StrLaws.sliceText_nat x (a := 0) (b := x.length) (Nat.zero_le _) (Nat.le_refl _)
  unfold StrLaws.sliceText at this
  rw [show (some (0 : Int)) = some ((0 : Nat) : Int) from rfl, this]
  apply Str.ext'
  show ((x.cps.toList.drop 0).take (x.length - 0)).toArray = x.cps
  rw [List.drop_zero, Nat.sub_zero, List.take_of_length_le (by simp [Str.length])]
theorem slice_neg {x : Str} {q : Nat} (h1 : 1 ≤ q) (h : q ≤ x.length) : Txt.slice x none (some (-(q : Int))) = ⟨(x.cps.toList.take (x.length - q)).toArray⟩ := by
  show StrLaws.sliceText x none (some (-(q : Int))) = _
  have e : strSliceIndices none (some (-(q : Int))) 1 x.length = strSliceIndices (some ((0 : Nat) : Int)) (some ((x.length - q : Nat) : Int)) 1 x.length := by
    rw [StrLaws.sliceIdx_none_lo]
    have a : (-(q : Int)) < 0 := by omega
    have b : ¬ (((x.length - q : Nat) : Int) < 0) := by omega
    have c : -(q : Int) + (x.length : Int) = ((x.length - q : Nat) : Int) := by omega
    have hq : 0 < q := by omega
    simp [strSliceIndices, c]
    rw [if_pos hq, if_neg b]
  unfold StrLaws.sliceText
  rw [e]
  have := StrLaws.sliceText_nat x (a := 0) (b := x.length - q) (Nat.zero_le _) (by omega)
  unfold StrLaws.sliceText at this
  rw [this, List.drop_zero, Nat.sub_zero]
end Mine
namespace Mine
theorem ite_same {α : Type} {c : Prop} [Decidable c] (a b d : α) : (if c then a else if c then b else d) = if c then a else d := by split <;> rfl
section
variable {h₀ h' : Heap} {L : Addr} {v : Str} {m0 m1 : Str → Option Value} {news : List (Addr × Obj)} {s : Shared} {J : Nat → Int → Prop} {X : Int → Prop} {n i : Nat} {k : Int} {t : Tok} {tk' : Nat}
theorem w1_next (hJ : J i k) (hi : i < n) (F : Fr h₀ L h' m1) (N : News h₀ L h' news) (e : ∀ y, m1 y = if y = v then some (.int k t) else m0 y) : W1Post h₀ L v m0 news s J n .next { s with heap := h', toks := tk' } :=
  ⟨i, hi, k, t, h', tk', rfl, hJ, fr_eqm F e, N⟩
theorem w1_out (hX : X k) (F : Fr h₀ L h' m1) (N : News h₀ L h' news) (e : ∀ y, m1 y = if y = v then some (.int k t) else m0 y) : W1End h₀ L v m0 news s X .next { s with heap := h', toks := tk' } :=
  ⟨k, t, h', tk', rfl, hX, fr_eqm F e, N⟩
end
/-- the two words agree below p -/
noncomputable def PreEq (x y : Str) (p : Nat) : Prop := ∀ i, i < p → ch x i = ch y i
theorem PreEq.all {x y : Str} {n : Nat} (hx : x.length = n) (hy : y.length = n) (h : PreEq x y n) : x = y := by
  apply Str.ext'
  apply Array.ext
  · exact hx.trans hy.symm
  · intro i h1 h2
    have := h i (by have : x.cps.size = n := hx; omega)
    unfold ch at this
    simpa [h1, h2] using this
theorem pre_step {x y : Str} {p : Nat} (h : PreEq x y p) (hx : p < x.length) (hy : p < y.length) (e : (Txt.item x (p : Int) == Txt.item y (p : Int)) = true) : PreEq x y (p + 1) := by
  rw [item_nat hx, item_nat hy, one_eq] at e
  intro i hi
  by_cases hp : i = p
  · subst hp; exact eq_of_beq e
  · exact h i (by omega)
theorem pre_stop {x y : Str} {p : Nat} (hx : p < x.length) (hy : p < y.length) (e : (Txt.item x (p : Int) == Txt.item y (p : Int)) = false) : ch x p ≠ ch y p := by
  rw [item_nat hx, item_nat hy, one_eq] at e
  exact beq_eq_false_iff_ne.mp e
end Mine
namespace Mine
/-- the two words agree in their last q signs -/
noncomputable def SufEq (x y : Str) (N q : Nat) : Prop := ∀ i, i < q → ch x (N - 1 - i) = ch y (N - 1 - i)
theorem suf_step {x y : Str} {N q : Nat} (h : SufEq x y N q) (hx : x.length = N) (hy : y.length = N) (hq : q < N) (e : (Txt.item x (-(q : Int) - 1) == Txt.item y (-(q : Int) - 1)) = true) : SufEq x y N (q + 1) := by
  have e1 : -(q : Int) - 1 = -((q + 1 : Nat) : Int) := by omega
  rw [e1, item_neg (by omega) (by omega), item_neg (by omega) (by omega), one_eq, hx, hy] at e
  intro i hi
  by_cases hp : i = q
  · subst hp
    have := eq_of_beq e
    rwa [show N - (i + 1) = N - 1 - i by omega] at this
  · exact h i (by omega)
theorem suf_stop {x y : Str} {N q : Nat} (hx : x.length = N) (hy : y.length = N) (hq : q < N) (e : (Txt.item x (-(q : Int) - 1) == Txt.item y (-(q : Int) - 1)) = false) : ch x (N - 1 - q) ≠ ch y (N - 1 - q) := by
  have e1 : -(q : Int) - 1 = -((q + 1 : Nat) : Int) := by omega
  rw [e1, item_neg (by omega) (by omega), item_neg (by omega) (by omega), one_eq, hx, hy] at e
  have := beq_eq_false_iff_ne.mp e
  rwa [show N - (q + 1) = N - 1 - q by omega] at this
theorem drop_facts {x : Str} {p n : Nat} (hx : x.length = n) (hp : p ≤ n) : (Txt.slice x (some (p : Int)) none).length = n - p ∧ ∀ i, ch (Txt.slice x (some (p : Int)) none) i = ch x (p + i) := by
  rw [slice_drop (by omega)]
  constructor
  · show (x.cps.toList.drop p).toArray.size = _
    rw [List.size_toArray, List.length_drop, Array.length_toList]
    show x.length - p = _
    omega
  · intro i
    unfold ch
    simp
theorem take_facts {x : Str} {q n : Nat} (hx : x.length = n) (h1 : 1 ≤ q) (hq : q ≤ n) : (Txt.slice x none (some (-(q : Int)))).length = n - q ∧ ∀ i, i < n - q → ch (Txt.slice x none (some (-(q : Int)))) i = ch x i := by
  rw [slice_neg h1 (by omega)]
  constructor
  · show (x.cps.toList.take (x.length - q)).toArray.size = _
    rw [List.size_toArray, List.length_take, Array.length_toList]
    show min (x.length - q) x.length = _
    omega
  · intro i hi
    unfold ch
    simp [hx, hi]
end Mine
end
theorem Mine.resetL3 : True := by
  w_top off
  exact True.intro
-- text L3
section
open PySem PySem.W PyProof.Rows PySem.Spec PySem.Calls PySem.Builtin PySem.Builtin.Str
set_option maxRecDepth 100000
namespace Mine
/-- the walk halts here -/
noncomputable def Hold (P : Prop) : Prop := P
theorem Hold.mk {P : Prop} (h : Hold P) : P := h
theorem Hold.of {P : Prop} (h : P) : Hold P := h
noncomputable def postV (q : Nat) (t : Tok) : Value := if q = 0 then .none else .int (-(q : Int)) t
noncomputable def cut (x : Str) (q : Nat) : Str := if q = 0 then x else Txt.slice x none (some (-(q : Int)))
theorem cut_facts {x : Str} {q n : Nat} (hx : x.length = n) (hq : q ≤ n) : (cut x q).length = n - q ∧ ∀ i, i < n - q → ch (cut x q) i = ch x i := by
  unfold cut
  by_cases h : q = 0
  · subst h
    exact ⟨hx, fun _ _ => rfl⟩
  · rw [if_neg h]
    exact take_facts hx (by omega) hq
section
variable {prog : Program} {w : World} {A : Around} {E : Value → Shared → Prop} {s : Shared} {name : Str} {scope : Scope} {L a : Addr} {cd : Value} {h₀ : Heap} {m : Str → Option Value} {news : List (Addr × Obj)} {Q : Value → Shared → Prop} {q : Nat} {t u : Tok}
theorem post_or {x : Str} {p1 p2 p3 : Pos} {kk : Nat} (F : Fr h₀ L s.heap m) (hv : m x = some (.int (-(q : Int)) t)) (hk : scope.kind = .function) (hl : (envOf name scope L a cd).kindOf x = some .local) (hd : (x == ("__debug__" : Str)) = false)
    (h : Q (postV q t) s) : wpAny (model prog w) A (eval (.BoolOp .Or [.Name x p1, .Constant .none kk p2] p3) (envOf name scope L a cd)) Q E s := by
  refine BoolOp_or (ld F hv ?_ hk hl hd)
  refine PyProof.Rows.truthy_int ?_
  unfold postV at h
  by_cases e : q = 0
  · rw [if_pos e] at h
    have e2 : (-(q : Int) != 0) = false := by rw [e]; rfl
    rw [e2]
    exact BoolOp_one (Constant_none h)
  · rw [if_neg e] at h
    have e2 : (-(q : Int) != 0) = true := by apply bne_iff_ne.mpr; omega
    rw [e2]
    exact h
theorem slice_post {value slice : Expr} {x : Str} {uj : Tok} (hF : Fr h₀ L s.heap m) (hN : News h₀ L s.heap news) (h : ∀ h' t' k, Fr h₀ L h' m → News h₀ L h' news → Q (.str (cut x q) t') { s with heap := h', toks := k })
    (hs : subscripted slice false (.str x t) (.ref s.heap.objs.size) = operate [.ref s.heap.objs.size, .str x t] (getItem (.str x t) (.ref s.heap.objs.size)) := by with_unfolding_all rfl)
    (ht : ∀ r, letTemporaryGo value (.str x t) r = pure () := by intro _; with_unfolding_all rfl) (hsz : x.length ≤ sizeLine := by size_fits) :
    wpAny (model prog w) A (subscriptTail value slice (.str x t) (.ref s.heap.objs.size)) Q E { s with heap := s.heap.push { cls := .type "slice", data := .fields #[.none, postV q uj, .none] } } := by
  unfold cut at h
  unfold postV
  by_cases e : q = 0
  · simp only [if_pos e] at h ⊢
    refine slice_strN_nn hF hN (fun h' t' k F N => ?_) hs ht hsz
    rw [slice_all]
    exact h h' t' k F N
  · simp only [if_neg e] at h ⊢
    exact slice_strN_ns hF hN h hs ht hsz
/-- the ints a, a + c, .., n of them -/
noncomputable def stepInts (a c : Int) (n : Nat) : List Int := (List.range n).map fun (i : Nat) => a + (i : Int) * c
theorem ints_of_get : ∀ (ns : List Int) (vs : List Value), vs.length = ns.length → (∀ (j : Nat) v, vs[j]? = some v → ∃ t, v = .int (ns.getD j 0) t) → IntsAre vs ns
  | [], [], _, _ => .nil
  | [], _ :: _, e, _ => by cases e
  | _ :: _, [], e, _ => by cases e
  | n :: ns, v :: vs, e, h => by
    obtain ⟨t, ht⟩ := h 0 v rfl
    subst ht
    exact .cons n t (ints_of_get ns vs (Nat.succ.inj e) fun j v hv => by simpa using h (j + 1) v (by simpa using hv))
theorem list_step {r : Addr} {a b c : Int} {t u v : Tok} {n : Nat} (hh : A.handled = none) (F : Fr h₀ L s.heap m) (N : News h₀ L s.heap news) (hr : IsRange s.heap r a b c t u v) (hsmall : Builtin.Range.small a b c = true) (hn : Builtin.Range.rangeSize a b c = (n : Int)) (hz : n ≤ 2 ^ 24)
    (h : ∀ (D : Nat) us k h' tk, Fr h₀ L h' m → News h₀ L h' ((D, W.listOf (List.toArray us) k) :: news) → (∀ p ∈ news, p.1 < D) → IntsAre us (stepInts a c n) → Q (.ref D) { s with heap := h', toks := tk }) :
    wpAny (model prog w) A (call (.type "list") [.ref r]) Q E s := by
  refine call_list_range hh hr hsmall hn hz fun h' tk acc k hk hD hI => ?_
  have hD' : h'.get? s.heap.objs.size = some (W.listOf (List.toArray acc.toList) k) := by
    rw [Array.toArray_toList]
    exact hD
  refine h _ acc.toList k h' tk (F.keeps hk) (news_pushed F N hk hD' rfl) (fun p hp => Heap.lt_size (N p hp).1) (ints_of_get _ _ ?_ fun j v hj => ?_)
  · simp [stepInts, hI.1]
  · have hj' : acc[j]? = some v := by rw [← hj, Array.getElem?_toList]
    obtain ⟨t, rfl⟩ := hI.2 j v hj'
    have hlt : j < n := by
      have := (Array.getElem?_eq_some_iff.mp hj').1
      rw [hI.1] at this; exact this
    refine ⟨t, ?_⟩
    simp [stepInts, List.getD, hlt]
end
end Mine
end
theorem Mine.resetL4 : True := by
  w_top off
  exact True.intro
-- text L4
section
namespace Mine
/-- how many of the first k places differ -/
noncomputable def hcnt (c : Nat → Int) : Nat → Int
  | 0 => 0
  | k + 1 => hcnt c k + c k
/-- the table's closed form -/
noncomputable def dTab (c : Nat → Int) (i j : Nat) : Int := if i ≤ j then hcnt c i + 2 * ((j : Int) - i) else hcnt c j + 2 * ((i : Int) - j)
/-- the value left of place j in row i + 1, as the program sets it -/
noncomputable def rTab (c : Nat → Int) (i j : Nat) : Int := if j = 0 then 2 * (i : Int) else dTab c (i + 1) j
theorem hcnt_nonneg {c : Nat → Int} (hc : ∀ k, 0 ≤ c k ∧ c k ≤ 1) : ∀ k, 0 ≤ hcnt c k ∧ hcnt c k ≤ k
  | 0 => ⟨Int.le_refl _, Int.le_refl _⟩
  | k + 1 => by
    have h1 := hcnt_nonneg hc k
    have h2 := hc k
    show 0 ≤ hcnt c k + c k ∧ hcnt c k + c k ≤ ((k + 1 : Nat) : Int)
    omega
theorem dTab_step {c : Nat → Int} (hc : ∀ k, 0 ≤ c k ∧ c k ≤ 1) (i j : Nat) :
    min (min (rTab c i j) (dTab c i (j + 1)) + 2) (dTab c i j + (if i = j then c i else 2)) = dTab c (i + 1) (j + 1) := by
  have hi := hc i
  have hj := hc j
  have hnj := hcnt_nonneg hc j
  have hni := hcnt_nonneg hc i
  have e1 : hcnt c (i + 1) = hcnt c i + c i := rfl
  have e2 : hcnt c (j + 1) = hcnt c j + c j := rfl
  unfold rTab dTab
  by_cases h : i = j
  · subst h
    by_cases h0 : i = 0
    · subst h0
      have : hcnt c 0 = 0 := rfl
      simp only [if_true, Nat.le_refl, Nat.zero_le, e1]
      omega
    · rw [if_neg h0, if_pos (show i ≤ i + 1 by omega), if_pos (Nat.le_refl i), if_pos rfl, if_pos (Nat.le_refl (i + 1)), if_neg (show ¬ (i + 1 ≤ i) by omega)]
      rw [e1]
      omega
  · rw [if_neg h]
    by_cases hlt : i < j
    · rw [if_pos (show i ≤ j + 1 by omega), if_pos (show i ≤ j by omega), if_pos (show i + 1 ≤ j + 1 by omega), if_neg (show ¬ j = 0 by omega), if_pos (show i + 1 ≤ j by omega)]
      rw [e1]
      omega
    · have hgt : j < i := by omega
      rw [if_neg (show ¬ (i ≤ j) by omega), if_neg (show ¬ (i + 1 ≤ j + 1) by omega)]
      by_cases h0 : j = 0
      · subst h0
        have : hcnt c 0 = 0 := rfl
        rw [if_pos rfl]
        by_cases h1 : i ≤ 0 + 1
        · rw [if_pos h1]
          have : i = 1 := by omega
          subst this
          rw [e2]
          have e3 : hcnt c 1 = hcnt c 0 + c 0 := rfl
          omega
        · rw [if_neg h1, e2]
          omega
      · rw [if_neg h0, if_neg (show ¬ (i + 1 ≤ j) by omega)]
        by_cases h1 : i ≤ j + 1
        · rw [if_pos h1]
          have : i = j + 1 := by omega
          subst this
          rw [e2]
          omega
        · rw [if_neg h1, e2]
          omega
/-- the row between the turns -/
noncomputable def rowTab (c : Nat → Int) (N i j : Nat) : List Int := (List.range N).map fun k => if k < j then dTab c (i + 1) (k + 1) else dTab c i (k + 1)
theorem rowTab_len (c : Nat → Int) (N i j : Nat) : (rowTab c N i j).length = N := by simp [rowTab]
theorem rowTab_get {c : Nat → Int} {N i j : Nat} (h : j < N) : (rowTab c N i j).getD j 0 = dTab c i (j + 1) := by
  simp [rowTab, List.getD, h]
theorem rowTab_set {c : Nat → Int} {N i j : Nat} : (rowTab c N i j).set j (dTab c (i + 1) (j + 1)) = rowTab c N i (j + 1) := by
  apply List.ext_getElem
  · simp [rowTab]
  · intro k h1 h2
    simp only [rowTab, List.length_set, List.length_map, List.length_range] at h1
    simp only [rowTab, List.getElem_set, List.getElem_map, List.getElem_range]
    by_cases h : j = k
    · subst h
      simp
    · rw [if_neg h]
      by_cases h3 : k < j
      · rw [if_pos h3, if_pos (by omega)]
      · rw [if_neg h3, if_neg (by omega)]
theorem rowTab_next (c : Nat → Int) (N i : Nat) : rowTab c N i N = rowTab c N (i + 1) 0 := by
  apply List.ext_getElem
  · simp [rowTab]
  · intro k h1 h2
    simp only [rowTab, List.length_map, List.length_range] at h1
    simp only [rowTab, List.getElem_map, List.getElem_range, if_pos h1]
    simp
theorem rowTab_start (c : Nat → Int) (N : Nat) : rowTab c N 0 0 = (List.range N).map fun (k : Nat) => 2 + (k : Int) * 2 := by
  apply List.ext_getElem
  · simp [rowTab]
  · intro k h1 h2
    simp only [rowTab, List.getElem_map, List.getElem_range]
    have : hcnt c 0 = 0 := rfl
    simp only [Nat.not_lt_zero, if_false, dTab, Nat.zero_le, if_true]
    omega
theorem dTab_diag (c : Nat → Int) (i : Nat) : dTab c i i = hcnt c i := by
  simp [dTab]
theorem dTab_zero (c : Nat → Int) (i : Nat) : dTab c i 0 = 2 * (i : Int) := by
  have : hcnt c 0 = 0 := rfl
  unfold dTab
  by_cases h : i ≤ 0
  · have : i = 0 := by omega
    subst this
    simp [hcnt]
  · rw [if_neg h]; omega
theorem rTab_pos (c : Nat → Int) (i j : Nat) (h : 0 < j) : rTab c i j = dTab c (i + 1) j := by
  unfold rTab
  rw [if_neg (by omega)]
end Mine
end
theorem Mine.resetL5 : True := by
  w_top off
  exact True.intro
-- text L5
section
open PySem PySem.W PyProof.Rows PySem.Spec PySem.Calls PySem.Builtin PySem.Builtin.Str
set_option maxRecDepth 100000
namespace Mine
section
variable {prog : Program} {w : World} {A : Around} {E : Value → Shared → Prop} {s : Shared} {env : Env} {h₀ : Heap} {x : Str} {body : List Stmt} {Q : Flow → Shared → Prop}
/-- where a turn ends -/
noncomputable def RgEnd (h₀ : Heap) (L : Addr) (J : (Str → Option Value) → List (Addr × Obj) → Prop) (own : List (Addr × Obj)) (adr : List Addr) (s₁ s₂ : Shared) : Prop :=
  ∃ h' tk m' nx, s₂ = { s₁ with heap := h', toks := tk } ∧ Fr h₀ L h' m' ∧ News h₀ L h' nx ∧ News h₀ L h' own ∧ nx.map (·.1) = adr ∧ J m' nx
noncomputable def RgPost (h₀ : Heap) (L : Addr) (J : (Str → Option Value) → List (Addr × Obj) → Prop) (own : List (Addr × Obj)) (adr : List Addr) (s₁ : Shared) (Q : Flow → Shared → Prop) (f : Flow) (s₂ : Shared) : Prop :=
  match f with
  | .ret v => Q (.ret v) s₂
  | .brk => Q .next s₂
  | _ => RgEnd h₀ L J own adr s₁ s₂
theorem RgEnd.intro {L : Addr} {J : (Str → Option Value) → List (Addr × Obj) → Prop} {m' : Str → Option Value} {own nx : List (Addr × Obj)} {adr : List Addr} {s₁ : Shared} {h' : Heap} {tk : Nat} (F : Fr h₀ L h' m') (N : News h₀ L h' nx)
    (NO : News h₀ L h' own) (hj : J m' nx) (ha : nx.map (·.1) = adr) : RgPost h₀ L J own adr s₁ Q .next { s₁ with heap := h', toks := tk } := ⟨h', tk, m', nx, rfl, F, N, NO, ha, hj⟩
theorem iter_range {r : Addr} {b : Int} {n : Nat} {t u v : Tok} {m₀ : Str → Option Value} {news : List (Addr × Obj)} (J : Nat → (Str → Option Value) → List (Addr × Obj) → Prop)
    (hh : A.handled = none) (hr : IsRange s.heap r 0 b 1 t u v) (hb : b = (n : Int)) (hn : n ≤ 1000) (F : Fr h₀ env.locals s.heap m₀) (N : News h₀ env.locals s.heap news) (hj : J 0 m₀ news)
    (turn : ∀ (i : Nat) (t : Tok) m₁ news₁ h tk (I : Nat) o, i < n → news₁.map (·.1) = news.map (·.1) → (∀ p ∈ news, p.1 < I) → J i m₁ news₁ → Fr h₀ env.locals h (fun y => if y = x then some (.int (i : Int) t) else m₁ y) → News h₀ env.locals h ((I, o) :: news₁) →
      wpAny (model prog w) A (execs body env) (RgPost h₀ env.locals (J (i + 1)) [(I, o)] (news.map (·.1)) { s with heap := h, toks := tk } Q) E { s with heap := h, toks := tk })
    (done : ∀ m₁ news₁ h tk, J n m₁ news₁ → Fr h₀ env.locals h m₁ → News h₀ env.locals h news₁ → Q .next { s with heap := h, toks := tk }) :
    wpAny (model prog w) A (pyIter (.ref r)) (fun it s₂ => LoopAtV prog w A h₀ env x body Q E it s₂) E s := by
  subst hb
  have hnn : Builtin.Range.rangeSize 0 (n : Int) 1 = (n : Int) := by
    simp [Builtin.Range.rangeSize]
    all_goals omega
  refine wpAny_pyIter_range hr (small_one (by decide) (by decide) (by omega) (by omega)) ?_
  have W : Walks prog w A s.heap.objs.size [s.heap.objs.size] [s.heap.objs.size] n (fun i v => ∃ t, v = .int (0 + (i : Int)) t)
      (fun i h => IsRangeIter h s.heap.objs.size (0 + (i : Nat) * 1) ((n : Int) - (i : Nat)) 1) := LCg.range_walks hh 0 n
  let J' : Nat → (Str → Option Value) → List (Addr × Obj) → Prop := fun i m₁ news₁ => news₁.map (·.1) = news.map (·.1) ∧ J i m₁ news₁
  refine ⟨_, _, _, n, _, _, m₀, news, J', rfl, W, ?_, ?_, ?_, (by show IsRangeIter _ _ _ _ _; rw [hnn]; simpa using Heap.get?_push_size _ rfl), F.push _, (fun p hp => ⟨Heap.get?_push_of_some _ (N p hp).1, (N p hp).2⟩), ⟨rfl, hj⟩, ?_, ?_⟩
  · intro hm
    exact absurd F.ns.lt ((List.mem_singleton.mp hm) ▸ Nat.lt_irrefl _)
  · intro b hb
    rw [List.mem_singleton.mp hb]
    exact next_is_new F
  · intro p hp hI
    exact absurd (Heap.lt_size (N p hp).1) ((List.mem_singleton.mp hI) ▸ Nat.lt_irrefl _)
  · rintro i v m₁ news₁ s₁ own ⟨hh', tk', rfl⟩ hin hP ⟨hadr, hJ⟩ hoff hown _ hall hst F₁ N₁
    obtain ⟨t, rfl⟩ := hP
    rw [show (0 : Int) + (i : Int) = (i : Int) from Int.zero_add _] at F₁
    have hex : ∃ o, hh'.get? s.heap.objs.size = some o := ⟨_, hst⟩
    obtain ⟨o, ho⟩ := hex
    have hmem : (s.heap.objs.size, o) ∈ own := hall _ (List.mem_singleton.mpr rfl) (next_is_new F) o ho
    have N₂ : News h₀ env.locals hh' ((s.heap.objs.size, o) :: news₁) := fun p hp => by
      rcases List.mem_cons.mp hp with rfl | hp
      · exact N₁ _ (List.mem_append.mpr (.inl hmem))
      · exact N₁ _ (List.mem_append.mpr (.inr hp))
    refine wpAny_mono (turn i t m₁ news₁ hh' tk' s.heap.objs.size o hin hadr (fun p hp => Heap.lt_size (N p hp).1) hJ F₁ N₂) (fun f s₂ p => ?_) fun _ _ e => e
    have fin : RgEnd h₀ env.locals (J (i + 1)) [(s.heap.objs.size, o)] (news.map (·.1)) { s with heap := hh', toks := tk' } s₂ → LoopStepU h₀ env.locals [s.heap.objs.size] own (J' (i + 1)) { s with heap := hh', toks := tk' } .next s₂ := by
      rintro ⟨h', tk, m', nx, e, F', N', NO, ha, hm⟩
      refine ⟨rfl, h', tk, m', nx, e, F', fun p hp => ?_, fun p hp hq => ?_, ha, hm⟩
      · rcases List.mem_append.mp hp with hp | hp
        · have h1 : p.1 = s.heap.objs.size := List.mem_singleton.mp (hown p hp)
          have h2 := (N₁ p (List.mem_append.mpr (.inl hp))).1
          rw [h1] at h2
          have h3 : p.2 = o := by
            have : some p.2 = some o := h2.symm.trans ho
            exact Option.some.inj this
          have h4 : p = (s.heap.objs.size, o) := Prod.ext h1 h3
          exact h4 ▸ NO _ (.head _)
        · exact N' p hp
      · have h1 : p.1 ∈ nx.map (·.1) := List.mem_map.mpr ⟨p, hp, rfl⟩
        rw [ha, ← hadr] at h1
        obtain ⟨q, hq1, hq2⟩ := List.mem_map.mp h1
        exact hoff q hq1 (by rw [hq2]; exact hq)
    cases f with
    | ret v => exact .ret p
    | brk => exact .brk p
    | next => exact .next (fin p)
    | cont => exact .cont (fin p)
  · rintro h' tk m' news' F' N' _ ⟨_, hJ⟩
    exact done m' news' h' tk hJ F' N'
end
end Mine
end
theorem Mine.resetL6 : True := by
  w_top off
  exact True.intro
-- text L6
section
open PySem PySem.W PyProof.Rows PySem.Spec PySem.Calls PySem.Builtin PySem.Builtin.Str
set_option maxRecDepth 100000
namespace Mine
theorem norm_look3 {z k0 k1 k2 k3 : Str} {v0 : Option Value} {v1 v2 v3 : Value} : (if z = k0 then v0 else List.lookup z [(k1, v1), (k2, v2), (k3, v3)]) = if z = k0 then v0 else if z = k1 then some v1 else if z = k2 then some v2 else if z = k3 then some v3 else none := by
  have lk : ∀ (k : Str) (v : Value) (l : List (Str × Value)), List.lookup z ((k, v) :: l) = if z = k then some v else List.lookup z l := by
    intro k v l
    rw [List.lookup_cons]
    by_cases h : z = k
    · subst h; simp
    · rw [if_neg h]
      have : (z == k) = false := beq_eq_false_iff_ne.mpr h
      rw [this]
  rw [lk, lk, lk]
  rfl
theorem norm_two {z b a p c k : Str} {u0 u1 u2 u3 u4 u5 u6 u7 u8 u9 : Option Value} : (if z = p then u0 else if z = p then u9 else if z = b then u1 else if z = a then u2 else if z = c then u3 else if z = c then u4 else if z = k then u5 else if z = b then u6 else if z = a then u7 else u8) =
   if z = p then u0 else if z = b then u1 else if z = a then u2 else if z = c then u3 else if z = k then u5 else u8 := by
  by_cases h0 : z = p
  · simp only [if_pos h0]
  · by_cases h1 : z = b
    · simp only [if_neg h0, if_pos h1]
    · by_cases h2 : z = a
      · simp only [if_neg h0, if_neg h1, if_pos h2]
      · by_cases h3 : z = c
        · simp only [if_neg h0, if_neg h1, if_neg h2, if_pos h3]
        · simp only [if_neg h0, if_neg h1, if_neg h2, if_neg h3]
theorem norm_row {z b a p r d : Str} {u0 u1 u2 u3 u6 u7 u8 u9 : Option Value} : (if z = r then u0 else if z = d then u9 else if z = b then u1 else if z = a then u2 else if z = p then u6 else if z = b then u7 else if z = a then u8 else u3) =
   if z = r then u0 else if z = d then u9 else if z = b then u1 else if z = a then u2 else if z = p then u6 else u3 := by
  by_cases h0 : z = r
  · simp only [if_pos h0]
  · by_cases h4 : z = d
    · simp only [if_neg h0, if_pos h4]
    · by_cases h1 : z = b
      · simp only [if_neg h0, if_neg h4, if_pos h1]
      · by_cases h2 : z = a
        · simp only [if_neg h0, if_neg h4, if_neg h1, if_pos h2]
        · simp only [if_neg h0, if_neg h4, if_neg h1, if_neg h2]
end Mine
end
theorem Mine.resetL7 : True := by
  w_top off
  exact True.intro
-- text L7
section
open PySem PySem.W PyProof.Rows PySem.Spec PySem.Calls PySem.Builtin PySem.Builtin.Str
set_option maxRecDepth 100000
namespace Mine
/-- a map that is known at some names -/
noncomputable def look : List (Str × Value) → (Str → Option Value) → Str → Option Value
  | [], u, z => u z
  | (k, v) :: r, u, z => if z = k then some v else look r u z
noncomputable def AllAt (m : Str → Option Value) : List (Str × Value) → Prop
  | [] => True
  | (k, v) :: r => m k = some v ∧ AllAt m r
theorem look_keep {m : Str → Option Value} : ∀ (l : List (Str × Value)), AllAt m l → ∀ z, m z = look l m z
  | [], _, _ => rfl
  | (k, v) :: r, h, z => by
    show m z = if z = k then some v else look r m z
    by_cases e : z = k
    · subst e; rw [if_pos rfl]; exact h.1
    · rw [if_neg e]; exact look_keep r h.2 z
noncomputable def resV (c : Nat → Int) (n i : Nat) : Int := if i = 0 then 0 else dTab c i n
noncomputable def JOut (D : Nat) (x y : Str) (c : Nat → Int) (n : Nat) (news : List (Addr × Obj)) (i : Nat) (m : Str → Option Value) (nx : List (Addr × Obj)) : Prop :=
  ∃ (ta tb tm tr : Tok) (u : Str → Option Value) (us : List Value) (k : Nat), m = look [(Str.ofString "row", .ref D), (Str.ofString "a", .str x ta), (Str.ofString "b", .str y tb), (Str.ofString "max_cost", .int 12 tm), (Str.ofString "result", .int (resV c n i) tr)] u ∧
    nx = (D, W.listOf us.toArray k) :: news ∧ IntsAre us (rowTab c n i 0)
noncomputable def JIn (D I : Nat) (o : Obj) (x y : Str) (c : Nat → Int) (n i : Nat) (news : List (Addr × Obj)) (j : Nat) (m : Str → Option Value) (nx : List (Addr × Obj)) : Prop :=
  ∃ (ta tb tm tc tr td tn : Tok) (mn : Int) (u : Str → Option Value) (us : List Value) (k : Nat), m = look [(Str.ofString "row", .ref D), (Str.ofString "a", .str x ta), (Str.ofString "b", .str y tb), (Str.ofString "max_cost", .int 12 tm), (Str.ofString "bchar", .str (Txt.item y (i : Int)) tc), (Str.ofString "result", .int (rTab c i j) tr), (Str.ofString "distance", .int (dTab c i j) td), (Str.ofString "minimum", .int mn tn)] u ∧
    nx = (I, o) :: (D, W.listOf us.toArray k) :: news ∧ IntsAre us (rowTab c n i j) ∧ 0 ≤ mn ∧ mn ≤ 9223372036854775807 ∧ (i < j → mn ≤ 12)
theorem dTab_bd {c : Nat → Int} (hc : ∀ k, 0 ≤ c k ∧ c k ≤ 1) (i j : Nat) : 0 ≤ dTab c i j ∧ dTab c i j ≤ 2 * (i : Int) + 2 * (j : Int) := by
  have h1 := hcnt_nonneg hc i
  have h2 := hcnt_nonneg hc j
  unfold dTab
  split <;> omega
theorem rTab_bd {c : Nat → Int} (hc : ∀ k, 0 ≤ c k ∧ c k ≤ 1) (i j : Nat) : 0 ≤ rTab c i j ∧ rTab c i j ≤ 2 * (i : Int) + 2 * (j : Int) + 2 := by
  have h1 := dTab_bd hc (i + 1) j
  unfold rTab
  split <;> omega
/-- the words' letters: alike but for case in one place, unlike in two -/
noncomputable def WordsOk (x y : Str) : Prop := ∀ i j, i < 6 → j < 6 → subst ⟨#[ch y i]⟩ ⟨#[ch x j]⟩ = if i = j then (if ch x i = ch y i then 0 else 1) else 2
noncomputable def dif (x y : Str) (k : Nat) : Int := if ch x k = ch y k then 0 else 1
theorem dif_bd (x y : Str) : ∀ k, 0 ≤ dif x y k ∧ dif x y k ≤ 1 := fun k => by unfold dif; split <;> omega
noncomputable def hamm (x y : Str) : Int := hcnt (dif x y) 6
theorem hcnt_congr {c d : Nat → Int} : ∀ {n : Nat}, (∀ k, k < n → c k = d k) → hcnt c n = hcnt d n
  | 0, _ => rfl
  | n + 1, h => by
    show hcnt c n + c n = hcnt d n + d n
    rw [hcnt_congr fun k hk => h k (by omega), h n (by omega)]
theorem hcnt_zero {c : Nat → Int} : ∀ {n : Nat}, (∀ k, k < n → c k = 0) → hcnt c n = 0
  | 0, _ => rfl
  | n + 1, h => by
    show hcnt c n + c n = 0
    rw [hcnt_zero fun k hk => h k (by omega), h n (by omega)]
    rfl
theorem hcnt_add (c : Nat → Int) (a : Nat) : ∀ b, hcnt c (a + b) = hcnt c a + hcnt (fun k => c (a + k)) b
  | 0 => by show hcnt c a = hcnt c a + 0; omega
  | b + 1 => by
    show hcnt c (a + b) + c (a + b) = hcnt c a + (hcnt (fun k => c (a + k)) b + c (a + b))
    rw [hcnt_add c a b]; omega
theorem hamm_self (x : Str) : hamm x x = 0 := hcnt_zero fun k _ => by unfold dif; rw [if_pos rfl]
/-- the words without their common ends -/
theorem hamm_cut {x y x1 y1 x2 y2 : Str} {p q n : Nat} (hpre : PreEq x y p) (hsuf : SufEq x1 y1 (6 - p) q) (hx1 : ∀ i, ch x1 i = ch x (p + i)) (hy1 : ∀ i, ch y1 i = ch y (p + i))
    (hn : n = 6 - p - q) (hp : p < 6) (hq : q < 6 - p) (hx2 : ∀ i, i < n → ch x2 i = ch x1 i) (hy2 : ∀ i, i < n → ch y2 i = ch y1 i) : hcnt (dif x2 y2) n = hamm x y := by
  have e : 6 = p + (n + q) := by omega
  unfold hamm
  rw [e, hcnt_add, hcnt_add]
  rw [hcnt_zero (c := dif x y) (n := p) fun k hk => by unfold dif; rw [if_pos (hpre k hk)]]
  rw [hcnt_zero (c := fun k => dif x y (p + (n + k))) (n := q) fun k hk => ?_]
  · rw [hcnt_congr (c := dif x2 y2) (d := fun k => dif x y (p + k)) fun k hk => ?_]
    · omega
    · unfold dif
      rw [hx2 k hk, hy2 k hk, hx1, hy1]
  · have h := hsuf (q - 1 - k) (by omega)
    rw [hx1, hy1, show p + (6 - p - 1 - (q - 1 - k)) = p + (n + k) by omega] at h
    show dif x y (p + (n + k)) = 0
    unfold dif
    rw [if_pos h]
theorem sub_at {x y x1 y1 x2 y2 : Str} {p n i j : Nat} (hw : WordsOk x y) (hx1 : ∀ i, ch x1 i = ch x (p + i)) (hy1 : ∀ i, ch y1 i = ch y (p + i))
    (hx2 : ∀ i, i < n → ch x2 i = ch x1 i) (hy2 : ∀ i, i < n → ch y2 i = ch y1 i) (hp : p + n ≤ 6) (hxl : x2.length = n) (hyl : y2.length = n) (hi : i < n) (hj : j < n) :
    subst (Txt.item y2 (i : Int)) (Txt.item x2 (j : Int)) = if i = j then dif x2 y2 i else 2 := by
  rw [item_nat (by omega), item_nat (by omega), hy2 i hi, hx2 j hj, hx1, hy1, hw (p + i) (p + j) (by omega) (by omega)]
  unfold dif
  rw [hx2 i hi, hy2 i hi, hx1, hy1]
  by_cases h : i = j
  · rw [if_pos h, if_pos (by omega)]
  · rw [if_neg h, if_neg (by omega)]
theorem item_len {x : Str} {i : Nat} (h : i < x.length) : (Txt.item x (i : Int)).length = 1 := by rw [item_nat h]; rfl
end Mine
namespace Mine
theorem turn_val {c : Nat → Int} {n i j : Nat} {s : Int} (hc : ∀ k, 0 ≤ c k ∧ c k ≤ 1) (hj : j < n) (hs : s = if i = j then c i else 2) :
    (if dTab c i j + s < (if (rowTab c n i j).getD (j : Int).toNat 0 < rTab c i j then (rowTab c n i j).getD (j : Int).toNat 0 else rTab c i j) + 2 then dTab c i j + s
      else (if (rowTab c n i j).getD (j : Int).toNat 0 < rTab c i j then (rowTab c n i j).getD (j : Int).toNat 0 else rTab c i j) + 2) = dTab c (i + 1) (j + 1) := by
  rw [Int.toNat_natCast, rowTab_get hj, ← dTab_step hc i j, hs]
  by_cases h1 : dTab c i (j + 1) < rTab c i j
  · rw [if_pos h1]
    split <;> omega
  · rw [if_neg h1]
    split <;> omega
theorem get_val {c : Nat → Int} {n i j : Nat} (hj : j < n) : (rowTab c n i j).getD (j : Int).toNat 0 = dTab c i (j + 1) := by rw [Int.toNat_natCast, rowTab_get hj]
theorem res_val {c : Nat → Int} {i j : Nat} {v : Int} (h : v = dTab c (i + 1) (j + 1)) : v = rTab c i (j + 1) := by rw [h, rTab_pos _ _ _ (Nat.succ_pos j)]
theorem row_val {c : Nat → Int} {n i j : Nat} {v : Int} {us : List Value} (hi : IntsAre us ((rowTab c n i j).set (j : Int).toNat v)) (h : v = dTab c (i + 1) (j + 1)) : IntsAre us (rowTab c n i (j + 1)) := by
  subst h
  rwa [Int.toNat_natCast, rowTab_set] at hi
theorem min_bd {c : Nat → Int} {i j : Nat} {v mn w : Int} (hc : ∀ k, 0 ≤ c k ∧ c k ≤ 1) (hi : i < 6) (h : v = dTab c (i + 1) (j + 1)) (h0 : 0 ≤ mn) (h1 : mn ≤ 9223372036854775807) (h2 : i < j → mn ≤ 12) (hw : (v < mn ∧ w = v) ∨ (¬ v < mn ∧ w = mn)) :
    0 ≤ w ∧ w ≤ 9223372036854775807 ∧ (i < j + 1 → w ≤ 12) := by
  have h3 := dTab_bd hc (i + 1) (j + 1)
  have h4 : i = j → v ≤ 12 := by
    intro e
    subst e
    rw [h, dTab_diag]
    have := hcnt_nonneg hc (i + 1)
    omega
  omega
end Mine
end
theorem Mine.resetT8 : True := by
  w_top off
  exact True.intro
-- text T8
section
open PySem PySem.W PyProof.Rows PySem.Spec PySem.Calls
set_option maxRecDepth 100000
set_option maxHeartbeats 8000000
namespace Mine
local macro_rules | `(tactic| walk_at "exec While") => `(tactic| (k_here; refine wpAny_While ?_))
local macro_rules | `(tactic| walk_at "subscriptTail Name Slice str ref") => `(tactic| ((with_reducible show wpAny _ _ (subscriptTail _ (Expr.Slice none (some (Expr.BoolOp _ _ _)) none _) _ _) _ _ _); (with_reducible rename Fr _ _ _ _ => F'); (with_reducible rename News _ _ _ _ => N'); (refine slice_strN_nn (hsz := ?hsz) (s := ⟨_, _, _, _, _⟩) F' N' ?_); (case hsz => size_fits); intro _ _ _ _ _; (try simp only [slice_all])))
local macro_rules | `(tactic| walk_at "subscriptTail Name Slice str ref") => `(tactic| ((with_reducible show wpAny _ _ (subscriptTail _ (Expr.Slice none (some (Expr.BoolOp _ _ _)) none _) _ _) _ _ _); (with_reducible rename Fr _ _ _ _ => F'); (with_reducible rename News _ _ _ _ => N'); (refine slice_post (hsz := ?hsz) (s := ⟨_, _, _, _, _⟩) F' N' ?_); (case hsz => size_fits); intro _ _ _ _ _; (try dsimp only)))
local macro_rules | `(tactic| walk_at "pyIter ref") => `(tactic| (refine Hold.mk ?_))
local macro_rules | `(tactic| walk_at "eval BoolOp") => `(tactic| (k_here; (with_reducible show wpAny _ _ (eval (Expr.BoolOp _ _ _) _) _ _ _); k_dflt (refine' post_or ?k1 ?k2 ?k3 ?k4 ?k5 ?_; (case k1 => k_asm); (case k2 => exact rfl); (case k3 => exact rfl); (case k4 => exact rfl); (case k5 => exact rfl); k_whole)))
local macro_rules | `(tactic| walk_at "call ref") => `(tactic| (k_here; k_dflt (refine' c_subst _ _ _ _ _ _ _ _ _ ?ha ?hb _ _ _ _ _ _ _ _ _ _ _ _ _ _ _ _ _ ?kB ?kF ?kX ?kN ?kT ?hck trivial ?hdp ?hun ?hret; (case kB => k_asm); (case kF => k_asm); (case kX => k_asm); (case kN => k_asm); (case kT => k_asm); (case hck => exact rfl); (case hdp => ktr_room); (case hun => ktr_units); (case ha => assumption); (case hb => assumption); k_whole; intro t' h' tk' F' N'; (try dsimp only); (try k_fold))))
theorem some_int {a b : Int} {t : Tok} (e : a = b) : some (Value.int a t) = some (Value.int b t) := by rw [e]
theorem c_lev (w : World) (mean : ExcName → Option Value) (mg mb : Str → Option Value) (x y : Str) (tx ty tm : Tok) (news : List (Addr × Obj)) (hx : x.length = 6) (hy : y.length = 6) (hw : WordsOk x y)
   (dp un : Nat) (gd : Option (List Code)) (cn : Str) (cs : Scope) (a : Addr) (ccd : Value) (cl : List (Str × Addr)) (outer : List Env) (A₀ : Around) (base h₀ : Heap) (L : Addr) (m : Str → Option Value) (s : Shared) (Q E : Value → Shared → Prop)
   (B : Below A₀ base outer h₀) (F : Fr h₀ L s.heap m) (X : (hd.heap_39 w.params).In h₀) (N : News h₀ L s.heap news)
   (T : Top topProg looL mean mg mb h₀) (hck : cs.kind = .function)
   (hdp : dp + 8 < recursionLimit) (hun : un + 60 < cLine)
   (hret : ∀ (t : Tok) (h' : Heap) (tk' : Nat), Fr h₀ L h' m → News h₀ L h' news → Q (.int (hamm x y) t) { s with heap := h', toks := tk' }) :
   wpAny (model PySem.Challenge.rw_pg0137_01.row.prog w) (ktrTop dp un gd cn cs L a ccd cl outer) (call (.ref 80) [.str x tx, .str y ty, .int 12 tm]) Q E s := by
  revert X; k_fill; intro X
  refine wpAny_call ?_
  k_dflt cell_enter
  k_steps
  case' refine'_31.refine'_4.refine'_4.refine_1.refine'_4 =>
    have e : x = y := eq_of_beq (by assumption)
    subst e
    (refine' cb_retI (Q := Q) hret (hamm_self x).symm ?ya ?yb; (case ya => k_asm); (case yb => k_asm))
  (with_reducible rename Fr _ _ _ _ => F1)
  replace F1 := fr_eqm F1 (fun z => (norm_look3 (z := z) (k0 := Str.ofString "pre") (k1 := Str.ofString "max_cost") (k2 := Str.ofString "b") (k3 := Str.ofString "a") (v1 := .int 12 tm) (v2 := .str y ty) (v3 := .str x tx)))
  k_dflt (refine while1 (v := Str.ofString "pre") (news := news) (fun n k => ∃ p : Nat, k = p ∧ p + n = 6 ∧ PreEq x y p) (fun k => ∃ p : Nat, k = p ∧ p < 6 ∧ PreEq x y p ∧ ch x p ≠ ch y p) 6 (by k_asm) (by k_asm) (by exact rfl) ⟨0, rfl, rfl, fun i h => absurd h (Nat.not_lt_zero _)⟩ ?turnA ?doneA)
  case turnA =>
    intro n k t h' tk' hJ F' N'
    obtain ⟨p, hkp, hpn, hpre⟩ := hJ
    (try dsimp only)
    k_steps
    all_goals (subst hkp)
    · refine' w1_next (i := n - 1) (k := (p : Int) + 1) ⟨p + 1, ?a1, ?a2, ?a3⟩ ?a4 ?a5 ?a6 ?a7
      case a5 => k_asm
      case a6 => k_asm
      case a7 => (intro y; exact ite_same _ _ _)
      case a3 => exact pre_step hpre (by omega) (by omega) (by assumption)
      case a1 => omega
      case a2 => omega
      case a4 => omega
    · refine' w1_out ⟨p, rfl, ?b1, hpre, ?b2⟩ ?b5 ?b6 ?b7
      case b5 => k_asm
      case b6 => k_asm
      case b7 => (intro y; rfl)
      case b2 => exact pre_stop (by omega) (by omega) (by assumption)
      case b1 => omega
    all_goals (exfalso; (have hp6 : p = 6 := by omega); subst hp6; (have e6 := PreEq.all hx hy hpre); subst e6; simp_all; done)
  case doneA =>
    intro k t h' tk' hX F' N'
    obtain ⟨p, hkp, hp6, hpre, hdiff⟩ := hX
    subst hkp
    (try dsimp only)
    (try k_fold)
    k_steps
    have hxa := drop_facts (x := x) (p := p) hx (by omega)
    have hya := drop_facts (x := y) (p := p) hy (by omega)
    obtain ⟨hxl, hxc⟩ := hxa
    obtain ⟨hyl, hyc⟩ := hya
    generalize hX1 : Txt.slice x (some (p : Int)) none = x1 at *
    generalize hY1 : Txt.slice y (some (p : Int)) none = y1 at *
    k_dflt (refine while1 (v := Str.ofString "post") (news := news) (fun n k => ∃ q : Nat, k = -(q : Int) ∧ q + n = 6 - p ∧ q < 6 - p ∧ SufEq x1 y1 (6 - p) q) (fun k => ∃ q : Nat, k = -(q : Int) ∧ q < 6 - p ∧ SufEq x1 y1 (6 - p) q ∧ ch x1 (6 - p - 1 - q) ≠ ch y1 (6 - p - 1 - q)) (6 - p) (by k_asm) (by k_asm) (by exact rfl) ⟨0, rfl, by omega, by omega, fun i h => absurd h (Nat.not_lt_zero _)⟩ ?turnB ?doneB)
    case turnB =>
      intro n k t h' tk' hJ F' N'
      obtain ⟨q, hkq, hqn, hqN, hsuf⟩ := hJ
      subst hkq
      have hL1 : ((6 - p : Nat) : Int) = 6 - p := by omega
      have h00 : ch x1 0 ≠ ch y1 0 := by rw [hxc 0, hyc 0]; exact hdiff
      have next : ∀ (e : (Txt.item x1 (-(q : Int) - 1) == Txt.item y1 (-(q : Int) - 1)) = true), SufEq x1 y1 (6 - p) (q + 1) ∧ q + 1 < 6 - p := by
        intro e
        have h1 := suf_step hsuf hxl hyl hqN e
        refine ⟨h1, ?_⟩
        apply Nat.lt_of_le_of_ne (by omega)
        intro e2
        have := h1 q (by omega)
        rw [show 6 - p - 1 - q = 0 by omega] at this
        exact h00 this
      have hcx := (cut_facts (x := x1) (q := q) hxl (by omega)).1
      have hcy := (cut_facts (x := y1) (q := q) hyl (by omega)).1
      obtain ⟨n2, hn2⟩ : ∃ n2, n2 = 6 - p - q := ⟨_, rfl⟩
      rw [← hn2] at hcx hcy
      have hn21 : 1 ≤ n2 := by omega
      have hn26 : n2 ≤ 6 := by omega
      clear hL1
      k_steps
      all_goals first
        | (exfalso; omega)
        | (refine' w1_next (i := n - 1) (k := -(q : Int) - 1) ⟨q + 1, ?c1, ?c2, ?c3, ?c4⟩ ?c5 ?c6 ?c7 ?c8
           (case c6 => k_asm); (case c7 => k_asm); (case c8 => (intro y; exact ite_same _ _ _)); (case c4 => exact (next (by assumption)).1); (case c3 => exact (next (by assumption)).2)
           (case c1 => omega); (case c2 => omega); (case c5 => omega))
        | (refine' w1_out ⟨q, rfl, hqN, hsuf, ?d1⟩ ?d2 ?d3 ?d4
           (case d2 => k_asm); (case d3 => k_asm); (case d4 => (intro y; rfl)); (case d1 => exact suf_stop hxl hyl hqN (by assumption)))
    case doneB =>
      intro k t h' tk' hX F' N'
      obtain ⟨q, hkq, hqN, hsuf, hdiff2⟩ := hX
      subst hkq
      (try dsimp only)
      (try k_fold)
      obtain ⟨hx2, hx2c⟩ := cut_facts (x := x1) (q := q) hxl (by omega)
      obtain ⟨hy2, hy2c⟩ := cut_facts (x := y1) (q := q) hyl (by omega)
      obtain ⟨n, hn⟩ : ∃ n, n = 6 - p - q := ⟨_, rfl⟩
      rw [← hn] at hx2 hy2 hx2c hy2c
      have hn1 : 1 ≤ n := by omega
      have hn6 : n ≤ 6 := by omega
      replace F' := fr_eqm F' (fun z => norm_two)
      k_steps
      all_goals first | (exfalso; omega) | skip
      (rename IsRange _ _ _ _ _ _ _ _ => R')
      (with_reducible rename Fr _ _ _ _ => F')
      (with_reducible rename News _ _ _ _ => N')
      rw [hx2] at R'
      refine list_step (n := n) ?lh F' N' R' ?lsm ?lsz ?lz ?_
      case lh => rfl
      case lsm => (rcases (show n = 1 ∨ n = 2 ∨ n = 3 ∨ n = 4 ∨ n = 5 ∨ n = 6 by omega) with h | h | h | h | h | h <;> (rw [h]; decide))
      case lsz => (rcases (show n = 1 ∨ n = 2 ∨ n = 3 ∨ n = 4 ∨ n = 5 ∨ n = 6 by omega) with h | h | h | h | h | h <;> (rw [h]; decide))
      case lz => omega
      intro D us kz h' tk F' N' lD hI
      generalize hX2 : cut x1 q = x2 at *
      generalize hY2 : cut y1 q = y2 at *
      (try dsimp only)
      k_steps
      refine Hold.of ?_
      (rename IsRange _ _ _ _ _ _ _ _ => R')
      (with_reducible rename Fr _ _ _ _ => F')
      (with_reducible rename News _ _ _ _ => N')
      rw [hy2] at R'
      have hc := dif_bd x2 y2
      refine iter_range (n := n) (JOut D x2 y2 (dif x2 y2) n news) ?oh R' rfl (by omega) F' N' ?oj ?oturn ?odone
      case oh => rfl
      case oj => exact ⟨_, _, _, _, _, us, kz, funext (look_keep _ ⟨rfl, rfl, rfl, rfl, rfl, trivial⟩), rfl, by rw [rowTab_start]; exact hI⟩
      case oturn =>
        intro i ti m1 nx1 h' tk' I o hin hadr hlt hJ F' N'
        obtain ⟨ta', tb', tm', tr', u, us', k', rfl, rfl, hrow⟩ := hJ
        dsimp only [look] at F'
        have hDI : D < I := hlt _ (.head _)
        k_steps
        refine Hold.of ?_
        (rename IsRange _ _ _ _ _ _ _ _ => R')
        (with_reducible rename Fr _ _ _ _ => F')
        (with_reducible rename News _ _ _ _ => N')
        rw [hx2] at R'
        refine iter_range (n := n) (JIn D I o x2 y2 (dif x2 y2) n i news) ?ih R' rfl (by omega) F' N' ?ij ?iturn ?idone
        case ih => rfl
        case ij =>
          have e1 : (i : Int) * 2 = rTab (dif x2 y2) i 0 := by unfold rTab; rw [if_pos rfl]; omega
          have e2 : (i : Int) * 2 = dTab (dif x2 y2) i 0 := by rw [dTab_zero]; omega
          exact ⟨_, _, _, _, _, _, _, _, _, us', k', funext (look_keep _ ⟨rfl, rfl, rfl, rfl, rfl, some_int e1, some_int e2, rfl, trivial⟩), rfl, hrow, by decide, by decide, fun h => absurd h (Nat.not_lt_zero _)⟩
        case iturn =>
          intro j tj m2 nx2 h' tk' I2 o2 hjn hadr2 hlt2 hJ F' N'
          obtain ⟨ta2, tb2, tm2, tc2, tr2, td2, tn2, mn, u2, us2, k2, rfl, rfl, hrow2, hm0, hm1, hm2⟩ := hJ
          dsimp only [look] at F'
          have hII : I < I2 := hlt2 _ (.head _)
          have hDI2 : D < I2 := hlt2 _ (.tail _ (.head _))
          have hl1 : (Txt.item y2 (i : Int)).length = 1 := item_len (by omega)
          have hl2 : (Txt.item x2 (j : Int)).length = 1 := item_len (by omega)
          have hrl := rowTab_len (dif x2 y2) n i j
          have hb1 := rTab_bd hc i j
          have hb2 := dTab_bd hc i j
          have hb3 := dTab_bd hc i (j + 1)
          have hs0 := sub_at hw hxc hyc hx2c hy2c (by omega) hx2 hy2 hin hjn
          have hs1 : 0 ≤ subst (Txt.item y2 (i : Int)) (Txt.item x2 (j : Int)) ∧ subst (Txt.item y2 (i : Int)) (Txt.item x2 (j : Int)) ≤ 2 := by
            have := hc i
            rw [hs0]; split <;> omega
          k_steps
          all_goals have hv := turn_val hc hjn hs0
          · (rename _ < mn => hm)
            have hb := min_bd hc (by omega) hv hm0 hm1 hm2 (.inl ⟨hm, rfl⟩)
            (with_reducible rename Fr _ _ _ _ => F9)
            (with_reducible rename News _ _ _ _ => N9)
            (rename IntsAre (List.set _ _ _) _ => hI9)
            exact RgEnd.intro F9 (fun p hp => N9 p (.tail _ hp)) (fun p hp => N9 p (by rcases List.mem_cons.mp hp with rfl | hp; exact .head _; cases hp)) ⟨_, _, _, _, _, _, _, _, _, _, _, funext (look_keep _ ⟨rfl, rfl, rfl, rfl, rfl, some_int (res_val hv), some_int (get_val hjn), rfl, trivial⟩), rfl, row_val hI9 hv, hb.1, hb.2.1, hb.2.2⟩ rfl
          · (rename ¬ _ < mn => hm)
            have hb := min_bd hc (by omega) hv hm0 hm1 hm2 (.inr ⟨hm, rfl⟩)
            (with_reducible rename Fr _ _ _ _ => F9)
            (with_reducible rename News _ _ _ _ => N9)
            (rename IntsAre (List.set _ _ _) _ => hI9)
            exact RgEnd.intro F9 (fun p hp => N9 p (.tail _ hp)) (fun p hp => N9 p (by rcases List.mem_cons.mp hp with rfl | hp; exact .head _; cases hp)) ⟨_, _, _, _, _, _, _, _, _, _, _, funext (look_keep _ ⟨rfl, rfl, rfl, rfl, rfl, some_int (res_val hv), some_int (get_val hjn), rfl, trivial⟩), rfl, row_val hI9 hv, hb.1, hb.2.1, hb.2.2⟩ rfl
        case idone =>
          intro m2 nx2 h' tk' hJ F' N'
          obtain ⟨ta2, tb2, tm2, tc2, tr2, td2, tn2, mn, u2, us2, k2, rfl, rfl, hrow2, hm0, hm1, hm2⟩ := hJ
          dsimp only [look] at F'
          have hmn := hm2 hin
          k_steps
          (with_reducible rename Fr _ _ _ _ => F9)
          (with_reducible rename News _ _ _ _ => N9)
          have hres : rTab (dif x2 y2) i n = resV (dif x2 y2) n (i + 1) := by rw [rTab_pos _ _ _ hn1]; rfl
          exact RgEnd.intro F9 (fun p hp => N9 p (.tail _ hp)) (fun p hp => N9 p (by rcases List.mem_cons.mp hp with rfl | hp; exact .head _; cases hp)) ⟨_, _, _, _, _, us2, k2, funext (look_keep _ ⟨rfl, rfl, rfl, rfl, some_int hres, trivial⟩), rfl, by rw [← rowTab_next]; exact hrow2⟩ rfl
      case odone =>
        intro m2 nx2 h' tk' hJ F' N'
        obtain ⟨ta', tb', tm', tr', u, us', k', rfl, rfl, hrow⟩ := hJ
        dsimp only [look] at F'
        have hres : resV (dif x2 y2) n n = hamm x y := by
          unfold resV
          rw [if_neg (by omega), dTab_diag]
          exact hamm_cut hpre hsuf hxc hyc hn hp6 hqN hx2c hy2c
        k_steps
        all_goals (refine' cb_retI (Q := Q) hret hres ?zf ?zn; (case zf => k_asm); (case zn => (intro p hp; (with_reducible rename News _ _ _ _ => N9); exact N9 p (.tail _ hp))))
end Mine
end
theorem Mine.resetP0 : True := by
  w_top off
  exact True.intro
-- text P0
section
open PySem PySem.W PyProof.Rows PySem.Spec PySem.Calls
set_option maxRecDepth 100000
set_option maxHeartbeats 8000000
namespace Mine
/-- the law's own def, read off the program -/
noncomputable def lawDefOf (l : List Stmt) : List Stmt × Scope := match l.getLast? with
  | some (.FunctionDef _ _ body _ _ _ sc _ _ _) => (body, sc)
  | _ => ([], ⟨.function, [], false, false, []⟩)
noncomputable def lawBody : List Stmt := (lawDefOf PySem.Challenge.pw_pg0137_01.main.body).1
noncomputable def lawScope : Scope := (lawDefOf PySem.Challenge.pw_pg0137_01.main.body).2
noncomputable def dropS : Nat → List Stmt → List Stmt
  | 0, l => l
  | _ + 1, [] => []
  | n + 1, _ :: r => dropS n r
noncomputable def headS (l : List Stmt) : List Stmt := match l with | a :: _ => [a] | [] => []
noncomputable abbrev lawCells (L : Nat) : List (Str × Addr) := [(Str.ofString "ahead", L + 5), (Str.ofString "sizes", L + 4), (Str.ofString "order", L + 3), (Str.ofString "hour", L + 2), (Str.ofString "due", L + 1)]

noncomputable abbrev lawTop (dp un : Nat) (gd : Option (List Code)) (L : Nat) (a : Addr) (ccd : Value) (outer : List Env) : Around := ktrTop dp un gd (Str.ofString "law") lawScope L a ccd (lawCells L) outer
noncomputable abbrev lawEnv (L : Nat) (a : Addr) (ccd : Value) : Env := envX (Str.ofString "law") lawScope L a ccd (lawCells L)
noncomputable abbrev lawLoose : List Str := [Str.ofString "insort_right", Str.ofString "bisect_right", Str.ofString "_twin_re_1", Str.ofString "_twin_re_2"]
noncomputable abbrev cellObj (o : Obj) (v : Option Value) : Prop := o.data = .cell v
noncomputable def hourBody : List Stmt := match dropS 5 lawBody with | .For _ _ b _ _ :: _ => b | _ => []
end Mine
end
theorem Mine.resetC1 : True := by
  w_top off
  exact True.intro
-- text C1
section
open PySem PySem.W PyProof.Rows PySem.Spec PySem.Calls
set_option maxRecDepth 100000
namespace Mine
section
variable {prog : Program} {w : World} {A : Around} {E : Value → Shared → Prop} {s : Shared} {h₀ : Heap} {L : Addr} {m : Str → Option Value} {env : Env}
/-- a statement, then the rest -/
theorem execs_seq {a : Stmt} {r : List Stmt} {Q : Flow → Shared → Prop} (h : wpAny (model prog w) A (exec a env) (fun f s' => match f with | .next => wpAny (model prog w) A (execs r env) Q E s' | f => Q f s') E s) :
    wpAny (model prog w) A (execs (a :: r) env) Q E s := wpAny_execs_cons h
/-- an element of a comprehension, told -/
noncomputable def MapPost (h₀ : Heap) (L : Addr) (m : Str → Option Value) (s₁ : Shared) (led : List (Addr × Obj)) (V : Tok → Value) (y : Value) (s₂ : Shared) : Prop :=
  ∃ h' tk t, s₂ = { s₁ with heap := h', toks := tk } ∧ y = V t ∧ Fr h₀ L h' m ∧ News h₀ L h' led
theorem MapPost.intro {s₁ : Shared} {led : List (Addr × Obj)} {V : Tok → Value} {y : Value} {h' : Heap} {tk : Nat} {t : Tok} (e : y = V t) (F : Fr h₀ L h' m) (N : News h₀ L h' led) : MapPost h₀ L m s₁ led V y { s₁ with heap := h', toks := tk } := ⟨h', tk, t, rfl, e, F, N⟩
theorem comp_map {elt : Expr} {x : Str} {scope : Scope} {cl : List (Str × Addr)} {S : List (Addr × Obj) → Prop} {P : Nat → Value → Prop} {Fin : List Value → List (Addr × Obj) → Prop} {news : List (Addr × Obj)} {n : Nat} (V : Nat → Tok → Value) (hS : S news)
    (turn : ∀ (i : Nat) v (I : Nat) oI (C : Nat) oC (D : Nat) oD m₂ h tk (E' : Value → Shared → Prop), i < n → P i v → LCg.NsObj oC m₂ → m₂ x = some v → Fr h₀ L h m → News h₀ L h ((I, oI) :: (C, oC) :: (D, oD) :: news) →
      wpAny (model prog w) A (eval elt (compEnvC scope cl C env)) (MapPost h₀ L m { s with heap := h, toks := tk } ((I, oI) :: (C, oC) :: (D, oD) :: news) (V i)) E' { s with heap := h, toks := tk })
    (fin : ∀ ys, ys.length = n → (∀ i, i < n → ∃ t, ys[i]? = some (V i t)) → Fin ys news) :
    LCg.CompRest prog w A h₀ L m env elt x scope cl s S P Fin n 0 [] news := by
  have go : ∀ k i ys, i + k = n → ys.length = i → (∀ j, j < i → ∃ t, ys[j]? = some (V j t)) → LCg.CompRest prog w A h₀ L m env elt x scope cl s S P Fin k i ys news := by
    intro k
    induction k with
    | zero =>
      intro i ys e hl hy
      exact LCg.CompRest.zero (fin ys (by omega) fun j hj => hy j (by omega))
    | succ k ih =>
      intro i ys e hl hy
      refine LCg.CompRest.succ fun v I oI C oC D m₂ h tk E' hP hC hx F N off ne => ?_
      refine wpAny_mono (turn i v I oI C oC D _ m₂ h tk E' (by omega) hP hC hx F N) (fun y s₂ hp => ?_) fun _ _ e => e
      obtain ⟨h', tk', t, rfl, rfl, F', N'⟩ := hp
      refine LCg.CompEnd.intro F' N' news (fun p hp => hp) off hS ?_
      refine ih (i + 1) _ (by omega) (by simp [hl]) fun j hj => ?_
      by_cases e2 : j = i
      · subst e2
        exact ⟨t, by rw [← hl]; simp⟩
      · obtain ⟨t', ht⟩ := hy j (by omega)
        exact ⟨t', by rw [List.getElem?_append_left (by omega)]; exact ht⟩
  exact go n 0 [] (by omega) rfl (fun j hj => absurd hj (Nat.not_lt_zero _))
end
/-- the line end of a mail, by the rest -/
noncomputable def nlOf (r : Int) : Str := if r = 0 then Str.ofString "\n" else if r = 1 then Str.ofString "\r" else Str.ofString "\r\n"
noncomputable def mailV (v : Int) : Str := Txt.mul (Str.ofString "x") ((v.fdiv 4).fmod 16) ++ Txt.mul (nlOf ((v.fdiv 64).fmod 3) ++ Str.ofString ".") (v.fmod 4)
noncomputable def aN (v : Int) : Nat := ((v.fdiv 4).fmod 16).toNat
noncomputable def bN (v : Int) : Nat := (v.fmod 4).toNat
theorem fmod_bd (v k : Int) (h : 0 < k) : 0 ≤ v.fmod k ∧ v.fmod k < k := ⟨Int.fmod_nonneg_of_pos v h, Int.fmod_lt_of_pos v h⟩
theorem aN_lt (v : Int) : aN v < 16 := by have := fmod_bd (v.fdiv 4) 16 (by decide); unfold aN; omega
theorem bN_lt (v : Int) : bN v < 4 := by have := fmod_bd v 4 (by decide); unfold bN; omega
noncomputable def mailH (h : Nat) (v : Int) : Str := if h = 0 then mailV v else ⟨(mailL (aN v) (bN v) [13, 10] (h + 1)).toArray⟩
noncomputable def nlL (r : Int) : List Nat := if r = 0 then [10] else if r = 1 then [13] else [13, 10]
theorem mul_list (x : Str) (n : Int) : (Txt.mul x n).cps.toList = (List.replicate n.toNat x.cps.toList).flatten := by
  have fl : ∀ (k : Nat) (acc : Array Nat), ((List.replicate k x.cps).foldl (· ++ ·) acc).toList = acc.toList ++ (List.replicate k x.cps.toList).flatten := by
    intro k
    induction k with
    | zero => intro acc; simp
    | succ k ih =>
      intro acc
      rw [List.replicate_succ, List.foldl_cons, ih, List.replicate_succ, List.flatten_cons, Array.toList_append, List.append_assoc]
  unfold Txt.mul
  split
  · have : n.toNat = 0 := by omega
    rw [this]
    rfl
  · split
    · rename_i h1 h2
      rcases Bool.or_eq_true _ _ ▸ h2 with h | h
      · have e : n = 1 := eq_of_beq h
        subst e
        show x.cps.toList = (List.replicate 1 x.cps.toList).flatten
        simp
      · have e : x.cps.toList = [] := by
          have : x.cps.size = 0 := eq_of_beq h
          exact List.eq_nil_of_length_eq_zero (by simpa using this)
        rw [e]
        simp
    · show ((List.replicate n.toNat x.cps).foldl (· ++ ·) #[]).toList = _
      rw [fl]
      simp
theorem str_ext {a b : Str} (h : a.cps.toList = b.cps.toList) : a = b := Str.ext' (Array.toList_inj.mp h)
theorem nlOf_list (r : Int) : (nlOf r).cps.toList = nlL r := by
  unfold nlOf nlL
  split
  · decide +kernel
  · split <;> decide +kernel
theorem mailV_eq (v : Int) : mailV v = ⟨(mailL (aN v) (bN v) (nlL ((v.fdiv 64).fmod 3)) 1).toArray⟩ := by
  apply str_ext
  unfold mailV mailL aN bN
  show (_ ++ _ : Array Nat).toList = _
  rw [Array.toList_append, mul_list, mul_list]
  have e1 : (Str.ofString "x").cps.toList = [120] := by decide +kernel
  have e2 : (nlOf ((v.fdiv 64).fmod 3) ++ Str.ofString ".").cps.toList = nlL ((v.fdiv 64).fmod 3) ++ [46] := by
    show (_ ++ _ : Array Nat).toList = _
    rw [Array.toList_append, nlOf_list]
    congr 1
  rw [e1, e2]
  simp
theorem nlL_or (r : Int) : nlL r = [10] ∨ nlL r = [13] ∨ nlL r = [13, 10] := by
  unfold nlL
  split
  · exact .inl rfl
  · split
    · exact .inr (.inl rfl)
    · exact .inr (.inr rfl)
theorem mailH_next (h : Nat) (v : Int) : quo (mailH h v) = mailH (h + 1) v := by
  unfold mailH
  rw [if_neg (Nat.succ_ne_zero h)]
  by_cases e : h = 0
  · subst e
    rw [if_pos rfl, mailV_eq, quo_mail _ _ _ _ (nlL_or _)]
  · rw [if_neg e, quo_mail _ _ _ _ (.inr (.inr rfl))]
theorem mailH_len (h : Nat) (v : Int) (hh : 1 ≤ h) : (mailH h v).length = aN v + bN v * (3 + h) := by
  unfold mailH
  rw [if_neg (by omega)]
  show (mailL _ _ _ _).toArray.size = _
  rw [List.size_toArray, mailL_length]
  show aN v + bN v * (2 + (h + 1)) = _
  congr 2
  omega
theorem mailH_small (h : Nat) (v : Int) (hh : h ≤ 4) : (mailH h v).cps.size ≤ 500 := by
  have h1 := aN_lt v
  have h2 := bN_lt v
  by_cases e : h = 0
  · subst e
    unfold mailH
    rw [if_pos rfl, mailV_eq]
    show (mailL _ _ _ _).toArray.size ≤ _
    rw [List.size_toArray, mailL_length]
    have h3 : (nlL ((v.fdiv 64).fmod 3)).length ≤ 2 := by rcases nlL_or ((v.fdiv 64).fmod 3) with h | h | h <;> rw [h] <;> decide
    have : bN v * ((nlL ((v.fdiv 64).fmod 3)).length + 1) ≤ 4 * 3 := Nat.mul_le_mul (by omega) (by omega)
    omega
  · have h3 : (mailH h v).cps.size = aN v + bN v * (3 + h) := mailH_len h v (by omega)
    have : bN v * (3 + h) ≤ 4 * 7 := Nat.mul_le_mul (by omega) (by omega)
    omega
end Mine
end
theorem Mine.resetC2 : True := by
  w_top off
  exact True.intro
-- text C2
section
open PySem PySem.W PyProof.Rows PySem.Spec PySem.Calls
set_option maxRecDepth 100000
namespace Mine
section
variable {prog : Program} {w : World} {A : Around} {E : Value → Shared → Prop} {R : Result → Shared → Prop} {s : Shared}
theorem compTurn_two0 (elt t1 iter t2 iter2 : Expr) (scope : Scope) (pos : Pos) (it acc : Value) (env : Env) :
    compTurn (.ListComp elt [⟨t1, iter, [], 0⟩, ⟨t2, iter2, [], 0⟩] scope pos) 0 it acc env = (standAt iter.pos >>= fun _ => pyNext it >>= fun r => match r with
      | none => pure (.done .next)
      | some v => letOwnedTupleGo t1 it v >>= fun _ => assign t1 env v >>= fun _ =>
        eval iter2 env >>= fun x => standAt iter2.pos >>= fun _ => foldedSetIterable iter2 env x >>= fun x => holding [x] (pyIter x) >>= fun it2 =>
          runOwn (.compStart (.ListComp elt [⟨t1, iter, [], 0⟩, ⟨t2, iter2, [], 0⟩] scope pos) 1 it2 acc env) env >>= fun _ =>
          again (.compLoop (.ListComp elt [⟨t1, iter, [], 0⟩, ⟨t2, iter2, [], 0⟩] scope pos) 0 it acc env)) := by rfl
theorem compTurn_two1 (elt t1 iter t2 iter2 : Expr) (scope : Scope) (pos : Pos) (it acc : Value) (env : Env) :
    compTurn (.ListComp elt [⟨t1, iter, [], 0⟩, ⟨t2, iter2, [], 0⟩] scope pos) 1 it acc env = (standAt iter2.pos >>= fun _ => pyNext it >>= fun r => match r with
      | none => pure (.done .next)
      | some v => letOwnedTupleGo t2 it v >>= fun _ => assign t2 env v >>= fun _ =>
        (eval elt env >>= fun x => call (.builtin "list.append") [acc, x] >>= fun _ => pure ()) >>= fun _ =>
          again (.compLoop (.ListComp elt [⟨t1, iter, [], 0⟩, ⟨t2, iter2, [], 0⟩] scope pos) 1 it acc env)) := by rfl
noncomputable abbrev NB (prog : Program) (w : World) (A : Around) (env : Env) (R : Result → Shared → Prop) : Value → Shared → Prop := notedBy (model prog w) A env fun e s' => R (.error e) s'
theorem loop_two1 {elt t1 iter t2 iter2 : Expr} {scope : Scope} {pos : Pos} {it acc : Value} {env : Env} (I : Nat → Shared → Prop)
    (turn : ∀ n s, I n s → wpAny (model prog w) A (pyNext it) (fun r s₁ => match r with
      | none => R (.ok .next) s₁
      | some v => wpAny (model prog w) A (assign t2 env v) (fun _ s₂ => wpAny (model prog w) A (eval elt env) (fun x s₃ =>
          wpAny (model prog w) A (call (.builtin "list.append") [acc, x]) (fun _ s₄ => ∃ m, m < n ∧ I m s₄) (NB prog w A env R) s₃)
          (NB prog w A env R) s₂) (NB prog w A env R) s₁) (NB prog w A env R) s)
    (n : Nat) (h : I n s) (ht : ∀ v, letOwnedTupleGo t2 it v = pure () := by intro _; rfl) :
    codeAny (model prog w) A (.compLoop (.ListComp elt [⟨t1, iter, [], 0⟩, ⟨t2, iter2, [], 0⟩] scope pos) 1 it acc env) R s := by
  refine codeAny_loop rfl I (fun n s hI => ?_) n h
  show wpAny _ _ ((compTurn (.ListComp elt [⟨t1, iter, [], 0⟩, ⟨t2, iter2, [], 0⟩] scope pos) 1 it acc env).onRaise (fun x => do noteFrame x env; theTreesLotGoes x)) _ _ s
  refine wpAny_noted ?_
  rw [compTurn_two1]
  refine wpAny_bind (wpAny_standAt (wpAny_bind (wpAny_mono (turn n s hI) (fun r s₁ h₁ => ?_) fun _ _ h' => h')))
  cases r with
  | none => exact wpAny_pure h₁
  | some v =>
    refine wpAny_bind (wpAny_of_eq (ht v) ?_)
    exact wpAny_bind (wpAny_mono h₁ (fun _ s₂ h₂ => wpAny_bind (wpAny_bind (wpAny_mono h₂ (fun x s₃ h₃ => wpAny_bind (wpAny_mono h₃
      (fun _ s₄ h₄ => wpAny_pure (wpAny_pure ⟨rfl, h₄⟩)) fun _ _ h' => h')) fun _ _ h' => h'))) fun _ _ h' => h')
theorem start_two1 {elt t1 iter t2 iter2 : Expr} {scope : Scope} {pos : Pos} {it acc : Value} {env : Env}
    (h0 : codeAny (model prog w) A (.compLoop (.ListComp elt [⟨t1, iter, [], 0⟩, ⟨t2, iter2, [], 0⟩] scope pos) 1 it acc env) R s)
    (h : wpAny (model prog w) A (pyIter it) (fun it' s' => codeAny (model prog w) A (.compLoop (.ListComp elt [⟨t1, iter, [], 0⟩, ⟨t2, iter2, [], 0⟩] scope pos) 1 it' acc env) R s') (NB prog w A env R) s) :
    codeAny (model prog w) A (.compStart (.ListComp elt [⟨t1, iter, [], 0⟩, ⟨t2, iter2, [], 0⟩] scope pos) 1 it acc env) R s := by
  refine codeAny_of_tree ?_
  show wpAny _ _ ((compStart (.ListComp elt [⟨t1, iter, [], 0⟩, ⟨t2, iter2, [], 0⟩] scope pos) 1 it acc env).onRaise (fun x => do noteFrame x env; standAt theWindowsPlace)) _ _ s
  refine wpAny_notedAt ?_
  unfold compStart
  show wpAny _ _ (ask >>= _) _ _ s
  refine wpAny_bind (wpAny_askSetting (wpAny_ite ?_))
  split
  · first
      | exact wpAny_bind (wpAny_pure (wpAny_pure (And.intro rfl h0)))
      | exact wpAny_pure (And.intro rfl h0)
  · first
      | exact wpAny_bind (wpAny_rule (wpAny_bind (wpAny_standAt (wpAny_bind (wpAny_mono h (fun it' s' h' => wpAny_pure (And.intro rfl h')) fun _ _ x => x)))))
      | (refine wpAny_bind (wpAny_rule ?_); show wpAny _ _ (standAt iter2.pos >>= _) _ _ s; exact wpAny_bind (wpAny_standAt (wpAny_bind (wpAny_mono h (fun it' s' h' => wpAny_pure (And.intro rfl h')) fun _ _ x => x))))
theorem loop_two0 {elt t1 iter t2 iter2 : Expr} {scope : Scope} {pos : Pos} {it acc : Value} {env : Env} (I : Nat → Shared → Prop)
    (turn : ∀ n s, I n s → wpAny (model prog w) A (pyNext it) (fun r s₁ => match r with
      | none => R (.ok .next) s₁
      | some v => wpAny (model prog w) A (assign t1 env v) (fun _ s₂ => wpAny (model prog w) A (eval iter2 env) (fun x s₃ => wpAny (model prog w) A (pyIter x) (fun it2 s₄ =>
          codeAny (model prog w) A (.compStart (.ListComp elt [⟨t1, iter, [], 0⟩, ⟨t2, iter2, [], 0⟩] scope pos) 1 it2 acc env) (fun r s₅ => match r with | .ok _ => ∃ m, m < n ∧ I m s₅ | .error _ => False) s₄)
          (NB prog w A env R) s₃) (NB prog w A env R) s₂) (NB prog w A env R) s₁) (NB prog w A env R) s)
    (n : Nat) (h : I n s) (ht : ∀ v, letOwnedTupleGo t1 it v = pure () := by intro _; rfl) (hf : ∀ x, foldedSetIterable iter2 env x = pure x := by intro _; rfl) :
    codeAny (model prog w) A (.compLoop (.ListComp elt [⟨t1, iter, [], 0⟩, ⟨t2, iter2, [], 0⟩] scope pos) 0 it acc env) R s := by
  refine codeAny_loop rfl I (fun n s hI => ?_) n h
  show wpAny _ _ ((compTurn (.ListComp elt [⟨t1, iter, [], 0⟩, ⟨t2, iter2, [], 0⟩] scope pos) 0 it acc env).onRaise (fun x => do noteFrame x env; theTreesLotGoes x)) _ _ s
  refine wpAny_noted ?_
  rw [compTurn_two0]
  refine wpAny_bind (wpAny_standAt (wpAny_bind (wpAny_mono (turn n s hI) (fun r s₁ h₁ => ?_) fun _ _ h' => h')))
  cases r with
  | none => exact wpAny_pure h₁
  | some v =>
    refine wpAny_bind (wpAny_of_eq (ht v) ?_)
    refine wpAny_bind (wpAny_mono h₁ (fun _ s₂ h₂ => ?_) fun _ _ h' => h')
    refine wpAny_bind (wpAny_mono h₂ (fun x s₃ h₃ => ?_) fun _ _ h' => h')
    refine wpAny_bind (wpAny_standAt (wpAny_bind (wpAny_of_eq (hf x) (wpAny_bind (wpAny_holding (wpAny_mono h₃ (fun it2 s₄ h₄ => ?_) fun _ _ h' => h'))))))
    refine wpAny_bind (wpAny_runOwn (codeAny_mono h₄ fun r s₅ h₅ => ?_))
    cases r with
    | ok f => exact wpAny_pure ⟨rfl, h₅⟩
    | error e => exact h₅.elim
end
end Mine
end
theorem Mine.resetC3 : True := by
  w_top off
  exact True.intro
-- text C3
section
open PySem PySem.W PyProof.Rows PySem.Spec PySem.Calls
set_option maxRecDepth 100000
namespace Mine
noncomputable abbrev T2 (x y : Int) (t u : Tok) (n : Nat) : Obj := { cls := .type "tuple", data := .seq #[.int x t, .int y u] n }
/-- tuples made, newest first; the list that holds them; what they are -/
inductive TupsOf : List (Addr × Obj) → List Value → List (Int × Int) → Prop
  | nil : TupsOf [] [] []
  | snoc {tl : List (Addr × Obj)} {ys : List Value} {ps : List (Int × Int)} (q : Addr) (e l : Int) (te tl' : Tok) (n : Nat) : TupsOf tl ys ps → TupsOf ((q, T2 e l te tl' n) :: tl) (ys ++ [.ref q]) (ps ++ [(e, l)])
noncomputable def rowTo (l : Int) (j : Nat) : List (Int × Int) := (List.range j).map fun (e : Nat) => ((e : Int), l)
noncomputable def pairsTo : Nat → List (Int × Int)
  | 0 => []
  | i + 1 => pairsTo i ++ rowTo (i : Int) i
theorem rowTo_succ (l : Int) (j : Nat) : rowTo l (j + 1) = rowTo l j ++ [((j : Int), l)] := by
  unfold rowTo
  rw [List.range_succ, List.map_append]
  rfl
noncomputable abbrev rgO (x left : Int) : Obj := { cls := .type "range_iterator", dict := none, data := .fields #[rawInt x, rawInt left, rawInt 1], slots := #[] }
section
variable {prog : Program} {w : World} {A : Around} {E : Value → Shared → Prop} {s : Shared} {h₀ : Heap} {L : Addr} {m : Str → Option Value} {env : Env}
theorem news_set {h h' : Heap} {led led' : List (Addr × Obj)} {a : Addr} {o' : Obj} (N : News h₀ L h led) (hs : Heap.ExtBut a h h') (e : h'.get? a = some o') (ha : a ≠ L ∧ h₀.get? a = none)
    (H : ∀ p ∈ led', p = (a, o') ∨ (p ∈ led ∧ p.1 ≠ a)) : News h₀ L h' led' := fun p hp => by
  rcases H p hp with rfl | ⟨h1, h2⟩
  · exact ⟨e, ha⟩
  · exact ⟨hs _ _ h2 (N p h1).1, (N p h1).2⟩
theorem fr_ext {h h' : Heap} {a : Addr} (F : Fr h₀ L h m) (hs : Heap.ExtBut a h h') (ha : a ≠ L ∧ h₀.get? a = none) : Fr h₀ L h' m :=
  ⟨F.ns.at' fun o e => hs _ _ (Ne.symm ha.1) e, fun b o e => hs _ _ (fun q => by rw [q, ha.2] at e; cases e) (F.keep b o e), F.above⟩
theorem ext_of_same {h h' : Heap} {a : Addr} (hs : Heap.SameBut a h h') : Heap.ExtBut a h h' := fun b o hb e => (hs.2 b hb).trans e
noncomputable def GoesTo (h₀ : Heap) (L : Addr) (m : Str → Option Value) (s : Shared) (led : List (Addr × Obj)) (P : Value → Heap → Prop) (xv : Value) (s₁ : Shared) : Prop :=
  ∃ h' tk, s₁ = { s with heap := h', toks := tk } ∧ Fr h₀ L h' m ∧ News h₀ L h' led ∧ P xv h'
variable {elt iter1 iter2 : Expr} {x1 x2 : Str} {p1 p2 : Pos} {scope : Scope} {cl : List (Str × Addr)} {pos : Pos}
noncomputable def EltOk (prog : Program) (w : World) (A : Around) (h₀ : Heap) (L : Addr) (m : Str → Option Value) (env : Env) (elt : Expr) (x1 x2 : Str) (scope : Scope) (cl : List (Str × Addr)) : Prop :=
  ∀ (C : Nat) (oC : Obj) (m₂ : Str → Option Value) (e l : Int) (te tl : Tok) (led : List (Addr × Obj)) (s : Shared) (E' : Value → Shared → Prop), LCg.NsObj oC m₂ → m₂ x2 = some (.int e te) → m₂ x1 = some (.int l tl) → Fr h₀ L s.heap m → News h₀ L s.heap ((C, oC) :: led) →
    wpAny (model prog w) A (eval elt (compEnvC scope cl C env)) (fun y s₁ => ∃ (q : Nat) (h' : Heap) (tk' n : Nat), y = .ref q ∧ s₁ = { s with heap := h', toks := tk' } ∧ Fr h₀ L h' m ∧ News h₀ L h' ((q, T2 e l te tl n) :: (C, oC) :: led) ∧ ∀ p ∈ (C, oC) :: led, p.1 < q) E' s
noncomputable def IterOk (prog : Program) (w : World) (A : Around) (h₀ : Heap) (L : Addr) (m : Str → Option Value) (env : Env) (iter2 : Expr) (x1 : Str) (scope : Scope) (cl : List (Str × Addr)) : Prop :=
  ∀ (C : Nat) (oC : Obj) (m₂ : Str → Option Value) (l : Int) (tl : Tok) (led : List (Addr × Obj)) (s : Shared) (E' : Value → Shared → Prop), LCg.NsObj oC m₂ → m₂ x1 = some (.int l tl) → 0 ≤ l → l < 4 → Fr h₀ L s.heap m → News h₀ L s.heap ((C, oC) :: led) →
    wpAny (model prog w) A (eval iter2 (compEnvC scope cl C env)) (fun xv s₁ => ∃ r t u v h' tk', xv = .ref r ∧ s₁ = { s with heap := h', toks := tk' } ∧ IsRange h' r 0 l 1 t u v ∧ Fr h₀ L h' m ∧ News h₀ L h' ((C, oC) :: led)) E' s
theorem mem_adr {p : Addr × Obj} {l : List (Addr × Obj)} (h : p ∈ l) : p.1 ∈ l.map (·.1) := List.mem_map.mpr ⟨p, h, rfl⟩
/-- the inner loop -/
theorem inner_two {I I2 C D : Addr} {l : Int} {oI oC : Obj} {m' : Str → Option Value} {tl0 : Tok} {tl news : List (Addr × Obj)} {ys : List Value} {ps : List (Int × Int)} {R : Result → Shared → Prop} (hh : A.handled = none)
    (hx2 : scope.names.lookup x2 = some .local) (hx12 : x1 ≠ x2) (hkind : scope.kind = .function) (hl0 : 0 ≤ l) (hl4 : l < 4) (hsz : ys.length ≤ 100)
    (elt_ok : EltOk prog w A h₀ L m env elt x1 x2 scope cl)
    (F : Fr h₀ L s.heap m) (N : News h₀ L s.heap ((I2, rgO 0 l) :: (I, oI) :: (C, oC) :: (D, LCg.lst ys) :: (tl ++ news))) (hC : LCg.NsObj oC m') (hm : m' x1 = some (.int l tl0))
    (f2 : ∀ a ∈ I :: C :: D :: (tl ++ news).map (·.1), a ≠ I2) (f1 : ∀ a ∈ C :: D :: (tl ++ news).map (·.1), a ≠ I) (fC : ∀ a ∈ D :: (tl ++ news).map (·.1), a ≠ C) (fD : ∀ a ∈ (tl ++ news).map (·.1), a ≠ D)
    (hT : TupsOf tl ys ps)
    (done : ∀ h' tk oC' m₂ tl' ys', Fr h₀ L h' m → News h₀ L h' ((I, oI) :: (C, oC') :: (D, LCg.lst ys') :: (tl' ++ news)) → LCg.NsObj oC' m₂ → (∀ a ∈ C :: D :: (tl' ++ news).map (·.1), a ≠ I) → (∀ a ∈ D :: (tl' ++ news).map (·.1), a ≠ C) → (∀ a ∈ (tl' ++ news).map (·.1), a ≠ D) →
      TupsOf tl' ys' (ps ++ rowTo l l.toNat) → ys'.length = ys.length + l.toNat → R (.ok .next) { s with heap := h', toks := tk }) :
    codeAny (model prog w) A (.compLoop (.ListComp elt [⟨.Name x1 p1, iter1, [], 0⟩, ⟨.Name x2 p2, iter2, [], 0⟩] scope pos) 1 (.ref I2) (.ref D) (compEnvC scope cl C env)) R s := by
  refine loop_two1 (fun n s' => ∃ (h' : Heap) (tk j : Nat) (oC' : Obj) (m₂ : Str → Option Value) (tl' : List (Addr × Obj)) (ys' : List Value), s' = { s with heap := h', toks := tk } ∧ (j : Int) ≤ l ∧ n = l.toNat + 1 - j ∧ Fr h₀ L h' m ∧ News h₀ L h' ((I2, rgO (j : Int) (l - j)) :: (I, oI) :: (C, oC') :: (D, LCg.lst ys') :: (tl' ++ news)) ∧ LCg.NsObj oC' m₂ ∧ m₂ x1 = some (.int l tl0) ∧
      (∀ a ∈ I :: C :: D :: (tl' ++ news).map (·.1), a ≠ I2) ∧ (∀ a ∈ C :: D :: (tl' ++ news).map (·.1), a ≠ I) ∧ (∀ a ∈ D :: (tl' ++ news).map (·.1), a ≠ C) ∧ (∀ a ∈ (tl' ++ news).map (·.1), a ≠ D) ∧ TupsOf tl' ys' (ps ++ rowTo l j) ∧ ys'.length = ys.length + j) ?_ (l.toNat + 1)
    ⟨s.heap, s.toks, 0, oC, m', tl, ys, rfl, hl0, rfl, F, by simpa using N, hC, hm, f2, f1, fC, fD, by simpa [rowTo] using hT, rfl⟩
  rintro n s' ⟨h', tk, j, oC', m₂, tl', ys', rfl, hj, rfl, F', N', hC', hm', g2, g1, gC, gD, hT', hys⟩
  have zI2 := N' _ (.head _)
  have zC := N' _ (.tail _ (.tail _ (.head _)))
  have zD := N' _ (.tail _ (.tail _ (.tail _ (.head _))))
  by_cases hlt : (j : Int) < l
  · refine wpAny_pyNext_range_item (x := (j : Int)) (left := l - j) (step := 1) zI2.1 (by omega) fun h₂ hit₂ hs₂ => ?_
    have F₂ := fr_ext F' (ext_of_same hs₂) zI2.2
    have N₂ : News h₀ L h₂ ((I2, rgO ((j : Int) + 1) (l - j - 1)) :: (I, oI) :: (C, oC') :: (D, LCg.lst ys') :: (tl' ++ news)) := news_set N' (ext_of_same hs₂) hit₂ zI2.2 fun p hp => by
      rcases List.mem_cons.mp hp with rfl | hp
      · exact .inl rfl
      · exact .inr ⟨.tail _ hp, g2 _ (by simpa using mem_adr hp)⟩
    have zC₂ := N₂ _ (.tail _ (.tail _ (.head _)))
    refine wpAny_assign_Name (wpAny_storeName_local (lookup_relabel_local hx2) (hC'.ns zC₂.1) (fun h₃ hn₃ hs₃ => ?_) (by simp [compEnvC, relabel, hkind]))
    have F₃ := fr_ext F₂ (ext_of_same hs₃) zC₂.2
    obtain ⟨oC₃, heC, hoC⟩ := LCg.ns_obj hn₃
    have N₃ : News h₀ L h₃ ((C, oC₃) :: (I2, rgO ((j : Int) + 1) (l - j - 1)) :: (I, oI) :: (D, LCg.lst ys') :: (tl' ++ news)) := news_set N₂ (ext_of_same hs₃) heC zC₂.2 fun p hp => by
      rcases List.mem_cons.mp hp with rfl | hp
      · exact .inl rfl
      · rcases List.mem_cons.mp hp with rfl | hp
        · exact .inr ⟨.head _, fun e => g2 C (by simp) e.symm⟩
        · rcases List.mem_cons.mp hp with rfl | hp
          · exact .inr ⟨.tail _ (.head _), fun e => g1 C (by simp) e.symm⟩
          · exact .inr ⟨.tail _ (.tail _ (.tail _ hp)), gC _ (by simpa using mem_adr hp)⟩
    refine wpAny_mono (elt_ok C oC₃ _ (j : Int) l tk tl0 _ _ _ hoC (by simp) (by simp [hx12, hm']) F₃ N₃) (fun y s₄ h₄ => ?_) fun _ _ e => e
    obtain ⟨q, h₄, tk₄, nt, rfl, rfl, F₄, N₄, hq⟩ := h₄
    have zD₄ := N₄ (D, LCg.lst ys') (by simp)
    have qI2 : I2 < q := hq (I2, rgO ((j : Int) + 1) (l - j - 1)) (by simp)
    have qI : I < q := hq (I, oI) (by simp)
    have qC : C < q := hq (C, oC₃) (by simp)
    have qD : D < q := hq (D, LCg.lst ys') (by simp)
    refine append_at (hsz := by show ys'.toArray.size ≤ sizeLine; rw [List.size_toArray, hys]; exact Nat.le_trans (by omega : ys.length + j ≤ 104) (by decide)) zD₄.1 fun h₅ hs₅ hD₅ => ?_
    have F₅ := fr_ext F₄ (ext_of_same hs₅) zD₄.2
    refine ⟨l.toNat + 1 - (j + 1), by omega, h₅, tk₄, j + 1, oC₃, _, (q, T2 (j : Int) l tk tl0 nt) :: tl', ys' ++ [.ref q], rfl, by omega, rfl, F₅, ?_, hoC, by simp [hx12, hm'], ?_, ?_, ?_, ?_, ?_, by simp [hys]; omega⟩
    · refine news_set N₄ (ext_of_same hs₅) (hD₅.trans (congrArg some (LCg.lst_snoc ys' (.ref q)))) zD₄.2 fun p hp => ?_
      rcases List.mem_cons.mp hp with rfl | hp
      · refine .inr ⟨?_, fun e => g2 D (by simp) e.symm⟩
        rw [show ((j + 1 : Nat) : Int) = (j : Int) + 1 from rfl, show l - ((j : Int) + 1) = l - j - 1 by omega]
        simp
      · rcases List.mem_cons.mp hp with rfl | hp
        · exact .inr ⟨by simp, fun e => g1 D (by simp) e.symm⟩
        · rcases List.mem_cons.mp hp with rfl | hp
          · exact .inr ⟨by simp, fun e => gC D (by simp) e.symm⟩
          · rcases List.mem_cons.mp hp with rfl | hp
            · exact .inl rfl
            · rcases List.mem_cons.mp hp with rfl | hp
              · exact .inr ⟨by simp, Nat.ne_of_gt qD⟩
              · exact .inr ⟨.tail _ (.tail _ (.tail _ (.tail _ (.tail _ hp)))), gD _ (mem_adr hp)⟩
    · intro b hb
      simp only [List.cons_append, List.map_cons, List.mem_cons] at hb
      rcases hb with rfl | rfl | rfl | rfl | hb
      · exact g2 _ (by simp)
      · exact g2 _ (by simp)
      · exact g2 _ (by simp)
      · exact Nat.ne_of_gt qI2
      · exact g2 _ (by simp only [List.mem_cons]; exact .inr (.inr (.inr hb)))
    · intro b hb
      simp only [List.cons_append, List.map_cons, List.mem_cons] at hb
      rcases hb with rfl | rfl | rfl | hb
      · exact g1 _ (by simp)
      · exact g1 _ (by simp)
      · exact Nat.ne_of_gt qI
      · exact g1 _ (by simp only [List.mem_cons]; exact .inr (.inr hb))
    · intro b hb
      simp only [List.cons_append, List.map_cons, List.mem_cons] at hb
      rcases hb with rfl | rfl | hb
      · exact gC _ (by simp)
      · exact Nat.ne_of_gt qC
      · exact gC _ (by simp only [List.mem_cons]; exact .inr hb)
    · intro b hb
      simp only [List.cons_append, List.map_cons, List.mem_cons] at hb
      rcases hb with rfl | hb
      · exact Nat.ne_of_gt qD
      · exact gD _ hb
    · rw [rowTo_succ, ← List.append_assoc]
      exact .snoc q _ _ _ _ _ hT'
  · have ej : (j : Int) = l := by omega
    refine wpAny_pyNext_range_end (x := (j : Int)) (left := l - j) (step := 1) hh zI2.1 (by omega) fun h₂ hs₂ => ?_
    have ejn : j = l.toNat := by omega
    refine done h₂ tk oC' m₂ tl' ys' (fr_ext F' hs₂ zI2.2) (fun p hp => ⟨hs₂ _ _ (g2 _ (by simpa using mem_adr hp)) (N' p (.tail _ hp)).1, (N' p (.tail _ hp)).2⟩) hC' g1 gC gD (by rw [← ejn]; exact hT') (by rw [← ejn]; exact hys)
/-- the outer loop -/
theorem outer_two {I C D : Addr} {oC : Obj} {m' : Str → Option Value} {news : List (Addr × Obj)} {R : Result → Shared → Prop} (hh : A.handled = none)
    (hx1 : scope.names.lookup x1 = some .local) (hx2 : scope.names.lookup x2 = some .local) (hx12 : x1 ≠ x2) (hkind : scope.kind = .function)
    (elt_ok : EltOk prog w A h₀ L m env elt x1 x2 scope cl) (iter_ok : IterOk prog w A h₀ L m env iter2 x1 scope cl)
    (F : Fr h₀ L s.heap m) (N : News h₀ L s.heap ((I, rgO 0 4) :: (C, oC) :: (D, LCg.lst []) :: news)) (hC : LCg.NsObj oC m')
    (f1 : ∀ a ∈ C :: D :: news.map (·.1), a ≠ I) (fC : ∀ a ∈ D :: news.map (·.1), a ≠ C) (fD : ∀ a ∈ news.map (·.1), a ≠ D)
    (hf : ∀ C x, foldedSetIterable iter2 (compEnvC scope cl C env) x = pure x)
    (done : ∀ h' tk oC' m₂ tl' ys', Fr h₀ L h' m → News h₀ L h' ((C, oC') :: (D, LCg.lst ys') :: (tl' ++ news)) → LCg.NsObj oC' m₂ → (∀ a ∈ D :: (tl' ++ news).map (·.1), a ≠ C) → (∀ a ∈ (tl' ++ news).map (·.1), a ≠ D) →
      TupsOf tl' ys' (pairsTo 4) → R (.ok .next) { s with heap := h', toks := tk }) :
    codeAny (model prog w) A (.compLoop (.ListComp elt [⟨.Name x1 p1, iter1, [], 0⟩, ⟨.Name x2 p2, iter2, [], 0⟩] scope pos) 0 (.ref I) (.ref D) (compEnvC scope cl C env)) R s := by
  refine loop_two0 (fun n s' => ∃ (h' : Heap) (tk i : Nat) (oC' : Obj) (m₂ : Str → Option Value) (tl' : List (Addr × Obj)) (ys' : List Value), s' = { s with heap := h', toks := tk } ∧ i ≤ 4 ∧ n = 4 + 1 - i ∧ Fr h₀ L h' m ∧ News h₀ L h' ((I, rgO (i : Int) (4 - i)) :: (C, oC') :: (D, LCg.lst ys') :: (tl' ++ news)) ∧ LCg.NsObj oC' m₂ ∧
      (∀ a ∈ C :: D :: (tl' ++ news).map (·.1), a ≠ I) ∧ (∀ a ∈ D :: (tl' ++ news).map (·.1), a ≠ C) ∧ (∀ a ∈ (tl' ++ news).map (·.1), a ≠ D) ∧ TupsOf tl' ys' (pairsTo i) ∧ ys'.length ≤ 4 * i) ?_ (4 + 1)
    ⟨s.heap, s.toks, 0, oC, m', [], [], rfl, by decide, rfl, F, by simpa using N, hC, f1, fC, fD, .nil, by decide⟩ (hf := fun x => hf C x)
  rintro n s' ⟨h', tk, i, oC', m₂, tl', ys', rfl, hi, rfl, F', N', hC', g1, gC, gD, hT', hys⟩
  have zI := N' _ (.head _)
  by_cases hlt : i < 4
  · refine wpAny_pyNext_range_item (x := (i : Int)) (left := 4 - i) (step := 1) zI.1 (by omega) fun h₂ hit₂ hs₂ => ?_
    have F₂ := fr_ext F' (ext_of_same hs₂) zI.2
    have N₂ : News h₀ L h₂ ((I, rgO ((i : Int) + 1) (4 - i - 1)) :: (C, oC') :: (D, LCg.lst ys') :: (tl' ++ news)) := news_set N' (ext_of_same hs₂) hit₂ zI.2 fun p hp => by
      rcases List.mem_cons.mp hp with rfl | hp
      · exact .inl rfl
      · exact .inr ⟨.tail _ hp, g1 _ (by simpa using mem_adr hp)⟩
    have zC₂ := N₂ _ (.tail _ (.head _))
    refine wpAny_assign_Name (wpAny_storeName_local (lookup_relabel_local hx1) (hC'.ns zC₂.1) (fun h₃ hn₃ hs₃ => ?_) (by simp [compEnvC, relabel, hkind]))
    have F₃ := fr_ext F₂ (ext_of_same hs₃) zC₂.2
    obtain ⟨oC₃, heC, hoC⟩ := LCg.ns_obj hn₃
    have N₃ : News h₀ L h₃ ((C, oC₃) :: (I, rgO ((i : Int) + 1) (4 - i - 1)) :: (D, LCg.lst ys') :: (tl' ++ news)) := news_set N₂ (ext_of_same hs₃) heC zC₂.2 fun p hp => by
      rcases List.mem_cons.mp hp with rfl | hp
      · exact .inl rfl
      · rcases List.mem_cons.mp hp with rfl | hp
        · exact .inr ⟨.head _, fun e => g1 C (by simp) e.symm⟩
        · exact .inr ⟨.tail _ (.tail _ hp), gC _ (by simpa using mem_adr hp)⟩
    refine wpAny_mono (iter_ok C oC₃ _ (i : Int) tk _ _ _ hoC (by simp) (by omega) (by omega) F₃ N₃) (fun y s₄ h₄ => ?_) fun _ _ e => e
    obtain ⟨r, t, u, v, h₄, tk₄, rfl, rfl, hr, F₄, N₄⟩ := h₄
    have hsz : Builtin.Range.rangeSize 0 (i : Int) 1 = (i : Int) := by
      simp [Builtin.Range.rangeSize]
      all_goals omega
    refine wpAny_pyIter_range hr (small_one (by decide) (by decide) (by omega) (by omega)) ?_
    have up : ∀ b o, h₄.get? b = some o → (h₄.push { cls := .type "range_iterator", data := .fields #[rawInt 0, rawInt (Builtin.Range.rangeSize 0 (i : Int) 1), rawInt 1] }).get? b = some o := fun b o e => Heap.get?_push_of_some _ e
    have hnew : (h₄.push { cls := .type "range_iterator", data := .fields #[rawInt 0, rawInt (Builtin.Range.rangeSize 0 (i : Int) 1), rawInt 1] }).get? h₄.objs.size = some (rgO 0 (i : Int)) := by
      rw [hsz]; exact Heap.get?_push_size _ rfl
    have lts : ∀ p ∈ (C, oC₃) :: (I, rgO ((i : Int) + 1) (4 - i - 1)) :: (D, LCg.lst ys') :: (tl' ++ news), p.1 ≠ h₄.objs.size := fun p hp => Nat.ne_of_lt (Heap.lt_size (N₄ p hp).1)
    have N₅ : News h₀ L (h₄.push { cls := .type "range_iterator", data := .fields #[rawInt 0, rawInt (Builtin.Range.rangeSize 0 (i : Int) 1), rawInt 1] }) ((h₄.objs.size, rgO 0 (i : Int)) :: (I, rgO ((i : Int) + 1) (4 - i - 1)) :: (C, oC₃) :: (D, LCg.lst ys') :: (tl' ++ news)) := fun p hp => by
      rcases List.mem_cons.mp hp with rfl | hp
      · exact ⟨hnew, Ne.symm (Nat.ne_of_lt F₄.ns.lt), next_is_new F₄⟩
      · have hp' : p ∈ (C, oC₃) :: (I, rgO ((i : Int) + 1) (4 - i - 1)) :: (D, LCg.lst ys') :: (tl' ++ news) := by
          rcases List.mem_cons.mp hp with rfl | hp
          · exact .tail _ (.head _)
          · rcases List.mem_cons.mp hp with rfl | hp
            · exact .head _
            · exact .tail _ (.tail _ hp)
        exact ⟨up _ _ (N₄ p hp').1, (N₄ p hp').2⟩
    have inner : codeAny (model prog w) A (.compLoop (.ListComp elt [⟨.Name x1 p1, iter1, [], 0⟩, ⟨.Name x2 p2, iter2, [], 0⟩] scope pos) 1 (.ref h₄.objs.size) (.ref D) (compEnvC scope cl C env)) (fun r s₅ => match r with
        | .ok _ => ∃ mm, mm < 4 + 1 - i ∧ ∃ (h' : Heap) (tk i : Nat) (oC' : Obj) (m₂ : Str → Option Value) (tl' : List (Addr × Obj)) (ys' : List Value), s₅ = { s with heap := h', toks := tk } ∧ i ≤ 4 ∧ mm = 4 + 1 - i ∧ Fr h₀ L h' m ∧ News h₀ L h' ((I, rgO (i : Int) (4 - i)) :: (C, oC') :: (D, LCg.lst ys') :: (tl' ++ news)) ∧ LCg.NsObj oC' m₂ ∧
          (∀ a ∈ C :: D :: (tl' ++ news).map (·.1), a ≠ I) ∧ (∀ a ∈ D :: (tl' ++ news).map (·.1), a ≠ C) ∧ (∀ a ∈ (tl' ++ news).map (·.1), a ≠ D) ∧ TupsOf tl' ys' (pairsTo i) ∧ ys'.length ≤ 4 * i
        | .error _ => False) { s with heap := h₄.push { cls := .type "range_iterator", data := .fields #[rawInt 0, rawInt (Builtin.Range.rangeSize 0 (i : Int) 1), rawInt 1] }, toks := tk₄ } := by
      refine inner_two (l := (i : Int)) (tl0 := tk) hh hx2 hx12 hkind (by omega) (by omega) (by omega) elt_ok (F₄.keeps up) N₅ hoC (by simp) ?_ g1 gC gD hT' ?_
      · intro b hb
        simp only [List.mem_cons] at hb
        rcases hb with rfl | rfl | rfl | hb
        · exact lts (_, _) (.tail _ (.head _))
        · exact lts (_, _) (.head _)
        · exact lts (_, _) (.tail _ (.tail _ (.head _)))
        · obtain ⟨p, hp, rfl⟩ := List.mem_map.mp hb
          exact lts p (.tail _ (.tail _ (.tail _ hp)))
      · intro h₆ tk₆ oC₆ m₆ tl₆ ys₆ F₆ N₆ hC₆ k1 kC kD hT₆ hy₆
        refine ⟨4 + 1 - (i + 1), by omega, h₆, tk₆, i + 1, oC₆, m₆, tl₆, ys₆, rfl, by omega, rfl, F₆, ?_, hC₆, k1, kC, kD, ?_, ?_⟩
        · rw [show ((i + 1 : Nat) : Int) = (i : Int) + 1 from rfl, show (4 : Int) - ((i : Int) + 1) = 4 - i - 1 by omega]
          exact N₆
        · have : ((i : Int)).toNat = i := Int.toNat_natCast i
          rw [this] at hT₆
          exact hT₆
        · have : ((i : Int)).toNat = i := Int.toNat_natCast i
          rw [this] at hy₆
          omega
    exact start_two1 inner (wpAny_pyIter_rangeiter hnew inner)
  · have e4 : i = 4 := by omega
    subst e4
    refine wpAny_pyNext_range_end (x := 4) (left := 4 - 4) (step := 1) hh zI.1 (by decide) fun h₂ hs₂ => ?_
    exact done h₂ tk oC' m₂ tl' ys' (fr_ext F' hs₂ zI.2) (fun p hp => ⟨hs₂ _ _ (g1 _ (by simpa using mem_adr hp)) (N' p (.tail _ hp)).1, (N' p (.tail _ hp)).2⟩) hC' gC gD hT'
end
end Mine
end
theorem Mine.resetC4 : True := by
  w_top off
  exact True.intro
-- text C4
section
open PySem PySem.W PyProof.Rows PySem.Spec PySem.Calls
set_option maxRecDepth 100000
namespace Mine
section
variable {prog : Program} {w : World} {A : Around} {E : Value → Shared → Prop} {s : Shared} {h₀ : Heap} {L : Addr} {m : Str → Option Value} {env : Env}
variable {elt iter1 iter2 : Expr} {x1 x2 y : Str} {p1 p2 py : Pos} {scope : Scope} {cl : List (Str × Addr)} {pos spos : Pos}
theorem Assign_two {news : List (Addr × Obj)} {Q : Flow → Shared → Prop} (_F₀ : Fr h₀ L s.heap m) (hLe : env.locals = L)
    (hsw : swapsWith (.ListComp elt [⟨.Name x1 p1, iter1, [], 0⟩, ⟨.Name x2 p2, iter2, [], 0⟩] scope pos) (some (.Name y py)) spos.line env = pure true)
    (hclos : closureFor scope env = pure cl) (hcell : ∀ z ∈ scope.names, z.2 ≠ .cell) (hkind : scope.kind = .function)
    (hnames : ∀ z ∈ scope.names, z.2 = .local → scope.names.lookup z.1 = some .local) (hx1 : scope.names.lookup x1 = some .local) (hx2 : scope.names.lookup x2 = some .local) (hx12 : x1 ≠ x2)
    (hy : env.kindOf y = some .local) (hp : (env.scope.kind == .class || (env.scope.kind == .module && env.locals != env.globals)) = false)
    (hh : A.handled = none) (elt_ok : EltOk prog w A h₀ L m env elt x1 x2 scope cl) (iter_ok : IterOk prog w A h₀ L m env iter2 x1 scope cl)
    (h : wpAny (model prog w) A (eval iter1 env) (fun xv s₁ => ∃ r t u v h' tk, xv = .ref r ∧ s₁ = { s with heap := h', toks := tk } ∧ IsRange h' r 0 4 1 t u v ∧ Fr h₀ L h' m ∧ News h₀ L h' news) E s)
    (fin : ∀ (D : Nat) h' tk tl ys, Fr h₀ L h' (fun z => if z = y then some (.ref D) else m z) → News h₀ L h' ((D, LCg.lst ys) :: (tl ++ news)) → (∀ a ∈ (tl ++ news).map (·.1), a ≠ D) → TupsOf tl ys (pairsTo 4) → Q .next { s with heap := h', toks := tk })
    (hs : ∀ x, foldedSetIterable iter1 env x = pure x := by intro _; rfl) (hf : ∀ C x, foldedSetIterable iter2 (compEnvC scope cl C env) x = pure x := by intro _ _; rfl) :
    wpAny (model prog w) A (exec (.Assign [.Name y py] (.ListComp elt [⟨.Name x1 p1, iter1, [], 0⟩, ⟨.Name x2 p2, iter2, [], 0⟩] scope pos) spos) env) Q E s := by
  subst hLe
  rw [exec_Assign_Name_used _ _ _ _ hsw]
  refine wpAny_bind (wpAny_standAt (wpAny_bind ?_))
  show wpAny _ A (do let _ ← comprehension (.ListComp elt [⟨.Name x1 p1, iter1, [], 0⟩, ⟨.Name x2 p2, iter2, [], 0⟩] scope pos) scope env _ (newList []) false (eval iter1 env) (some (assign (.Name y py) env))) _ _ s
  refine wpAny_bind (wpAny_mono (wpAny_comprehension_free (use := some (assign (.Name y py) env)) (Q := fun _ s' => Q .next s') rfl hs hclos hkind hnames
    (wpAny_mono h (fun xv s₁ h₁ => ?_) fun _ _ e => e)) (fun _ s' hq => wpAny_pure (wpAny_pure hq)) fun _ _ e => e)
  obtain ⟨r, t, u, v, h₁, tk₁, rfl, rfl, hr, F, N⟩ := h₁
  refine wpAny_pyIter_range hr (by decide) ?_
  have hsz : Builtin.Range.rangeSize 0 4 1 = 4 := by decide
  rw [hsz]
  have up : ∀ b o, h₁.get? b = some o → (h₁.push { cls := .type "range_iterator", data := .fields #[rawInt 0, rawInt 4, rawInt 1] }).get? b = some o := fun b o e => Heap.get?_push_of_some _ e
  have hnew : (h₁.push { cls := .type "range_iterator", data := .fields #[rawInt 0, rawInt 4, rawInt 1] }).get? h₁.objs.size = some (rgO 0 4) := Heap.get?_push_size _ rfl
  generalize hG : h₁.push { cls := .type "range_iterator", data := .fields #[rawInt 0, rawInt 4, rawInt 1] } = g₁ at up hnew ⊢
  have F₁ := F.keeps up
  have N₁ : News h₀ env.locals g₁ ((h₁.objs.size, rgO 0 4) :: news) := fun p hp => by
    rcases List.mem_cons.mp hp with rfl | hp
    · exact ⟨hnew, Ne.symm (Nat.ne_of_lt F.ns.lt), next_is_new F⟩
    · exact ⟨up _ _ (N p hp).1, (N p hp).2⟩
  have ltI : ∀ p ∈ news, p.1 ≠ h₁.objs.size := fun p hp => Nat.ne_of_lt (Heap.lt_size (N p hp).1)
  refine wpAny_newObj_type (wpAny_newFunctionEnv hcell (by intro y hy; simp at hy) (fun h₂ hns₂ hsb₂ => ?_) hkind)
  dsimp only at hns₂ hsb₂ ⊢
  generalize hH2 : g₁.push { cls := .type "list", dict := none, data := .seq ([] : List Value).toArray } = H2 at hns₂ hsb₂ ⊢
  have hC : H2.objs.size = g₁.objs.size + 1 := by rw [← hH2, Heap.size_push]
  have old2 : ∀ b o, g₁.get? b = some o → H2.get? b = some o := fun b o e => hH2 ▸ Heap.get?_push_of_some _ e
  have old : ∀ b o, g₁.get? b = some o → h₂.get? b = some o := fun b o e => hsb₂.extBut b o (Nat.ne_of_lt (by rw [hC]; exact Nat.lt_succ_of_lt (Heap.lt_size e))) (Heap.get?_push_of_some _ (old2 b o e))
  have hacc : h₂.get? g₁.objs.size = some (LCg.lst []) := hsb₂.extBut _ _ (by rw [hC]; exact Nat.ne_of_lt (Nat.lt_succ_self _)) (Heap.get?_push_of_some _ (hH2 ▸ Heap.get?_push_size _ rfl))
  have fresh₀ : ∀ a, g₁.objs.size ≤ a → h₀.get? a = none := fun a ha => by
    cases e : h₀.get? a with
    | none => rfl
    | some o' =>
      have e2 := F₁.keep a o' e
      exact absurd (Heap.lt_size e2) (Nat.not_lt.mpr ha)
  have ltG : ∀ p ∈ (h₁.objs.size, rgO 0 4) :: news, p.1 < g₁.objs.size := fun p hp => Heap.lt_size (N₁ p hp).1
  have hLlt : env.locals < g₁.objs.size := F₁.ns.lt
  obtain ⟨oC, heC, hoC⟩ := LCg.ns_obj hns₂
  have F₂ := F₁.keeps old
  have N₂ : News h₀ env.locals h₂ ((h₁.objs.size, rgO 0 4) :: (H2.objs.size, oC) :: (g₁.objs.size, LCg.lst []) :: news) := fun p hp => by
    rcases List.mem_cons.mp hp with rfl | hp
    · exact ⟨old _ _ hnew, (N₁ _ (.head _)).2⟩
    · rcases List.mem_cons.mp hp with rfl | hp
      · exact ⟨heC, Ne.symm (Nat.ne_of_lt (by rw [hC]; exact Nat.lt_succ_of_lt hLlt)), fresh₀ _ (by rw [hC]; exact Nat.le_succ _)⟩
      · rcases List.mem_cons.mp hp with rfl | hp
        · exact ⟨hacc, Ne.symm (Nat.ne_of_lt hLlt), fresh₀ _ (Nat.le_refl _)⟩
        · exact ⟨old _ _ (N₁ p (.tail _ hp)).1, (N₁ p (.tail _ hp)).2⟩
  have key : ∀ s₃ : Shared, s₃ = { s with heap := h₂, toks := tk₁ + ([] : List (Str × Value)).length } → codeAny (model prog w) A (.compLoop (.ListComp elt [⟨.Name x1 p1, iter1, [], 0⟩, ⟨.Name x2 p2, iter2, [], 0⟩] scope pos) 0 (.ref h₁.objs.size) (.ref g₁.objs.size) (compEnvC scope cl H2.objs.size env))
      (compPost (model prog w) A E (some (assign (.Name y py) env)) (fun _ s' => Q .next s') (.ref g₁.objs.size) H2.objs.size) s₃ := by
    rintro s₃ rfl
    refine outer_two hh hx1 hx2 hx12 hkind elt_ok iter_ok F₂ N₂ hoC ?_ ?_ ?_ hf ?_
    · intro b hb
      simp only [List.mem_cons] at hb
      rcases hb with rfl | rfl | hb
      · exact Ne.symm (Nat.ne_of_lt (by rw [hC]; exact Nat.lt_succ_of_lt (Heap.lt_size hnew)))
      · exact Ne.symm (Nat.ne_of_lt (Heap.lt_size hnew))
      · obtain ⟨p, hp, rfl⟩ := List.mem_map.mp hb
        exact ltI p hp
    · intro b hb
      simp only [List.mem_cons] at hb
      rcases hb with rfl | hb
      · exact Nat.ne_of_lt (by rw [hC]; exact Nat.lt_succ_self _)
      · obtain ⟨p, hp, rfl⟩ := List.mem_map.mp hb
        exact Nat.ne_of_lt (by rw [hC]; exact Nat.lt_succ_of_lt (ltG p (.tail _ hp)))
    · intro b hb
      obtain ⟨p, hp, rfl⟩ := List.mem_map.mp hb
      exact Nat.ne_of_lt (ltG p (.tail _ hp))
    · intro h' tk' oC' m₂ tl' ys' F' N' hC' gC gD hT
      have zC := N' _ (.head _)
      show wpAny _ A (assign (.Name y py) env (.ref g₁.objs.size)) _ _ _
      refine wpAny_assign_Name (wpAny_storeName_local hy F'.ns (fun h₃ hn₃ hs₃ => ?_) hp)
      have F₃ := F'.set hn₃ hs₃
      refine ⟨m₂, (hC'.ns zC.1).sameBut hs₃ zC.2.1, fun h'' hs'' => fin g₁.objs.size h'' _ tl' ys' (fr_ext F₃ (ext_of_same hs'') zC.2) (fun p hp => ?_) gD hT⟩
      have z := N' p (.tail _ hp)
      have hpC : p.1 ≠ H2.objs.size := gC _ (by
        rcases List.mem_cons.mp hp with rfl | hp
        · exact .head _
        · exact .tail _ (mem_adr hp))
      exact ⟨ext_of_same hs'' _ _ hpC (ext_of_same hs₃ _ _ z.2.1 z.1), z.2⟩
  exact codeAny_compStart_list (key _ rfl) (wpAny_pyIter_rangeiter (old _ _ hnew) (key _ rfl))
end
end Mine
end
theorem Mine.resetC5 : True := by
  w_top off
  exact True.intro
-- text C5
section
open PySem PySem.W PyProof.Rows PySem.Spec PySem.Calls
set_option maxRecDepth 100000
namespace Mine
section
variable {prog : Program} {w : World} {A : Around} {E : Value → Shared → Prop} {s : Shared} {h₀ : Heap} {L a c : Addr} {cn x : Str} {cs : Scope} {ccd : Value} {cl : List (Str × Addr)} {body : List Stmt} {Q : Flow → Shared → Prop}
noncomputable def CgEnd (h₀ : Heap) (L c : Addr) (I : Addr) (oI : Obj) (J : (Str → Option Value) → List (Addr × Obj) → Prop) (s₁ s₂ : Shared) : Prop :=
  ∃ h' tk m' nx o v, s₂ = { s₁ with heap := h', toks := tk } ∧ Fr h₀ L h' m' ∧ News h₀ L h' ((I, oI) :: (c, o) :: nx) ∧ o.data = .cell v ∧ (∀ p ∈ nx, p.1 ≠ c) ∧ (∀ p ∈ nx, p.1 ≠ I) ∧ J m' nx
noncomputable def CgPost (h₀ : Heap) (L c : Addr) (I : Addr) (oI : Obj) (J : (Str → Option Value) → List (Addr × Obj) → Prop) (s₁ : Shared) (Q : Flow → Shared → Prop) (f : Flow) (s₂ : Shared) : Prop :=
  match f with
  | .ret v => Q (.ret v) s₂
  | .brk => Q .next s₂
  | _ => CgEnd h₀ L c I oI J s₁ s₂
theorem For_cell {iter : Expr} {px pos : Pos} {lo hi : Int} {n : Nat} {m₀ : Str → Option Value} {news : List (Addr × Obj)} {o₀ : Obj} {v₀ : Option Value} (J : Nat → (Str → Option Value) → List (Addr × Obj) → Prop)
    (hk : cs.kind = .function) (hx : (envX cn cs L a ccd cl).kindOf x = some .cell) (hc : cl.lookup x = some c) (hh : A.handled = none)
    (hn : hi - lo = (n : Int)) (hn1 : n ≤ 1000) (hlo : 0 ≤ lo) (hhi : hi ≤ 1000)
    (h : wpAny (model prog w) A (eval iter (envX cn cs L a ccd cl)) (fun xv s₁ => ∃ r t u v h' tk, xv = .ref r ∧ s₁ = { s with heap := h', toks := tk } ∧ IsRange h' r lo hi 1 t u v ∧ Fr h₀ L h' m₀ ∧ News h₀ L h' ((c, o₀) :: news)) E s)
    (hd : o₀.data = .cell v₀) (off : ∀ p ∈ news, p.1 ≠ c) (hj : J 0 m₀ news)
    (turn : ∀ (i : Nat) (t : Tok) m₁ news₁ o' h tk (I : Nat) oI, i < n → (∃ x y, oI = rgO x y) → J i m₁ news₁ → o'.data = .cell (some (.int (lo + i) t)) → c ≠ I → (∀ p ∈ news₁, p.1 ≠ c) → (∀ p ∈ news₁, p.1 ≠ I) → Fr h₀ L h m₁ → News h₀ L h ((I, oI) :: (c, o') :: news₁) →
      wpAny (model prog w) A (execs body (envX cn cs L a ccd cl)) (CgPost h₀ L c I oI (J (i + 1)) { s with heap := h, toks := tk } Q) E { s with heap := h, toks := tk })
    (done : ∀ m₁ news₁ o v h tk, J n m₁ news₁ → o.data = .cell v → (∀ p ∈ news₁, p.1 ≠ c) → Fr h₀ L h m₁ → News h₀ L h ((c, o) :: news₁) → Q .next { s with heap := h, toks := tk })
    (hs : ∀ x, foldedSetIterable iter (envX cn cs L a ccd cl) x = pure x := by intro _; rfl)
    (hE : PassesOwn (model prog w) A (envX cn cs L a ccd cl) E := by passes_own) :
    wpAny (model prog w) A (exec (.For (.Name x px) iter body [] pos) (envX cn cs L a ccd cl)) Q E s := by
  refine wpAny_For (wpAny_mono h (fun xv s₁ h₁ => ?_) fun _ _ e => e) hs
  obtain ⟨r, t, u, v, h₁, tk₁, rfl, rfl, hr, F, N⟩ := h₁
  have hsz : Builtin.Range.rangeSize lo hi 1 = (n : Int) := by
    simp [Builtin.Range.rangeSize]
    all_goals omega
  refine wpAny_pyIter_range hr (small_one (by omega) (by omega) (by omega) (by omega)) ?_
  rw [hsz]
  have up : ∀ b o, h₁.get? b = some o → (h₁.push { cls := .type "range_iterator", data := .fields #[rawInt lo, rawInt (n : Int), rawInt 1] }).get? b = some o := fun b o e => Heap.get?_push_of_some _ e
  have hnew : (h₁.push { cls := .type "range_iterator", data := .fields #[rawInt lo, rawInt (n : Int), rawInt 1] }).get? h₁.objs.size = some (rgO lo (n : Int)) := Heap.get?_push_size _ rfl
  generalize h₁.push { cls := .type "range_iterator", data := .fields #[rawInt lo, rawInt (n : Int), rawInt 1] } = g₁ at up hnew ⊢
  have hI₀ : h₀.get? h₁.objs.size = none := next_is_new F
  have hIL : h₁.objs.size ≠ L := Ne.symm (Nat.ne_of_lt F.ns.lt)
  have lts : ∀ p ∈ (c, o₀) :: news, p.1 ≠ h₁.objs.size := fun p hp => Nat.ne_of_lt (Heap.lt_size (N p hp).1)
  refine codeAny_forLoop (fun k s' => ∃ (h' : Heap) (tk i : Nat) (m' : Str → Option Value) (nx : List (Addr × Obj)) (o : Obj) (v : Option Value), s' = { s with heap := h', toks := tk } ∧ i ≤ n ∧ k = n + 1 - i ∧ Fr h₀ L h' m' ∧ News h₀ L h' ((h₁.objs.size, rgO (lo + i) ((n : Int) - i)) :: (c, o) :: nx) ∧ o.data = .cell v ∧
      (∀ p ∈ nx, p.1 ≠ c) ∧ (∀ p ∈ nx, p.1 ≠ h₁.objs.size) ∧ J i m' nx) ?_ (n + 1)
    ⟨g₁, tk₁, 0, m₀, news, o₀, v₀, rfl, Nat.zero_le _, rfl, F.keeps up, ?_, hd, off, fun p hp => lts p (.tail _ hp), hj⟩
  · rintro k s' ⟨h', tk, i, m', nx, o, v, rfl, hi', rfl, F', N', hd', offc, offI, hJ⟩
    have zI := N' _ (.head _)
    have zc := N' _ (.tail _ (.head _))
    have hcI : c ≠ h₁.objs.size := lts _ (.head _)
    by_cases hlt : i < n
    · refine wpAny_pyNext_range_item (x := lo + i) (left := (n : Int) - i) (step := 1) zI.1 (by omega) fun h₂ hit₂ hs₂ => ?_
      have F₂ := fr_ext F' (ext_of_same hs₂) zI.2
      have N₂ : News h₀ L h₂ ((h₁.objs.size, rgO (lo + i + 1) ((n : Int) - i - 1)) :: (c, o) :: nx) := news_set N' (ext_of_same hs₂) hit₂ zI.2 fun p hp => by
        rcases List.mem_cons.mp hp with rfl | hp
        · exact .inl rfl
        · refine .inr ⟨.tail _ hp, ?_⟩
          rcases List.mem_cons.mp hp with rfl | hp
          · exact hcI
          · exact offI p hp
      have zc₂ := N₂ _ (.tail _ (.head _))
      refine wpAny_assign_Name (wpAny_storeName_cell hk hx hc ⟨o, zc₂.1, hd'⟩ fun h₃ hv₃ hs₃ => ?_)
      obtain ⟨o₃, ho₃, hd₃⟩ := hv₃
      have F₃ := fr_ext F₂ (ext_of_same hs₃) zc₂.2
      have N₃ : News h₀ L h₃ ((h₁.objs.size, rgO (lo + i + 1) ((n : Int) - i - 1)) :: (c, o₃) :: nx) := news_set N₂ (ext_of_same hs₃) ho₃ zc₂.2 fun p hp => by
        rcases List.mem_cons.mp hp with rfl | hp
        · exact .inr ⟨.head _, Ne.symm hcI⟩
        · rcases List.mem_cons.mp hp with rfl | hp
          · exact .inl rfl
          · exact .inr ⟨.tail _ (.tail _ hp), offc p hp⟩
      have T := turn i _ m' nx o₃ h₃ (tk + 1) h₁.objs.size _ hlt ⟨_, _, rfl⟩ hJ hd₃ hcI offc offI F₃ N₃
      refine wpAny_mono (wpAny_passesOwn hE T) (fun f s₄ h₄ => ?_) fun _ _ e => e
      have fin : CgEnd h₀ L c h₁.objs.size (rgO (lo + i + 1) ((n : Int) - i - 1)) (J (i + 1)) { s with heap := h₃, toks := tk + 1 } s₄ → ∃ m, m < n + 1 - i ∧ ∃ (h' : Heap) (tk i : Nat) (m' : Str → Option Value) (nx : List (Addr × Obj)) (o : Obj) (v : Option Value), s₄ = { s with heap := h', toks := tk } ∧ i ≤ n ∧ m = n + 1 - i ∧ Fr h₀ L h' m' ∧ News h₀ L h' ((h₁.objs.size, rgO (lo + i) ((n : Int) - i)) :: (c, o) :: nx) ∧ o.data = .cell v ∧
          (∀ p ∈ nx, p.1 ≠ c) ∧ (∀ p ∈ nx, p.1 ≠ h₁.objs.size) ∧ J i m' nx := by
        rintro ⟨h₅, tk₅, m₅, nx₅, o₅, v₅, rfl, F₅, N₅, hd₅, k1, k2, hJ₅⟩
        refine ⟨n + 1 - (i + 1), by omega, h₅, tk₅, i + 1, m₅, nx₅, o₅, v₅, rfl, by omega, rfl, F₅, ?_, hd₅, k1, k2, hJ₅⟩
        rw [show lo + ((i + 1 : Nat) : Int) = lo + i + 1 by omega, show (n : Int) - ((i + 1 : Nat) : Int) = (n : Int) - i - 1 by omega]
        exact N₅
      cases f with
      | ret v => exact h₄
      | brk => exact h₄
      | next => exact fin h₄
      | cont => exact fin h₄
    · have e : i = n := by omega
      subst e
      refine wpAny_pyNext_range_end (x := lo + i) (left := (i : Int) - i) (step := 1) hh zI.1 (by omega) fun h₂ hs₂ => ?_
      refine wpAny_execs_nil (done m' nx o v h₂ tk hJ hd' offc (fr_ext F' hs₂ zI.2) fun p hp => ⟨hs₂ _ _ ?_ (N' p (.tail _ hp)).1, (N' p (.tail _ hp)).2⟩)
      rcases List.mem_cons.mp hp with rfl | hp
      · exact hcI
      · exact offI p hp
  · intro p hp
    rcases List.mem_cons.mp hp with rfl | hp
    · simpa using ⟨hnew, hIL, hI₀⟩
    · exact ⟨up _ _ (N p hp).1, (N p hp).2⟩
end
end Mine
end
theorem Mine.resetC6 : True := by
  w_top off
  exact True.intro
-- text C6
section
open PySem PySem.W PyProof.Rows PySem.Spec PySem.Calls
set_option maxRecDepth 100000
namespace Mine
section
variable {prog : Program} {w : World} {A : Around} {E : Value → Shared → Prop} {s : Shared} {h₀ : Heap} {L : Addr} {m : Str → Option Value} {env : Env}
/-- a comprehension over pairs, each element told -/
theorem comp_mapP {elt : Expr} {x x₂ : Str} {scope : Scope} {cl : List (Str × Addr)} {S : List (Addr × Obj) → Prop} {P : Nat → Value → Prop} {Fin : List Value → List (Addr × Obj) → Prop} {news : List (Addr × Obj)} {n : Nat} (V : Nat → Tok → Value) (Rel : Nat → Int → Int → Prop) (hS : S news)
    (tup : ∀ (i : Nat) v, i < n → P i v → ∃ (t : Addr) (ot : Obj) (e l : Int) (te tl : Tok) (nt : Nat), v = .ref t ∧ (t, ot) ∈ news ∧ ot.cls = .type "tuple" ∧ ot.data = .seq #[.int e te, .int l tl] nt ∧ Rel i e l)
    (turn : ∀ (i : Nat) (e l : Int) (te tl : Tok) (I : Nat) oI (C : Nat) oC (D : Nat) oD m₂ h tk (E' : Value → Shared → Prop), i < n → Rel i e l → LCg.NsObj oC m₂ → m₂ x = some (.int e te) → m₂ x₂ = some (.int l tl) → Fr h₀ L h m → News h₀ L h ((I, oI) :: (C, oC) :: (D, oD) :: news) →
      wpAny (model prog w) A (eval elt (compEnvC scope cl C env)) (MapPost h₀ L m { s with heap := h, toks := tk } ((I, oI) :: (C, oC) :: (D, oD) :: news) (V i)) E' { s with heap := h, toks := tk })
    (fin : ∀ ys, ys.length = n → (∀ i, i < n → ∃ t, ys[i]? = some (V i t)) → Fin ys news) :
    LCp.CompRestP prog w A h₀ L m env elt x x₂ scope cl s S P Fin n 0 [] news := by
  have go : ∀ k i ys, i + k = n → ys.length = i → (∀ j, j < i → ∃ t, ys[j]? = some (V j t)) → LCp.CompRestP prog w A h₀ L m env elt x x₂ scope cl s S P Fin k i ys news := by
    intro k
    induction k with
    | zero =>
      intro i ys e hl hy
      exact LCp.CompRestP.zero (fin ys (by omega) fun j hj => hy j (by omega))
    | succ k ih =>
      intro i ys e hl hy
      refine LCp.CompRestP.succ fun v hP => ?_
      obtain ⟨t, ot, a, b, ta, tb, nt, rfl, hm, hc, hd, hR⟩ := tup i v (by omega) hP
      refine ⟨t, ot, _, _, nt, rfl, hm, hc, hd, fun I oI C oC D m₂ h tk E' hC hx hy2 F N off ne => ?_⟩
      refine wpAny_mono (turn i a b ta tb I oI C oC D _ m₂ h tk E' (by omega) hR hC hx hy2 F N) (fun y s₂ hp => ?_) fun _ _ e => e
      obtain ⟨h', tk', t', rfl, rfl, F', N'⟩ := hp
      refine LCg.CompEnd.intro F' N' news (fun p hp => hp) off hS ?_
      refine ih (i + 1) _ (by omega) (by simp [hl]) fun j hj => ?_
      by_cases e2 : j = i
      · subst e2
        exact ⟨t', by rw [← hl]; simp⟩
      · obtain ⟨t2, ht⟩ := hy j (by omega)
        exact ⟨t2, by rw [List.getElem?_append_left (by omega)]; exact ht⟩
  exact go n 0 [] (by omega) rfl (fun j hj => absurd hj (Nat.not_lt_zero _))
end
section
variable {prog : Program} {w : World} {A : Around} {E : Value → Shared → Prop} {s : Shared} {h₀ : Heap} {L : Addr} {m : Str → Option Value}
theorem append_K {dl : Addr} {kd : Nat} {ds : List Value} {x : Value} {pre post : List (Addr × Obj)} {Q : Value → Shared → Prop} (F : Fr h₀ L s.heap m) (N : News h₀ L s.heap (pre ++ (dl, W.listOf ds.toArray kd) :: post)) (hpre : ∀ p ∈ pre, p.1 ≠ dl) (hpost : ∀ p ∈ post, p.1 ≠ dl) (hsz : ds.length ≤ sizeLine)
    (h : ∀ h', Fr h₀ L h' m → News h₀ L h' (pre ++ (dl, W.listOf (ds ++ [x]).toArray (kd + 1)) :: post) → Q .none { s with heap := h' }) : wpAny (model prog w) A (call (.builtin "list.append") [.ref dl, x]) Q E s := by
  have z := N (dl, W.listOf ds.toArray kd) (List.mem_append_right _ (.head _))
  refine append_at (hsz := by simpa using hsz) z.1 fun h' hs hD => h h' (fr_ext F (ext_of_same hs) z.2) (news_set N (ext_of_same hs) (o' := W.listOf (ds ++ [x]).toArray (kd + 1)) (by rw [hD, List.push_toArray]) z.2 fun p hp => ?_)
  · rcases List.mem_append.mp hp with hp | hp
    · exact .inr ⟨List.mem_append_left _ hp, hpre p hp⟩
    · rcases List.mem_cons.mp hp with rfl | hp
      · exact .inl rfl
      · exact .inr ⟨List.mem_append_right _ (.tail _ hp), hpost p hp⟩
end
theorem TupsOf.get {tl : List (Addr × Obj)} {ys : List Value} {ps : List (Int × Int)} (h : TupsOf tl ys ps) : ys.length = ps.length ∧ ∀ (i : Nat) v, ys[i]? = some v → ∃ q e l te tl' n, v = .ref q ∧ (q, T2 e l te tl' n) ∈ tl ∧ ps[i]? = some (e, l) := by
  induction h with
  | nil => exact ⟨rfl, fun i v e => by simp at e⟩
  | @snoc tl ys ps q e l te tl' n h ih =>
    refine ⟨by simp [ih.1], fun i v hv => ?_⟩
    by_cases hi : i < ys.length
    · rw [List.getElem?_append_left hi] at hv
      obtain ⟨q', e', l', te', tl2, n', e1, e2, e3⟩ := ih.2 i v hv
      exact ⟨q', e', l', te', tl2, n', e1, .tail _ e2, by rw [List.getElem?_append_left (by rw [← ih.1]; exact hi)]; exact e3⟩
    · have e0 : i = ys.length := by
        have := (List.getElem?_eq_some_iff.mp hv).1
        simp at this
        omega
      subst e0
      simp at hv
      exact ⟨q, e, l, te, tl', n, hv.symm, .head _, by rw [ih.1]; simp⟩
theorem pairsTo_4 : pairsTo 4 = [(0, 1), (0, 2), (1, 2), (0, 3), (1, 3), (2, 3)] := by decide
theorem pair_bd {i : Nat} {e l : Int} (h : (pairsTo 4)[i]? = some (e, l)) : i < 6 ∧ 0 ≤ e ∧ e < l ∧ l < 4 := by
  rw [pairsTo_4] at h
  have hi : i < 6 := (List.getElem?_eq_some_iff.mp h).1
  rcases (show i = 0 ∨ i = 1 ∨ i = 2 ∨ i = 3 ∨ i = 4 ∨ i = 5 by omega) with rfl | rfl | rfl | rfl | rfl | rfl <;>
    (simp at h; obtain ⟨rfl, rfl⟩ := h; decide)
end Mine
end
theorem Mine.resetC7 : True := by
  w_top off
  exact True.intro
-- text C7
section
open PySem PySem.W PyProof.Rows PySem.Spec PySem.Calls
set_option maxRecDepth 100000
namespace Mine
section
variable {prog : Program} {w : World} {A : Around} {E : Value → Shared → Prop} {s : Shared} {h₀ : Heap} {L : Addr} {m : Str → Option Value} {env : Env}
noncomputable def StillAt (h₀ : Heap) (L : Addr) (m : Str → Option Value) (s₁ : Shared) (led : List (Addr × Obj)) (s₂ : Shared) : Prop := ∃ h' tk, s₂ = { s₁ with heap := h', toks := tk } ∧ Fr h₀ L h' m ∧ News h₀ L h' led
noncomputable def cntB (b : Nat → Bool) (n : Nat) : Int := hcnt (fun i => if b i then 1 else 0) n
/-- a comprehension with one test, its length told -/
theorem comp_filt {ct elt : Expr} {x : Str} {scope : Scope} {cl : List (Str × Addr)} {S : List (Addr × Obj) → Prop} {P : Nat → Value → Prop} {Fin : List Value → List (Addr × Obj) → Prop} {news : List (Addr × Obj)} {n : Nat} (b : Nat → Bool) (hS : S news)
    (test : ∀ (i : Nat) v (I : Nat) oI (C : Nat) oC (D : Nat) oD m₂ h tk (E' : Value → Shared → Prop), i < n → P i v → LCg.NsObj oC m₂ → m₂ x = some v → Fr h₀ L h m → News h₀ L h ((I, oI) :: (C, oC) :: (D, oD) :: news) →
      wpAny (model prog w) A (isTrue ct (compEnvC scope cl C env) (eval ct (compEnvC scope cl C env))) (fun ok s' => ok = b i ∧ StillAt h₀ L m { s with heap := h, toks := tk } ((I, oI) :: (C, oC) :: (D, oD) :: news) s') E' { s with heap := h, toks := tk })
    (elem : ∀ (i : Nat) v (I : Nat) oI (C : Nat) oC (D : Nat) oD m₂ h tk (E' : Value → Shared → Prop), i < n → P i v → LCg.NsObj oC m₂ → m₂ x = some v → Fr h₀ L h m → News h₀ L h ((I, oI) :: (C, oC) :: (D, oD) :: news) →
      wpAny (model prog w) A (eval elt (compEnvC scope cl C env)) (fun _ s' => StillAt h₀ L m { s with heap := h, toks := tk } ((I, oI) :: (C, oC) :: (D, oD) :: news) s') E' { s with heap := h, toks := tk })
    (fin : ∀ ys, (ys.length : Int) = cntB b n → Fin ys news) :
    LCt.CompRestT prog w A h₀ L m env ct elt x scope cl s S P Fin n 0 [] news := by
  have go : ∀ k i ys, i + k = n → (ys.length : Int) = cntB b i → LCt.CompRestT prog w A h₀ L m env ct elt x scope cl s S P Fin k i ys news := by
    intro k
    induction k with
    | zero =>
      intro i ys e hl
      have : i = n := by omega
      subst this
      exact LCt.CompRestT.zero (fin ys hl)
    | succ k ih =>
      intro i ys e hl
      have hs : cntB b (i + 1) = cntB b i + (if b i then 1 else 0) := rfl
      refine LCt.CompRestT.succ fun v I oI C oC D m₂ h tk E' hP hC hx F N off ne => ?_
      refine wpAny_mono (test i v I oI C oC D _ m₂ h tk E' (by omega) hP hC hx F N) (fun ok s₂ hp => ?_) fun _ _ e => e
      obtain ⟨rfl, h₂, tk₂, rfl, F₂, N₂⟩ := hp
      cases hb : b i with
      | true =>
        rw [if_pos rfl]
        refine wpAny_mono (elem i v I oI C oC D _ m₂ h₂ tk₂ E' (by omega) hP hC hx F₂ N₂) (fun y s₃ hq => ?_) fun _ _ e => e
        obtain ⟨h₃, tk₃, rfl, F₃, N₃⟩ := hq
        refine LCg.CompEnd.intro (s₁ := { s with heap := h, toks := tk }) F₃ N₃ news (fun p hp => hp) off hS ?_
        refine ih (i + 1) _ (by omega) ?_
        rw [hs, hb, List.length_append, ← hl]
        simp
      | false =>
        rw [if_neg (by decide)]
        refine LCg.CompEnd.intro (s₁ := { s with heap := h, toks := tk }) F₂ N₂ news (fun p hp => hp) off hS ?_
        refine ih (i + 1) _ (by omega) ?_
        rw [hs, hb, hl]
        simp
  exact go n 0 [] (by omega) rfl
end
end Mine
end
theorem Mine.resetC8 : True := by
  w_top off
  exact True.intro
-- text C8
section
open PySem PySem.W PyProof.Rows PySem.Spec PySem.Calls
set_option maxRecDepth 100000
namespace Mine
section
variable {prog : Program} {w : World} {A : Around} {E : Value → Shared → Prop} {s : Shared} {h₀ : Heap} {L : Addr} {m : Str → Option Value} {env : Env}
variable {elt iter : Expr} {x y : Str} {px py : Pos} {scope : Scope} {cl : List (Str × Addr)} {pos spos : Pos}
theorem newFn_cells {globals : Addr} {qual : Str} {outer : Env} {Q : Env → Shared → Prop}
    (hQ : Q { scope := scope, locals := s.heap.objs.size, globals := globals, cells := cellsFrom (s.heap.objs.size + 1) scope.names cl, qual := qual, func := none, code := outer.code, frame := outer.frame, builtins := outer.builtins }
      { s with heap := pushCells (s.heap.push { cls := .type "dict", data := .dict #[] }) scope.names }) :
    wpAny (model prog w) A (newFunctionEnv scope globals cl [] qual none .none (some outer)) Q E s := by
  simp only [newFunctionEnv, Option.isSome_some, if_true]
  refine wpAny_bind (wpAny_alloc ?_)
  refine wpAny_bind (wpAny_layCells _ (fun name kind cells => by cases hkc : kind == NameKind.cell <;> simp [hkc]) _ _ _ _ ?_)
  rw [show ({ s with heap := s.heap.push { cls := .type "dict", data := .dict #[] } } : Shared).heap.objs.size = s.heap.objs.size + 1 from Heap.size_push ..]
  exact wpAny_bind (wpAny_pure (wpAny_pure hQ))
theorem Assign_cellcomp {news : List (Addr × Obj)} {Q : Flow → Shared → Prop} {n : Nat} (V : Nat → Tok → Value) (_F₀ : Fr h₀ L s.heap m) (hLe : env.locals = L)
    (hsw : swapsWith (.ListComp elt [⟨.Name x px, iter, [], 0⟩] scope pos) (some (.Name y py)) spos.line env = pure true)
    (hclos : closureFor scope env = pure cl) (hkind : scope.kind = .function)
    (hnames : ∀ z ∈ scope.names, z.2 = .local → scope.names.lookup z.1 = some .local) (hxk : ∀ cl C, (compEnvC scope cl C env).kindOf x = some .cell)
    (hcf : ∀ k, cellsFrom k scope.names cl = (x, k) :: cl) (hpc : ∀ h, pushCells h scope.names = h.push { cls := .type "cell", data := .cell none })
    (hy : env.kindOf y = some .local) (hp : (env.scope.kind == .class || (env.scope.kind == .module && env.locals != env.globals)) = false)
    (hh : A.handled = none) (hn : n ≤ 1000)
    (h : wpAny (model prog w) A (eval iter env) (fun xv s₁ => ∃ r t u v h' tk, xv = .ref r ∧ s₁ = { s with heap := h', toks := tk } ∧ IsRange h' r 0 (n : Int) 1 t u v ∧ Fr h₀ L h' m ∧ News h₀ L h' news) E s)
    (turn : ∀ (i : Nat) (t : Tok) (c : Nat) oc (C : Nat) oC (I : Nat) oI (D : Nat) oD m₂ h tk (E' : Value → Shared → Prop), i < n → oc.data = .cell (some (.int (i : Int) t)) → LCg.NsObj oC m₂ → Fr h₀ L h m → News h₀ L h ((c, oc) :: (I, oI) :: (C, oC) :: (D, oD) :: news) →
      wpAny (model prog w) A (eval elt (compEnvC scope ((x, c) :: cl) C env)) (MapPost h₀ L m { s with heap := h, toks := tk } ((c, oc) :: (I, oI) :: (C, oC) :: (D, oD) :: news) (V i)) E' { s with heap := h, toks := tk })
    (fin : ∀ (D : Nat) h' tk ys, ys.length = n → (∀ i, i < n → ∃ t, ys[i]? = some (V i t)) → Fr h₀ L h' (fun z => if z = y then some (.ref D) else m z) → News h₀ L h' ((D, LCg.lst ys) :: news) → (∀ p ∈ news, p.1 ≠ D) → Q .next { s with heap := h', toks := tk })
    (hs : ∀ x, foldedSetIterable iter env x = pure x := by intro _; rfl) :
    wpAny (model prog w) A (exec (.Assign [.Name y py] (.ListComp elt [⟨.Name x px, iter, [], 0⟩] scope pos) spos) env) Q E s := by
  subst hLe
  rw [exec_Assign_Name_used _ _ _ _ hsw]
  refine wpAny_bind (wpAny_standAt (wpAny_bind ?_))
  show wpAny _ A (do let _ ← comprehension (.ListComp elt [⟨.Name x px, iter, [], 0⟩] scope pos) scope env _ (newList []) false (eval iter env) (some (assign (.Name y py) env))) _ _ s
  refine wpAny_bind (wpAny_mono (wpAny_comprehension_free (use := some (assign (.Name y py) env)) (Q := fun _ s' => Q .next s') rfl hs hclos hkind hnames
    (wpAny_mono h (fun xv s₁ h₁ => ?_) fun _ _ e => e)) (fun _ s' hq => wpAny_pure (wpAny_pure hq)) fun _ _ e => e)
  obtain ⟨r, t, u, v, h₁, tk₁, rfl, rfl, hr, F, N⟩ := h₁
  have hsz : Builtin.Range.rangeSize 0 (n : Int) 1 = (n : Int) := by
    simp [Builtin.Range.rangeSize]
    all_goals omega
  refine wpAny_pyIter_range hr (small_one (by decide) (by decide) (by omega) (by omega)) ?_
  rw [hsz]
  have up : ∀ b o, h₁.get? b = some o → (h₁.push { cls := .type "range_iterator", data := .fields #[rawInt 0, rawInt (n : Int), rawInt 1] }).get? b = some o := fun b o e => Heap.get?_push_of_some _ e
  have hnew : (h₁.push { cls := .type "range_iterator", data := .fields #[rawInt 0, rawInt (n : Int), rawInt 1] }).get? h₁.objs.size = some (rgO 0 (n : Int)) := Heap.get?_push_size _ rfl
  generalize h₁.push { cls := .type "range_iterator", data := .fields #[rawInt 0, rawInt (n : Int), rawInt 1] } = g₁ at up hnew ⊢
  have F₁ := F.keeps up
  have N₁ : News h₀ env.locals g₁ ((h₁.objs.size, rgO 0 (n : Int)) :: news) := fun p hp => by
    rcases List.mem_cons.mp hp with rfl | hp
    · exact ⟨hnew, Ne.symm (Nat.ne_of_lt F.ns.lt), next_is_new F⟩
    · exact ⟨up _ _ (N p hp).1, (N p hp).2⟩
  have ltI : ∀ p ∈ news, p.1 ≠ h₁.objs.size := fun p hp => Nat.ne_of_lt (Heap.lt_size (N p hp).1)
  refine wpAny_newObj_type (newFn_cells ?_)
  dsimp only
  rw [hcf, hpc]
  have fresh₀ : ∀ a, g₁.objs.size ≤ a → h₀.get? a = none := fun a ha => by
    cases e : h₀.get? a with
    | none => rfl
    | some o' => exact absurd (Heap.lt_size (F₁.keep a o' e)) (Nat.not_lt.mpr ha)
  have hLlt : env.locals < g₁.objs.size := F₁.ns.lt
  have ltG : ∀ p ∈ (h₁.objs.size, rgO 0 (n : Int)) :: news, p.1 < g₁.objs.size := fun p hp => Heap.lt_size (N₁ p hp).1
  have hacc0 : (g₁.push { cls := .type "list", dict := none, data := .seq ([] : List Value).toArray }).get? g₁.objs.size = some (LCg.lst []) := Heap.get?_push_size _ rfl
  have up1 : ∀ b o, g₁.get? b = some o → (g₁.push { cls := .type "list", dict := none, data := .seq ([] : List Value).toArray }).get? b = some o := fun b o e => Heap.get?_push_of_some _ e
  have sz1 : (g₁.push { cls := .type "list", dict := none, data := .seq ([] : List Value).toArray }).objs.size = g₁.objs.size + 1 := Heap.size_push ..
  generalize g₁.push { cls := .type "list", dict := none, data := .seq ([] : List Value).toArray } = g₂ at hacc0 up1 sz1 ⊢
  have hCn : (g₂.push { cls := .type "dict", data := .dict #[] }).get? g₂.objs.size = some { cls := .type "dict", data := .dict #[] } := Heap.get?_push_size _ rfl
  have hns : (g₂.push { cls := .type "dict", data := .dict #[] }).Ns g₂.objs.size (fun _ => none) := Heap.Ns.new g₂ (.type "dict")
  have up2 : ∀ b o, g₂.get? b = some o → (g₂.push { cls := .type "dict", data := .dict #[] }).get? b = some o := fun b o e => Heap.get?_push_of_some _ e
  have sz2 : (g₂.push { cls := .type "dict", data := .dict #[] }).objs.size = g₂.objs.size + 1 := Heap.size_push ..
  generalize g₂.push { cls := .type "dict", data := .dict #[] } = g₃ at hCn hns up2 sz2 ⊢
  have hcn : (g₃.push { cls := .type "cell", data := .cell none }).get? g₃.objs.size = some { cls := .type "cell", data := .cell none } := Heap.get?_push_size _ rfl
  have up3 : ∀ b o, g₃.get? b = some o → (g₃.push { cls := .type "cell", data := .cell none }).get? b = some o := fun b o e => Heap.get?_push_of_some _ e
  generalize g₃.push { cls := .type "cell", data := .cell none } = g₄ at hcn up3 ⊢
  obtain ⟨oC, heC, hoC⟩ := LCg.ns_obj hns
  have F₄ : Fr h₀ env.locals g₄ m := ((F₁.keeps up1).keeps up2).keeps up3
  have hID : h₁.objs.size < g₁.objs.size := Heap.lt_size hnew
  have hDC : g₁.objs.size < g₂.objs.size := by rw [sz1]; exact Nat.lt_succ_self _
  have hCc : g₂.objs.size < g₂.objs.size + 1 := Nat.lt_succ_self _
  rw [sz2] at hcn
  have fC : h₀.get? g₂.objs.size = none := fresh₀ _ (Nat.le_of_lt hDC)
  have fc : h₀.get? (g₂.objs.size + 1) = none := fresh₀ _ (Nat.le_of_lt (Nat.lt_trans hDC hCc))
  have fD : h₀.get? g₁.objs.size = none := fresh₀ _ (Nat.le_refl _)
  have N₄ : News h₀ env.locals g₄ ((g₂.objs.size + 1, { cls := .type "cell", data := .cell none }) :: (h₁.objs.size, rgO 0 (n : Int)) :: (g₂.objs.size, oC) :: (g₁.objs.size, LCg.lst []) :: news) := fun p hp => by
    rcases List.mem_cons.mp hp with rfl | hp
    · exact ⟨hcn, Ne.symm (Nat.ne_of_lt (Nat.lt_trans hLlt (Nat.lt_trans hDC hCc))), fc⟩
    · rcases List.mem_cons.mp hp with rfl | hp
      · exact ⟨up3 _ _ (up2 _ _ (up1 _ _ hnew)), (N₁ _ (.head _)).2⟩
      · rcases List.mem_cons.mp hp with rfl | hp
        · exact ⟨up3 _ _ heC, Ne.symm (Nat.ne_of_lt (Nat.lt_trans hLlt hDC)), fC⟩
        · rcases List.mem_cons.mp hp with rfl | hp
          · exact ⟨up3 _ _ (up2 _ _ hacc0), Ne.symm (Nat.ne_of_lt hLlt), fD⟩
          · exact ⟨up3 _ _ (up2 _ _ (up1 _ _ (N₁ p (.tail _ hp)).1)), (N₁ p (.tail _ hp)).2⟩
  have ltD : ∀ p ∈ news, p.1 < g₁.objs.size := fun p hp => ltG p (.tail _ hp)
  generalize g₂.objs.size + 1 = c at *
  generalize g₂.objs.size = C at *
  generalize g₁.objs.size = D at *
  generalize h₁.objs.size = I at *
  have zc0 := (N₄ _ (.head _)).2
  have zI0 := (N₄ _ (.tail _ (.head _))).2
  have zC0 := (N₄ _ (.tail _ (.tail _ (.head _)))).2
  have zD0 := (N₄ _ (.tail _ (.tail _ (.tail _ (.head _))))).2
  have key : codeAny (model prog w) A (.compLoop (.ListComp elt [⟨.Name x px, iter, [], 0⟩] scope pos) 0 (.ref I) (.ref D) (compEnvC scope ((x, c) :: cl) C env))
      (compPost (model prog w) A E (some (assign (.Name y py) env)) (fun _ s' => Q .next s') (.ref D) C) { s with heap := g₄, toks := tk₁ } := by
    refine codeAny_compLoop_list (fun k s' => ∃ (h' : Heap) (tk i : Nat) (ys : List Value) (oc : Obj) (v : Option Value), s' = { s with heap := h', toks := tk } ∧ i ≤ n ∧ k = n + 1 - i ∧ Fr h₀ env.locals h' m ∧
        News h₀ env.locals h' ((c, oc) :: (I, rgO (i : Int) ((n : Int) - i)) :: (C, oC) :: (D, LCg.lst ys) :: news) ∧ oc.data = .cell v ∧ ys.length = i ∧ ∀ j, j < i → ∃ t, ys[j]? = some (V j t)) ?_ (n + 1)
      ⟨g₄, tk₁, 0, [], _, none, rfl, Nat.zero_le _, rfl, F₄, by simpa using N₄, rfl, rfl, fun j hj => absurd hj (Nat.not_lt_zero _)⟩
    rintro k s' ⟨h', tk, i, ys, oc, v, rfl, hi, rfl, F', N', hd, hyl, hys⟩
    have zI := N' _ (.tail _ (.head _))
    by_cases hlt : i < n
    · refine wpAny_pyNext_range_item (x := (i : Int)) (left := (n : Int) - i) (step := 1) zI.1 (by omega) fun h₂ hit₂ hs₂ => ?_
      have F₂ := fr_ext F' (ext_of_same hs₂) zI.2
      have N₂ : News h₀ env.locals h₂ ((c, oc) :: (I, rgO ((i : Int) + 1) ((n : Int) - i - 1)) :: (C, oC) :: (D, LCg.lst ys) :: news) := news_set N' (ext_of_same hs₂) hit₂ zI.2 fun p hp => by
        rcases List.mem_cons.mp hp with rfl | hp
        · exact .inr ⟨.head _, Ne.symm (Nat.ne_of_lt (Nat.lt_trans hID (Nat.lt_trans hDC hCc)))⟩
        · rcases List.mem_cons.mp hp with rfl | hp
          · exact .inl rfl
          · refine .inr ⟨.tail _ (.tail _ hp), ?_⟩
            rcases List.mem_cons.mp hp with rfl | hp
            · exact Ne.symm (Nat.ne_of_lt (Nat.lt_trans hID hDC))
            · rcases List.mem_cons.mp hp with rfl | hp
              · exact Ne.symm (Nat.ne_of_lt hID)
              · exact ltI p hp
      have zc₂ := N₂ _ (.head _)
      refine wpAny_assign_Name (wpAny_storeName_cell (by show (relabel scope env).kind = _; simp [relabel, hkind]) (hxk _ _) (by simp [compEnvC]) ⟨oc, zc₂.1, hd⟩ fun h₃ hv₃ hs₃ => ?_)
      obtain ⟨o₃, ho₃, hd₃⟩ := hv₃
      have F₃ := fr_ext F₂ (ext_of_same hs₃) zc₂.2
      have N₃ : News h₀ env.locals h₃ ((c, o₃) :: (I, rgO ((i : Int) + 1) ((n : Int) - i - 1)) :: (C, oC) :: (D, LCg.lst ys) :: news) := news_set N₂ (ext_of_same hs₃) ho₃ zc₂.2 fun p hp => by
        rcases List.mem_cons.mp hp with rfl | hp
        · exact .inl rfl
        · refine .inr ⟨.tail _ hp, Nat.ne_of_lt ?_⟩
          rcases List.mem_cons.mp hp with rfl | hp
          · exact Nat.lt_trans hID (Nat.lt_trans hDC hCc)
          · rcases List.mem_cons.mp hp with rfl | hp
            · exact hCc
            · rcases List.mem_cons.mp hp with rfl | hp
              · exact Nat.lt_trans hDC hCc
              · exact Nat.lt_trans (ltD p hp) (Nat.lt_trans hDC hCc)
      refine wpAny_mono (turn i _ c o₃ C oC I _ D _ _ h₃ (tk + 1) _ hlt hd₃ hoC F₃ N₃) (fun z s₄ h₄ => ?_) fun _ _ e => e
      obtain ⟨h₄, tk₄, tz, rfl, rfl, F₅, N₅⟩ := h₄
      have zD := N₅ _ (.tail _ (.tail _ (.tail _ (.head _))))
      refine append_at (hsz := by show ys.toArray.size ≤ sizeLine; rw [List.size_toArray, hyl]; exact Nat.le_trans (by omega : i ≤ 1000) (by decide)) zD.1 fun h₆ hs₆ hD₆ => ?_
      refine ⟨n + 1 - (i + 1), by omega, h₆, tk₄, i + 1, ys ++ [V i tz], o₃, _, rfl, by omega, rfl, fr_ext F₅ (ext_of_same hs₆) zD.2, ?_, hd₃, by simp [hyl], fun j hj => ?_⟩
      · refine news_set N₅ (ext_of_same hs₆) (o' := LCg.lst (ys ++ [V i tz])) (hD₆.trans (congrArg some (LCg.lst_snoc ys (V i tz)))) zD.2 fun p hp => ?_
        rcases List.mem_cons.mp hp with rfl | hp
        · exact .inr ⟨.head _, Ne.symm (Nat.ne_of_lt (Nat.lt_trans hDC hCc))⟩
        · rcases List.mem_cons.mp hp with rfl | hp
          · refine .inr ⟨?_, Nat.ne_of_lt hID⟩
            rw [show ((i + 1 : Nat) : Int) = (i : Int) + 1 from rfl, show (n : Int) - ((i : Int) + 1) = (n : Int) - i - 1 by omega]
            exact .tail _ (.head _)
          · rcases List.mem_cons.mp hp with rfl | hp
            · exact .inr ⟨.tail _ (.tail _ (.head _)), Ne.symm (Nat.ne_of_lt hDC)⟩
            · rcases List.mem_cons.mp hp with rfl | hp
              · exact .inl rfl
              · exact .inr ⟨.tail _ (.tail _ (.tail _ (.tail _ hp))), Nat.ne_of_lt (ltD p hp)⟩
      · by_cases e : j = i
        · subst e
          exact ⟨tz, by rw [← hyl]; simp⟩
        · obtain ⟨t', ht⟩ := hys j (by omega)
          exact ⟨t', by rw [List.getElem?_append_left (by omega)]; exact ht⟩
    · have e : i = n := by omega
      subst e
      refine wpAny_pyNext_range_end (x := (i : Int)) (left := (i : Int) - i) (step := 1) hh zI.1 (by omega) fun h₂ hs₂ => ?_
      have F₂ := fr_ext F' hs₂ zI.2
      have zD' := N' _ (.tail _ (.tail _ (.tail _ (.head _))))
      have zC' := N' _ (.tail _ (.tail _ (.head _)))
      have hC₂ : h₂.get? C = some oC := hs₂ _ _ (Ne.symm (Nat.ne_of_lt (Nat.lt_trans hID hDC))) zC'.1
      have N₂ : News h₀ env.locals h₂ ((D, LCg.lst ys) :: news) := fun p hp => by
        rcases List.mem_cons.mp hp with rfl | hp
        · exact ⟨hs₂ _ _ (Ne.symm (Nat.ne_of_lt hID)) zD'.1, zD'.2⟩
        · have z := N' p (.tail _ (.tail _ (.tail _ (.tail _ hp))))
          exact ⟨hs₂ _ _ (ltI p hp) z.1, z.2⟩
      show wpAny _ A (assign (.Name y py) env (.ref D)) _ _ _
      refine wpAny_assign_Name (wpAny_storeName_local hy F₂.ns (fun h₃ hn₃ hs₃ => ?_) hp)
      have F₃ := F₂.set hn₃ hs₃
      refine ⟨_, (hoC.ns hC₂).sameBut hs₃ zC0.1, fun h'' hs'' => fin D h'' _ ys hyl hys (fr_ext F₃ (ext_of_same hs'') zC0) (fun p hp => ?_) fun p hp => Nat.ne_of_lt (ltD p hp)⟩
      have z := N₂ p hp
      have hpC : p.1 ≠ C := by
        rcases List.mem_cons.mp hp with rfl | hp
        · exact Nat.ne_of_lt hDC
        · exact Nat.ne_of_lt (Nat.lt_trans (ltD p hp) hDC)
      exact ⟨ext_of_same hs'' _ _ hpC (ext_of_same hs₃ _ _ z.2.1 z.1), z.2⟩
  exact codeAny_compStart_list key (wpAny_pyIter_rangeiter (N₄ _ (.tail _ (.head _))).1 key)
end
end Mine
end
theorem Mine.resetPA : True := by
  w_top off
  exact True.intro
-- text PA
section
open PySem PySem.W PyProof.Rows PySem.Spec PySem.Calls
set_option maxRecDepth 100000
set_option maxHeartbeats 8000000
namespace Mine
local macro_rules | `(tactic| walk_at "subscriptTail Name Slice ref ref") => `(tactic| (k_here; (with_reducible show wpAny _ _ (subscriptTail _ (PySem.Expr.Slice (some _) none none _) (Value.ref _) (Value.ref _)) _ _ _); k_dflt (refine' kmk_slice_ints (ns := [60, 97, 146, 7]) ?F ?N ?l ?p ?q ?i ?m ?c ?_ ?s ?t ?z; (case F => k_asm); (case N => k_asm); (case l => exact News.isList (by k_asm) (.head _)); (case p => exact IsPart.int _ _); (case q => exact IsPart.none); (case i => exact .cons _ _ (.cons _ _ (.cons _ _ (.cons _ _ .nil)))); (case m => exact kmk_from (.cons _ _ (.cons _ _ (.cons _ _ (.cons _ _ .nil)))) (Int.natCast_nonneg _)); (case c => exact rfl); (case s => with_unfolding_all rfl); (case t => kmk_pure); (case z => exact Nat.le_of_ble_eq_true rfl)); intro D' ws' h' F' N' l1 hI' hC' hL'; (try k_lt l1)))
local macro_rules | `(tactic| walk_at "execs cons") => `(tactic| ((with_reducible show wpAny _ _ (execs (PySem.Stmt.Assign [PySem.Expr.Name (Str.ofString "mails") _] _ _ :: _) _) _ _ _); refine Hold.mk ?_))
theorem nums_len {ns : List Int} : (List.take 4 ns ++ List.drop ((ns.length : Int)).toNat [60, 97, 146, 7]).length = 4 := by
  rw [List.length_append, List.length_take, List.length_drop, Int.toNat_natCast]
  show min 4 ns.length + (4 - ns.length) = 4
  omega
theorem pA (w : World) (mean : ExcName → Option Value) (mg mb : Str → Option Value)
   (dp un : Nat) (gd : Option (List Code)) (a : Addr) (ccd : Value) (outer : List Env) (A₀ : Around) (base h₀ : Heap) (L : Nat) (u : Str → Option Value) (s : Shared) (Q : Flow → Shared → Prop) (E : Value → Shared → Prop)
   (B : Below A₀ base outer h₀) (X : (hd.heap_39 w.params).In h₀) (T : Top topProg looL mean mg mb h₀)
   (hdp : dp + 20 < recursionLimit) (hun : un + 100 < cLine) (hL : 82 < L)
   (l : Nat) (vs : List Value) (ns : List Int) (o1 o2 o3 o4 o5 : Obj)
   (hl : h₀.IsList l vs.toArray) (hi : IntsAre vs ns) (hlen : ns.length ≤ 63)
   (F : Fr h₀ L s.heap (look [(Str.ofString "script", .ref l)] u)) (N : News h₀ L s.heap [(L + 5, o5), (L + 4, o4), (L + 3, o3), (L + 2, o2), (L + 1, o1), (82, tabObj #[])])
   (next : ∀ (nl : Nat) vs4 ns4 k u' h' tk, ns4.length = 4 → IntsAre vs4 ns4 → L + 5 < nl → Fr h₀ L h' (look [(Str.ofString "numbers", .ref nl)] u') → News h₀ L h' ((nl, W.listOf (List.toArray vs4) k) :: [(L + 5, o5), (L + 4, o4), (L + 3, o3), (L + 2, o2), (L + 1, o1), (82, tabObj #[])]) → wpAny (model PySem.Challenge.rw_pg0137_01.row.prog w) (lawTop dp un gd L a ccd outer) (execs (dropS 1 lawBody) (lawEnv L a ccd)) Q E { s with heap := h', toks := tk }) :
   wpAny (model PySem.Challenge.rw_pg0137_01.row.prog w) (lawTop dp un gd L a ccd outer) (execs (dropS 0 lawBody) (lawEnv L a ccd)) Q E s := by
  revert X; k_fill; intro X
  dsimp only [look] at F
  conv => arg 3; arg 1; whnf
  obtain ⟨sc, hsc⟩ : ∃ sc, lawScope = sc := ⟨_, rfl⟩
  unfold lawTop lawEnv lawCells
  rw [hsc]
  conv at hsc => lhs; whnf
  subst hsc
  k_steps
  refine Hold.of ?_
  (with_reducible rename Fr _ _ _ _ => F9)
  (with_reducible rename News _ _ _ _ => N9)
  (rename IntsAre _ (_ ++ _) => hI9)
  refine next _ _ _ 0 _ _ _ nums_len hI9 ?lt (fr_eqm F9 (look_keep _ ⟨rfl, trivial⟩)) ?nn
  case lt => omega
  case nn =>
    intro p hp
    refine N9 p ?_
    rcases List.mem_cons.mp hp with rfl | hp
    · exact .head _
    · exact .tail _ (.tail _ (.tail _ (.tail _ hp)))
end Mine
end
theorem Mine.resetPB : True := by
  w_top off
  exact True.intro
-- text PB
section
open PySem PySem.W PyProof.Rows PySem.Spec PySem.Calls
set_option maxRecDepth 100000
set_option maxHeartbeats 8000000
namespace Mine
local macro_rules | `(tactic| walk_at "own PB") => `(tactic| skip)
local macro_rules | `(tactic| walk_at "CompSrc") => `(tactic| (refine Hold.mk ?_))
local macro_rules | `(tactic| walk_at "exec Assign cons ListComp") => `(tactic| (k_here; k_dflt (refine LCg.Assign_ListComp_U (F₀ := by k_asm) (by rfl) (by with_unfolding_all rfl) (by with_unfolding_all rfl) (by decide) (by rfl) (by decide) (by rfl) (by rfl) (by rfl) ?_); k_dflt lcg_toSrc))
theorem mailV_small (v : Int) : (mailV v).length ≤ sizeLine := Nat.le_trans (show (mailH 0 v).cps.size ≤ 500 from mailH_small 0 v (by decide)) (by decide)
noncomputable def MailsAre (h : Nat) (ns : List Int) (ys : List Value) : Prop := ys.length = 4 ∧ ∀ i, i < 4 → ∃ t, ys[i]? = some (.str (mailH h (ns.getD i 0)) t)
theorem ints_at {vs : List Value} {ns : List Int} (hi : IntsAre vs ns) {i : Nat} {v : Value} (h : vs.toArray[i]? = some v) : ∃ t, v = .int (ns.getD i 0) t := by
  have h' : vs[i]? = some v := by simpa using h
  have hl : i < vs.length := (List.getElem?_eq_some_iff.mp h').1
  have hn : i < ns.length := by rw [← hi.length]; exact hl
  obtain ⟨t, ht⟩ := hi.get i ns[i] (by simp [hn])
  refine ⟨t, ?_⟩
  rw [ht] at h'
  have := Option.some.inj h'
  rw [← this]
  simp [List.getD, hn]
theorem pB (w : World) (mean : ExcName → Option Value) (mg mb : Str → Option Value)
   (dp un : Nat) (gd : Option (List Code)) (a : Addr) (ccd : Value) (outer : List Env) (A₀ : Around) (base h₀ : Heap) (L : Nat) (u : Str → Option Value) (s : Shared) (Q : Flow → Shared → Prop) (E : Value → Shared → Prop)
   (B : Below A₀ base outer h₀) (X : (hd.heap_39 w.params).In h₀) (T : Top topProg looL mean mg mb h₀)
   (hdp : dp + 20 < recursionLimit) (hun : un + 100 < cLine) (hL : 82 < L)
   (nl : Nat) (vs4 : List Value) (ns4 : List Int) (k : Nat) (o1 o2 o3 o4 o5 : Obj)
   (h4 : ns4.length = 4) (hi : IntsAre vs4 ns4) (lnl : L + 5 < nl)
   (F : Fr h₀ L s.heap (look [(Str.ofString "numbers", .ref nl)] u)) (N : News h₀ L s.heap ((nl, W.listOf (List.toArray vs4) k) :: [(L + 5, o5), (L + 4, o4), (L + 3, o3), (L + 2, o2), (L + 1, o1), (82, tabObj #[])]))
   (next : ∀ (ml : Nat) ys u' h' tk, MailsAre 0 ns4 ys → nl ≠ ml → (∀ j, 1 ≤ j → j ≤ 5 → L + j ≠ ml) → 82 ≠ ml → Fr h₀ L h' (look [(Str.ofString "mails", .ref ml), (Str.ofString "numbers", .ref nl)] u') → News h₀ L h' ((ml, W.listOf ys.toArray ys.length) :: (nl, W.listOf (List.toArray vs4) k) :: [(L + 5, o5), (L + 4, o4), (L + 3, o3), (L + 2, o2), (L + 1, o1), (82, tabObj #[])]) → wpAny (model PySem.Challenge.rw_pg0137_01.row.prog w) (lawTop dp un gd L a ccd outer) (execs (dropS 2 lawBody) (lawEnv L a ccd)) Q E { s with heap := h', toks := tk }) :
   wpAny (model PySem.Challenge.rw_pg0137_01.row.prog w) (lawTop dp un gd L a ccd outer) (execs (dropS 1 lawBody) (lawEnv L a ccd)) Q E s := by
  revert X; k_fill; intro X
  dsimp only [look] at F
  conv => arg 3; arg 1; whnf
  obtain ⟨sc, hsc⟩ : ∃ sc, lawScope = sc := ⟨_, rfl⟩
  unfold lawTop lawEnv lawCells
  rw [hsc]
  conv at hsc => lhs; whnf
  subst hsc
  k_steps
  refine Hold.of ?_
  have hvl : vs4.length = 4 := hi.length.trans h4
  refine LCg.CompSrc.ledger (by rfl) (by k_asm) (by k_asm) (.head _) (by show vs4.toArray.size ≤ _; rw [List.size_toArray, hvl]; decide) ?_
  intro g
  refine comp_map (fun i t => .str (mailV (ns4.getD i 0)) t) (.inr ⟨_, .head _, rfl, _, rfl⟩) ?turn ?fin
  case turn =>
    intro i v I oI C oC D oD m2 h tk E' hin hP hC hx F1 N1
    obtain ⟨t, rfl⟩ := ints_at hi hP
    generalize ns4.getD i 0 = kv at *
    (try dsimp only)
    k_steps
    all_goals
      (rename KcsAt _ => kM)
      (rename (_ = (_ : Int)) => kE)
    · have e : Txt.mul (Str.ofString "x") ((kv.fdiv 4).fmod 16) ++ Txt.mul (Str.ofString "\n" ++ Str.ofString ".") (kv.fmod 4) = mailV kv := by unfold mailV nlOf; rw [kE]; rfl
      refine SBL.add (hsz := ?hsza) ?_
      case hsza => (rw [← Str.length_append, e]; exact mailV_small kv)
      intros
      rw [e]
      exact MapPost.intro rfl (by k_asm) (by (intro p hp; (with_reducible rename News _ _ _ _ => N9); exact N9 p (.tail _ hp)))
    · have e : Txt.mul (Str.ofString "x") ((kv.fdiv 4).fmod 16) ++ Txt.mul (Str.ofString "\r" ++ Str.ofString ".") (kv.fmod 4) = mailV kv := by unfold mailV nlOf; rw [kE]; rfl
      refine SBL.add (hsz := ?hszb) ?_
      case hszb => (rw [← Str.length_append, e]; exact mailV_small kv)
      intros
      rw [e]
      exact MapPost.intro rfl (by k_asm) (by (intro p hp; (with_reducible rename News _ _ _ _ => N9); exact N9 p (.tail _ hp)))
    · have e : Txt.mul (Str.ofString "x") ((kv.fdiv 4).fmod 16) ++ Txt.mul (Str.ofString "\r\n" ++ Str.ofString ".") (kv.fmod 4) = mailV kv := by unfold mailV nlOf; rw [kE]; rfl
      refine SBL.add (hsz := ?hszc) ?_
      case hszc => (rw [← Str.length_append, e]; exact mailV_small kv)
      intros
      rw [e]
      exact MapPost.intro rfl (by k_asm) (by (intro p hp; (with_reducible rename News _ _ _ _ => N9); exact N9 p (.tail _ hp)))
  case fin =>
    intro ys hy hall
    rw [List.size_toArray, hvl] at hy hall
    intro D h tk F' N' o1'
    simp only [LCg.Off1, and_true] at o1'
    dsimp only
    exact next D ys _ h tk ⟨hy, hall⟩ o1'.1 (fun j h1 h5 => by rcases (show j = 1 ∨ j = 2 ∨ j = 3 ∨ j = 4 ∨ j = 5 by omega) with rfl | rfl | rfl | rfl | rfl <;> omega) (by omega) F' N'
end Mine
end
theorem Mine.resetPC : True := by
  w_top off
  exact True.intro
-- text PC
section
open PySem PySem.W PyProof.Rows PySem.Spec PySem.Calls
set_option maxRecDepth 100000
set_option maxHeartbeats 8000000
namespace Mine
theorem allLt_mem {D : Nat} : ∀ {l : List (Addr × Obj)}, AllLt D l → ∀ {p}, p ∈ l → p.1 < D
  | [], _, _, h => nomatch h
  | _ :: _, x, p, h => by
    rcases List.mem_cons.mp h with rfl | h
    · exact x.1
    · exact allLt_mem x.2 h
theorem pC (w : World) (mean : ExcName → Option Value) (mg mb : Str → Option Value)
   (dp un : Nat) (gd : Option (List Code)) (a : Addr) (ccd : Value) (outer : List Env) (A₀ : Around) (base h₀ : Heap) (L : Nat) (u : Str → Option Value) (s : Shared) (Q : Flow → Shared → Prop) (E : Value → Shared → Prop)
   (B : Below A₀ base outer h₀) (X : (hd.heap_39 w.params).In h₀) (T : Top topProg looL mean mg mb h₀)
   (hdp : dp + 20 < recursionLimit) (hun : un + 100 < cLine) (hL : 82 < L)
   (nl ml : Nat) (vs4 ys : List Value) (k : Nat) (o1 o2 o3 o4 o5 : Obj) (l1 : L + 5 < nl) (n1 : nl ≠ ml) (n2 : ∀ j, 1 ≤ j → j ≤ 5 → L + j ≠ ml) (n3 : 82 ≠ ml)
   (F : Fr h₀ L s.heap (look [(Str.ofString "mails", .ref ml), (Str.ofString "numbers", .ref nl)] u)) (N : News h₀ L s.heap ((ml, W.listOf ys.toArray ys.length) :: (nl, W.listOf (List.toArray vs4) k) :: [(L + 5, o5), (L + 4, o4), (L + 3, o3), (L + 2, o2), (L + 1, o1), (82, tabObj #[])]))
   (next : ∀ (pl : Nat) tl ps u' h' tk, TupsOf tl ps (pairsTo 4) → (∀ a ∈ (tl ++ (ml, W.listOf ys.toArray ys.length) :: (nl, W.listOf (List.toArray vs4) k) :: [(L + 5, o5), (L + 4, o4), (L + 3, o3), (L + 2, o2), (L + 1, o1), (82, tabObj #[])]).map (·.1), a ≠ pl) → Fr h₀ L h' (look [(Str.ofString "pairs", .ref pl), (Str.ofString "mails", .ref ml), (Str.ofString "numbers", .ref nl)] u') → News h₀ L h' ((pl, LCg.lst ps) :: (tl ++ (ml, W.listOf ys.toArray ys.length) :: (nl, W.listOf (List.toArray vs4) k) :: [(L + 5, o5), (L + 4, o4), (L + 3, o3), (L + 2, o2), (L + 1, o1), (82, tabObj #[])])) → wpAny (model PySem.Challenge.rw_pg0137_01.row.prog w) (lawTop dp un gd L a ccd outer) (execs (dropS 3 lawBody) (lawEnv L a ccd)) Q E { s with heap := h', toks := tk }) :
   wpAny (model PySem.Challenge.rw_pg0137_01.row.prog w) (lawTop dp un gd L a ccd outer) (execs (dropS 2 lawBody) (lawEnv L a ccd)) Q E s := by
  revert X; k_fill; intro X
  dsimp only [look] at F
  conv => arg 3; arg 1; whnf
  obtain ⟨sc, hsc⟩ : ∃ sc, lawScope = sc := ⟨_, rfl⟩
  unfold lawTop lawEnv lawCells
  rw [hsc]
  conv at hsc => lhs; whnf
  subst hsc
  refine execs_seq ?_
  k_dflt (refine Assign_two F (L := L) (news := (ml, W.listOf ys.toArray ys.length) :: (nl, W.listOf (List.toArray vs4) k) :: [(L + 5, o5), (L + 4, o4), (L + 3, o3), (L + 2, o2), (L + 1, o1), (82, tabObj #[])]) (by rfl) (by with_unfolding_all rfl) (by with_unfolding_all rfl) (by decide) (by rfl) (by decide) (by rfl) (by rfl) (by decide) (by rfl) (by rfl) (by rfl) ?elt ?iter ?it1 ?fin)
  case elt =>
    intro C oC m2 e l te tl led s E' hC h2 h1 F N
    k_steps
    all_goals first
      | assumption
      | ((rename (_ ∈ _ :: _) => hp); (rename (_ ∧ AllLt _ _) => hl); (rcases List.mem_cons.mp hp with rfl | hp); (exact hl.1); (exact allLt_mem hl.2 hp))
  case iter =>
    intro C oC m2 l tl led s E' hC h1 hl0 hl4 F N
    k_steps
    all_goals assumption
  case it1 =>
    k_steps
    all_goals assumption
  case fin =>
    intro D h' tk tl ps F' N' off hT
    dsimp only
    exact next D tl ps _ h' tk hT off F' N'
end Mine
end
theorem Mine.resetPD : True := by
  w_top off
  exact True.intro
-- text PD
section
open PySem PySem.W PyProof.Rows PySem.Spec PySem.Calls
set_option maxRecDepth 100000
set_option maxHeartbeats 8000000
namespace Mine
local macro_rules | `(tactic| k_all) => `(tactic| assumption)
local macro_rules | `(tactic| walk_at "execs cons") => `(tactic| ((with_reducible show wpAny _ _ (execs (PySem.Stmt.For _ _ _ _ _ :: _) _) _ _ _); refine Hold.mk ?_))
theorem pD (w : World) (mean : ExcName → Option Value) (mg mb : Str → Option Value)
   (dp un : Nat) (gd : Option (List Code)) (a : Addr) (ccd : Value) (outer : List Env) (A₀ : Around) (base h₀ : Heap) (L : Nat) (u : Str → Option Value) (s : Shared) (Q : Flow → Shared → Prop) (E : Value → Shared → Prop)
   (B : Below A₀ base outer h₀) (X : (hd.heap_39 w.params).In h₀) (T : Top topProg looL mean mg mb h₀)
   (hdp : dp + 20 < recursionLimit) (hun : un + 100 < cLine) (hL : 82 < L)
   (pl nl ml : Nat) (vs4 ys ps : List Value) (k : Nat) (tl : List (Addr × Obj)) (o1 o2 o3 o4 o5 : Obj) (d1 : cellObj o1 none)
   (t1 : ∀ p ∈ tl, p.1 ≠ L + 1) (l1 : L + 5 < nl) (n1 : L + 1 ≠ ml) (n2 : L + 1 ≠ pl)
   (F : Fr h₀ L s.heap (look [(Str.ofString "pairs", .ref pl), (Str.ofString "mails", .ref ml), (Str.ofString "numbers", .ref nl)] u)) (N : News h₀ L s.heap ((pl, LCg.lst ps) :: (ml, W.listOf ys.toArray ys.length) :: (nl, W.listOf (List.toArray vs4) k) :: (L + 5, o5) :: (L + 4, o4) :: (L + 3, o3) :: (L + 2, o2) :: (L + 1, o1) :: (82, tabObj #[]) :: tl))
   (next : ∀ (dl wl : Nat) o1' u' h' tk, cellObj o1' (some (.ref dl)) → dl < wl → (∀ p ∈ (pl, LCg.lst ps) :: (ml, W.listOf ys.toArray ys.length) :: (nl, W.listOf (List.toArray vs4) k) :: (L + 5, o5) :: (L + 4, o4) :: (L + 3, o3) :: (L + 2, o2) :: (L + 1, o1) :: (82, tabObj #[]) :: tl, p.1 < dl) → Fr h₀ L h' (look [(Str.ofString "words", .ref wl), (Str.ofString "pairs", .ref pl), (Str.ofString "mails", .ref ml), (Str.ofString "numbers", .ref nl)] u') → News h₀ L h' ((wl, W.listOf #[] 0) :: (dl, W.listOf #[] 0) :: (pl, LCg.lst ps) :: (ml, W.listOf ys.toArray ys.length) :: (nl, W.listOf (List.toArray vs4) k) :: (L + 5, o5) :: (L + 4, o4) :: (L + 3, o3) :: (L + 2, o2) :: (L + 1, o1') :: (82, tabObj #[]) :: tl) → wpAny (model PySem.Challenge.rw_pg0137_01.row.prog w) (lawTop dp un gd L a ccd outer) (execs (dropS 5 lawBody) (lawEnv L a ccd)) Q E { s with heap := h', toks := tk }) :
   wpAny (model PySem.Challenge.rw_pg0137_01.row.prog w) (lawTop dp un gd L a ccd outer) (execs (dropS 3 lawBody) (lawEnv L a ccd)) Q E s := by
  revert X; k_fill; intro X
  dsimp only [look] at F
  conv => arg 3; arg 1; whnf
  obtain ⟨sc, hsc⟩ : ∃ sc, lawScope = sc := ⟨_, rfl⟩
  unfold lawTop lawEnv lawCells
  rw [hsc]
  conv at hsc => lhs; whnf
  subst hsc
  k_steps
  refine Hold.of ?_
  (with_reducible rename Fr _ _ _ _ => F9)
  (with_reducible rename News _ _ _ _ => N9)
  (rename (Obj.data _ = Data.cell (some _)) => hd9)
  (rename (pl < _ ∧ _) => hA)
  (rename (_ < _ ∧ pl < _ ∧ _) => hB)
  exact next _ _ _ _ _ _ hd9 hB.1 (kst_ltOf hA) (fr_eqm F9 (look_keep _ ⟨rfl, rfl, rfl, rfl, trivial⟩)) N9
end Mine
end
theorem Mine.resetH0 : True := by
  w_top off
  exact True.intro
-- text H0
section
open PySem PySem.W PyProof.Rows PySem.Spec PySem.Calls
set_option maxRecDepth 100000
set_option maxHeartbeats 8000000
namespace Mine
local macro_rules | `(tactic| walk_at "CompSrc") => `(tactic| (refine Hold.mk ?_))
local macro_rules | `(tactic| walk_at "exec Assign cons ListComp") => `(tactic| (k_here; k_dflt (refine LCg.Assign_ListComp_U (F₀ := by k_asm) (by rfl) (by with_unfolding_all rfl) (by with_unfolding_all rfl) (by decide) (by rfl) (by decide) (by rfl) (by rfl) (by rfl) ?_); k_dflt lcg_toSrc))
local macro_rules | `(tactic| walk_at "call ref") => `(tactic| (k_here; k_dflt (refine' c_quo _ _ _ _ _ _ _ ?ha _ _ _ _ _ _ _ _ _ _ _ _ _ _ _ _ _ ?kB ?kF ?kX ?kN ?kT ?hck trivial ?hdp ?hun ?hret; (case kB => k_asm); (case kF => k_asm); (case kX => k_asm); (case kN => k_asm); (case kT => k_asm); (case hck => exact rfl); (case hdp => ktr_room); (case hun => ktr_units); (case ha => assumption); k_whole; intro t' h' tk' F' N'; (try dsimp only); (try k_fold))))
theorem off1_mem {D : Nat} : ∀ {l : List (Addr × Obj)}, LCg.Off1 D l → ∀ p ∈ l, p.1 ≠ D
  | [], _, _, h => nomatch h
  | _ :: _, x, p, h => by
    rcases List.mem_cons.mp h with rfl | h
    · exact x.1
    · exact off1_mem x.2 p h
theorem hm0 (w : World) (mean : ExcName → Option Value) (mg mb : Str → Option Value)
   (dp un : Nat) (gd : Option (List Code)) (a : Addr) (ccd : Value) (outer : List Env) (A₀ : Around) (base h₀ : Heap) (L : Nat) (u : Str → Option Value) (s : Shared) (Q : Flow → Shared → Prop) (E : Value → Shared → Prop)
   (B : Below A₀ base outer h₀) (X : (hd.heap_39 w.params).In h₀) (T : Top topProg looL mean mg mb h₀)
   (hdp : dp + 20 < recursionLimit) (hun : un + 100 < cLine) (hL : 82 < L)
   (ml i : Nat) (ns4 : List Int) (ys : List Value) (rs : List (Addr × Obj)) (hy : MailsAre i ns4 ys) (hi : i ≤ 4)
   (F : Fr h₀ L s.heap (look [(Str.ofString "mails", .ref ml)] u)) (N : News h₀ L s.heap ((ml, W.listOf ys.toArray ys.length) :: rs))
   (next : ∀ (ml' : Nat) ys' h' tk, MailsAre (i + 1) ns4 ys' → (∀ p ∈ (ml, W.listOf ys.toArray ys.length) :: rs, p.1 ≠ ml') → Fr h₀ L h' (fun z => if z = Str.ofString "mails" then some (.ref ml') else look [(Str.ofString "mails", .ref ml)] u z) → News h₀ L h' ((ml', W.listOf ys'.toArray ys'.length) :: (ml, W.listOf ys.toArray ys.length) :: rs) → Q .next { s with heap := h', toks := tk }) :
   wpAny (model PySem.Challenge.rw_pg0137_01.row.prog w) (lawTop dp un gd L a ccd outer) (execs (headS (dropS 0 hourBody)) (lawEnv L a ccd)) Q E s := by
  revert X; k_fill; intro X
  dsimp only [look] at F
  conv => arg 3; arg 1; whnf
  obtain ⟨sc, hsc⟩ : ∃ sc, lawScope = sc := ⟨_, rfl⟩
  unfold lawTop lawEnv lawCells
  rw [hsc]
  conv at hsc => lhs; whnf
  subst hsc
  k_steps
  refine Hold.of ?_
  refine LCg.CompSrc.ledger (by rfl) (by k_asm) (by k_asm) (.head _) (by show ys.toArray.size ≤ _; rw [List.size_toArray, hy.1]; decide) ?_
  intro g
  refine comp_map (fun j t => .str (mailH (i + 1) (ns4.getD j 0)) t) (.inr ⟨_, .head _, rfl, _, rfl⟩) ?turn ?fin
  case turn =>
    intro j v I oI C oC D oD m2 h tk E' hjn hP hC hx F1 N1
    rw [List.size_toArray, hy.1] at hjn
    obtain ⟨t, ht⟩ := hy.2 j hjn
    have hv : v = .str (mailH i (ns4.getD j 0)) t := by
      have h' : ys[j]? = some v := by simpa using hP
      rw [ht] at h'
      exact (Option.some.inj h').symm
    subst hv
    rw [← mailH_next]
    have hsm := mailH_small i (ns4.getD j 0) hi
    clear hP ht
    generalize mailH i (ns4.getD j 0) = mw at *
    (try dsimp only)
    k_steps
    exact MapPost.intro rfl (by k_asm) (by k_asm)
  case fin =>
    intro ys' hy' hall
    rw [List.size_toArray, hy.1] at hy' hall
    intro D h tk F' N' o1'
    dsimp only
    exact wpAny_execs_nil (next D ys' h tk ⟨hy', hall⟩ (off1_mem o1') F' N')
end Mine
end
theorem Mine.resetH2 : True := by
  w_top off
  exact True.intro
-- text H2
section
open PySem PySem.W PyProof.Rows PySem.Spec PySem.Calls
set_option maxRecDepth 100000
set_option maxHeartbeats 8000000
namespace Mine
local macro_rules | `(tactic| k_all) => `(tactic| assumption)
theorem hm2 (w : World) (mean : ExcName → Option Value) (mg mb : Str → Option Value)
   (dp un : Nat) (gd : Option (List Code)) (a : Addr) (ccd : Value) (outer : List Env) (A₀ : Around) (base h₀ : Heap) (L : Nat) (u : Str → Option Value) (s : Shared) (Q : Flow → Shared → Prop) (E : Value → Shared → Prop)
   (B : Below A₀ base outer h₀) (X : (hd.heap_39 w.params).In h₀) (T : Top topProg looL mean mg mb h₀)
   (hdp : dp + 20 < recursionLimit) (hun : un + 100 < cLine) (hL : 82 < L)
   (nl : Nat) (vs4 : List Value) (ns4 : List Int) (k : Nat) (hr : Int) (th : Tok) (o2 o4 : Obj) (c4 : Option Value) (rs : List (Addr × Obj)) (h4 : ns4.length = 4) (hi : IntsAre vs4 ns4) (hr1 : 1 ≤ hr) (hr4 : hr ≤ 4) (d2 : cellObj o2 (some (.int hr th))) (d4 : cellObj o4 c4) (l1 : L + 5 < nl) (off : ∀ p ∈ rs, p.1 ≠ L + 4)
   (F : Fr h₀ L s.heap (look [(Str.ofString "numbers", .ref nl)] u)) (N : News h₀ L s.heap ((nl, W.listOf (List.toArray vs4) k) :: (L + 2, o2) :: (L + 4, o4) :: rs))
   (next : ∀ (sl : Nat) zs o4' h' tk, IntsAre zs (ns4.map fun v => (v.fdiv 4).fmod 16 + v.fmod 4 * (3 + hr)) → cellObj o4' (some (.ref sl)) → (∀ p ∈ (nl, W.listOf (List.toArray vs4) k) :: (L + 2, o2) :: (L + 4, o4) :: rs, p.1 ≠ sl) → Fr h₀ L h' (look [(Str.ofString "numbers", .ref nl)] u) → News h₀ L h' ((sl, W.listOf zs.toArray zs.length) :: (nl, W.listOf (List.toArray vs4) k) :: (L + 2, o2) :: (L + 4, o4') :: rs) → Q .next { s with heap := h', toks := tk }) :
   wpAny (model PySem.Challenge.rw_pg0137_01.row.prog w) (lawTop dp un gd L a ccd outer) (execs (headS (dropS 2 hourBody)) (lawEnv L a ccd)) Q E s := by
  revert X; k_fill; intro X
  dsimp only [look] at F
  conv => arg 3; arg 1; whnf
  obtain ⟨sc, hsc⟩ : ∃ sc, lawScope = sc := ⟨_, rfl⟩
  unfold lawTop lawEnv lawCells
  rw [hsc]
  conv at hsc => lhs; whnf
  subst hsc
  k_steps
  (with_reducible rename Fr _ _ _ _ => F9)
  (with_reducible rename News _ _ _ _ => N9)
  (rename IntsAre _ (List.map _ _) => hI9)
  (rename (Obj.data _ = Data.cell (some (Value.ref _))) => hd9)
  (rename (nl ≠ _ ∧ _) => ho9)
  exact next _ _ _ _ _ hI9 hd9 (off1_mem ho9) F9 N9
end Mine
end
theorem Mine.resetH3 : True := by
  w_top off
  exact True.intro
-- text H3
section
open PySem PySem.W PyProof.Rows PySem.Spec PySem.Calls
set_option maxRecDepth 100000
set_option maxHeartbeats 8000000
namespace Mine
local macro_rules | `(tactic| k_all) => `(tactic| assumption)
local macro_rules | `(tactic| walk_at "SrcLP") => `(tactic| (refine Hold.mk ?_))
noncomputable def dueB (zs : List Int) (i : Nat) : Bool := match (pairsTo 4)[i]? with
  | some (e, l) => decide (zs.getD l.toNat 0 < zs.getD e.toNat 0)
  | none => false
noncomputable def BoolsAre (f : Nat → Bool) (ys : List Value) : Prop := ys.length = 6 ∧ ∀ i, i < 6 → ys[i]? = some (.bool (f i))
theorem hm3 (w : World) (mean : ExcName → Option Value) (mg mb : Str → Option Value)
   (dp un : Nat) (gd : Option (List Code)) (a : Addr) (ccd : Value) (outer : List Env) (A₀ : Around) (base h₀ : Heap) (L : Nat) (u : Str → Option Value) (s : Shared) (Q : Flow → Shared → Prop) (E : Value → Shared → Prop)
   (B : Below A₀ base outer h₀) (X : (hd.heap_39 w.params).In h₀) (T : Top topProg looL mean mg mb h₀)
   (hdp : dp + 20 < recursionLimit) (hun : un + 100 < cLine) (hL : 82 < L)
   (sl pl dl : Nat) (zv ps ds : List Value) (zs : List Int) (kz kd : Nat) (o1 o4 : Obj) (tl rs : List (Addr × Obj)) (hT : TupsOf tl ps (pairsTo 4)) (htl : ∀ p ∈ tl, p ∈ rs) (hz4 : zs.length = 4) (hz : IntsAre zv zs) (hds : ds.length ≤ 4)
   (d1 : cellObj o1 (some (.ref dl))) (d4 : cellObj o4 (some (.ref sl))) (m1 : sl ≠ dl) (m2 : pl ≠ dl) (m3 : L + 5 < dl) (off : ∀ p ∈ rs, p.1 ≠ dl)
   (F : Fr h₀ L s.heap (look [(Str.ofString "pairs", .ref pl)] u)) (N : News h₀ L s.heap ((sl, W.listOf (List.toArray zv) kz) :: (pl, LCg.lst ps) :: (L + 4, o4) :: (L + 1, o1) :: (dl, W.listOf ds.toArray kd) :: rs))
   (next : ∀ (el : Nat) es k' h' tk, BoolsAre (dueB zs) es → (∀ p ∈ (sl, W.listOf (List.toArray zv) kz) :: (pl, LCg.lst ps) :: (L + 4, o4) :: (L + 1, o1) :: (dl, W.listOf ds.toArray kd) :: rs, p.1 ≠ el) → Fr h₀ L h' (look [(Str.ofString "pairs", .ref pl)] u) → News h₀ L h' ((el, W.listOf es.toArray es.length) :: (sl, W.listOf (List.toArray zv) kz) :: (pl, LCg.lst ps) :: (L + 4, o4) :: (L + 1, o1) :: (dl, W.listOf (ds ++ [Value.ref el]).toArray k') :: rs) → Q .next { s with heap := h', toks := tk }) :
   wpAny (model PySem.Challenge.rw_pg0137_01.row.prog w) (lawTop dp un gd L a ccd outer) (execs (headS (dropS 3 hourBody)) (lawEnv L a ccd)) Q E s := by
  revert X; k_fill; intro X
  dsimp only [look] at F
  conv => arg 3; arg 1; whnf
  obtain ⟨sc, hsc⟩ : ∃ sc, lawScope = sc := ⟨_, rfl⟩
  unfold lawTop lawEnv lawCells
  rw [hsc]
  conv at hsc => lhs; whnf
  subst hsc
  k_steps
  refine Hold.of ?_
  have hpl : ps.length = 6 := hT.get.1
  refine LCp.SrcLP.ledger (by rfl) (by k_asm) (by k_asm) (.tail _ (.head _)) (by show ps.toArray.size ≤ _; rw [List.size_toArray, hpl]; decide) ?_
  intro g
  refine comp_mapP (fun i _ => .bool (dueB zs i)) (fun i e l => (pairsTo 4)[i]? = some (e, l)) (.inr ⟨_, .tail _ (.head _), rfl, _, rfl⟩) ?tup ?turn ?fin
  case tup =>
    intro i v hi hv
    obtain ⟨q, e, l, te, tl', n, e1, e2, e3⟩ := hT.get.2 i v (by simpa using hv)
    exact ⟨q, _, e, l, te, tl', n, e1, .tail _ (.tail _ (.tail _ (.tail _ (.tail _ (htl _ e2))))), rfl, rfl, e3⟩
  case turn =>
    intro i e l te tl' I oI C oC D oD m2 h tk E' hin hR hC hx hy F1 N1
    obtain ⟨hi6, he0, hel, hl4⟩ := pair_bd hR
    (try dsimp only)
    k_steps
    exact MapPost.intro (t := 0) (by unfold dueB; rw [hR]) F1 N1
  case fin =>
    intro es hy hall
    rw [List.size_toArray, hpl] at hy hall
    intro D h tk F' N' o1'
    have hne := off1_mem o1'
    have hD := hne (dl, W.listOf ds.toArray kd) (.tail _ (.tail _ (.tail _ (.tail _ (.head _)))))
    (try dsimp only)
    k_steps
    refine append_K (pre := [(D, LCg.lst es), (sl, W.listOf (List.toArray zv) kz), (pl, LCg.lst ps), (L + 4, o4), (L + 1, o1)]) F' N' ?pre off (Nat.le_trans hds (by decide)) ?_
    case pre =>
      intro p hp
      simp only [List.mem_cons, List.not_mem_nil, or_false] at hp
      rcases hp with rfl | rfl | rfl | rfl | rfl
      · exact Ne.symm hD
      · exact m1
      · exact m2
      · show L + 4 ≠ dl; omega
      · show L + 1 ≠ dl; omega
    intro h' F2 N2
    k_steps
    exact next D es _ _ _ ⟨hy, fun i hi => (hall i hi).elim fun _ e => e⟩ hne F2 N2
end Mine
end
theorem Mine.resetH4 : True := by
  w_top off
  exact True.intro
-- text H4
section
open PySem PySem.W PyProof.Rows PySem.Spec PySem.Calls
set_option maxRecDepth 100000
set_option maxHeartbeats 8000000
namespace Mine
local macro_rules | `(tactic| k_all) => `(tactic| assumption)
local macro_rules | `(tactic| walk_at "SrcLP") => `(tactic| (refine Hold.mk ?_))
local macro_rules | `(tactic| walk_at "exec Assign cons ListComp") => `(tactic| (k_here; k_dflt (refine wpAny_Assign_Name ?_)))
local macro_rules | `(tactic| walk_at "eval ListComp") => `(tactic| (k_here; k_dflt (refine LCp.ListComp_P (F₀ := by k_asm) (by with_unfolding_all rfl) (by decide) (by rfl) (by decide) (by rfl) (by rfl) (by decide) ?_); k_dflt lcp_toSrc))
local macro_rules | `(tactic| walk_at "call builtin:list.index") => `(tactic| (k_here; (with_reducible show wpAny _ _ (call (Value.builtin _) [Value.ref _, Value.int _ _]) _ _ _); k_dflt (refine' kf_index ?N ?m ?i ?e ?c ?z ?_; (case N => k_asm); (case m => k_mem); (case i => assumption); (case e => assumption); (case c => rfl); (case z => assumption))))
noncomputable def aheadB (pos : Int → Nat) (i : Nat) : Bool := match (pairsTo 4)[i]? with
  | some (e, l) => decide ((pos l : Int) < (pos e : Int))
  | none => false
noncomputable def OrdAre (pos : Int → Nat) (os : List Value) : Prop := os.length ≤ sizeLine ∧ kf_ints os = true ∧ ∀ k, 0 ≤ k → k < 4 → kf_at k os = some (pos k) ∧ pos k < 4
theorem hm4 (w : World) (mean : ExcName → Option Value) (mg mb : Str → Option Value)
   (dp un : Nat) (gd : Option (List Code)) (a : Addr) (ccd : Value) (outer : List Env) (A₀ : Around) (base h₀ : Heap) (L : Nat) (u : Str → Option Value) (s : Shared) (Q : Flow → Shared → Prop) (E : Value → Shared → Prop)
   (B : Below A₀ base outer h₀) (X : (hd.heap_39 w.params).In h₀) (T : Top topProg looL mean mg mb h₀)
   (hdp : dp + 20 < recursionLimit) (hun : un + 100 < cLine) (hL : 82 < L)
   (ol pl : Nat) (os ps : List Value) (pos : Int → Nat) (ko : Nat) (o3 o5 : Obj) (c5 : Option Value) (tl rs : List (Addr × Obj)) (hT : TupsOf tl ps (pairsTo 4)) (htl : ∀ p ∈ tl, p ∈ rs) (hO : OrdAre pos os)
   (d3 : cellObj o3 (some (.ref ol))) (d5 : cellObj o5 c5) (m1 : ol ≠ L + 5) (m2 : pl ≠ L + 5) (off : ∀ p ∈ rs, p.1 ≠ L + 5)
   (F : Fr h₀ L s.heap (look [(Str.ofString "pairs", .ref pl)] u)) (N : News h₀ L s.heap ((ol, W.listOf (List.toArray os) ko) :: (pl, LCg.lst ps) :: (L + 3, o3) :: (L + 5, o5) :: rs))
   (next : ∀ (al : Nat) as o5' h' tk, BoolsAre (aheadB pos) as → cellObj o5' (some (.ref al)) → (∀ p ∈ (ol, W.listOf (List.toArray os) ko) :: (pl, LCg.lst ps) :: (L + 3, o3) :: (L + 5, o5) :: rs, p.1 ≠ al) → Fr h₀ L h' (look [(Str.ofString "pairs", .ref pl)] u) → News h₀ L h' ((al, W.listOf as.toArray as.length) :: (ol, W.listOf (List.toArray os) ko) :: (pl, LCg.lst ps) :: (L + 3, o3) :: (L + 5, o5') :: rs) → Q .next { s with heap := h', toks := tk }) :
   wpAny (model PySem.Challenge.rw_pg0137_01.row.prog w) (lawTop dp un gd L a ccd outer) (execs (headS (dropS 4 hourBody)) (lawEnv L a ccd)) Q E s := by
  revert X; k_fill; intro X
  dsimp only [look] at F
  conv => arg 3; arg 1; whnf
  obtain ⟨sc, hsc⟩ : ∃ sc, lawScope = sc := ⟨_, rfl⟩
  unfold lawTop lawEnv lawCells
  rw [hsc]
  conv at hsc => lhs; whnf
  subst hsc
  k_steps
  refine Hold.of ?_
  have hpl : ps.length = 6 := hT.get.1
  obtain ⟨hosz, hoki, hopos⟩ := hO
  refine LCp.SrcLP.ledger (by rfl) (by k_asm) (by k_asm) (.tail _ (.head _)) (by show ps.toArray.size ≤ _; rw [List.size_toArray, hpl]; decide) ?_
  intro g
  refine comp_mapP (fun i _ => .bool (aheadB pos i)) (fun i e l => (pairsTo 4)[i]? = some (e, l)) (.inr ⟨_, .tail _ (.head _), rfl, _, rfl⟩) ?tup ?turn ?fin
  case tup =>
    intro i v hi hv
    obtain ⟨q, e, l, te, tl', n, e1, e2, e3⟩ := hT.get.2 i v (by simpa using hv)
    exact ⟨q, _, e, l, te, tl', n, e1, .tail _ (.tail _ (.tail _ (.tail _ (htl _ e2)))), rfl, rfl, e3⟩
  case turn =>
    intro i e l te tl' I oI C oC D oD m2 h tk E' hin hR hC hx hy F1 N1
    obtain ⟨hi6, he0, hel, hl4⟩ := pair_bd hR
    obtain ⟨hpl', hpl4⟩ := hopos l (by omega) hl4
    obtain ⟨hpe', hpe4⟩ := hopos e he0 (by omega)
    (try dsimp only)
    k_steps
    exact MapPost.intro (t := 0) (by unfold aheadB; rw [hR]) F1 N1
  case fin =>
    intro as hy hall
    rw [List.size_toArray, hpl] at hy hall
    intro D h tk F' N' o1'
    have hne := off1_mem o1'
    simp only [LCg.Off1] at o1'
    (try dsimp only)
    k_steps
    (with_reducible rename Fr _ _ _ _ => F9)
    (with_reducible rename News _ _ _ _ => N9)
    (rename (Obj.data _ = Data.cell (some (Value.ref D))) => hd9)
    exact next D as _ _ _ ⟨hy, fun i hi => (hall i hi).elim fun _ e => e⟩ hd9 hne F9 N9
end Mine
end
theorem Mine.resetH5 : True := by
  w_top off
  exact True.intro
-- text H5
section
open PySem PySem.W PyProof.Rows PySem.Spec PySem.Calls
set_option maxRecDepth 100000
set_option maxHeartbeats 8000000
namespace Mine
local macro_rules | `(tactic| walk_at "subscriptTail") => `(tactic| (refine Hold.mk ?_))
local macro_rules | `(tactic| walk_at "subscriptTail Name UnaryOp ref int") => `(tactic| (refine Hold.mk ?_))
theorem bools_lit {f : Nat → Bool} {ys : List Value} (h : BoolsAre f ys) : ys = [.bool (f 0), .bool (f 1), .bool (f 2), .bool (f 3), .bool (f 4), .bool (f 5)] := by
  apply List.ext_getElem?
  intro i
  by_cases hi : i < 6
  · rw [h.2 i hi]
    rcases (show i = 0 ∨ i = 1 ∨ i = 2 ∨ i = 3 ∨ i = 4 ∨ i = 5 by omega) with rfl | rfl | rfl | rfl | rfl | rfl <;> rfl
  · rw [List.getElem?_eq_none (by rw [h.1]; omega), List.getElem?_eq_none (by simp; omega)]
theorem hm5 (w : World) (mean : ExcName → Option Value) (mg mb : Str → Option Value)
   (dp un : Nat) (gd : Option (List Code)) (a : Addr) (ccd : Value) (outer : List Env) (A₀ : Around) (base h₀ : Heap) (L : Nat) (u : Str → Option Value) (s : Shared) (Q : Flow → Shared → Prop) (E : Value → Shared → Prop)
   (B : Below A₀ base outer h₀) (X : (hd.heap_39 w.params).In h₀) (T : Top topProg looL mean mg mb h₀)
   (hdp : dp + 20 < recursionLimit) (hun : un + 100 < cLine) (hL : 82 < L)
   (al el dl : Nat) (as es ds : List Value) (f g : Nat → Bool) (ka ke kd : Nat) (o1 o5 : Obj) (rs : List (Addr × Obj)) (ha : BoolsAre f as) (he : BoolsAre g es) (hfg : ∀ i, i < 6 → f i = g i) (hds : ds.length ≤ 4)
   (d1 : cellObj o1 (some (.ref dl))) (d5 : cellObj o5 (some (.ref al)))
   (F : Fr h₀ L s.heap (look [] u)) (N : News h₀ L s.heap ((al, W.listOf (List.toArray as) ka) :: (el, W.listOf (List.toArray es) ke) :: (dl, W.listOf (ds ++ [Value.ref el]).toArray kd) :: (L + 1, o1) :: (L + 5, o5) :: rs))
   (next : ∀ h' tk, Fr h₀ L h' (look [] u) → News h₀ L h' ((al, W.listOf (List.toArray as) ka) :: (el, W.listOf (List.toArray es) ke) :: (dl, W.listOf (ds ++ [Value.ref el]).toArray kd) :: (L + 1, o1) :: (L + 5, o5) :: rs) → Q .next { s with heap := h', toks := tk }) :
   wpAny (model PySem.Challenge.rw_pg0137_01.row.prog w) (lawTop dp un gd L a ccd outer) (execs (headS (dropS 5 hourBody)) (lawEnv L a ccd)) Q E s := by
  revert X; k_fill; intro X
  dsimp only [look] at F
  conv => arg 3; arg 1; whnf
  obtain ⟨sc, hsc⟩ : ∃ sc, lawScope = sc := ⟨_, rfl⟩
  unfold lawTop lawEnv lawCells
  rw [hsc]
  conv at hsc => lhs; whnf
  subst hsc
  have ea := bools_lit ha
  have ee := bools_lit he
  rw [← hfg 0 (by decide), ← hfg 1 (by decide), ← hfg 2 (by decide), ← hfg 3 (by decide), ← hfg 4 (by decide), ← hfg 5 (by decide)] at ee
  subst ea ee
  clear ha he
  generalize f 0 = b0 at *
  generalize f 1 = b1 at *
  generalize f 2 = b2 at *
  generalize f 3 = b3 at *
  generalize f 4 = b4 at *
  generalize f 5 = b5 at *
  k_steps
  refine Hold.of ?_
  have hx : (ds ++ [Value.ref el])[(-1 + (((ds ++ [Value.ref el]).length : Nat) : Int)).toNat]? = some (Value.ref el) := by
    have : (-1 + (((ds ++ [Value.ref el]).length : Nat) : Int)).toNat = ds.length := by simp; omega
    rw [this]; simp
  k_dflt (refine kim_back (lo := W.listOf (ds ++ [Value.ref el]).toArray kd) (l := ds ++ [Value.ref el]) (x := Value.ref el) N (.tail _ (.tail _ (.head _))) (by rfl) (by rfl) (by decide) (by simp; omega) (by decide) hx ?_)
  k_steps
  exact next _ _ F N
end Mine
end
theorem Mine.resetH6 : True := by
  w_top off
  exact True.intro
-- text H6
section
open PySem PySem.W PyProof.Rows PySem.Spec PySem.Calls
set_option maxRecDepth 100000
set_option maxHeartbeats 8000000
namespace Mine
local macro_rules | `(tactic| walk_at "own H6") => `(tactic| skip)
local macro_rules | `(tactic| k_all) => `(tactic| assumption)
local macro_rules | `(tactic| walk_at "CompSrc") => `(tactic| (refine Hold.mk ?_))
local macro_rules | `(tactic| walk_at "eval ListComp") => `(tactic| (k_here; k_dflt (refine LCg.ListComp_U (F₀ := by k_asm) (by with_unfolding_all rfl) (by decide) (by rfl) (by decide) (by rfl) ?_); k_dflt lcg_toSrc))
theorem words_end {h₀ h : Heap} {L D al c5 wl : Addr} {o oa o5 : Obj} {ws : List Value} {X S : Str} {t : Tok} {k : Nat} {rs : List (Addr × Obj)} (N8 : News h₀ L h ((D, o) :: (al, oa) :: (c5, o5) :: (wl, W.listOf (ws ++ [Value.str X t]).toArray k) :: rs)) (e : X = S) :
    News h₀ L h ((al, oa) :: (c5, o5) :: (wl, W.listOf (ws ++ [Value.str S t]).toArray k) :: rs) := by
  subst e
  exact fun p hp => N8 p (.tail _ hp)
noncomputable def wordS (f : Nat → Bool) : Str := ⟨#[(if f 0 then 80 else 112) + 0, (if f 1 then 80 else 112) + 1, (if f 2 then 80 else 112) + 2, (if f 3 then 80 else 112) + 3, (if f 4 then 80 else 112) + 4, (if f 5 then 80 else 112) + 5]⟩
noncomputable def wch (b : Bool) (i : Nat) : Str := ⟨#[(if b then 80 else 112) + i]⟩
theorem six_lit {V : Nat → Tok → Value} {ys : List Value} (h : ys.length = 6) (hv : ∀ i, i < 6 → ∃ t, ys[i]? = some (V i t)) : ∃ t0 t1 t2 t3 t4 t5, ys = [V 0 t0, V 1 t1, V 2 t2, V 3 t3, V 4 t4, V 5 t5] := by
  obtain ⟨t0, h0⟩ := hv 0 (by decide)
  obtain ⟨t1, h1⟩ := hv 1 (by decide)
  obtain ⟨t2, h2⟩ := hv 2 (by decide)
  obtain ⟨t3, h3⟩ := hv 3 (by decide)
  obtain ⟨t4, h4⟩ := hv 4 (by decide)
  obtain ⟨t5, h5⟩ := hv 5 (by decide)
  refine ⟨t0, t1, t2, t3, t4, t5, ?_⟩
  apply List.ext_getElem?
  intro i
  by_cases hi : i < 6
  · rcases (show i = 0 ∨ i = 1 ∨ i = 2 ∨ i = 3 ∨ i = 4 ∨ i = 5 by omega) with rfl | rfl | rfl | rfl | rfl | rfl
    · rw [h0]; rfl
    · rw [h1]; rfl
    · rw [h2]; rfl
    · rw [h3]; rfl
    · rw [h4]; rfl
    · rw [h5]; rfl
  · rw [List.getElem?_eq_none (by rw [h]; omega), List.getElem?_eq_none (by simp; omega)]
theorem hm6 (w : World) (mean : ExcName → Option Value) (mg mb : Str → Option Value)
   (dp un : Nat) (gd : Option (List Code)) (a : Addr) (ccd : Value) (outer : List Env) (A₀ : Around) (base h₀ : Heap) (L : Nat) (u : Str → Option Value) (s : Shared) (Q : Flow → Shared → Prop) (E : Value → Shared → Prop)
   (B : Below A₀ base outer h₀) (X : (hd.heap_39 w.params).In h₀) (T : Top topProg looL mean mg mb h₀)
   (hdp : dp + 20 < recursionLimit) (hun : un + 100 < cLine) (hL : 82 < L)
   (al wl : Nat) (as ws : List Value) (f : Nat → Bool) (ka kw : Nat) (o5 : Obj) (rs : List (Addr × Obj)) (ha : BoolsAre f as) (hws : ws.length ≤ 4)
   (d5 : cellObj o5 (some (.ref al))) (m1 : al ≠ wl) (m2 : L + 5 ≠ wl) (off : ∀ p ∈ rs, p.1 ≠ wl)
   (F : Fr h₀ L s.heap (look [(Str.ofString "words", .ref wl)] u)) (N : News h₀ L s.heap ((al, W.listOf (List.toArray as) ka) :: (L + 5, o5) :: (wl, W.listOf ws.toArray kw) :: rs))
   (next : ∀ k' t h' tk, Fr h₀ L h' (look [(Str.ofString "words", .ref wl)] u) → News h₀ L h' ((al, W.listOf (List.toArray as) ka) :: (L + 5, o5) :: (wl, W.listOf (ws ++ [Value.str (wordS f) t]).toArray k') :: rs) → Q .next { s with heap := h', toks := tk }) :
   wpAny (model PySem.Challenge.rw_pg0137_01.row.prog w) (lawTop dp un gd L a ccd outer) (execs (headS (dropS 6 hourBody)) (lawEnv L a ccd)) Q E s := by
  revert X; k_fill; intro X
  dsimp only [look] at F
  conv => arg 3; arg 1; whnf
  obtain ⟨sc, hsc⟩ : ∃ sc, lawScope = sc := ⟨_, rfl⟩
  unfold lawTop lawEnv lawCells
  rw [hsc]
  conv at hsc => lhs; whnf
  subst hsc
  have ea := bools_lit ha
  subst ea
  clear ha
  k_steps
  refine Hold.of ?_
  (rename IsRange _ _ _ _ _ _ _ _ => R9)
  (with_reducible rename Fr _ _ _ _ => F9)
  (with_reducible rename News _ _ _ _ => N9)
  refine LCg.CompSrc.range (n := 6) (by rfl) F9 N9 R9 (by decide) (by decide) (by decide) ?_
  intro g
  refine comp_map (fun i t => .str (wch (f i) i) t) trivial ?turn ?fin
  case turn =>
    intro i v I oI C oC D oD m2 h tk E' hin hP hC hx F1 N1
    obtain ⟨t, rfl⟩ := hP
    rcases (show i = 0 ∨ i = 1 ∨ i = 2 ∨ i = 3 ∨ i = 4 ∨ i = 5 by omega) with rfl | rfl | rfl | rfl | rfl | rfl
    all_goals
      (try dsimp only)
      k_steps
    all_goals
      (rename (f _ = _) => hb)
      exact MapPost.intro (congrArg (fun z => Value.str z _) (by rw [hb]; decide +kernel)) F1 N1
  case fin =>
    intro ys hy hall
    obtain ⟨t0, t1, t2, t3, t4, t5, hys⟩ := six_lit (V := fun i t => .str (wch (f i) i) t) hy hall
    intro D h tk F' N' o1'
    have hne := off1_mem o1'
    simp only [LCg.Off1] at o1'
    subst hys
    have wl0 : (wch (f 0) 0).length = 1 := rfl
    have wl1 : (wch (f 1) 1).length = 1 := rfl
    have wl2 : (wch (f 2) 2).length = 1 := rfl
    have wl3 : (wch (f 3) 3).length = 1 := rfl
    have wl4 : (wch (f 4) 4).length = 1 := rfl
    have wl5 : (wch (f 5) 5).length = 1 := rfl
    (try dsimp only)
    k_steps
    (with_reducible rename Fr _ _ _ _ => F8)
    (with_reducible rename News _ _ _ _ => N8)
    rw [List.push_toArray] at N8
    exact next _ _ _ _ F8 (words_end N8 (by rfl))
end Mine
end
theorem Mine.resetH1 : True := by
  w_top off
  exact True.intro
-- text H1
section
open PySem PySem.W PyProof.Rows PySem.Spec PySem.Calls
set_option maxRecDepth 100000
set_option maxHeartbeats 8000000
namespace Mine
local macro_rules | `(tactic| k_all) => `(tactic| assumption)
local macro_rules | `(tactic| walk_at "call ref") => `(tactic| (refine Hold.mk ?_))
theorem four_lit {h : Nat} {ns : List Int} {ys : List Value} (H : MailsAre h ns ys) : ∃ t0 t1 t2 t3, ys = [.str (mailH h (ns.getD 0 0)) t0, .str (mailH h (ns.getD 1 0)) t1, .str (mailH h (ns.getD 2 0)) t2, .str (mailH h (ns.getD 3 0)) t3] := by
  obtain ⟨t0, h0⟩ := H.2 0 (by decide)
  obtain ⟨t1, h1⟩ := H.2 1 (by decide)
  obtain ⟨t2, h2⟩ := H.2 2 (by decide)
  obtain ⟨t3, h3⟩ := H.2 3 (by decide)
  refine ⟨t0, t1, t2, t3, ?_⟩
  apply List.ext_getElem?
  intro i
  by_cases hi : i < 4
  · rcases (show i = 0 ∨ i = 1 ∨ i = 2 ∨ i = 3 by omega) with rfl | rfl | rfl | rfl
    · rw [h0]; rfl
    · rw [h1]; rfl
    · rw [h2]; rfl
    · rw [h3]; rfl
  · rw [List.getElem?_eq_none (by rw [H.1]; omega), List.getElem?_eq_none (by simp; omega)]
/-- the lengths of the four mails -/
noncomputable def lenH (h : Nat) (ns : List Int) : Int → Int := pick4 (mailH h (ns.getD 0 0)).length (mailH h (ns.getD 1 0)).length (mailH h (ns.getD 2 0)).length (mailH h (ns.getD 3 0)).length
theorem hm1 (w : World) (mean : ExcName → Option Value) (mg mb : Str → Option Value)
   (dp un : Nat) (gd : Option (List Code)) (a : Addr) (ccd : Value) (outer : List Env) (A₀ : Around) (base h₀ : Heap) (L : Nat) (u : Str → Option Value) (s : Shared) (Q : Flow → Shared → Prop) (E : Value → Shared → Prop)
   (B : Below A₀ base outer h₀) (X : (hd.heap_39 w.params).In h₀) (T : Top topProg looL mean mg mb h₀)
   (hdp : dp + 20 < recursionLimit) (hun : un + 100 < cLine) (hL : 82 < L)
   (ml i cq : Nat) (ns4 : List Int) (ys : List Value) (o3 oq ot : Obj) (c3 : Option Value) (rs : List (Addr × Obj)) (hy : MailsAre i ns4 ys) (hi : i ≤ 4) (hTab : TabOk cq oq ot) (d3 : cellObj o3 c3)
   (m1 : 82 ≠ ml) (m2 : cq ≠ ml) (m3 : L + 3 ≠ ml) (m4 : cq ≠ L + 3) (off : ∀ p ∈ rs, p.1 ≠ ml ∧ p.1 ≠ cq ∧ p.1 ≠ 82) (off3 : ∀ p ∈ rs, p.1 ≠ L + 3)
   (F : Fr h₀ L s.heap (look [(Str.ofString "mails", .ref ml)] u)) (N : News h₀ L s.heap ((ml, W.listOf ys.toArray ys.length) :: (cq, oq) :: (82, ot) :: (L + 3, o3) :: rs))
   (next : ∀ (ol : Nat) y0 y1 y2 y3 v0 v1 v2 v3 n' cq' oq' ot' o3' h' tk, Ordered (lenH i ns4) y0 y1 y2 y3 → TabOk cq' oq' ot' → cellObj o3' (some (.ref ol)) → ml < ol → 82 < cq' → (∀ p ∈ rs, p.1 < ol) → L + 3 < ol → Fr h₀ L h' (look [(Str.ofString "mails", .ref ml)] u) → News h₀ L h' ((ol, W.listOf #[.int y0 v0, .int y1 v1, .int y2 v2, .int y3 v3] n') :: (ml, W.listOf ys.toArray ys.length) :: (cq', oq') :: (82, ot') :: (L + 3, o3') :: rs) → Q .next { s with heap := h', toks := tk }) :
   wpAny (model PySem.Challenge.rw_pg0137_01.row.prog w) (lawTop dp un gd L a ccd outer) (execs (headS (dropS 1 hourBody)) (lawEnv L a ccd)) Q E s := by
  revert X; k_fill; intro X
  dsimp only [look] at F
  conv => arg 3; arg 1; whnf
  obtain ⟨sc, hsc⟩ : ∃ sc, lawScope = sc := ⟨_, rfl⟩
  unfold lawTop lawEnv lawCells
  rw [hsc]
  conv at hsc => lhs; whnf
  subst hsc
  obtain ⟨t0, t1, t2, t3, rfl⟩ := four_lit hy
  k_steps
  refine Hold.of ?_
  have q0 : (mailH i (ns4.getD 0 0)).length ≤ 1000 := Nat.le_trans (mailH_small i _ hi) (by decide)
  have q1 : (mailH i (ns4.getD 1 0)).length ≤ 1000 := Nat.le_trans (mailH_small i _ hi) (by decide)
  have q2 : (mailH i (ns4.getD 2 0)).length ≤ 1000 := Nat.le_trans (mailH_small i _ hi) (by decide)
  have q3 : (mailH i (ns4.getD 3 0)).length ≤ 1000 := Nat.le_trans (mailH_small i _ hi) (by decide)
  (with_reducible rename Fr _ _ _ _ => F9)
  (with_reducible rename News _ _ _ _ => N9)
  k_dflt (refine' c_orderB w mean mg mb ml cq oq ot hTab _ _ _ _ t0 t1 t2 t3 4 m1 m2 q0 q1 q2 q3 ((L + 3, o3) :: rs) _ _ _ _ _ _ _ _ _ _ _ _ _ _ _ _ _ ?kB F9 X ?kN ?kR ?kO T ?hck ?hdp ?hun ?hret)
  case kB => k_asm
  case kN => (intro p hp; refine N9 p ?_; (simp only [List.mem_cons, List.not_mem_nil, or_false] at hp ⊢); (rcases hp with h | h | h; exact .inl h; exact .inr (.inl h); exact .inr (.inr (.inl h))))
  case kR => (intro p hp; exact N9 p (.tail _ (.tail _ (.tail _ hp))))
  case kO =>
    intro q hq
    rcases List.mem_cons.mp hq with rfl | hq
    · exact ⟨m3, Ne.symm m4, by show L + 3 ≠ 82; omega⟩
    · exact off q hq
  case hck => exact rfl
  case hdp => omega
  case hun => omega
  intro r y0 y1 y2 y3 v0 v1 v2 v3 cq' n' oq' ot' h' tk' hO hT' hc' hr F' N' NR' hq
  have hr3 : L + 3 < r := hq (L + 3, o3) (.head _)
  have hc3 : cq' ≠ L + 3 := by
    intro e
    have g1 : h'.get? cq' = some oq' := (N' (cq', oq') (.tail _ (.tail _ (.head _)))).1
    have g2 : h'.get? (L + 3) = some o3 := (NR' (L + 3, o3) (.head _)).1
    rw [e, g2] at g1
    have e2 := Option.some.inj g1
    have hT2 := hT'
    rcases hT2 with ⟨h1, _, _⟩ | ⟨_, vs, t, hd1, _, _⟩
    · omega
    · have d3' : o3.data = .cell c3 := d3
      rw [e2, hd1] at d3'
      cases d3'
  have N2 : News h₀ L h' ((r, W.listOf #[.int y0 v0, .int y1 v1, .int y2 v2, .int y3 v3] n') :: (ml, W.listOf (List.toArray [.str (mailH i (ns4.getD 0 0)) t0, .str (mailH i (ns4.getD 1 0)) t1, .str (mailH i (ns4.getD 2 0)) t2, .str (mailH i (ns4.getD 3 0)) t3]) 4) :: (cq', oq') :: (82, ot') :: (L + 3, o3) :: rs) := fun p hp => by
    simp only [List.mem_cons] at hp
    rcases hp with h | h | h | h | h | h
    · exact N' p (h ▸ .head _)
    · exact N' p (h ▸ .tail _ (.head _))
    · exact N' p (h ▸ .tail _ (.tail _ (.head _)))
    · exact N' p (h ▸ .tail _ (.tail _ (.tail _ (.head _))))
    · exact NR' p (h ▸ .head _)
    · exact NR' p (.tail _ h)
  clear N' NR' N9
  (try dsimp only)
  k_steps
  (with_reducible rename Fr _ _ _ _ => F8)
  (with_reducible rename News _ _ _ _ => N8)
  (rename (Obj.data _ = Data.cell (some (Value.ref r))) => hd8)
  exact next r y0 y1 y2 y3 v0 v1 v2 v3 n' cq' oq' ot' _ _ _ hO hT' hd8 hr hc' (fun p hp => hq p (.tail _ hp)) hr3 F8 N8
end Mine
end
theorem Mine.resetC9 : True := by
  w_top off
  exact True.intro
-- text C9
section
open PySem PySem.W PyProof.Rows PySem.Spec PySem.Calls
set_option maxRecDepth 100000
set_option maxHeartbeats 4000000
namespace Mine
theorem fin6 {pos : Int → Nat} {z0 z1 z2 z3 : Int} (h01 : pos 1 < pos 0 ↔ z1 < z0) (h02 : pos 2 < pos 0 ↔ z2 < z0) (h12 : pos 2 < pos 1 ↔ z2 < z1) (h03 : pos 3 < pos 0 ↔ z3 < z0) (h13 : pos 3 < pos 1 ↔ z3 < z1) (h23 : pos 3 < pos 2 ↔ z3 < z2) :
    ∀ i, i < 6 → aheadB pos i = dueB [z0, z1, z2, z3] i := by
  intro i hi
  rcases (show i = 0 ∨ i = 1 ∨ i = 2 ∨ i = 3 ∨ i = 4 ∨ i = 5 by omega) with rfl | rfl | rfl | rfl | rfl | rfl
  · exact decide_eq_decide.mpr (Int.ofNat_lt.trans h01)
  · exact decide_eq_decide.mpr (Int.ofNat_lt.trans h02)
  · exact decide_eq_decide.mpr (Int.ofNat_lt.trans h12)
  · exact decide_eq_decide.mpr (Int.ofNat_lt.trans h03)
  · exact decide_eq_decide.mpr (Int.ofNat_lt.trans h13)
  · exact decide_eq_decide.mpr (Int.ofNat_lt.trans h23)
theorem ord_of (y0 y1 y2 y3 : Int) (v0 v1 v2 v3 : Tok) (p0 p1 p2 p3 : Nat) (k0 : kf_at 0 [.int y0 v0, .int y1 v1, .int y2 v2, .int y3 v3] = some p0) (k1 : kf_at 1 [.int y0 v0, .int y1 v1, .int y2 v2, .int y3 v3] = some p1) (k2 : kf_at 2 [.int y0 v0, .int y1 v1, .int y2 v2, .int y3 v3] = some p2) (k3 : kf_at 3 [.int y0 v0, .int y1 v1, .int y2 v2, .int y3 v3] = some p3)
    (l0 : p0 < 4) (l1 : p1 < 4) (l2 : p2 < 4) (l3 : p3 < 4) {z0 z1 z2 z3 : Int} (h01 : p1 < p0 ↔ z1 < z0) (h02 : p2 < p0 ↔ z2 < z0) (h12 : p2 < p1 ↔ z2 < z1) (h03 : p3 < p0 ↔ z3 < z0) (h13 : p3 < p1 ↔ z3 < z1) (h23 : p3 < p2 ↔ z3 < z2) :
    ∃ pos : Int → Nat, OrdAre pos [.int y0 v0, .int y1 v1, .int y2 v2, .int y3 v3] ∧ ∀ i, i < 6 → aheadB pos i = dueB [z0, z1, z2, z3] i := by
  refine ⟨fun k => if k = 0 then p0 else if k = 1 then p1 else if k = 2 then p2 else p3, ⟨by show 4 ≤ sizeLine; decide, rfl, fun k a b => ?_⟩, fin6 h01 h02 h12 h03 h13 h23⟩
  rcases (show k = 0 ∨ k = 1 ∨ k = 2 ∨ k = 3 by omega) with rfl | rfl | rfl | rfl
  · exact ⟨k0, l0⟩
  · exact ⟨k1, l1⟩
  · exact ⟨k2, l2⟩
  · exact ⟨k3, l3⟩
theorem order_plain (z0 z1 z2 z3 : Int) (y0 y1 y2 y3 : Int) (v0 v1 v2 v3 : Tok) (h : Ordered (pick4 z0 z1 z2 z3) y0 y1 y2 y3) :
    ∃ pos : Int → Nat, OrdAre pos [.int y0 v0, .int y1 v1, .int y2 v2, .int y3 v3] ∧ ∀ i, i < 6 → aheadB pos i = dueB [z0, z1, z2, z3] i := by
  obtain ⟨a0, a1, b0, b1, b2, e1, e2, e3⟩ := h
  have p0 : pick4 z0 z1 z2 z3 0 = z0 := rfl
  have p1 : pick4 z0 z1 z2 z3 1 = z1 := rfl
  have p2 : pick4 z0 z1 z2 z3 2 = z2 := rfl
  have p3 : pick4 z0 z1 z2 z3 3 = z3 := rfl
  generalize pick4 z0 z1 z2 z3 = g at *
  subst p0 p1 p2 p3
  unfold ins1 at e1
  unfold ins2 at e2
  unfold ins3 at e3
  split at e1 <;> cases e1
  all_goals (split at e2 <;> try split at e2) <;> cases e2
  all_goals (split at e3 <;> split at e3) <;> cases e3
  all_goals
    refine ord_of _ _ _ _ v0 v1 v2 v3 _ _ _ _ rfl rfl rfl rfl (Nat.le_of_ble_eq_true rfl) (Nat.le_of_ble_eq_true rfl) (Nat.le_of_ble_eq_true rfl) (Nat.le_of_ble_eq_true rfl) ?_ ?_ ?_ ?_ ?_ ?_
    all_goals first
      | exact iff_of_true (Nat.le_of_ble_eq_true rfl) (by first | assumption | omega)
      | exact iff_of_false (Nat.not_lt.mpr (Nat.le_of_ble_eq_true rfl)) (by first | assumption | omega)
end Mine
end
theorem Mine.resetC10 : True := by
  w_top off
  exact True.intro
-- text C10
section
open PySem PySem.W PyProof.Rows PySem.Spec PySem.Calls
set_option maxRecDepth 100000
namespace Mine
theorem sz_one (v : Int) (h : Nat) (hh : 1 ≤ h) : (v.fdiv 4).fmod 16 + v.fmod 4 * (3 + (h : Int)) = ((mailH h v).length : Int) := by
  rw [mailH_len h v hh]
  have h1 := fmod_bd (v.fdiv 4) 16 (by decide)
  have h2 := fmod_bd v 4 (by decide)
  have e1 : (aN v : Int) = (v.fdiv 4).fmod 16 := Int.toNat_of_nonneg h1.1
  have e2 : (bN v : Int) = v.fmod 4 := Int.toNat_of_nonneg h2.1
  rw [Int.natCast_add, Int.natCast_mul, e1, e2]
  congr 2
theorem sizes_eq {ns : List Int} (h4 : ns.length = 4) (h : Nat) (hh : 1 ≤ h) : ns.map (fun v => (v.fdiv 4).fmod 16 + v.fmod 4 * (3 + (h : Int))) =
    [((mailH h (ns.getD 0 0)).length : Int), ((mailH h (ns.getD 1 0)).length : Int), ((mailH h (ns.getD 2 0)).length : Int), ((mailH h (ns.getD 3 0)).length : Int)] := by
  match ns, h4 with
  | [a, b, c, d], _ =>
    simp only [List.map_cons, List.map_nil, sz_one _ _ hh]
    rfl
noncomputable def e01 (a b : Bool) : Int := if (a != b) = true then 1 else 0
/-- a pair's bit, hour by hour: it turns once at most -/
theorem lin_bits {d0 d1 d2 d3 : Int} (h1 : d1 - d0 = d2 - d1) (h2 : d2 - d1 = d3 - d2) :
    e01 (decide (d0 < 0)) (decide (d2 < 0)) = e01 (decide (d0 < 0)) (decide (d1 < 0)) + e01 (decide (d1 < 0)) (decide (d2 < 0)) ∧
    e01 (decide (d1 < 0)) (decide (d3 < 0)) = e01 (decide (d1 < 0)) (decide (d2 < 0)) + e01 (decide (d2 < 0)) (decide (d3 < 0)) ∧
    e01 (decide (d0 < 0)) (decide (d3 < 0)) = e01 (decide (d0 < 0)) (decide (d1 < 0)) + e01 (decide (d1 < 0)) (decide (d2 < 0)) + e01 (decide (d2 < 0)) (decide (d3 < 0)) := by
  unfold e01
  by_cases a0 : d0 < 0 <;> by_cases a1 : d1 < 0 <;> by_cases a2 : d2 < 0 <;> by_cases a3 : d3 < 0 <;> simp [a0, a1, a2, a3] <;> omega
/-- the bits of hour h (from 0) -/
noncomputable def bitH (ns : List Int) (h i : Nat) : Bool := dueB (ns.map fun v => (v.fdiv 4).fmod 16 + v.fmod 4 * (3 + ((h + 1 : Nat) : Int))) i
noncomputable def chg (ns : List Int) (a b : Nat) : Int := cntB (fun i => bitH ns a i != bitH ns b i) 6
theorem chg_six (ns : List Int) (a b : Nat) : chg ns a b = 0 + e01 (bitH ns a 0) (bitH ns b 0) + e01 (bitH ns a 1) (bitH ns b 1) + e01 (bitH ns a 2) (bitH ns b 2) + e01 (bitH ns a 3) (bitH ns b 3) + e01 (bitH ns a 4) (bitH ns b 4) + e01 (bitH ns a 5) (bitH ns b 5) := rfl
theorem bit_form {ns : List Int} (h4 : ns.length = 4) (i : Nat) (hi : i < 6) : ∃ A B : Int, ∀ h, bitH ns h i = decide (A + B * (4 + (h : Int)) < 0) := by
  match ns, h4 with
  | [a, b, c, d], _ =>
    have gen : ∀ x y : Int, ∃ A B : Int, ∀ h : Nat, decide ((x.fdiv 4).fmod 16 + x.fmod 4 * (3 + ((h + 1 : Nat) : Int)) < (y.fdiv 4).fmod 16 + y.fmod 4 * (3 + ((h + 1 : Nat) : Int))) = decide (A + B * (4 + (h : Int)) < 0) := by
      intro x y
      refine ⟨(x.fdiv 4).fmod 16 - (y.fdiv 4).fmod 16, x.fmod 4 - y.fmod 4, fun h => decide_eq_decide.mpr ?_⟩
      rw [show (3 + ((h + 1 : Nat) : Int)) = 4 + (h : Int) by omega, Int.sub_mul]
      omega
    rcases (show i = 0 ∨ i = 1 ∨ i = 2 ∨ i = 3 ∨ i = 4 ∨ i = 5 by omega) with rfl | rfl | rfl | rfl | rfl | rfl
    · exact gen b a
    · exact gen c a
    · exact gen c b
    · exact gen d a
    · exact gen d b
    · exact gen d c
theorem bit_law {ns : List Int} (h4 : ns.length = 4) (i : Nat) (hi : i < 6) :
    e01 (bitH ns 0 i) (bitH ns 2 i) = e01 (bitH ns 0 i) (bitH ns 1 i) + e01 (bitH ns 1 i) (bitH ns 2 i) ∧
    e01 (bitH ns 1 i) (bitH ns 3 i) = e01 (bitH ns 1 i) (bitH ns 2 i) + e01 (bitH ns 2 i) (bitH ns 3 i) ∧
    e01 (bitH ns 0 i) (bitH ns 3 i) = e01 (bitH ns 0 i) (bitH ns 1 i) + e01 (bitH ns 1 i) (bitH ns 2 i) + e01 (bitH ns 2 i) (bitH ns 3 i) := by
  obtain ⟨A, B, hf⟩ := bit_form h4 i hi
  rw [hf 0, hf 1, hf 2, hf 3]
  exact lin_bits (by simp only [Int.mul_add]; omega) (by simp only [Int.mul_add]; omega)
/-- the way is straight -/
theorem chg_law {ns : List Int} (h4 : ns.length = 4) : chg ns 0 2 = chg ns 0 1 + chg ns 1 2 ∧ chg ns 1 3 = chg ns 1 2 + chg ns 2 3 ∧ chg ns 0 3 = chg ns 0 1 + chg ns 1 2 + chg ns 2 3 := by
  have b0 := bit_law h4 0 (by decide)
  have b1 := bit_law h4 1 (by decide)
  have b2 := bit_law h4 2 (by decide)
  have b3 := bit_law h4 3 (by decide)
  have b4 := bit_law h4 4 (by decide)
  have b5 := bit_law h4 5 (by decide)
  simp only [chg_six]
  omega
end Mine
end
theorem Mine.resetC11 : True := by
  w_top off
  exact True.intro
-- text C11
section
open PySem PySem.W PyProof.Rows PySem.Spec PySem.Calls
set_option maxRecDepth 100000
namespace Mine
theorem word_ch (f : Nat → Bool) (i : Nat) (hi : i < 6) : ch (wordS f) i = (if f i then 80 else 112) + i := by
  rcases (show i = 0 ∨ i = 1 ∨ i = 2 ∨ i = 3 ∨ i = 4 ∨ i = 5 by omega) with rfl | rfl | rfl | rfl | rfl | rfl <;> rfl
theorem word_len (f : Nat → Bool) : (wordS f).length = 6 := rfl
theorem letters : ∀ (p q : Bool) (i j : Fin 6), subst ⟨#[(if p then 80 else 112) + i.val]⟩ ⟨#[(if q then 80 else 112) + j.val]⟩ = if i.val = j.val then (if q = p then 0 else 1) else 2 := by decide +kernel
theorem words_ok (f g : Nat → Bool) : WordsOk (wordS f) (wordS g) := by
  intro i j hi hj
  rw [word_ch g i hi, word_ch f j hj, letters (g i) (f j) ⟨i, hi⟩ ⟨j, hj⟩]
  by_cases e : i = j
  · subst e
    rw [if_pos rfl, if_pos rfl, word_ch f i hi]
    cases f i <;> cases g i <;> simp
  · rw [if_neg e, if_neg e]
theorem words_hamm (f g : Nat → Bool) : hamm (wordS f) (wordS g) = cntB (fun i => f i != g i) 6 := by
  unfold hamm cntB
  refine hcnt_congr fun k hk => ?_
  unfold dif
  rw [word_ch f k hk, word_ch g k hk]
  show _ = if (f k != g k) = true then (1 : Int) else 0
  generalize f k = p
  generalize g k = q
  cases p <;> cases q <;> simp
end Mine
end
theorem Mine.resetC12 : True := by
  w_top off
  exact True.intro
-- text C12
section
open PySem PySem.W PyProof.Rows PySem.Spec PySem.Calls
set_option maxRecDepth 100000
namespace Mine
theorem dropS_succ : ∀ (k : Nat) (l : List Stmt), dropS (k + 1) l = (dropS k l).tail
  | 0, [] => rfl
  | 0, _ :: _ => by unfold dropS; unfold dropS; rfl
  | k + 1, [] => rfl
  | k + 1, _ :: r => dropS_succ k r
section
variable {prog : Program} {w : World} {A : Around} {E : Value → Shared → Prop} {s : Shared} {h₀ : Heap} {L : Addr} {m : Str → Option Value} {env : Env}
theorem execs_step {l : List Stmt} (k : Nat) {Q : Flow → Shared → Prop}
    (h : wpAny (model prog w) A (execs (headS (dropS k l)) env) (fun f s' => match f with | .next => wpAny (model prog w) A (execs (dropS (k + 1) l) env) Q E s' | f => Q f s') E s) :
    wpAny (model prog w) A (execs (dropS k l) env) Q E s := fun Γ p hΓ => by
  rw [dropS_succ] at h
  generalize dropS k l = l' at h ⊢
  have h1 := h Γ p hΓ
  cases l' with
  | nil => exact h1 Γ p hΓ
  | cons a r =>
    simp only [headS, List.tail_cons] at h1
    rw [execs_cons, Sem.wp_bind'] at h1 ⊢
    refine Sem.wp_mono _ Γ _ (fun f p' s' h' => ?_) (fun _ _ _ h' => h') _ _ h1
    cases f <;> first | exact h' Γ p' hΓ | exact h'
end
theorem News.sub' {h₀ h : Heap} {L : Addr} {l1 l2 : List (Addr × Obj)} (N : News h₀ L h l1) (H : ∀ p ∈ l2, p ∈ l1) : News h₀ L h l2 := fun p hp => N p (H p hp)
theorem look_id {m : Str → Option Value} {l : List (Str × Value)} (h : AllAt m l) : look l m = m := funext fun z => (look_keep l h z).symm
theorem fr_look {h₀ h : Heap} {L : Addr} {m : Str → Option Value} {l : List (Str × Value)} (h1 : AllAt m l) (F : Fr h₀ L h m) : Fr h₀ L h (look l m) := by rw [look_id h1]; exact F
theorem fr_unlook {h₀ h : Heap} {L : Addr} {m : Str → Option Value} {l : List (Str × Value)} (F : Fr h₀ L h (look l m)) (h1 : AllAt m l) : Fr h₀ L h m := by rw [look_id h1] at F; exact F
noncomputable def Apart (l : List (Addr × Obj)) : Prop := l.Pairwise fun p q => p.1 ≠ q.1
noncomputable def NotCode (o : Obj) : Prop := ∀ vs x t, o.data = .fields vs → vs[1]? ≠ some (.str x t)
theorem notCode_list (xs : Array Value) (n : Nat) : NotCode (W.listOf xs n) := fun _ _ _ h => by cases h
theorem notCode_lst (ys : List Value) : NotCode (LCg.lst ys) := fun _ _ _ h => by cases h
theorem notCode_cell {o : Obj} {v : Option Value} (h : cellObj o v) : NotCode o := fun _ _ _ e => by rw [show o.data = _ from h] at e; cases e
theorem notCode_rg (x y : Int) : NotCode (rgO x y) := fun vs a t e h => by cases e; cases h
theorem notCode_T2 (e l : Int) (te tl : Tok) (n : Nat) : NotCode (T2 e l te tl n) := fun _ _ _ h => by cases h
theorem code_off {h₀ h : Heap} {L cq : Nat} {oq ot : Obj} {l : List (Addr × Obj)} (hT : TabOk cq oq ot) (N1 : News h₀ L h [(cq, oq)]) (N : News h₀ L h l) (h82 : ∀ p ∈ l, p.1 ≠ 82) (hN : ∀ p ∈ l, NotCode p.2) : ∀ p ∈ l, p.1 ≠ cq := by
  intro p hp e
  rcases hT with ⟨h1, _, _⟩ | ⟨_, vs, t, hd1, hv, _⟩
  · exact h82 p hp (e.trans h1)
  · have g1 := (N1 (cq, oq) (.head _)).1
    have g2 := (N p hp).1
    rw [show p.1 = cq from e, show h.get? cq = some oq from g1] at g2
    have e2 := Option.some.inj g2
    exact hN p hp vs _ _ (e2 ▸ hd1) hv
theorem bools_congr {f g : Nat → Bool} {ys : List Value} (h : BoolsAre f ys) (e : ∀ i, i < 6 → f i = g i) : BoolsAre g ys := ⟨h.1, fun i hi => by rw [h.2 i hi, e i hi]⟩
noncomputable def WordsAre (ns : List Int) (n : Nat) (ws : List Value) : Prop := ws.length = n ∧ ∀ h, h < n → ∃ t, ws[h]? = some (.str (wordS (bitH ns h)) t)
noncomputable def DueAre (ns : List Int) (n : Nat) (ds : List Value) (R : List (Addr × Obj)) : Prop := ds.length = n ∧ ∀ h, h < n → ∃ e es k, ds[h]? = some (.ref e) ∧ BoolsAre (bitH ns h) es ∧ (e, W.listOf (List.toArray es) k) ∈ R
theorem WordsAre.snoc {ns : List Int} {n : Nat} {ws : List Value} (h : WordsAre ns n ws) (t : Tok) : WordsAre ns (n + 1) (ws ++ [.str (wordS (bitH ns n)) t]) := by
  refine ⟨by simp [h.1], fun i hi => ?_⟩
  by_cases e : i = n
  · subst e
    exact ⟨t, by rw [← h.1]; simp [h.1]⟩
  · obtain ⟨t', ht⟩ := h.2 i (by omega)
    exact ⟨t', by rw [List.getElem?_append_left (by rw [h.1]; omega)]; exact ht⟩
theorem DueAre.snoc {ns : List Int} {n : Nat} {ds : List Value} {R : List (Addr × Obj)} (h : DueAre ns n ds R) {e : Nat} {es : List Value} {k : Nat} (hb : BoolsAre (bitH ns n) es) : DueAre ns (n + 1) (ds ++ [.ref e]) ((e, W.listOf (List.toArray es) k) :: R) := by
  refine ⟨by simp [h.1], fun i hi => ?_⟩
  by_cases q : i = n
  · subst q
    exact ⟨e, es, k, by rw [← h.1]; simp, hb, .head _⟩
  · obtain ⟨e', es', k', h1, h2, h3⟩ := h.2 i (by omega)
    exact ⟨e', es', k', by rw [List.getElem?_append_left (by rw [h.1]; omega)]; exact h1, h2, .tail _ h3⟩
end Mine
end
theorem Mine.resetPE : True := by
  w_top off
  exact True.intro
-- text PE
section
open PySem PySem.W PyProof.Rows PySem.Spec PySem.Calls
set_option maxRecDepth 100000
set_option maxHeartbeats 8000000
namespace Mine
local macro_rules | `(tactic| walk_at "my sub") => `(tactic| ((repeat' (with_reducible refine List.forall_mem_cons.mpr ⟨?_, ?_⟩)); all_goals (first | (intro p hp; exact absurd hp List.not_mem_nil) | (intro p hp; (repeat (first | exact hp | apply List.Mem.tail)); done) | ((repeat (first | exact List.Mem.head _ | apply List.Mem.tail)); done))))
local macro_rules | `(tactic| walk_at "my off") => `(tactic| ((repeat' (with_reducible refine List.forall_mem_cons.mpr ⟨?_, ?_⟩)); all_goals (first | assumption | (apply Ne.symm; assumption) | (intro p hp; apply Ne.symm; revert p hp; assumption) | (dsimp only; omega) | skip)))
local macro_rules | `(tactic| walk_at "my code") => `(tactic| ((repeat' (with_reducible refine List.forall_mem_cons.mpr ⟨?_, ?_⟩)); all_goals (first | exact notCode_list _ _ | exact notCode_lst _ | exact notCode_rg _ _ | (exact notCode_cell (by assumption)) | assumption | skip)))
noncomputable abbrev hourFr (wl pl ml nl : Nat) : List (Str × Value) := [(Str.ofString "words", .ref wl), (Str.ofString "pairs", .ref pl), (Str.ofString "mails", .ref ml), (Str.ofString "numbers", .ref nl)]
noncomputable abbrev hourRest (nl wl dl pl L : Nat) (vs4 ws ds ps : List Value) (k kw kd : Nat) (o1 o3 o4 o5 ot : Obj) (R : List (Addr × Obj)) : List (Addr × Obj) :=
  (nl, W.listOf (List.toArray vs4) k) :: (wl, W.listOf (List.toArray ws) kw) :: (dl, W.listOf (List.toArray ds) kd) :: (pl, LCg.lst ps) :: (L + 1, o1) :: (L + 3, o3) :: (L + 4, o4) :: (L + 5, o5) :: (82, ot) :: R
/-- the explicit part apart, and apart from the rest -/
noncomputable abbrev Apart2 (G R : List (Addr × Obj)) : Prop := Apart G ∧ ∀ q ∈ G, ∀ p ∈ R, q.1 ≠ p.1
theorem apart_get {l : List (Addr × Obj)} (h : Apart l) : ∀ n, ∀ p ∈ l.eraseIdx n, ∀ q, l[n]? = some q → p.1 ≠ q.1 := by
  induction h with
  | nil => intro n p hp; cases n <;> cases hp
  | @cons a l ha hl ih =>
    intro n p hp q hq
    cases n with
    | zero => cases hq; exact Ne.symm (ha p hp)
    | succ n =>
      rcases List.mem_cons.mp hp with rfl | hp
      · exact ha q (List.mem_of_getElem? (by simpa using hq))
      · exact ih n p hp q (by simpa using hq)
theorem hour_turn (w : World) (mean : ExcName → Option Value) (mg mb : Str → Option Value)
   (dp un : Nat) (gd : Option (List Code)) (a : Addr) (ccd : Value) (outer : List Env) (A₀ : Around) (base h₀ : Heap) (L : Nat) (m : Str → Option Value) (s : Shared) (Q : Flow → Shared → Prop) (E : Value → Shared → Prop)
   (B : Below A₀ base outer h₀) (X : (hd.heap_39 w.params).In h₀) (T : Top topProg looL mean mg mb h₀)
   (hdp : dp + 20 < recursionLimit) (hun : un + 100 < cLine) (hL : 82 < L)
   (i I nl ml wl dl pl cq : Nat) (ns4 : List Int) (vs4 ys ws ds ps : List Value) (k kw kd : Nat) (o1 o2 o3 o4 o5 oI oq ot : Obj) (c3 c4 c5 : Option Value) (th : Tok) (tl R : List (Addr × Obj))
   (hi4 : i < 4) (h4 : ns4.length = 4) (hI : IntsAre vs4 ns4) (lnl : L + 5 < nl) (ldl : L + 5 < dl) (hT : TupsOf tl ps (pairsTo 4)) (htl : ∀ p ∈ tl, p ∈ R) (hNC : ∀ p ∈ R, NotCode p.2)
   (hw : WordsAre ns4 i ws) (hd : DueAre ns4 i ds R) (hy : MailsAre i ns4 ys) (hTab : TabOk cq oq ot)
   (d1 : cellObj o1 (some (.ref dl))) (d2 : cellObj o2 (some (.int ((i + 1 : Nat) : Int) th))) (d3 : cellObj o3 c3) (d4 : cellObj o4 c4) (d5 : cellObj o5 c5) (rI : ∃ x y, oI = rgO x y)
   (hAll : AllAt m (hourFr wl pl ml nl)) (hAp : Apart2 ((I, oI) :: (L + 2, o2) :: hourRest nl wl dl pl L vs4 ws ds ps k kw kd o1 o3 o4 o5 ot []) R)
   (hml : ∀ p ∈ (I, oI) :: (L + 2, o2) :: hourRest nl wl dl pl L vs4 ws ds ps k kw kd o1 o3 o4 o5 ot R, p.1 ≠ ml)
   (F : Fr h₀ L s.heap m) (N : News h₀ L s.heap ((cq, oq) :: (ml, W.listOf ys.toArray ys.length) :: (I, oI) :: (L + 2, o2) :: hourRest nl wl dl pl L vs4 ws ds ps k kw kd o1 o3 o4 o5 ot R))
   (next : ∀ m' ml' cq' ys' ws' ds' kw' kd' o3' o4' o5' oq' ot' c3' c4' c5' R' h' tk, WordsAre ns4 (i + 1) ws' → DueAre ns4 (i + 1) ds' R' → MailsAre (i + 1) ns4 ys' → TabOk cq' oq' ot' → cellObj o3' c3' → cellObj o4' c4' → cellObj o5' c5' →
     AllAt m' (hourFr wl pl ml' nl) → (∀ p ∈ tl, p ∈ R') → (∀ p ∈ R', NotCode p.2) → Apart2 ((I, oI) :: (L + 2, o2) :: hourRest nl wl dl pl L vs4 ws' ds' ps k kw' kd' o1 o3' o4' o5' ot' []) R' →
     (∀ p ∈ (I, oI) :: (L + 2, o2) :: hourRest nl wl dl pl L vs4 ws' ds' ps k kw' kd' o1 o3' o4' o5' ot' R', p.1 ≠ ml') → cq' ≠ I → cq' ≠ L + 2 → 
     Fr h₀ L h' m' → News h₀ L h' ((cq', oq') :: (ml', W.listOf ys'.toArray ys'.length) :: (I, oI) :: (L + 2, o2) :: hourRest nl wl dl pl L vs4 ws' ds' ps k kw' kd' o1 o3' o4' o5' ot' R') → Q .next { s with heap := h', toks := tk }) :
   wpAny (model PySem.Challenge.rw_pg0137_01.row.prog w) (lawTop dp un gd L a ccd outer) (execs hourBody (lawEnv L a ccd)) Q E s := by
  simp only [Apart2, Apart, List.pairwise_cons, List.forall_mem_cons] at hAp
  simp only [List.forall_mem_cons] at hml
  obtain ⟨mw, mp, mm, mn, _⟩ := hAll
  repeat (with_reducible rename (_ ∧ _) => hx; obtain ⟨_, _⟩ := hx)
  refine execs_step (l := hourBody) 0 ?_
  -- mails
  refine hm0 w mean mg mb dp un gd a ccd outer A₀ base h₀ L m s _ E B X T hdp hun hL ml i ns4 ys ((cq, oq) :: (I, oI) :: (L + 2, o2) :: hourRest nl wl dl pl L vs4 ws ds ps k kw kd o1 o3 o4 o5 ot R) hy (by omega) (fr_look ⟨mm, trivial⟩ F) (News.sub' N (by walk_at "my sub")) ?_
  intro ml1 ys1 h1 tk1 hy1 hof1 F1 N1
  obtain ⟨m1, hm1d⟩ : ∃ m1 : Str → Option Value, m1 = fun z => if z = Str.ofString "mails" then some (.ref ml1) else look [(Str.ofString "mails", .ref ml)] m z := ⟨_, rfl⟩
  rw [← hm1d] at F1
  have hAll1 : AllAt m1 (hourFr wl pl ml1 nl) := by
    subst hm1d
    refine ⟨?_, ?_, rfl, ?_, trivial⟩
    · exact mw
    · exact mp
    · exact mn
  clear hm1d
  obtain ⟨rx, ry, rfl⟩ := rI
  have hml1 := hof1
  simp only [List.forall_mem_cons] at hml1
  repeat (with_reducible rename (_ ∧ _) => hx; obtain ⟨_, _⟩ := hx)
  obtain ⟨mw1, mp1, mm1, mn1, _⟩ := hAll1
  dsimp only
  refine execs_step (l := hourBody) 1 ?_
  -- order
  have cq1 : ∀ p ∈ (ml1, W.listOf ys1.toArray ys1.length) :: (I, rgO rx ry) :: (L + 2, o2) :: (nl, W.listOf (List.toArray vs4) k) :: (wl, W.listOf (List.toArray ws) kw) :: (dl, W.listOf (List.toArray ds) kd) :: (pl, LCg.lst ps) :: (L + 1, o1) :: (L + 3, o3) :: (L + 4, o4) :: (L + 5, o5) :: R, p.1 ≠ cq := by
    refine code_off hTab (News.sub' N1 (by walk_at "my sub")) (News.sub' N1 (by walk_at "my sub")) ?_ ?_
    · walk_at "my off"
    · walk_at "my code"
  have cq1' := cq1
  simp only [List.forall_mem_cons] at cq1'
  repeat (with_reducible rename (_ ∧ _) => hx; obtain ⟨_, _⟩ := hx)
  refine hm1 w mean mg mb dp un gd a ccd outer A₀ base h₀ L m1 { s with heap := h1, toks := tk1 } _ E B X T hdp hun hL ml1 (i + 1) cq ns4 ys1 o3 oq ot c3 ((I, rgO rx ry) :: (L + 2, o2) :: (nl, W.listOf (List.toArray vs4) k) :: (wl, W.listOf (List.toArray ws) kw) :: (dl, W.listOf (List.toArray ds) kd) :: (pl, LCg.lst ps) :: (L + 1, o1) :: (L + 4, o4) :: (L + 5, o5) :: R) hy1 (by omega) hTab d3 ?_ ?_ ?_ ?_ ?_ ?_ (fr_look ⟨mm1, trivial⟩ F1) (News.sub' N1 (by walk_at "my sub")) ?_
  · assumption
  · apply Ne.symm; assumption
  · assumption
  · apply Ne.symm; assumption
  · intro p hp
    refine ⟨?_, ?_, ?_⟩
    · revert p hp; walk_at "my off"
    · revert p hp; walk_at "my off"
    · revert p hp; walk_at "my off"
  · walk_at "my off"
  intro ol y0 y1 y2 y3 v0 v1 v2 v3 n2 cq2 oq2 ot2 o32 h2 tk2 hO hTab2 d32 hmo hcq2 hol1 hol2 F2 N2
  replace F2 := fr_unlook F2 ⟨mm1, trivial⟩
  have hol1' := hol1
  simp only [List.forall_mem_cons] at hol1'
  repeat (with_reducible rename (_ ∧ _) => hx; obtain ⟨_, _⟩ := hx)
  clear F1 N1 F N
  have olne : ∀ x : Nat, x < ol → x ≠ ol := fun x h => Nat.ne_of_lt h
  have n82 : (82 : Nat) ≠ ol := by omega
  have n3 : L + 3 ≠ ol := by omega
  have nm : ml1 ≠ ol := by omega
  have nR : ∀ p ∈ R, p.1 ≠ ol := fun p hp => Nat.ne_of_lt (hol1 p (.tail _ (.tail _ (.tail _ (.tail _ (.tail _ (.tail _ (.tail _ (.tail _ (.tail _ (hp)))))))))))
  have nn1 : I ≠ ol := by apply olne; assumption
  have nn2 : L + 2 ≠ ol := by apply olne; assumption
  have nn3 : nl ≠ ol := by apply olne; assumption
  have nn4 : wl ≠ ol := by apply olne; assumption
  have nn5 : dl ≠ ol := by apply olne; assumption
  have nn6 : pl ≠ ol := by apply olne; assumption
  have nn7 : L + 1 ≠ ol := by apply olne; assumption
  have nn8 : L + 4 ≠ ol := by apply olne; assumption
  have nn9 : L + 5 ≠ ol := by apply olne; assumption
  have hnc : ∀ p ∈ (ol, W.listOf #[.int y0 v0, .int y1 v1, .int y2 v2, .int y3 v3] n2) :: (ml1, W.listOf ys1.toArray ys1.length) :: (I, rgO rx ry) :: (L + 2, o2) :: (nl, W.listOf (List.toArray vs4) k) :: (wl, W.listOf (List.toArray ws) kw) :: (dl, W.listOf (List.toArray ds) kd) :: (pl, LCg.lst ps) :: (L + 1, o1) :: (L + 3, o32) :: (L + 4, o4) :: (L + 5, o5) :: R, NotCode p.2 := by
    walk_at "my code"
  have cq2o : ∀ p ∈ (ol, W.listOf #[.int y0 v0, .int y1 v1, .int y2 v2, .int y3 v3] n2) :: (ml1, W.listOf ys1.toArray ys1.length) :: (I, rgO rx ry) :: (L + 2, o2) :: (nl, W.listOf (List.toArray vs4) k) :: (wl, W.listOf (List.toArray ws) kw) :: (dl, W.listOf (List.toArray ds) kd) :: (pl, LCg.lst ps) :: (L + 1, o1) :: (L + 3, o32) :: (L + 4, o4) :: (L + 5, o5) :: R, p.1 ≠ cq2 := by
    refine code_off hTab2 (News.sub' N2 (by walk_at "my sub")) (News.sub' N2 (by walk_at "my sub")) ?_ hnc
    walk_at "my off"
  have cq2' := cq2o
  simp only [List.forall_mem_cons] at cq2'
  repeat (with_reducible rename (_ ∧ _) => hx; obtain ⟨_, _⟩ := hx)
  dsimp only
  refine execs_step (l := hourBody) 2 ?_
  -- sizes
  refine hm2 w mean mg mb dp un gd a ccd outer A₀ base h₀ L m1 { s with heap := h2, toks := tk2 } _ E B X T hdp hun hL nl vs4 ns4 k ((i + 1 : Nat) : Int) th o2 o4 c4 ((ol, W.listOf #[.int y0 v0, .int y1 v1, .int y2 v2, .int y3 v3] n2) :: (ml1, W.listOf ys1.toArray ys1.length) :: (cq2, oq2) :: (82, ot2) :: (L + 3, o32) :: (I, rgO rx ry) :: (wl, W.listOf (List.toArray ws) kw) :: (dl, W.listOf (List.toArray ds) kd) :: (pl, LCg.lst ps) :: (L + 1, o1) :: (L + 5, o5) :: R) h4 hI (by omega) (by omega) d2 d4 lnl ?_ (fr_look ⟨mn1, trivial⟩ F2) (News.sub' N2 (by walk_at "my sub")) ?_
  · walk_at "my off"
  intro sl zs o42 h3 tk3 hz d42 hsl F3 N3
  replace F3 := fr_unlook F3 ⟨mn1, trivial⟩
  clear F2 N2
  simp only [List.forall_mem_cons] at hsl
  repeat (with_reducible rename (_ ∧ _) => hx; obtain ⟨_, _⟩ := hx)
  dsimp only
  refine execs_step (l := hourBody) 3 ?_
  -- due
  refine hm3 w mean mg mb dp un gd a ccd outer A₀ base h₀ L m1 { s with heap := h3, toks := tk3 } _ E B X T hdp hun hL sl pl dl zs ps ds _ zs.length kd o1 o42 tl ((ol, W.listOf #[.int y0 v0, .int y1 v1, .int y2 v2, .int y3 v3] n2) :: (ml1, W.listOf ys1.toArray ys1.length) :: (cq2, oq2) :: (82, ot2) :: (L + 3, o32) :: (I, rgO rx ry) :: (L + 2, o2) :: (nl, W.listOf (List.toArray vs4) k) :: (wl, W.listOf (List.toArray ws) kw) :: (L + 5, o5) :: R) hT ?_ (by rw [List.length_map, h4]) hz (by rw [hd.1]; omega) d1 d42 ?_ ?_ ldl ?_ (fr_look ⟨mp1, trivial⟩ F3) (News.sub' N3 (by walk_at "my sub")) ?_
  · intro p hp
    exact .tail _ (.tail _ (.tail _ (.tail _ (.tail _ (.tail _ (.tail _ (.tail _ (.tail _ (.tail _ (htl p hp))))))))))
  · apply Ne.symm; assumption
  · apply Ne.symm; assumption
  · walk_at "my off"
  intro el es kd2 h4' tk4 hes hel F4 N4
  replace F4 := fr_unlook F4 ⟨mp1, trivial⟩
  clear F3 N3
  simp only [List.forall_mem_cons] at hel
  repeat (with_reducible rename (_ ∧ _) => hx; obtain ⟨_, _⟩ := hx)
  obtain ⟨pos, hOrd, hpos⟩ := order_plain _ _ _ _ y0 y1 y2 y3 v0 v1 v2 v3 hO
  rw [← sizes_eq h4 (i + 1) (by omega)] at hpos
  dsimp only
  refine execs_step (l := hourBody) 4 ?_
  -- ahead
  refine hm4 w mean mg mb dp un gd a ccd outer A₀ base h₀ L m1 { s with heap := h4', toks := tk4 } _ E B X T hdp hun hL ol pl [.int y0 v0, .int y1 v1, .int y2 v2, .int y3 v3] ps pos n2 o32 o5 c5 tl ((el, W.listOf es.toArray es.length) :: (sl, W.listOf zs.toArray zs.length) :: (L + 4, o42) :: (L + 1, o1) :: (dl, W.listOf (List.toArray (ds ++ [Value.ref el])) kd2) :: (ml1, W.listOf ys1.toArray ys1.length) :: (cq2, oq2) :: (82, ot2) :: (I, rgO rx ry) :: (L + 2, o2) :: (nl, W.listOf (List.toArray vs4) k) :: (wl, W.listOf (List.toArray ws) kw) :: R) hT ?_ hOrd d32 d5 ?_ ?_ ?_ (fr_look ⟨mp1, trivial⟩ F4) (News.sub' N4 (by walk_at "my sub")) ?_
  · intro p hp
    exact .tail _ (.tail _ (.tail _ (.tail _ (.tail _ (.tail _ (.tail _ (.tail _ (.tail _ (.tail _ (.tail _ (.tail _ (htl p hp))))))))))))
  · apply Ne.symm; assumption
  · assumption
  · walk_at "my off"
  intro al as o52 h5 tk5 has d52 hal F5 N5
  replace F5 := fr_unlook F5 ⟨mp1, trivial⟩
  clear F4 N4
  simp only [List.forall_mem_cons] at hal
  repeat (with_reducible rename (_ ∧ _) => hx; obtain ⟨_, _⟩ := hx)
  dsimp only
  refine execs_step (l := hourBody) 5 ?_
  -- if
  refine hm5 w mean mg mb dp un gd a ccd outer A₀ base h₀ L m1 { s with heap := h5, toks := tk5 } _ E B X T hdp hun hL al el dl as es ds (aheadB pos) _ as.length es.length kd2 o1 o52 ((pl, LCg.lst ps) :: (L + 3, o32) :: (L + 4, o42) :: (ml1, W.listOf ys1.toArray ys1.length) :: (cq2, oq2) :: (82, ot2) :: (I, rgO rx ry) :: (L + 2, o2) :: (nl, W.listOf (List.toArray vs4) k) :: (wl, W.listOf (List.toArray ws) kw) :: R) has hes hpos (by rw [hd.1]; omega) d1 d52 F5 (News.sub' N5 (by walk_at "my sub")) ?_
  intro h6 tk6 F6 N6
  clear F5 N5
  dsimp only [look] at F6
  replace has := bools_congr has (g := bitH ns4 i) hpos
  dsimp only
  refine execs_step (l := hourBody) 6 ?_
  -- words
  refine hm6 w mean mg mb dp un gd a ccd outer A₀ base h₀ L m1 { s with heap := h6, toks := tk6 } _ E B X T hdp hun hL al wl as ws (bitH ns4 i) as.length kw o52 ((el, W.listOf es.toArray es.length) :: (dl, W.listOf (List.toArray (ds ++ [Value.ref el])) kd2) :: (L + 1, o1) :: (pl, LCg.lst ps) :: (L + 3, o32) :: (L + 4, o42) :: (ml1, W.listOf ys1.toArray ys1.length) :: (cq2, oq2) :: (82, ot2) :: (I, rgO rx ry) :: (L + 2, o2) :: (nl, W.listOf (List.toArray vs4) k) :: R) has (by rw [hw.1]; omega) d52 ?_ ?_ ?_ (fr_look ⟨mw1, trivial⟩ F6) (News.sub' N6 (by walk_at "my sub")) ?_
  · apply Ne.symm; assumption
  · apply Ne.symm; assumption
  · walk_at "my off"
  intro kw2 tw h7 tk7 F7 N7
  replace F7 := fr_unlook F7 ⟨mw1, trivial⟩
  dsimp only
  refine wpAny_execs_nil ?_
  refine next m1 ml1 cq2 ys1 _ (ds ++ [Value.ref el]) kw2 kd2 o32 o42 o52 oq2 ot2 _ _ _ ((el, W.listOf es.toArray es.length) :: R) h7 tk7 (hw.snoc tw) (hd.snoc hes) hy1 hTab2 d32 d42 d52 ⟨mw1, mp1, mm1, mn1, trivial⟩ (fun p hp => .tail _ (htl p hp)) ?_ ?_ ?_ ?_ ?_ F7 (News.sub' N7 (by walk_at "my sub"))
  · walk_at "my code"
  · refine ⟨?_, ?_⟩
    · simp only [Apart, List.pairwise_cons]
      and_intros
      all_goals first | exact List.Pairwise.nil | (intro p hp; exact absurd hp List.not_mem_nil) | walk_at "my off"
    · walk_at "my off"
      all_goals (intro q hq; exact absurd hq List.not_mem_nil)
  · walk_at "my off"
  · apply Ne.symm; assumption
  · apply Ne.symm; assumption
end Mine
end
theorem Mine.resetPE2 : True := by
  w_top off
  exact True.intro
-- text PE2
section
open PySem PySem.W PyProof.Rows PySem.Spec PySem.Calls
set_option maxRecDepth 100000
set_option maxHeartbeats 8000000
namespace Mine
local macro_rules | `(tactic| walk_at "own PE2") => `(tactic| skip)
local macro_rules | `(tactic| walk_at "my sub") => `(tactic| ((repeat' (with_reducible refine List.forall_mem_cons.mpr ⟨?_, ?_⟩)); all_goals (first | (intro p hp; exact absurd hp List.not_mem_nil) | (intro p hp; (repeat (first | exact hp | apply List.Mem.tail)); done) | ((repeat (first | exact List.Mem.head _ | apply List.Mem.tail)); done))))
noncomputable def HourJ (L nl wl dl pl : Nat) (ns4 : List Int) (vs4 ps : List Value) (k : Nat) (o1 : Obj) (tl : List (Addr × Obj)) (i : Nat) (m : Str → Option Value) (nx : List (Addr × Obj)) : Prop :=
  ∃ (ml cq : Nat) (ys ws ds : List Value) (kw kd : Nat) (o3 o4 o5 oq ot : Obj) (c3 c4 c5 : Option Value) (R : List (Addr × Obj)),
    nx = (cq, oq) :: (ml, W.listOf ys.toArray ys.length) :: hourRest nl wl dl pl L vs4 ws ds ps k kw kd o1 o3 o4 o5 ot R ∧
    WordsAre ns4 i ws ∧ DueAre ns4 i ds R ∧ MailsAre i ns4 ys ∧ TabOk cq oq ot ∧ cellObj o3 c3 ∧ cellObj o4 c4 ∧ cellObj o5 c5 ∧ AllAt m (hourFr wl pl ml nl) ∧ (∀ p ∈ tl, p ∈ R) ∧ (∀ p ∈ R, NotCode p.2) ∧
    Apart2 (hourRest nl wl dl pl L vs4 ws ds ps k kw kd o1 o3 o4 o5 ot []) R ∧ (∀ p ∈ hourRest nl wl dl pl L vs4 ws ds ps k kw kd o1 o3 o4 o5 ot R, p.1 ≠ ml)
theorem app2_cons {x : Addr × Obj} {G R : List (Addr × Obj)} (h : Apart2 G R) (h1 : ∀ p ∈ G, p.1 ≠ x.1) (h2 : ∀ p ∈ R, p.1 ≠ x.1) : Apart2 (x :: G) R :=
  ⟨List.pairwise_cons.mpr ⟨fun p hp => Ne.symm (h1 p hp), h.1⟩, fun q hq p hp => by
    rcases List.mem_cons.mp hq with rfl | hq
    · exact Ne.symm (h2 p hp)
    · exact h.2 q hq p hp⟩
theorem app2_tail {x : Addr × Obj} {G R : List (Addr × Obj)} (h : Apart2 (x :: G) R) : Apart2 G R ∧ (∀ p ∈ G, p.1 ≠ x.1) ∧ (∀ p ∈ R, p.1 ≠ x.1) :=
  ⟨⟨(List.pairwise_cons.mp h.1).2, fun q hq => h.2 q (.tail _ hq)⟩, fun p hp => Ne.symm ((List.pairwise_cons.mp h.1).1 p hp), fun p hp => Ne.symm (h.2 x (.head _) p hp)⟩
theorem hr_split {P : Addr × Obj → Prop} {nl wl dl pl L : Nat} {vs4 ws ds ps : List Value} {k kw kd : Nat} {o1 o3 o4 o5 ot : Obj} {R : List (Addr × Obj)} :
    (∀ p ∈ hourRest nl wl dl pl L vs4 ws ds ps k kw kd o1 o3 o4 o5 ot R, P p) ↔ (∀ p ∈ hourRest nl wl dl pl L vs4 ws ds ps k kw kd o1 o3 o4 o5 ot [], P p) ∧ (∀ p ∈ R, P p) := by
  constructor
  · intro h
    exact ⟨fun p hp => h p (by revert p; walk_at "my sub"), fun p hp => h p (by revert p; walk_at "my sub")⟩
  · rintro ⟨h1, h2⟩ p hp
    rw [show hourRest nl wl dl pl L vs4 ws ds ps k kw kd o1 o3 o4 o5 ot R = hourRest nl wl dl pl L vs4 ws ds ps k kw kd o1 o3 o4 o5 ot [] ++ R from rfl] at hp
    rcases List.mem_append.mp hp with h | h
    · exact h1 p h
    · exact h2 p h
theorem pE (w : World) (mean : ExcName → Option Value) (mg mb : Str → Option Value)
   (dp un : Nat) (gd : Option (List Code)) (a : Addr) (ccd : Value) (outer : List Env) (A₀ : Around) (base h₀ : Heap) (L : Nat) (u : Str → Option Value) (s : Shared) (Q : Flow → Shared → Prop) (E : Value → Shared → Prop)
   (B : Below A₀ base outer h₀) (X : (hd.heap_39 w.params).In h₀) (T : Top topProg looL mean mg mb h₀)
   (hdp : dp + 20 < recursionLimit) (hun : un + 100 < cLine) (hL : 82 < L)
   (nl ml wl dl pl : Nat) (ns4 : List Int) (vs4 ys ps : List Value) (k : Nat) (o1 o2 o3 o4 o5 : Obj) (c2 c3 c4 c5 : Option Value) (tl : List (Addr × Obj))
   (hE : PassesOwn (model PySem.Challenge.rw_pg0137_01.row.prog w) (lawTop dp un gd L a ccd outer) (lawEnv L a ccd) E) (h4 : ns4.length = 4) (hI : IntsAre vs4 ns4) (lnl : L + 5 < nl) (ldl : L + 5 < dl) (hT : TupsOf tl ps (pairsTo 4)) (hNC : ∀ p ∈ tl, NotCode p.2) (hy : MailsAre 0 ns4 ys)
   (d1 : cellObj o1 (some (.ref dl))) (d2 : cellObj o2 c2) (d3 : cellObj o3 c3) (d4 : cellObj o4 c4) (d5 : cellObj o5 c5) (hAll : AllAt u (hourFr wl pl ml nl))
   (hAp : Apart2 (hourRest nl wl dl pl L vs4 [] [] ps k 0 0 o1 o3 o4 o5 (tabObj #[]) []) tl) (hml : ∀ p ∈ hourRest nl wl dl pl L vs4 [] [] ps k 0 0 o1 o3 o4 o5 (tabObj #[]) tl, p.1 ≠ ml)
   (hcc : ∀ p ∈ (ml, W.listOf ys.toArray ys.length) :: hourRest nl wl dl pl L vs4 [] [] ps k 0 0 o1 o3 o4 o5 (tabObj #[]) tl, p.1 ≠ L + 2)
   (F : Fr h₀ L s.heap u) (N : News h₀ L s.heap ((L + 2, o2) :: (ml, W.listOf ys.toArray ys.length) :: hourRest nl wl dl pl L vs4 [] [] ps k 0 0 o1 o3 o4 o5 (tabObj #[]) tl))
   (next : ∀ m' ws ds kw kd cq oq ot R h' tk, WordsAre ns4 4 ws → DueAre ns4 4 ds R → TabOk cq oq ot → m' (Str.ofString "words") = some (.ref wl) → Fr h₀ L h' m' →
     News h₀ L h' ((cq, oq) :: (wl, W.listOf (List.toArray ws) kw) :: (dl, W.listOf (List.toArray ds) kd) :: (L + 1, o1) :: (82, ot) :: R) → wpAny (model PySem.Challenge.rw_pg0137_01.row.prog w) (lawTop dp un gd L a ccd outer) (execs (dropS 6 lawBody) (lawEnv L a ccd)) Q E { s with heap := h', toks := tk }) :
   wpAny (model PySem.Challenge.rw_pg0137_01.row.prog w) (lawTop dp un gd L a ccd outer) (execs (dropS 5 lawBody) (lawEnv L a ccd)) Q E s := by
  revert X; k_fill; intro X
  conv => arg 3; arg 1; whnf
  obtain ⟨sc, hsc⟩ : ∃ sc, lawScope = sc := ⟨_, rfl⟩
  unfold lawTop lawEnv lawCells
  rw [hsc]
  conv at hsc => lhs; whnf
  subst hsc
  refine execs_seq ?_
  k_dflt (refine For_cell (h₀ := h₀) (L := L) (c := L + 2) (lo := 1) (hi := 5) (n := 4) (m₀ := u) (news := (82, tabObj #[]) :: (ml, W.listOf ys.toArray ys.length) :: hourRest nl wl dl pl L vs4 [] [] ps k 0 0 o1 o3 o4 o5 (tabObj #[]) tl) (o₀ := o2) (v₀ := c2) (HourJ L nl wl dl pl ns4 vs4 ps k o1 tl) (by rfl) (by with_unfolding_all rfl) (by with_unfolding_all rfl) (by rfl) (by decide) (by decide) (by decide) (by decide) ?it d2 ?off ?hj ?turn ?done (hE := hE))
  case it =>
    have N2 := News.sub' (l2 := (L + 2, o2) :: (82, tabObj #[]) :: (ml, W.listOf ys.toArray ys.length) :: hourRest nl wl dl pl L vs4 [] [] ps k 0 0 o1 o3 o4 o5 (tabObj #[]) tl) N (by walk_at "my sub")
    clear N
    k_steps
    all_goals assumption
  case off =>
    exact List.forall_mem_cons.mpr ⟨by show (82 : Nat) ≠ L + 2; omega, hcc⟩
  case hj =>
    exact ⟨ml, 82, ys, [], [], 0, 0, o3, o4, o5, tabObj #[], tabObj #[], c3, c4, c5, tl, rfl, ⟨rfl, fun h e => absurd e (Nat.not_lt_zero _)⟩, ⟨rfl, fun h e => absurd e (Nat.not_lt_zero _)⟩, hy, .inl ⟨rfl, rfl, rfl⟩, d3, d4, d5, hAll, fun p hp => hp, hNC, hAp, hml⟩
  case turn =>
    intro i t m1 news1 o' h tk I oI hin rI hJ hd' hcI offc offI F1 N1
    obtain ⟨ml1, cq, ys1, ws, ds, kw, kd, p3, p4, p5, oq, ot, v3, v4, v5, R, rfl, hw, hds, hy1, hTab, e3, e4, e5, hAll1, htl, hNC1, hAp1, hml1⟩ := hJ
    have e : (1 : Int) + (i : Int) = ((i + 1 : Nat) : Int) := by omega
    rw [e] at hd'
    obtain ⟨c1, c2', c3'⟩ : cq ≠ L + 2 ∧ ml1 ≠ L + 2 ∧ _ := ⟨(List.forall_mem_cons.mp offc).1, (List.forall_mem_cons.mp (List.forall_mem_cons.mp offc).2).1, (List.forall_mem_cons.mp (List.forall_mem_cons.mp offc).2).2⟩
    obtain ⟨i1, i2, i3⟩ : cq ≠ I ∧ ml1 ≠ I ∧ _ := ⟨(List.forall_mem_cons.mp offI).1, (List.forall_mem_cons.mp (List.forall_mem_cons.mp offI).2).1, (List.forall_mem_cons.mp (List.forall_mem_cons.mp offI).2).2⟩
    have hAp2 : Apart2 ((I, oI) :: (L + 2, o') :: hourRest nl wl dl pl L vs4 ws ds ps k kw kd o1 p3 p4 p5 ot []) R :=
      app2_cons (app2_cons hAp1 (hr_split.mp c3').1 (hr_split.mp c3').2) (List.forall_mem_cons.mpr ⟨hcI, (hr_split.mp i3).1⟩) (hr_split.mp i3).2
    refine hour_turn w mean mg mb dp un gd a ccd outer A₀ base h₀ L m1 { s with heap := h, toks := tk } _ E B X T hdp hun hL i I nl ml1 wl dl pl cq ns4 vs4 ys1 ws ds ps k kw kd o1 o' p3 p4 p5 oI oq ot v3 v4 v5 t tl R hin h4 hI lnl ldl hT htl hNC1 hw hds hy1 hTab d1 hd' e3 e4 e5 rI hAll1 hAp2 ?_ F1 (News.sub' N1 (by walk_at "my sub")) ?_
    · exact List.forall_mem_cons.mpr ⟨Ne.symm i2, List.forall_mem_cons.mpr ⟨Ne.symm c2', hml1⟩⟩
    · intro m' ml' cq' ys' ws' ds' kw' kd' o3' o4' o5' oq' ot' c3' c4' c5' R' h' tk' gw gd' gy gT g3 g4 g5 gA gtl gN gAp gml gcI gcc F' N'
      obtain ⟨gAp1, a1, a2⟩ := app2_tail gAp
      obtain ⟨gAp2, b1, b2⟩ := app2_tail gAp1
      have ml1 := (List.forall_mem_cons.mp gml).1
      have ml2 := (List.forall_mem_cons.mp (List.forall_mem_cons.mp gml).2).1
      have ml3 := (List.forall_mem_cons.mp (List.forall_mem_cons.mp gml).2).2
      show CgEnd _ _ _ _ _ _ _ _
      refine ⟨h', tk', m', _, o', _, rfl, F', News.sub' N' (by walk_at "my sub"), hd', ?_, ?_, ⟨ml', cq', ys', ws', ds', kw', kd', o3', o4', o5', oq', ot', c3', c4', c5', R', rfl, gw, gd', gy, gT, g3, g4, g5, gA, gtl, gN, gAp2, ml3⟩⟩
      · exact List.forall_mem_cons.mpr ⟨gcc, List.forall_mem_cons.mpr ⟨Ne.symm ml2, hr_split.mpr ⟨b1, b2⟩⟩⟩
      · exact List.forall_mem_cons.mpr ⟨gcI, List.forall_mem_cons.mpr ⟨Ne.symm ml1, hr_split.mpr ⟨(List.forall_mem_cons.mp a1).2, a2⟩⟩⟩
  case done =>
    intro m1 news1 o v h tk hJ hd' off F1 N1
    obtain ⟨ml1, cq, ys1, ws, ds, kw, kd, p3, p4, p5, oq, ot, v3, v4, v5, R, rfl, hw, hds, hy1, hTab, e3, e4, e5, hAll1, htl, hNC1, hAp1, hml1⟩ := hJ
    exact next m1 ws ds kw kd cq oq ot R h tk hw hds hTab hAll1.1 F1 (News.sub' N1 (by walk_at "my sub"))
end Mine
end
theorem Mine.resetC13 : True := by
  w_top off
  exact True.intro
-- text C13
section
open PySem PySem.W PyProof.Rows PySem.Spec PySem.Calls
set_option maxRecDepth 100000
namespace Mine
section
variable {prog : Program} {w : World} {A : Around} {E : Value → Shared → Prop} {s : Shared} {h₀ : Heap} {L D : Addr} {news : List (Addr × Obj)} {vs : List Value} {n : Nat} {k : Int} {u : Tok}
theorem bool_sub {f : Nat → Bool} {i : Nat} {value slice : PySem.Expr} {Q : Value → Shared → Prop} (N : News h₀ L s.heap news) (hm : (D, W.listOf vs.toArray n) ∈ news) (hb : BoolsAre f vs) (e : k = (i : Int)) (hi : i < 6) (h : Q (.bool (f i)) s)
    (hs : subscripted slice false (.ref D) (.int k u) = operate [.ref D, .int k u] (getItem (.ref D) (.int k u)) := by with_unfolding_all rfl) :
    wpAny (model prog w) A (subscriptTail value slice (.ref D) (.int k u)) Q E s := by
  subst e
  refine tail_any (PySem.IsL.isList (n := n) (N _ hm).1).typeIs slot_list_getitem.lookup (wpAny_getItem_list (PySem.IsL.isList (n := n) (N _ hm).1) (by omega) (by omega) (x := .bool (f i)) ?_ h) hs
  rw [Int.toNat_natCast]
  have := hb.2 i hi
  simpa using this
theorem three_lit {V : Nat → Tok → Value} {ys : List Value} (h : ys.length = 3) (hv : ∀ i, i < 3 → ∃ t, ys[i]? = some (V i t)) : ∃ t0 t1 t2, ys = [V 0 t0, V 1 t1, V 2 t2] := by
  obtain ⟨t0, h0⟩ := hv 0 (by decide)
  obtain ⟨t1, h1⟩ := hv 1 (by decide)
  obtain ⟨t2, h2⟩ := hv 2 (by decide)
  refine ⟨t0, t1, t2, ?_⟩
  apply List.ext_getElem?
  intro i
  by_cases hi : i < 3
  · rcases (show i = 0 ∨ i = 1 ∨ i = 2 by omega) with rfl | rfl | rfl
    · rw [h0]; rfl
    · rw [h1]; rfl
    · rw [h2]; rfl
  · rw [List.getElem?_eq_none (by rw [h]; omega), List.getElem?_eq_none (by simp; omega)]
theorem cnt_len {ys : List Value} {b : Nat → Bool} (h : (ys.length : Int) = cntB b 6) : ys.length ≤ 6 := by
  have := (hcnt_nonneg (c := fun i => if b i then 1 else 0) (fun k => by split <;> decide) 6).2
  unfold cntB at h
  omega
theorem len_lst {ys : List Value} {z : Int} {Q : Value → Shared → Prop} (N : News h₀ L s.heap news) (hm : (D, LCg.lst ys) ∈ news) (h6 : ys.length ≤ 6) (e : (ys.length : Int) = z) (h : Q (.int z (s.toks + 1)) { s with toks := s.toks + 1 + 1 }) :
    wpAny (model prog w) A (call (.builtin "len") [.ref D]) Q E s := by
  subst e
  refine PyProof.Rows.len_list (items := ys.toArray) (PySem.IsL.isList (n := ys.length) (N _ hm).1) ?_ ?_
  · rw [List.size_toArray]; omega
  · rw [List.size_toArray]; exact h
end
end Mine
end
theorem Mine.resetPF : True := by
  w_top off
  exact True.intro
-- text PF
section
open PySem PySem.W PyProof.Rows PySem.Spec PySem.Calls
set_option maxRecDepth 100000
set_option maxHeartbeats 8000000
namespace Mine
local macro_rules | `(tactic| walk_at "CompSrcT") => `(tactic| (refine Hold.mk ?_))
local macro_rules | `(tactic| walk_at "subscriptTail") => `(tactic| (k_here; (with_reducible show wpAny _ _ (subscriptTail _ _ (Value.ref _) (Value.int _ _)) _ _ _); k_dflt (refine' bool_sub ?k1 ?k2 ?k3 ?k4 ?k5 ?_; (case k1 => k_asm); (case k2 => k_mem); (case k3 => assumption); (case k4 => exact Int.zero_add _); (case k5 => assumption)); (try dsimp only)))
local macro_rules | `(tactic| walk_at "eval ListComp") => `(tactic| (k_here; k_dflt (refine LCt.ListComp_T (F₀ := by k_asm) (by with_unfolding_all rfl) (by decide) (by rfl) (by decide) (by rfl) ?_); k_dflt lct_toSrc))
local macro_rules | `(tactic| walk_at "call builtin:len") => `(tactic| (refine Hold.mk ?_))
theorem pF (w : World) (mean : ExcName → Option Value) (mg mb : Str → Option Value)
   (dp un : Nat) (gd : Option (List Code)) (a : Addr) (ccd : Value) (outer : List Env) (A₀ : Around) (base h₀ : Heap) (L : Nat) (u : Str → Option Value) (s : Shared) (Q : Flow → Shared → Prop) (E : Value → Shared → Prop)
   (B : Below A₀ base outer h₀) (X : (hd.heap_39 w.params).In h₀) (T : Top topProg looL mean mg mb h₀)
   (hdp : dp + 20 < recursionLimit) (hun : un + 100 < cLine) (hL : 82 < L)
   (dl e0 e1 e2 e3 : Nat) (ns4 : List Int) (x0 x1 x2 x3 : List Value) (q0 q1 q2 q3 kd : Nat) (o1 : Obj) (rs : List (Addr × Obj)) (d1 : cellObj o1 (some (.ref dl)))
   (hb0 : BoolsAre (bitH ns4 0) x0) (hb1 : BoolsAre (bitH ns4 1) x1) (hb2 : BoolsAre (bitH ns4 2) x2) (hb3 : BoolsAre (bitH ns4 3) x3)
   (F : Fr h₀ L s.heap (look [] u)) (N : News h₀ L s.heap ((dl, W.listOf #[.ref e0, .ref e1, .ref e2, .ref e3] kd) :: (e0, W.listOf (List.toArray x0) q0) :: (e1, W.listOf (List.toArray x1) q1) :: (e2, W.listOf (List.toArray x2) q2) :: (e3, W.listOf (List.toArray x3) q3) :: (L + 1, o1) :: rs))
   (next : ∀ (D : Nat) t0 t1 t2 k' h' tk, Fr h₀ L h' (fun z => if z = Str.ofString "changed" then some (.ref D) else u z) → News h₀ L h' ((D, W.listOf #[.int (chg ns4 0 1) t0, .int (chg ns4 1 2) t1, .int (chg ns4 2 3) t2] k') :: (dl, W.listOf #[.ref e0, .ref e1, .ref e2, .ref e3] kd) :: (e0, W.listOf (List.toArray x0) q0) :: (e1, W.listOf (List.toArray x1) q1) :: (e2, W.listOf (List.toArray x2) q2) :: (e3, W.listOf (List.toArray x3) q3) :: (L + 1, o1) :: rs) → wpAny (model PySem.Challenge.rw_pg0137_01.row.prog w) (lawTop dp un gd L a ccd outer) (execs (dropS 7 lawBody) (lawEnv L a ccd)) Q E { s with heap := h', toks := tk }) :
   wpAny (model PySem.Challenge.rw_pg0137_01.row.prog w) (lawTop dp un gd L a ccd outer) (execs (dropS 6 lawBody) (lawEnv L a ccd)) Q E s := by
  revert X; k_fill; intro X
  dsimp only [look] at F
  conv => arg 3; arg 1; whnf
  obtain ⟨sc, hsc⟩ : ∃ sc, lawScope = sc := ⟨_, rfl⟩
  unfold lawTop lawEnv lawCells
  rw [hsc]
  conv at hsc => lhs; whnf
  subst hsc
  refine execs_seq ?_
  k_dflt (refine Assign_cellcomp (L := L) (news := (dl, W.listOf #[.ref e0, .ref e1, .ref e2, .ref e3] kd) :: (e0, W.listOf (List.toArray x0) q0) :: (e1, W.listOf (List.toArray x1) q1) :: (e2, W.listOf (List.toArray x2) q2) :: (e3, W.listOf (List.toArray x3) q3) :: (L + 1, o1) :: rs) (n := 3) (fun i t => .int (chg ns4 i (i + 1)) t) F (by rfl) (by with_unfolding_all rfl) (by with_unfolding_all rfl) (by rfl) (by decide) (by intros; rfl) (by intros; rfl) (by intros; rfl) (by rfl) (by rfl) (by rfl) (by decide) ?it1 ?turn ?fin)
  case it1 =>
    k_steps
    all_goals assumption
  case turn =>
    intro i t c oc C oC I oI D oD m2 h tk E' hin hdc hC F1 N1
    rcases (show i = 0 ∨ i = 1 ∨ i = 2 by omega) with rfl | rfl | rfl
    · k_steps
      refine Hold.of ?_
      (rename IsRange _ _ _ _ _ _ _ _ => R9)
      (with_reducible rename Fr _ _ _ _ => F9)
      (with_reducible rename News _ _ _ _ => N9)
      refine LCt.CompSrcT.range (n := 6) (by rfl) F9 N9 R9 (by decide) (by decide) (by decide) ?_
      intro g
      refine comp_filt (fun k => bitH ns4 0 k != bitH ns4 1 k) trivial ?test ?elem ?fin2
      case test =>
        intro k v I2 oI2 C2 oC2 D2 oD2 m3 h3 tk3 E3 hk hP hC2 hx2 F2 N2
        obtain ⟨t2, rfl⟩ := hP
        k_steps
        exact ⟨_, _, rfl, by k_asm, by k_asm⟩
      case elem =>
        intro k v I2 oI2 C2 oC2 D2 oD2 m3 h3 tk3 E3 hk hP hC2 hx2 F2 N2
        obtain ⟨t2, rfl⟩ := hP
        k_steps
        exact ⟨_, _, rfl, by k_asm, by k_asm⟩
      case fin2 =>
        intro ys hys
        intro D5 h5 tk5 F5 N5 o5
        have h56 := cnt_len hys
        (try dsimp only)
        k_steps
        refine Hold.of ?_
        k_dflt (refine len_lst N5 (.head _) h56 hys ?_)
        k_steps
        exact MapPost.intro rfl (by k_asm) (fun p hp => N5 p (.tail _ hp))
    · k_steps
      refine Hold.of ?_
      (rename IsRange _ _ _ _ _ _ _ _ => R9)
      (with_reducible rename Fr _ _ _ _ => F9)
      (with_reducible rename News _ _ _ _ => N9)
      refine LCt.CompSrcT.range (n := 6) (by rfl) F9 N9 R9 (by decide) (by decide) (by decide) ?_
      intro g
      refine comp_filt (fun k => bitH ns4 1 k != bitH ns4 2 k) trivial ?test ?elem ?fin2
      case test =>
        intro k v I2 oI2 C2 oC2 D2 oD2 m3 h3 tk3 E3 hk hP hC2 hx2 F2 N2
        obtain ⟨t2, rfl⟩ := hP
        k_steps
        exact ⟨_, _, rfl, by k_asm, by k_asm⟩
      case elem =>
        intro k v I2 oI2 C2 oC2 D2 oD2 m3 h3 tk3 E3 hk hP hC2 hx2 F2 N2
        obtain ⟨t2, rfl⟩ := hP
        k_steps
        exact ⟨_, _, rfl, by k_asm, by k_asm⟩
      case fin2 =>
        intro ys hys
        intro D5 h5 tk5 F5 N5 o5
        have h56 := cnt_len hys
        (try dsimp only)
        k_steps
        refine Hold.of ?_
        k_dflt (refine len_lst N5 (.head _) h56 hys ?_)
        k_steps
        exact MapPost.intro rfl (by k_asm) (fun p hp => N5 p (.tail _ hp))
    · k_steps
      refine Hold.of ?_
      (rename IsRange _ _ _ _ _ _ _ _ => R9)
      (with_reducible rename Fr _ _ _ _ => F9)
      (with_reducible rename News _ _ _ _ => N9)
      refine LCt.CompSrcT.range (n := 6) (by rfl) F9 N9 R9 (by decide) (by decide) (by decide) ?_
      intro g
      refine comp_filt (fun k => bitH ns4 2 k != bitH ns4 3 k) trivial ?test ?elem ?fin2
      case test =>
        intro k v I2 oI2 C2 oC2 D2 oD2 m3 h3 tk3 E3 hk hP hC2 hx2 F2 N2
        obtain ⟨t2, rfl⟩ := hP
        k_steps
        exact ⟨_, _, rfl, by k_asm, by k_asm⟩
      case elem =>
        intro k v I2 oI2 C2 oC2 D2 oD2 m3 h3 tk3 E3 hk hP hC2 hx2 F2 N2
        obtain ⟨t2, rfl⟩ := hP
        k_steps
        exact ⟨_, _, rfl, by k_asm, by k_asm⟩
      case fin2 =>
        intro ys hys
        intro D5 h5 tk5 F5 N5 o5
        have h56 := cnt_len hys
        (try dsimp only)
        k_steps
        refine Hold.of ?_
        k_dflt (refine len_lst N5 (.head _) h56 hys ?_)
        k_steps
        exact MapPost.intro rfl (by k_asm) (fun p hp => N5 p (.tail _ hp))
  case fin =>
    intro D h' tk ys hl hv F' N' off
    obtain ⟨t0, t1, t2, rfl⟩ := three_lit (V := fun i t => .int (chg ns4 i (i + 1)) t) hl hv
    exact next D t0 t1 t2 3 h' tk F' N'
end Mine
end
theorem Mine.resetPG : True := by
  w_top off
  exact True.intro
-- text PG
section
open PySem PySem.W PyProof.Rows PySem.Spec PySem.Calls
set_option maxRecDepth 100000
set_option maxHeartbeats 8000000
namespace Mine
theorem str_sub {prog : Program} {w : World} {A : Around} {E : Value → Shared → Prop} {s : Shared} {h₀ : Heap} {L D : Addr} {news : List (Addr × Obj)} {vs : List Value} {n : Nat} {u : Tok} {x : Nat → Str} {i : Nat} {value slice : PySem.Expr} {Q : Value → Shared → Prop} (N : News h₀ L s.heap news) (hm : (D, W.listOf vs.toArray n) ∈ news) (hv : ∀ h, h < 4 → ∃ t, vs[h]? = some (.str (x h) t)) (hi : i < 4) (h : ∀ t, Q (.str (x i) t) s)
    (hs : subscripted slice false (.ref D) (.int (i : Int) u) = operate [.ref D, .int (i : Int) u] (getItem (.ref D) (.int (i : Int) u)) := by with_unfolding_all rfl) :
    wpAny (model prog w) A (subscriptTail value slice (.ref D) (.int (i : Int) u)) Q E s := by
  obtain ⟨t, ht⟩ := hv i hi
  refine tail_any (PySem.IsL.isList (n := n) (N _ hm).1).typeIs slot_list_getitem.lookup (wpAny_getItem_list (PySem.IsL.isList (n := n) (N _ hm).1) (by omega) (by omega) (x := .str (x i) t) ?_ (h t)) hs
  rw [Int.toNat_natCast]
  simpa using ht
local macro_rules | `(tactic| walk_at "pyIter ref") => `(tactic| (refine Hold.mk ?_))
local macro_rules | `(tactic| k_all) => `(tactic| assumption)
local macro_rules | `(tactic| walk_at "call builtin:sum") => `(tactic| (refine Hold.mk ?_))
local macro_rules | `(tactic| walk_at "subscriptTail") => `(tactic| (refine Hold.mk ?_))
local macro_rules | `(tactic| walk_at "subscriptTail Name Name ref int") => `(tactic| (refine Hold.mk ?_))
local macro_rules | `(tactic| walk_at "subscriptTail Name Slice ref ref") => `(tactic| (refine Hold.mk ?_))
local macro_rules | `(tactic| walk_at "call ref") => `(tactic| (refine Hold.mk ?_))
noncomputable def ifBody : List Stmt := match dropS 7 lawBody with | .For _ _ [.For _ _ b _ _] _ _ :: _ => b | _ => []
theorem pGb (w : World) (mean : ExcName → Option Value) (mg mb : Str → Option Value)
   (dp un : Nat) (gd : Option (List Code)) (a : Addr) (ccd : Value) (outer : List Env) (A₀ : Around) (base h₀ : Heap) (L : Nat) (u : Str → Option Value) (s : Shared) (Q : Flow → Shared → Prop) (E : Value → Shared → Prop)
   (B : Below A₀ base outer h₀) (X : (hd.heap_39 w.params).In h₀) (T : Top topProg looL mean mg mb h₀)
   (hdp : dp + 20 < recursionLimit) (hun : un + 100 < cLine) (hL : 82 < L)
   (cl wl : Nat) (x : Nat → Str) (wv cv : List Value) (cs' : List Int) (kc kw : Nat) (R : List (Addr × Obj))
   (hwv : ∀ h, h < 4 → ∃ t, wv[h]? = some (.str (x h) t)) (hx : ∀ h, (x h).length = 6) (hw : ∀ a b, WordsOk (x a) (x b)) (hcv : IntsAre cv cs') (hc3 : cs'.length = 3)
   (hlaw : ∀ i j : Nat, j < i → i < 4 → hamm (x j) (x i) = ((cs'.drop (j : Int).toNat).take (min (i : Int).toNat cs'.length - (j : Int).toNat)).sum)
   (i j I I2 : Nat) (o o2 : Obj) (ti tj : Tok) (hj : j < i) (hi : i < 4)
   (F : Fr h₀ L s.heap (look [(Str.ofString "first", .int ((j : Nat) : Int) tj), (Str.ofString "last", .int ((i : Nat) : Int) ti), (Str.ofString "words", .ref wl), (Str.ofString "changed", .ref cl)] u)) (N : News h₀ L s.heap ((I2, o2) :: (I, o) :: (cl, W.listOf (List.toArray cv) kc) :: (wl, W.listOf (List.toArray wv) kw) :: R))
   (next : ∀ h' tk, Fr h₀ L h' (look [(Str.ofString "first", .int ((j : Nat) : Int) tj), (Str.ofString "last", .int ((i : Nat) : Int) ti), (Str.ofString "words", .ref wl), (Str.ofString "changed", .ref cl)] u) → News h₀ L h' ((I2, o2) :: (I, o) :: (cl, W.listOf (List.toArray cv) kc) :: (wl, W.listOf (List.toArray wv) kw) :: R) → Q .next { s with heap := h', toks := tk }) :
   wpAny (model PySem.Challenge.rw_pg0137_01.row.prog w) (lawTop dp un gd L a ccd outer) (execs (ifBody) (lawEnv L a ccd)) Q E s := by
  revert X; k_fill; intro X
  dsimp only [look] at F
  conv => arg 3; arg 1; whnf
  obtain ⟨sc, hsc⟩ : ∃ sc, lawScope = sc := ⟨_, rfl⟩
  unfold lawTop lawEnv lawCells
  rw [hsc]
  conv at hsc => lhs; whnf
  subst hsc
  k_steps
  refine Hold.of ?_
  k_dflt (refine str_sub N (.tail _ (.tail _ (.tail _ (.head _)))) hwv (Nat.lt_trans hj hi) ?_)
  intro tA
  k_steps
  refine Hold.of ?_
  k_dflt (refine str_sub N (.tail _ (.tail _ (.tail _ (.head _)))) hwv hi ?_)
  intro tB
  k_steps
  refine Hold.of ?_
  k_dflt (refine' c_lev w mean mg mb (x j) (x i) _ _ _ ((I2, o2) :: (I, o) :: (cl, W.listOf (List.toArray cv) kc) :: (wl, W.listOf (List.toArray wv) kw) :: R) (hx j) (hx i) (hw j i) _ _ _ _ _ _ _ _ _ _ _ _ _ _ _ _ _ ?kB F X N T ?hck ?hdp ?hun ?hret)
  case kB => k_asm
  case hck => exact rfl
  case hdp => omega
  case hun => omega
  clear F N
  intro t' h' tk' F' N'
  rw [hlaw i j hj hi]
  (try dsimp only)
  k_steps
  refine Hold.of ?_
  k_dflt (refine' kmk_slice_ints (ns := cs') F' N' ?sl ?sp ?sq hcv (kmk_run hcv (Int.natCast_nonneg _) (Int.natCast_nonneg _)) rfl ?_ ?ss ?st ?sz)
  case sl => exact News.isList N' (.tail _ (.tail _ (.head _)))
  case sp => exact IsPart.int _ _
  case sq => exact IsPart.int _ _
  case ss => with_unfolding_all rfl
  case st => kmk_pure
  case sz => rw [List.size_toArray, hcv.length, hc3]; exact Nat.le_of_ble_eq_true rfl
  clear F' N'
  intro D' ws' h' F' N' lD' hI' _ _
  (try dsimp only)
  k_steps
  refine Hold.of ?_
  k_dflt (refine' sumK ?uh F' N' ?ul hI' ?_)
  case uh => exact rfl
  case ul => exact News.isList N' (.head _)
  clear F' N'
  intro h' tk' t' F' N'
  (try dsimp only)
  k_steps
  all_goals first
    | exact absurd rfl (by assumption)
    | ((with_reducible rename Fr _ _ _ _ => F'); (with_reducible rename News _ _ _ _ => N'); exact next _ _ F' (fun p hp => N' p (.tail _ hp)))
theorem pG (w : World) (mean : ExcName → Option Value) (mg mb : Str → Option Value)
   (dp un : Nat) (gd : Option (List Code)) (a : Addr) (ccd : Value) (outer : List Env) (A₀ : Around) (base h₀ : Heap) (L : Nat) (u : Str → Option Value) (s : Shared) (Q : Flow → Shared → Prop) (E : Value → Shared → Prop)
   (B : Below A₀ base outer h₀) (X : (hd.heap_39 w.params).In h₀) (T : Top topProg looL mean mg mb h₀)
   (hdp : dp + 20 < recursionLimit) (hun : un + 100 < cLine) (hL : 82 < L)
   (cl wl : Nat) (x : Nat → Str) (wv cv : List Value) (cs' : List Int) (kc kw : Nat) (R : List (Addr × Obj))
   (hwv : ∀ h, h < 4 → ∃ t, wv[h]? = some (.str (x h) t)) (hx : ∀ h, (x h).length = 6) (hw : ∀ a b, WordsOk (x a) (x b)) (hcv : IntsAre cv cs') (hc3 : cs'.length = 3)
   (hlaw : ∀ i j : Nat, j < i → i < 4 → hamm (x j) (x i) = ((cs'.drop (j : Int).toNat).take (min (i : Int).toNat cs'.length - (j : Int).toNat)).sum)
   (hE : PassesOwn (model PySem.Challenge.rw_pg0137_01.row.prog w) (lawTop dp un gd L a ccd outer) (lawEnv L a ccd) E)
   (F : Fr h₀ L s.heap (look [(Str.ofString "words", .ref wl), (Str.ofString "changed", .ref cl)] u)) (N : News h₀ L s.heap ((cl, W.listOf (List.toArray cv) kc) :: (wl, W.listOf (List.toArray wv) kw) :: R))
   (next : ∀ m' h' tk, Fr h₀ L h' m' → News h₀ L h' ((cl, W.listOf (List.toArray cv) kc) :: (wl, W.listOf (List.toArray wv) kw) :: R) → Q (.ret (.bool true)) { s with heap := h', toks := tk }) :
   wpAny (model PySem.Challenge.rw_pg0137_01.row.prog w) (lawTop dp un gd L a ccd outer) (execs (dropS 7 lawBody) (lawEnv L a ccd)) Q E s := by
  revert X; k_fill; intro X
  dsimp only [look] at F
  conv => arg 3; arg 1; whnf
  obtain ⟨sc, hsc⟩ : ∃ sc, lawScope = sc := ⟨_, rfl⟩
  unfold lawTop lawEnv lawCells
  rw [hsc]
  conv at hsc => lhs; whnf
  subst hsc
  k_steps
  refine Hold.of ?_
  (rename IsRange _ _ _ _ _ _ _ _ => R')
  (with_reducible rename Fr _ _ _ _ => F')
  (with_reducible rename News _ _ _ _ => N')
  refine iter_range (n := 4) (fun _ m nx => (∃ u', m = look [(Str.ofString "words", .ref wl), (Str.ofString "changed", .ref cl)] u') ∧ nx = (cl, W.listOf (List.toArray cv) kc) :: (wl, W.listOf (List.toArray wv) kw) :: R) ?oh R' rfl (by omega) F' N' ?oj ?oturn ?odone
  case oh => rfl
  case oj => exact ⟨⟨_, funext (look_keep _ ⟨rfl, rfl, trivial⟩)⟩, rfl⟩
  case oturn =>
    intro i ti m1 nx1 h' tk' I o hin hadr hlt hJ F' N'
    obtain ⟨⟨u', rfl⟩, rfl⟩ := hJ
    clear hadr
    rcases (show i = 0 ∨ i = 1 ∨ i = 2 ∨ i = 3 by omega) with rfl | rfl | rfl | rfl
    · have F3 : Fr h₀ L h' (look [(Str.ofString "last", .int 0 ti), (Str.ofString "words", .ref wl), (Str.ofString "changed", .ref cl)] u') := F'
      have N3 : News h₀ L h' ((I, o) :: (cl, W.listOf (List.toArray cv) kc) :: (wl, W.listOf (List.toArray wv) kw) :: R) := N'
      clear F' N'
      dsimp only [look] at F3
      k_steps
      refine Hold.of ?_
      (rename IsRange _ _ _ _ _ _ _ _ => R2)
      (with_reducible rename Fr _ _ _ _ => F2)
      (with_reducible rename News _ _ _ _ => N2)
      refine iter_range (n := 0) (fun _ m nx => (∃ u', m = look [(Str.ofString "last", .int ((0 : Nat) : Int) ti), (Str.ofString "words", .ref wl), (Str.ofString "changed", .ref cl)] u') ∧ nx = (I, o) :: (cl, W.listOf (List.toArray cv) kc) :: (wl, W.listOf (List.toArray wv) kw) :: R) ?ih R2 rfl (by omega) F2 N2 ?ij ?iturn ?idone
      case ih => rfl
      case ij => exact ⟨⟨_, funext (look_keep _ ⟨rfl, rfl, rfl, trivial⟩)⟩, rfl⟩
      case iturn =>
        intro j tj m2 nx2 h' tk' I2 o2 hjn hadr2 hlt2 hJ F' N'
        obtain ⟨⟨u2, rfl⟩, rfl⟩ := hJ
        clear hadr2
        refine pGb w mean mg mb dp un gd a ccd outer A₀ base h₀ L u2 _ _ E B X T hdp hun hL cl wl x wv cv cs' kc kw R hwv hx hw hcv hc3 hlaw 0 j I I2 o o2 ti tj hjn (by decide) F' N' ?_
        intro h' tk F9 N9
        exact RgEnd.intro F9 (fun p hp => N9 p (.tail _ hp)) (fun p hp => N9 p (by rcases List.mem_cons.mp hp with rfl | hp; exact .head _; cases hp)) ⟨⟨_, funext (look_keep _ ⟨rfl, rfl, rfl, trivial⟩)⟩, rfl⟩ rfl
      case idone =>
        intro m2 nx2 h' tk' hJ F' N'
        obtain ⟨⟨u2, rfl⟩, rfl⟩ := hJ
        have F3 : Fr h₀ L h' (look [(Str.ofString "last", .int 0 ti), (Str.ofString "words", .ref wl), (Str.ofString "changed", .ref cl)] u2) := F'
        have N3 : News h₀ L h' ((I, o) :: (cl, W.listOf (List.toArray cv) kc) :: (wl, W.listOf (List.toArray wv) kw) :: R) := N'
        clear F' N'
        dsimp only [look] at F3
        k_steps
        (with_reducible rename Fr _ _ _ _ => F9)
        (with_reducible rename News _ _ _ _ => N9)
        exact RgEnd.intro F9 (fun p hp => N9 p (.tail _ hp)) (fun p hp => N9 p (by rcases List.mem_cons.mp hp with rfl | hp; exact .head _; cases hp)) ⟨⟨_, funext (look_keep _ ⟨rfl, rfl, trivial⟩)⟩, rfl⟩ rfl
    · have F3 : Fr h₀ L h' (look [(Str.ofString "last", .int 1 ti), (Str.ofString "words", .ref wl), (Str.ofString "changed", .ref cl)] u') := F'
      have N3 : News h₀ L h' ((I, o) :: (cl, W.listOf (List.toArray cv) kc) :: (wl, W.listOf (List.toArray wv) kw) :: R) := N'
      clear F' N'
      dsimp only [look] at F3
      k_steps
      refine Hold.of ?_
      (rename IsRange _ _ _ _ _ _ _ _ => R2)
      (with_reducible rename Fr _ _ _ _ => F2)
      (with_reducible rename News _ _ _ _ => N2)
      refine iter_range (n := 1) (fun _ m nx => (∃ u', m = look [(Str.ofString "last", .int ((1 : Nat) : Int) ti), (Str.ofString "words", .ref wl), (Str.ofString "changed", .ref cl)] u') ∧ nx = (I, o) :: (cl, W.listOf (List.toArray cv) kc) :: (wl, W.listOf (List.toArray wv) kw) :: R) ?ih R2 rfl (by omega) F2 N2 ?ij ?iturn ?idone
      case ih => rfl
      case ij => exact ⟨⟨_, funext (look_keep _ ⟨rfl, rfl, rfl, trivial⟩)⟩, rfl⟩
      case iturn =>
        intro j tj m2 nx2 h' tk' I2 o2 hjn hadr2 hlt2 hJ F' N'
        obtain ⟨⟨u2, rfl⟩, rfl⟩ := hJ
        clear hadr2
        refine pGb w mean mg mb dp un gd a ccd outer A₀ base h₀ L u2 _ _ E B X T hdp hun hL cl wl x wv cv cs' kc kw R hwv hx hw hcv hc3 hlaw 1 j I I2 o o2 ti tj hjn (by decide) F' N' ?_
        intro h' tk F9 N9
        exact RgEnd.intro F9 (fun p hp => N9 p (.tail _ hp)) (fun p hp => N9 p (by rcases List.mem_cons.mp hp with rfl | hp; exact .head _; cases hp)) ⟨⟨_, funext (look_keep _ ⟨rfl, rfl, rfl, trivial⟩)⟩, rfl⟩ rfl
      case idone =>
        intro m2 nx2 h' tk' hJ F' N'
        obtain ⟨⟨u2, rfl⟩, rfl⟩ := hJ
        have F3 : Fr h₀ L h' (look [(Str.ofString "last", .int 1 ti), (Str.ofString "words", .ref wl), (Str.ofString "changed", .ref cl)] u2) := F'
        have N3 : News h₀ L h' ((I, o) :: (cl, W.listOf (List.toArray cv) kc) :: (wl, W.listOf (List.toArray wv) kw) :: R) := N'
        clear F' N'
        dsimp only [look] at F3
        k_steps
        (with_reducible rename Fr _ _ _ _ => F9)
        (with_reducible rename News _ _ _ _ => N9)
        exact RgEnd.intro F9 (fun p hp => N9 p (.tail _ hp)) (fun p hp => N9 p (by rcases List.mem_cons.mp hp with rfl | hp; exact .head _; cases hp)) ⟨⟨_, funext (look_keep _ ⟨rfl, rfl, trivial⟩)⟩, rfl⟩ rfl
    · have F3 : Fr h₀ L h' (look [(Str.ofString "last", .int 2 ti), (Str.ofString "words", .ref wl), (Str.ofString "changed", .ref cl)] u') := F'
      have N3 : News h₀ L h' ((I, o) :: (cl, W.listOf (List.toArray cv) kc) :: (wl, W.listOf (List.toArray wv) kw) :: R) := N'
      clear F' N'
      dsimp only [look] at F3
      k_steps
      refine Hold.of ?_
      (rename IsRange _ _ _ _ _ _ _ _ => R2)
      (with_reducible rename Fr _ _ _ _ => F2)
      (with_reducible rename News _ _ _ _ => N2)
      refine iter_range (n := 2) (fun _ m nx => (∃ u', m = look [(Str.ofString "last", .int ((2 : Nat) : Int) ti), (Str.ofString "words", .ref wl), (Str.ofString "changed", .ref cl)] u') ∧ nx = (I, o) :: (cl, W.listOf (List.toArray cv) kc) :: (wl, W.listOf (List.toArray wv) kw) :: R) ?ih R2 rfl (by omega) F2 N2 ?ij ?iturn ?idone
      case ih => rfl
      case ij => exact ⟨⟨_, funext (look_keep _ ⟨rfl, rfl, rfl, trivial⟩)⟩, rfl⟩
      case iturn =>
        intro j tj m2 nx2 h' tk' I2 o2 hjn hadr2 hlt2 hJ F' N'
        obtain ⟨⟨u2, rfl⟩, rfl⟩ := hJ
        clear hadr2
        refine pGb w mean mg mb dp un gd a ccd outer A₀ base h₀ L u2 _ _ E B X T hdp hun hL cl wl x wv cv cs' kc kw R hwv hx hw hcv hc3 hlaw 2 j I I2 o o2 ti tj hjn (by decide) F' N' ?_
        intro h' tk F9 N9
        exact RgEnd.intro F9 (fun p hp => N9 p (.tail _ hp)) (fun p hp => N9 p (by rcases List.mem_cons.mp hp with rfl | hp; exact .head _; cases hp)) ⟨⟨_, funext (look_keep _ ⟨rfl, rfl, rfl, trivial⟩)⟩, rfl⟩ rfl
      case idone =>
        intro m2 nx2 h' tk' hJ F' N'
        obtain ⟨⟨u2, rfl⟩, rfl⟩ := hJ
        have F3 : Fr h₀ L h' (look [(Str.ofString "last", .int 2 ti), (Str.ofString "words", .ref wl), (Str.ofString "changed", .ref cl)] u2) := F'
        have N3 : News h₀ L h' ((I, o) :: (cl, W.listOf (List.toArray cv) kc) :: (wl, W.listOf (List.toArray wv) kw) :: R) := N'
        clear F' N'
        dsimp only [look] at F3
        k_steps
        (with_reducible rename Fr _ _ _ _ => F9)
        (with_reducible rename News _ _ _ _ => N9)
        exact RgEnd.intro F9 (fun p hp => N9 p (.tail _ hp)) (fun p hp => N9 p (by rcases List.mem_cons.mp hp with rfl | hp; exact .head _; cases hp)) ⟨⟨_, funext (look_keep _ ⟨rfl, rfl, trivial⟩)⟩, rfl⟩ rfl
    · have F3 : Fr h₀ L h' (look [(Str.ofString "last", .int 3 ti), (Str.ofString "words", .ref wl), (Str.ofString "changed", .ref cl)] u') := F'
      have N3 : News h₀ L h' ((I, o) :: (cl, W.listOf (List.toArray cv) kc) :: (wl, W.listOf (List.toArray wv) kw) :: R) := N'
      clear F' N'
      dsimp only [look] at F3
      k_steps
      refine Hold.of ?_
      (rename IsRange _ _ _ _ _ _ _ _ => R2)
      (with_reducible rename Fr _ _ _ _ => F2)
      (with_reducible rename News _ _ _ _ => N2)
      refine iter_range (n := 3) (fun _ m nx => (∃ u', m = look [(Str.ofString "last", .int ((3 : Nat) : Int) ti), (Str.ofString "words", .ref wl), (Str.ofString "changed", .ref cl)] u') ∧ nx = (I, o) :: (cl, W.listOf (List.toArray cv) kc) :: (wl, W.listOf (List.toArray wv) kw) :: R) ?ih R2 rfl (by omega) F2 N2 ?ij ?iturn ?idone
      case ih => rfl
      case ij => exact ⟨⟨_, funext (look_keep _ ⟨rfl, rfl, rfl, trivial⟩)⟩, rfl⟩
      case iturn =>
        intro j tj m2 nx2 h' tk' I2 o2 hjn hadr2 hlt2 hJ F' N'
        obtain ⟨⟨u2, rfl⟩, rfl⟩ := hJ
        clear hadr2
        refine pGb w mean mg mb dp un gd a ccd outer A₀ base h₀ L u2 _ _ E B X T hdp hun hL cl wl x wv cv cs' kc kw R hwv hx hw hcv hc3 hlaw 3 j I I2 o o2 ti tj hjn (by decide) F' N' ?_
        intro h' tk F9 N9
        exact RgEnd.intro F9 (fun p hp => N9 p (.tail _ hp)) (fun p hp => N9 p (by rcases List.mem_cons.mp hp with rfl | hp; exact .head _; cases hp)) ⟨⟨_, funext (look_keep _ ⟨rfl, rfl, rfl, trivial⟩)⟩, rfl⟩ rfl
      case idone =>
        intro m2 nx2 h' tk' hJ F' N'
        obtain ⟨⟨u2, rfl⟩, rfl⟩ := hJ
        have F3 : Fr h₀ L h' (look [(Str.ofString "last", .int 3 ti), (Str.ofString "words", .ref wl), (Str.ofString "changed", .ref cl)] u2) := F'
        have N3 : News h₀ L h' ((I, o) :: (cl, W.listOf (List.toArray cv) kc) :: (wl, W.listOf (List.toArray wv) kw) :: R) := N'
        clear F' N'
        dsimp only [look] at F3
        k_steps
        (with_reducible rename Fr _ _ _ _ => F9)
        (with_reducible rename News _ _ _ _ => N9)
        exact RgEnd.intro F9 (fun p hp => N9 p (.tail _ hp)) (fun p hp => N9 p (by rcases List.mem_cons.mp hp with rfl | hp; exact .head _; cases hp)) ⟨⟨_, funext (look_keep _ ⟨rfl, rfl, trivial⟩)⟩, rfl⟩ rfl
  case odone =>
    intro m2 nx2 h' tk' hJ F' N'
    obtain ⟨⟨u', rfl⟩, rfl⟩ := hJ
    dsimp only [look] at F'
    k_steps
    exact next _ _ _ F' N'
end Mine
end
theorem Mine.resetPX : True := by
  w_top off
  exact True.intro
-- text PX
section
open PySem PySem.W PyProof.Rows PySem.Spec PySem.Calls
set_option maxRecDepth 100000
set_option maxHeartbeats 8000000
namespace Mine
theorem four_get {ds : List Value} {a0 a1 a2 a3 : Value} (h : ds.length = 4) (i0 : ds[0]? = some a0) (i1 : ds[1]? = some a1) (i2 : ds[2]? = some a2) (i3 : ds[3]? = some a3) : ds = [a0, a1, a2, a3] := by
  match ds, h with
  | [b0, b1, b2, b3], _ =>
    simp only [List.getElem?_cons_zero, List.getElem?_cons_succ, Option.some.injEq] at i0 i1 i2 i3
    rw [i0, i1, i2, i3]
theorem four_at {x : Nat → Str} (s0 s1 s2 s3 : Tok) : ∀ h, h < 4 → ∃ t, [Value.str (x 0) s0, .str (x 1) s1, .str (x 2) s2, .str (x 3) s3][h]? = some (.str (x h) t) := by
  intro h hh
  rcases (show h = 0 ∨ h = 1 ∨ h = 2 ∨ h = 3 by omega) with rfl | rfl | rfl | rfl
  · exact ⟨s0, rfl⟩
  · exact ⟨s1, rfl⟩
  · exact ⟨s2, rfl⟩
  · exact ⟨s3, rfl⟩
theorem way_straight {ns : List Int} (h4 : ns.length = 4) : ∀ i j : Nat, j < i → i < 4 → hamm (wordS (bitH ns j)) (wordS (bitH ns i)) =
    ((([chg ns 0 1, chg ns 1 2, chg ns 2 3] : List Int).drop (j : Int).toNat).take (min (i : Int).toNat 3 - (j : Int).toNat)).sum := by
  intro i j hj hi
  obtain ⟨l1, l2, l3⟩ := chg_law h4
  rw [words_hamm]
  show chg ns j i = _
  have one : ∀ a : Int, a = List.sum [a] := fun a => by simp
  rcases (show (j = 0 ∧ i = 1) ∨ (j = 0 ∧ i = 2) ∨ (j = 0 ∧ i = 3) ∨ (j = 1 ∧ i = 2) ∨ (j = 1 ∧ i = 3) ∨ (j = 2 ∧ i = 3) by omega) with ⟨rfl, rfl⟩ | ⟨rfl, rfl⟩ | ⟨rfl, rfl⟩ | ⟨rfl, rfl⟩ | ⟨rfl, rfl⟩ | ⟨rfl, rfl⟩
  · exact one _
  · rw [l1]; show _ = List.sum [_, _]; simp
  · rw [l3]; show _ = List.sum [_, _, _]; simp; omega
  · exact one _
  · rw [l2]; show _ = List.sum [_, _]; simp
  · exact one _
theorem data_ne {h₀ h : Heap} {L : Addr} {l : List (Addr × Obj)} (N : News h₀ L h l) {p q : Addr × Obj} (hp : p ∈ l) (hq : q ∈ l) (hne : p.2 ≠ q.2) : p.1 ≠ q.1 := by
  intro e
  have g1 := (N p hp).1
  have g2 := (N q hq).1
  rw [e, g2] at g1
  exact hne (Option.some.inj g1).symm
theorem tups_obj {tl : List (Addr × Obj)} {ys : List Value} {ps : List (Int × Int)} (h : TupsOf tl ys ps) : ∀ p ∈ tl, ∃ e l te t' n, p.2 = T2 e l te t' n := by
  induction h with
  | nil => intro p hp; cases hp
  | @snoc tl ys ps q e l te tl' n h ih =>
    intro p hp
    rcases List.mem_cons.mp hp with rfl | hp
    · exact ⟨e, l, te, tl', n, rfl⟩
    · exact ih p hp
/-- the law, from its first statement to True -/
theorem law_all (w : World) (mean : ExcName → Option Value) (mg mb : Str → Option Value)
   (dp un : Nat) (gd : Option (List Code)) (a : Addr) (ccd : Value) (outer : List Env) (A₀ : Around) (base h₀ : Heap) (L : Nat) (u : Str → Option Value) (s : Shared) (Q : Flow → Shared → Prop) (E : Value → Shared → Prop)
   (B : Below A₀ base outer h₀) (X : (hd.heap_39 w.params).In h₀) (T : Top topProg looL mean mg mb h₀)
   (hdp : dp + 20 < recursionLimit) (hun : un + 100 < cLine) (hL : 82 < L)
   (l : Nat) (vs : List Value) (ns : List Int) (o1 o2 o3 o4 o5 : Obj)
   (hE : PassesOwn (model PySem.Challenge.rw_pg0137_01.row.prog w) (lawTop dp un gd L a ccd outer) (lawEnv L a ccd) E)
   (hl : h₀.IsList l vs.toArray) (hi : IntsAre vs ns) (hlen : ns.length ≤ 63) (d1 : cellObj o1 none) (d2 : cellObj o2 none) (d3 : cellObj o3 none) (d4 : cellObj o4 none) (d5 : cellObj o5 none)
   (F : Fr h₀ L s.heap (look [(Str.ofString "script", .ref l)] u)) (N : News h₀ L s.heap [(L + 5, o5), (L + 4, o4), (L + 3, o3), (L + 2, o2), (L + 1, o1), (82, tabObj #[])])
   (next : ∀ m' h' tk cq oq ot, TabOk cq oq ot → Fr h₀ L h' m' → News h₀ L h' [(82, ot), (cq, oq)] → Q (.ret (.bool true)) { s with heap := h', toks := tk }) :
   wpAny (model PySem.Challenge.rw_pg0137_01.row.prog w) (lawTop dp un gd L a ccd outer) (execs (lawBody) (lawEnv L a ccd)) Q E s := by
  show wpAny (model PySem.Challenge.rw_pg0137_01.row.prog w) (lawTop dp un gd L a ccd outer) (execs (dropS 0 lawBody) (lawEnv L a ccd)) Q E s
  refine pA w mean mg mb dp un gd a ccd outer A₀ base h₀ L u s Q E B X T hdp hun hL l vs ns o1 o2 o3 o4 o5 hl hi hlen F N ?_
  intro nl vs4 ns4 k u1 h1 tk1 h4 hI lnl F1 N1
  refine pB w mean mg mb dp un gd a ccd outer A₀ base h₀ L u1 { s with heap := h1, toks := tk1 } Q E B X T hdp hun hL nl vs4 ns4 k o1 o2 o3 o4 o5 h4 hI lnl F1 N1 ?_
  intro ml ys u2 h2 tk2 hy n1 n2 n3 F2 N2
  clear F1 N1 F N
  refine pC w mean mg mb dp un gd a ccd outer A₀ base h₀ L u2 { s with heap := h2, toks := tk2 } Q E B X T hdp hun hL nl ml vs4 ys k o1 o2 o3 o4 o5 lnl n1 n2 n3 F2 N2 ?_
  intro pl tl ps u3 h3 tk3 hT hoff F3 N3
  clear F2 N2
  have hpl : ∀ q ∈ tl ++ (ml, W.listOf ys.toArray ys.length) :: (nl, W.listOf (List.toArray vs4) k) :: [(L + 5, o5), (L + 4, o4), (L + 3, o3), (L + 2, o2), (L + 1, o1), (82, tabObj #[])], q.1 ≠ pl := fun q hq => hoff q.1 (List.mem_map_of_mem hq)
  have hpl1 : ∀ q ∈ tl, q.1 ≠ pl := fun q hq => hpl q (List.mem_append_left _ hq)
  have hpl2 : ∀ q ∈ (ml, W.listOf ys.toArray ys.length) :: (nl, W.listOf (List.toArray vs4) k) :: [(L + 5, o5), (L + 4, o4), (L + 3, o3), (L + 2, o2), (L + 1, o1), (82, tabObj #[])], q.1 ≠ pl := fun q hq => hpl q (List.mem_append_right _ hq)
  have hto := tups_obj hT
  have tlist : ∀ q ∈ (ml, W.listOf ys.toArray ys.length) :: (nl, W.listOf (List.toArray vs4) k) :: [(L + 5, o5), (L + 4, o4), (L + 3, o3), (L + 2, o2), (L + 1, o1), (82, tabObj #[])], (∀ e l te t' n, q.2 ≠ T2 e l te t' n) → ∀ p ∈ tl, q.1 ≠ p.1 := by
    intro q hq hne p hp
    refine data_ne N3 (.tail _ (List.mem_append_right _ hq)) (.tail _ (List.mem_append_left _ hp)) ?_
    obtain ⟨e, l, te, t', n, h⟩ := hto p hp
    rw [h]
    exact hne e l te t' n
  have clist : ∀ (xs : Array Value) (n' : Nat) e l te t' n, W.listOf xs n' ≠ T2 e l te t' n := fun xs n' e l te t' n h => by
    have h1 : Value.type "list" = Value.type "tuple" := congrArg Obj.cls h
    injection h1 with h2
    exact absurd h2 (by decide)
  have ccell : ∀ (o : Obj) (v : Option Value), cellObj o v → ∀ e l te t' n, o ≠ T2 e l te t' n := fun o v hd e l te t' n h => by
    rw [h] at hd
    cases hd
  have tml : ∀ p ∈ tl, ml ≠ p.1 := tlist _ (.head _) (clist _ _)
  have tnl : ∀ p ∈ tl, nl ≠ p.1 := tlist _ (.tail _ (.head _)) (clist _ _)
  have t5 : ∀ p ∈ tl, L + 5 ≠ p.1 := tlist _ (.tail _ (.tail _ (.head _))) (ccell _ _ d5)
  have t4 : ∀ p ∈ tl, L + 4 ≠ p.1 := tlist _ (.tail _ (.tail _ (.tail _ (.head _)))) (ccell _ _ d4)
  have t3 : ∀ p ∈ tl, L + 3 ≠ p.1 := tlist _ (.tail _ (.tail _ (.tail _ (.tail _ (.head _))))) (ccell _ _ d3)
  have t2 : ∀ p ∈ tl, L + 2 ≠ p.1 := tlist _ (.tail _ (.tail _ (.tail _ (.tail _ (.tail _ (.head _)))))) (ccell _ _ d2)
  have t1 : ∀ p ∈ tl, L + 1 ≠ p.1 := tlist _ (.tail _ (.tail _ (.tail _ (.tail _ (.tail _ (.tail _ (.head _))))))) (ccell _ _ d1)
  have t82 : ∀ p ∈ tl, 82 ≠ p.1 := tlist _ (.tail _ (.tail _ (.tail _ (.tail _ (.tail _ (.tail _ (.tail _ (.head _)))))))) (fun e l te t' n h => by cases h)
  simp only [List.forall_mem_cons] at hpl2
  obtain ⟨q1, q2, q5, q4, q3, q22, q11, q82, _⟩ := hpl2
  refine pD w mean mg mb dp un gd a ccd outer A₀ base h₀ L u3 { s with heap := h3, toks := tk3 } Q E B X T hdp hun hL pl nl ml vs4 ys ps k tl o1 o2 o3 o4 o5 d1 (fun p hp => Ne.symm (t1 p hp)) lnl (n2 1 (by decide) (by decide)) q11 F3 (News.sub' N3 ?_) ?_
  · refine List.forall_mem_cons.mpr ⟨.head _, fun p hp => .tail _ ?_⟩
    have e : p ∈ ((ml, W.listOf ys.toArray ys.length) :: (nl, W.listOf (List.toArray vs4) k) :: [(L + 5, o5), (L + 4, o4), (L + 3, o3), (L + 2, o2), (L + 1, o1), (82, tabObj #[])]) ++ tl := hp
    rcases List.mem_append.mp e with h | h
    · exact List.mem_append_right _ h
    · exact List.mem_append_left _ h
  intro dl wl o1' u4 h4' tk4 e1 hdw hlt F4 N4
  clear F3 N3
  have hlt2 : ∀ p ∈ tl, p.1 < dl := fun p hp => hlt p (.tail _ (.tail _ (.tail _ (.tail _ (.tail _ (.tail _ (.tail _ (.tail _ (.tail _ hp)))))))))
  have g1 : pl < dl := hlt _ (.head _)
  have g2 : ml < dl := hlt _ (.tail _ (.head _))
  have g3 : nl < dl := hlt _ (.tail _ (.tail _ (.head _)))
  have g4 : L + 5 < dl := hlt _ (.tail _ (.tail _ (.tail _ (.head _))))
  have nc := fun j a b => n2 j a b
  have c1 := n2 1 (by decide) (by decide)
  have c2 := n2 2 (by decide) (by decide)
  have c3 := n2 3 (by decide) (by decide)
  have c4 := n2 4 (by decide) (by decide)
  have c5 := n2 5 (by decide) (by decide)
  clear nc n2 hoff hpl tlist clist ccell
  have twl : ∀ p ∈ tl, wl ≠ p.1 := fun p hp => Ne.symm (Nat.ne_of_lt (Nat.lt_trans (hlt2 p hp) hdw))
  have tdl : ∀ p ∈ tl, dl ≠ p.1 := fun p hp => Ne.symm (Nat.ne_of_lt (hlt2 p hp))
  have tpl : ∀ p ∈ tl, pl ≠ p.1 := fun p hp => Ne.symm (hpl1 p hp)
  have hAp : Apart2 (hourRest nl wl dl pl L vs4 [] [] ps k 0 0 o1' o3 o4 o5 (tabObj #[]) []) tl := by
    refine ⟨?_, ?_⟩
    · simp only [Apart, List.pairwise_cons, List.forall_mem_cons]
      and_intros
      all_goals first | exact List.Pairwise.nil | (intro p hp; exact absurd hp List.not_mem_nil) | skip
      all_goals first | assumption | (apply Ne.symm; assumption) | (show @Ne Nat _ _; omega)
    · simp only [List.forall_mem_cons]
      and_intros
      all_goals first | assumption | (intro p hp; exact absurd hp List.not_mem_nil)
  have hml : ∀ p ∈ hourRest nl wl dl pl L vs4 [] [] ps k 0 0 o1' o3 o4 o5 (tabObj #[]) tl, p.1 ≠ ml := by
    simp only [List.forall_mem_cons]
    and_intros
    all_goals first | assumption | (apply Ne.symm; assumption) | (show @Ne Nat _ _; omega) | (intro p hp; exact Ne.symm (tml p hp))
  have hcc : ∀ p ∈ (ml, W.listOf ys.toArray ys.length) :: hourRest nl wl dl pl L vs4 [] [] ps k 0 0 o1' o3 o4 o5 (tabObj #[]) tl, p.1 ≠ L + 2 := by
    simp only [List.forall_mem_cons]
    and_intros
    all_goals first | assumption | (apply Ne.symm; assumption) | (show @Ne Nat _ _; omega) | (intro p hp; exact Ne.symm (t2 p hp))
  have hNC : ∀ p ∈ tl, NotCode p.2 := fun p hp => by
    obtain ⟨e, l, te, t', n, h⟩ := hto p hp
    rw [h]
    exact notCode_T2 _ _ _ _ _
  refine pE w mean mg mb dp un gd a ccd outer A₀ base h₀ L (look (hourFr wl pl ml nl) u4) { s with heap := h4', toks := tk4 } Q E B X T hdp hun hL nl ml wl dl pl ns4 vs4 ys ps k o1' o2 o3 o4 o5 none none none none tl hE h4 hI lnl g4 hT hNC hy e1 d2 d3 d4 d5 ⟨rfl, rfl, rfl, rfl, trivial⟩ hAp hml hcc F4 (News.sub' N4 ?_) ?_
  · intro p hp
    simp only [List.mem_cons] at hp ⊢
    rcases hp with h | h | h | h | h | h | h | h | h | h | h | h
    · exact .inr (.inr (.inr (.inr (.inr (.inr (.inr (.inr (.inl h))))))))
    · exact .inr (.inr (.inr (.inl h)))
    · exact .inr (.inr (.inr (.inr (.inl h))))
    · exact .inl h
    · exact .inr (.inl h)
    · exact .inr (.inr (.inl h))
    · exact .inr (.inr (.inr (.inr (.inr (.inr (.inr (.inr (.inr (.inl h)))))))))
    · exact .inr (.inr (.inr (.inr (.inr (.inr (.inr (.inl h)))))))
    · exact .inr (.inr (.inr (.inr (.inr (.inr (.inl h))))))
    · exact .inr (.inr (.inr (.inr (.inr (.inl h)))))
    · exact .inr (.inr (.inr (.inr (.inr (.inr (.inr (.inr (.inr (.inr (.inl h))))))))))
    · exact .inr (.inr (.inr (.inr (.inr (.inr (.inr (.inr (.inr (.inr (.inr h))))))))))
  intro m5 ws ds kw kd cq oq ot R h5 tk5 hw hds hTab hmw F5 N5
  clear F4 N4
  obtain ⟨dl0, dh⟩ := hds
  obtain ⟨e0, x0, k0, i0, b0, r0⟩ := dh 0 (by decide)
  obtain ⟨e2, x1, k1, i1, b1, r1⟩ := dh 1 (by decide)
  obtain ⟨e3, x2, k2, i2, b2, r2⟩ := dh 2 (by decide)
  obtain ⟨e4, x3, k3, i3, b3, r3⟩ := dh 3 (by decide)
  have hds4 := four_get dl0 i0 i1 i2 i3
  obtain ⟨s0, s1, s2, s3, rfl⟩ : ∃ s0 s1 s2 s3, ws = [.str (wordS (bitH ns4 0)) s0, .str (wordS (bitH ns4 1)) s1, .str (wordS (bitH ns4 2)) s2, .str (wordS (bitH ns4 3)) s3] := by
    obtain ⟨wl0, wh⟩ := hw
    obtain ⟨s0, j0⟩ := wh 0 (by decide)
    obtain ⟨s1, j1⟩ := wh 1 (by decide)
    obtain ⟨s2, j2⟩ := wh 2 (by decide)
    obtain ⟨s3, j3⟩ := wh 3 (by decide)
    exact ⟨s0, s1, s2, s3, four_get wl0 j0 j1 j2 j3⟩
  subst hds4
  clear i0 i1 i2 i3 dh dl0 hw
  refine pF w mean mg mb dp un gd a ccd outer A₀ base h₀ L m5 { s with heap := h5, toks := tk5 } Q E B X T hdp hun hL dl e0 e2 e3 e4 ns4 x0 x1 x2 x3 k0 k1 k2 k3 kd o1' [(cq, oq), (wl, W.listOf #[.str (wordS (bitH ns4 0)) s0, .str (wordS (bitH ns4 1)) s1, .str (wordS (bitH ns4 2)) s2, .str (wordS (bitH ns4 3)) s3] kw), (82, ot)] e1 b0 b1 b2 b3 F5 (News.sub' N5 ?_) ?_
  · intro p hp
    simp only [List.mem_cons, List.not_mem_nil, or_false] at hp
    rcases hp with rfl | rfl | rfl | rfl | rfl | rfl | rfl | rfl | rfl
    · exact .tail _ (.tail _ (.head _))
    · exact .tail _ (.tail _ (.tail _ (.tail _ (.tail _ r0))))
    · exact .tail _ (.tail _ (.tail _ (.tail _ (.tail _ r1))))
    · exact .tail _ (.tail _ (.tail _ (.tail _ (.tail _ r2))))
    · exact .tail _ (.tail _ (.tail _ (.tail _ (.tail _ r3))))
    · exact .tail _ (.tail _ (.tail _ (.head _)))
    · exact .head _
    · exact .tail _ (.head _)
    · exact .tail _ (.tail _ (.tail _ (.tail _ (.head _))))
  intro D t0 t1 t2 k' h6 tk6 F6 N6
  clear F5 N5
  refine pG w mean mg mb dp un gd a ccd outer A₀ base h₀ L (fun z => if z = Str.ofString "changed" then some (.ref D) else m5 z) { s with heap := h6, toks := tk6 } Q E B X T hdp hun hL D wl (fun h => wordS (bitH ns4 h)) [.str (wordS (bitH ns4 0)) s0, .str (wordS (bitH ns4 1)) s1, .str (wordS (bitH ns4 2)) s2, .str (wordS (bitH ns4 3)) s3] [.int (chg ns4 0 1) t0, .int (chg ns4 1 2) t1, .int (chg ns4 2 3) t2] [chg ns4 0 1, chg ns4 1 2, chg ns4 2 3] k' kw [(cq, oq), (82, ot)]
    (four_at (x := fun h => wordS (bitH ns4 h)) s0 s1 s2 s3) (fun h => word_len (bitH ns4 h)) (fun a b => words_ok _ _) (.cons _ _ (.cons _ _ (.cons _ _ .nil))) rfl (way_straight h4) hE (fr_look ⟨hmw, rfl, trivial⟩ F6) (News.sub' N6 ?_) ?_
  · intro p hp
    simp only [List.mem_cons, List.not_mem_nil, or_false] at hp
    rcases hp with rfl | rfl | rfl | rfl
    · exact .head _
    · exact .tail _ (.tail _ (.tail _ (.tail _ (.tail _ (.tail _ (.tail _ (.tail _ (.head _))))))))
    · exact .tail _ (.tail _ (.tail _ (.tail _ (.tail _ (.tail _ (.tail _ (.head _)))))))
    · exact .tail _ (.tail _ (.tail _ (.tail _ (.tail _ (.tail _ (.tail _ (.tail _ (.tail _ (.head _)))))))))
  intro m7 h7 tk7 F7 N7
  exact next m7 h7 tk7 cq oq ot hTab F7 (News.sub' N7 fun p hp => by
    rcases List.mem_cons.mp hp with rfl | hp
    · exact .tail _ (.tail _ (.tail _ (.head _)))
    · rcases List.mem_cons.mp hp with rfl | hp
      · exact .tail _ (.tail _ (.head _))
      · cases hp)
end Mine
end
theorem Mine.resetPZ : True := by
  w_top off
  exact True.intro
open PySem PySem.W PyProof.Rows PySem.Spec PySem.Calls
open Mine in
set_option maxRecDepth 100000 in
set_option maxHeartbeats 8000000 in
theorem PySem.Challenge.cw_pg0137_01_holds : PySem.Challenge.rw_pg0137_01.Holds := by
  refine Mine.hd ?_
  k_go0
  (rename IntsAre _ _ => hI9)
  (with_reducible rename Fr _ _ _ _ => F9)
  (with_reducible rename News _ _ _ _ => N9)
  (rename Top topProg _ _ _ _ _ => T9)
  (rename Frag.In _ _ => X9)
  (rename Below _ _ _ _ => B9)
  (rename 82 < _ => l9)
  (rename Heap.IsList _ _ _ => hl9)
  (rename ¬ (_ < _) => hlen9)
  refine law_all _ _ _ _ (1 + claimMargin + 1) (4 + 3) (some []) _ _ [] callerA _ _ _ _ _ _ _ B9 X9 T9 ?hdp ?hun l9 _ _ _ _ _ _ _ _ ?hE hl9 hI9 ?hlen ?d1 ?d2 ?d3 ?d4 ?d5 (fr_look (l := [(Str.ofString "script", _)]) ⟨rfl, trivial⟩ F9) N9 ?next
  case hdp => decide
  case hun => decide
  case hE => passes_own
  case hlen => omega
  case d1 => assumption
  case d2 => assumption
  case d3 => assumption
  case d4 => assumption
  case d5 => assumption
  case next =>
    intro m' h' tk cq oq ot hTab F8 N8
    refine ⟨?_, ⟨?_, trivial⟩⟩
    · clear hTab N8 N9 F9
      k_steps
    · rcases hTab with ⟨_, _, e⟩ | ⟨_, _, _, _, _, e⟩
      · subst e
        exact GrownAt.of N8 (.head _)
      · subst e
        exact GrownAt.of N8 (.head _)
