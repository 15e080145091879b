import PyProof.Rows.All
import Wide.All
import OpenK.AllK
import Wide.FinOn
import PySem.Challenge.RW_zo0034_01
set_option Elab.async false
set_option rowWalk.seconds 0
set_option compiler.extract_closed false
set_option linter.all false

section
set_option maxRecDepth 100000
namespace Mine
theorem fresh_R0 : True ∧ True := by
  w_top off
  k_with_none
  first | (walk1; done) | exact ⟨trivial, trivial⟩
open PySem PySem.Sre

noncomputable def code0 : Array Nat := #[14, 8, 1, 2, 4294967295, 1, 1, 46, 0, 16, 46, 24, 9, 1, 4294967295, 13, 4, 8, 0, 0, 1, 6, 5, 1]

theorem runFor_done (m : M) (h : m.outcome.isSome = true) : ∀ n, m.runFor n = m
  | 0 => rfl
  | n + 1 => by unfold M.runFor; rw [if_pos h]
theorem runFor_add (a b : Nat) : ∀ m : M, m.runFor (a + b) = (m.runFor a).runFor b := by
  induction a with
  | zero => intro m; rw [Nat.zero_add]; rfl
  | succ a ih =>
    intro m
    rw [Nat.succ_add]
    show (if m.outcome.isSome then m else (m.step).runFor (a + b)) = (if m.outcome.isSome then m else (m.step).runFor a).runFor b
    by_cases h : m.outcome.isSome = true
    · rw [if_pos h, if_pos h, runFor_done m h]
    · rw [if_neg h, if_neg h, ih]

/-- m' is met within K steps -/
noncomputable def Reach (K : Nat) (m m' : M) : Prop := ∃ k, k ≤ K ∧ m.runFor k = m'
theorem Reach.refl (m : M) (K : Nat) : Reach K m m := ⟨0, Nat.zero_le _, rfl⟩
theorem Reach.trans {K K' : Nat} {a b c : M} (h : Reach K a b) (h' : Reach K' b c) : Reach (K + K') a c := by
  obtain ⟨k, hk, rfl⟩ := h
  obtain ⟨k', hk', rfl⟩ := h'
  exact ⟨k + k', Nat.add_le_add hk hk', runFor_add k k' a⟩
theorem Reach.one {a b : M} (h : a.outcome = none) (e : a.step = b) : Reach 1 a b := ⟨1, Nat.le_refl _, by
  unfold M.runFor
  rw [if_neg (by rw [h]; decide), e]; rfl⟩
theorem Reach.le {K K' : Nat} {a b : M} (h : Reach K a b) (hk : K ≤ K') : Reach K' a b := ⟨h.choose, Nat.le_trans h.choose_spec.1 hk, h.choose_spec.2⟩

noncomputable def mk (text : Array Nat) (n s pc pos handed : Nat) (om : Bool) (frames : List Sre.Frame) (weight : Nat) (answer : Option Bool) (seen : Seen) : M :=
  { code := code0, text, lim := n, start := s, lastStart := n, pc, pos, handed, outermost := om, marks := #[], frames, weight, answer, seen }
noncomputable def F0 (s : Nat) (om : Bool) : Sre.Frame := { wait := .nextStart, pc := 9, pos := s, outermost := om }
noncomputable def F1 (pos : Nat) (om : Bool) (count : Int) : Sre.Frame := { wait := .giveBack, pc := 11, pos, outermost := om, count, kept := { lastmark := -1, lastindex := -1, whole := false, marks := #[] } }

variable {text : Array Nat} {n s : Nat} {om : Bool} {seen : Seen}

theorem acc_lit (c : Nat) : accepts code0 9 c seen = .ok (c == 46, seen) := rfl
theorem acc_digit (c : Nat) : ∃ seen', accepts code0 15 c seen = .ok (isDigit c, seen') := by
  cases h : isDigit c with
  | true =>
    refine ⟨(seen.add 8).add 55, ?_⟩
    show inSet code0 c 24 17 true seen = _
    unfold inSet
    show (do if ← category 0 c then pure (true, (seen.add 8).add 55) else inSet code0 c 23 19 true ((seen.add 8).add 55)) = _
    have : category 0 c = .ok true := by show Except.map (· != false) (.ok (isDigit c)) = _; rw [h]; rfl
    rw [this]; rfl
  | false =>
    refine ⟨((seen.add 8).add 55).add 0, ?_⟩
    show inSet code0 c 24 17 true seen = _
    unfold inSet
    show (do if ← category 0 c then pure (true, (seen.add 8).add 55) else inSet code0 c 23 19 true ((seen.add 8).add 55)) = _
    have : category 0 c = .ok false := by show Except.map (· != false) (.ok (isDigit c)) = _; rw [h]; rfl
    rw [this]; rfl

noncomputable def digsN (text : Array Nat) : Nat → Nat → Nat
  | 0, _ => 0
  | n + 1, p => if isDigit (text.getD p 0) then digsN text n (p + 1) + 1 else 0
theorem run_digit : ∀ (k p found : Nat) (seen : Seen), ∃ seen', Sre.run code0 text 15 k p found seen = .ok (found + digsN text k p, seen')
  | 0, p, found, seen => ⟨seen, rfl⟩
  | k + 1, p, found, seen => by
    obtain ⟨s1, h1⟩ := acc_digit (seen := seen) (text.getD p 0)
    unfold Sre.run digsN
    rw [h1]
    cases hd : isDigit (text.getD p 0) with
    | true =>
      obtain ⟨s2, h2⟩ := run_digit k (p + 1) (found + 1) s1
      refine ⟨s2, ?_⟩
      show (if true = true then Sre.run code0 text 15 k (p + 1) (found + 1) s1 else pure (found, s1)) = _
      rw [if_pos rfl, h2, if_pos rfl]
      congr 2; omega
    | false => exact ⟨s1, rfl⟩

theorem step_exec (fs : List Sre.Frame) (w pc p h : Nat) (hpc : pc < 24) : (mk text n s pc p h om fs w none seen).step = (mk text n s pc p h om fs w none seen).exec := by
  unfold M.step
  rw [if_neg (by show ¬ (none : Option Sre.Outcome).isSome = true; decide)]
  show (if pc < 24 then _ else _) = _
  rw [if_pos hpc]
/-- the dot -/
theorem step_lit_end (w : Nat) (fs : List Sre.Frame) (p h : Nat) (hp : n ≤ p) : ∃ seen', (mk text n s 9 p h om fs w none seen).step = mk text n s 9 p h om fs w (some false) seen' := by
  refine ⟨seen.add 16, ?_⟩
  rw [step_exec _ _ _ _ _ (by decide)]
  unfold M.exec
  show (if p ≥ n then _ else _) = _
  rw [if_pos hp]; rfl
theorem step_lit (w : Nat) (fs : List Sre.Frame) (p h : Nat) (hp : p < n) (c : Bool) (hc : (text.getD p 0 == 46) = c) : ∃ seen', (mk text n s 9 p h om fs w none seen).step =
    if c then mk text n s 11 (p + 1) h om fs w none seen' else mk text n s 9 p h om fs w (some false) seen' := by
  refine ⟨seen.add 16, ?_⟩
  rw [step_exec _ _ _ _ _ (by decide)]
  unfold M.exec
  show (if p ≥ n then _ else match (Except.ok (text.getD p 0 == 46, _) : Except String (Bool × Seen)) with | .error why => _ | .ok (false, seen) => _ | .ok (true, seen) => _) = _
  rw [if_neg (by omega), hc]
  cases c <;> rfl
/-- the run of figures -/
theorem step_rep_none (fs : List Sre.Frame) (w p h : Nat) (hp : n ≤ p) : ∃ seen', (mk text n s 11 p h om fs w none seen).step = mk text n s 11 p h om fs w (some false) seen' := by
  refine ⟨seen.add 24, ?_⟩
  rw [step_exec _ _ _ _ _ (by decide)]
  unfold M.exec
  show (if ((1 : Nat) : Int) > (n : Int) - (p : Int) then _ else _) = _
  rw [if_pos (by omega)]; rfl
theorem step_rep (fs : List Sre.Frame) (w p h : Nat) (hw : w + 1 ≤ 16777216) (hp : p < n) (d : Nat) (hd : digsN text (min 4294967295 (n - p)) p = d) : ∃ seen', (mk text n s 11 p h om fs w none seen).step =
    if d < 1 then mk text n s 11 p h om fs w (some false) seen' else mk text n s 21 (p + d) (p + d) om (F1 (p + d) om d :: fs) (w + 1) none seen' := by
  obtain ⟨s1, h1⟩ := run_digit (text := text) (min 4294967295 (n - p)) p 0 ((seen.add 24).add 13)
  rw [Nat.zero_add, hd] at h1
  refine ⟨s1, ?_⟩
  rw [step_exec _ _ _ _ _ (by decide)]
  unfold M.exec
  show (if ((1 : Nat) : Int) > (n : Int) - (p : Int) then _ else match Sre.run code0 text 15 (min 4294967295 ((n : Int) - (p : Int)).toNat) p 0 ((seen.add 24).add 13) with | .error why => _ | .ok (n, seen) => _) = _
  rw [if_neg (by omega), show ((n : Int) - (p : Int)).toNat = n - p by omega, h1]
  show (if d < 1 then _ else _) = _
  by_cases hd1 : d < 1
  · rw [if_pos hd1, if_pos hd1]; rfl
  · rw [if_neg hd1, if_neg hd1]
    show (if w + 1 + 0 > 16777216 then _ else _) = _
    rw [if_neg (by omega)]; rfl
noncomputable def atEnd (text : Array Nat) (n p : Nat) : Bool := p == n || (p + 1 == n && text.getD p 0 == 10)
theorem step_at (fs : List Sre.Frame) (w p h : Nat) : ∃ seen', (mk text n s 21 p h om fs w none seen).step =
    if atEnd text n p then mk text n s 23 p h om fs w none seen' else mk text n s 21 p h om fs w (some false) seen' := by
  refine ⟨(seen.add 6).add 48, ?_⟩
  rw [step_exec _ _ _ _ _ (by decide)]
  unfold M.exec
  show (if atEnd text n p = true then _ else _) = _
  cases atEnd text n p <;> rfl
theorem step_succ (fs : List Sre.Frame) (w p h : Nat) : ∃ seen', (mk text n s 23 p h om fs w none seen).step = mk text n s 23 p p om fs w (some true) seen' := by
  refine ⟨seen.add 1, ?_⟩
  rw [step_exec _ _ _ _ _ (by decide)]
  unfold M.exec
  show (if (om && ((false && p != n) || (false && p == s))) = true then _ else _) = _
  rw [if_neg (by cases om <;> simp)]; rfl
/-- back at the run -/
theorem step_back (fs : List Sre.Frame) (w pc p h q : Nat) (o : Bool) (d : Int) (yes : Bool) (hw : w ≤ 16777216) : (mk text n s pc p h o (F1 q om d :: fs) (w + 1) (some yes) seen).step =
    if yes then mk text n s 11 q h om fs w (some true) seen
    else if d - 1 < 1 then mk text n s 11 q h om fs w (some false) seen
    else if w + 1 > 16777216 then (mk text n s 11 (q - 1) h om fs w none seen).stick "frames:memory"
    else mk text n s 21 (q - 1) (q - 1) om (F1 (q - 1) om (d - 1) :: fs) (w + 1) none seen := by
  unfold M.step mk F1
  cases yes <;> rfl
theorem step_start (fs : List Sre.Frame) (w pc p h q : Nat) (o : Bool) (yes : Bool) (hw : w + 1 ≤ 16777216) : (mk text n s pc p h o (F0 q om :: fs) (w + 1) (some yes) seen).step =
    if yes then mk text n s 9 q h om fs w (some true) seen
    else if q < n then mk text n (q + 1) 9 (q + 1) (q + 1) false (F0 (q + 1) false :: fs) (w + 1) none seen
    else mk text n s 9 q h om fs w (some false) seen := by
  unfold M.step mk F0
  cases yes with
  | true => rfl
  | false =>
    show (if q < n then _ else _) = _
    by_cases hq : q < n
    · rw [if_pos hq]
      show (if w + 1 + 0 > 16777216 then _ else _) = _
      rw [if_neg (by omega)]
      simp only [Bool.false_eq_true, if_false, if_pos hq]; rfl
    · rw [if_neg hq]; simp only [Bool.false_eq_true, if_false, if_neg hq]; rfl
theorem step_last (w pc p h : Nat) (o : Bool) (yes : Bool) : (mk text n s pc p h o [] w (some yes) seen).step = { mk text n s pc p h o [] w (some yes) seen with outcome := some (if yes then .matched else .failed) } := rfl

theorem giveup (fs : List Sre.Frame) (w p : Nat) (hw : w + 1 ≤ 16777216) : ∀ (e : Nat) (seen : Seen), 1 ≤ e → (∀ e', 1 ≤ e' → e' ≤ e → atEnd text n (p + e') = false) →
    ∃ q h seen', Reach (2 * e) (mk text n s 21 (p + e) (p + e) om (F1 (p + e) om e :: fs) (w + 1) none seen) (mk text n s 11 q h om fs w (some false) seen') := by
  intro e
  induction e with
  | zero => intro _ h _; omega
  | succ e ih =>
    intro seen _ hA
    obtain ⟨s1, h1⟩ := step_at (text := text) (n := n) (s := s) (om := om) (seen := seen) (F1 (p + (e + 1)) om ((e + 1 : Nat) : Int) :: fs) (w + 1) (p + (e + 1)) (p + (e + 1))
    rw [hA (e + 1) (by omega) (Nat.le_refl _)] at h1
    simp only [Bool.false_eq_true, if_false] at h1
    have h2 := step_back (text := text) (n := n) (s := s) (om := om) (seen := s1) fs w 21 (p + (e + 1)) (p + (e + 1)) (p + (e + 1)) om ((e + 1 : Nat) : Int) false (by omega)
    simp only [Bool.false_eq_true, if_false] at h2
    have r2 := (Reach.one rfl h1).trans (Reach.one rfl h2)
    by_cases he : e = 0
    · subst he
      rw [if_pos (by omega)] at r2
      exact ⟨_, _, _, r2⟩
    · rw [if_neg (by omega), if_neg (by omega), show ((e + 1 : Nat) : Int) - 1 = (e : Int) by omega, show p + (e + 1) - 1 = p + e by omega] at r2
      obtain ⟨q, h, s2, r3⟩ := ih s1 (by omega) fun e' a b => hA e' a (by omega)
      exact ⟨q, h, s2, (r2.trans r3).le (by omega)⟩

noncomputable def dgs (text : Array Nat) (n s : Nat) : Nat := digsN text (n - (s + 1)) (s + 1)
noncomputable def hit (text : Array Nat) (n s : Nat) : Bool := decide (s < n) && text.getD s 0 == 46 && decide (1 ≤ dgs text n s) && atEnd text n (s + 1 + dgs text n s)
noncomputable def srchN (text : Array Nat) (n : Nat) : Nat → Nat → Option (Nat × Nat)
  | 0, _ => none
  | k + 1, s => if hit text n s then some (s, s + 1 + dgs text n s) else srchN text n k (s + 1)

theorem digsN_le : ∀ (k p : Nat), digsN text k p ≤ k
  | 0, _ => Nat.le_refl _
  | k + 1, p => by
    unfold digsN
    split
    · have := digsN_le k (p + 1); omega
    · omega
theorem digsN_at : ∀ (k p e : Nat), e < digsN text k p → isDigit (text.getD (p + e) 0) = true
  | 0, _, e, h => by simp [digsN] at h
  | k + 1, p, e, h => by
    unfold digsN at h
    split at h
    · rename_i hd
      cases e with
      | zero => exact hd
      | succ e =>
        have := digsN_at k (p + 1) e (by omega)
        rw [show p + (e + 1) = p + 1 + e by omega]; exact this
    · omega
theorem digit_ne {c : Nat} (h : isDigit c = true) : (c == 10) = false := by
  unfold isDigit at h
  simp only [Bool.and_eq_true, decide_eq_true_eq] at h
  simp; omega

/-- one start -/
theorem attempt_at (hn : n < 4294967295) (seen : Seen) : (hit text n s = true → ∃ m', Reach (2 * n + 8) (mk text n s 9 s s om [F0 s om] 1 none seen) m' ∧ m'.outcome.isSome = true ∧ m'.outcome = some .matched ∧ m'.start = s ∧ m'.handed = s + 1 + dgs text n s ∧ m'.lastmark = -1 ∧ m'.lastindex = -1 ∧ m'.marks = #[]) ∧
    (hit text n s = false → ∃ pc p h o seen', Reach (2 * n + 2) (mk text n s 9 s s om [F0 s om] 1 none seen) (mk text n s pc p h o [F0 s om] 1 (some false) seen')) := by
  by_cases hs : s < n
  · obtain ⟨s1, h1⟩ := step_lit (text := text) (n := n) (s := s) (om := om) (seen := seen) 1 [F0 s om] s s hs _ rfl
    by_cases hc : (text.getD s 0 == 46) = true
    · rw [hc] at h1
      simp only [if_true] at h1
      by_cases hp : s + 1 < n
      · obtain ⟨s2, h2⟩ := step_rep (text := text) (n := n) (s := s) (om := om) (seen := s1) [F0 s om] 1 (s + 1) s (by omega) hp _ rfl
        have hmin : min 4294967295 (n - (s + 1)) = n - (s + 1) := by omega
        rw [hmin] at h2
        have hD : digsN text (n - (s + 1)) (s + 1) = dgs text n s := rfl
        rw [hD] at h2
        have hDle : dgs text n s ≤ n - (s + 1) := digsN_le ..
        have r2 := (Reach.one rfl h1).trans (Reach.one (by rfl) h2)
        by_cases hd : dgs text n s < 1
        · rw [if_pos hd] at r2
          refine ⟨fun hh => ?_, fun _ => ⟨_, _, _, _, _, r2.le (by omega)⟩⟩
          unfold hit at hh
          simp only [Bool.and_eq_true, decide_eq_true_eq] at hh
          omega
        · rw [if_neg hd] at r2
          by_cases hA : atEnd text n (s + 1 + dgs text n s) = true
          · refine ⟨fun _ => ?_, fun hh => ?_⟩
            · obtain ⟨s3, h3⟩ := step_at (text := text) (n := n) (s := s) (om := om) (seen := s2) (F1 (s + 1 + dgs text n s) om ((dgs text n s : Nat) : Int) :: [F0 s om]) (1 + 1) (s + 1 + dgs text n s) (s + 1 + dgs text n s)
              rw [hA] at h3
              simp only [if_true] at h3
              obtain ⟨s4, h4⟩ := step_succ (text := text) (n := n) (s := s) (om := om) (seen := s3) (F1 (s + 1 + dgs text n s) om ((dgs text n s : Nat) : Int) :: [F0 s om]) (1 + 1) (s + 1 + dgs text n s) (s + 1 + dgs text n s)
              have h5 := step_back (text := text) (n := n) (s := s) (om := om) (seen := s4) [F0 s om] 1 23 (s + 1 + dgs text n s) (s + 1 + dgs text n s) (s + 1 + dgs text n s) om ((dgs text n s : Nat) : Int) true (by omega)
              simp only [if_true] at h5
              have h6 := step_start (text := text) (n := n) (s := s) (om := om) (seen := s4) [] 0 11 (s + 1 + dgs text n s) (s + 1 + dgs text n s) s om true (by omega)
              simp only [if_true] at h6
              have h7 := step_last (text := text) (n := n) (s := s) (seen := s4) 0 9 s (s + 1 + dgs text n s) om true
              have r := ((((r2.trans (Reach.one rfl h3)).trans (Reach.one rfl h4)).trans (Reach.one rfl h5)).trans (Reach.one rfl h6)).trans (Reach.one rfl h7)
              exact ⟨_, r.le (by omega), rfl, rfl, rfl, rfl, rfl, rfl, rfl⟩
            · unfold hit at hh
              rw [hA, hc, decide_eq_true hs, decide_eq_true (show 1 ≤ dgs text n s by omega)] at hh
              cases hh
          · have hA' : atEnd text n (s + 1 + dgs text n s) = false := by simpa using hA
            refine ⟨fun hh => ?_, fun _ => ?_⟩
            · unfold hit at hh
              rw [hA', Bool.and_false] at hh
              cases hh
            · obtain ⟨q, h, s3, r3⟩ := giveup (text := text) (n := n) (s := s) (om := om) [F0 s om] 1 (s + 1) (by omega) (dgs text n s) s2 (by omega) fun e' a b => by
                by_cases he : e' = dgs text n s
                · rw [he]; exact hA'
                · have hd' := digsN_at (text := text) (n - (s + 1)) (s + 1) e' (by rw [hD]; omega)
                  unfold atEnd
                  rw [digit_ne hd', Bool.and_false, Bool.or_false]
                  simp; omega
              exact ⟨_, _, _, _, _, (r2.trans r3).le (by omega)⟩
      · obtain ⟨s2, h2⟩ := step_rep_none (text := text) (n := n) (s := s) (om := om) (seen := s1) [F0 s om] 1 (s + 1) s (by omega)
        refine ⟨fun hh => ?_, fun _ => ⟨_, _, _, _, _, ((Reach.one rfl h1).trans (Reach.one rfl h2)).le (by omega)⟩⟩
        unfold hit at hh
        simp only [Bool.and_eq_true, decide_eq_true_eq] at hh
        have : dgs text n s ≤ n - (s + 1) := digsN_le ..
        omega
    · have hc' : (text.getD s 0 == 46) = false := by simpa using hc
      rw [hc'] at h1
      simp only [Bool.false_eq_true, if_false] at h1
      refine ⟨fun hh => ?_, fun _ => ⟨_, _, _, _, _, (Reach.one rfl h1).le (by omega)⟩⟩
      unfold hit at hh
      rw [hc'] at hh
      simp at hh
  · obtain ⟨s1, h1⟩ := step_lit_end (text := text) (n := n) (s := s) (om := om) (seen := seen) 1 [F0 s om] s s (by omega)
    refine ⟨fun hh => ?_, fun _ => ⟨_, _, _, _, _, (Reach.one rfl h1).le (by omega)⟩⟩
    unfold hit at hh
    rw [decide_eq_false hs] at hh
    simp at hh

noncomputable def Ans (m' : M) (r : Option (Nat × Nat)) : Prop := match r with
  | some (a, b) => m'.outcome = some .matched ∧ m'.start = a ∧ m'.handed = b ∧ m'.lastmark = -1 ∧ m'.lastindex = -1 ∧ m'.marks = #[]
  | none => m'.outcome = some .failed
theorem Ans.some {m' : M} {r : Option (Nat × Nat)} (h : Ans m' r) : m'.outcome.isSome = true := by
  cases r with
  | none => rw [show m'.outcome = _ from h]; rfl
  | some p => rw [h.1]; rfl

theorem search_from (hn : n < 4294967295) : ∀ (k s : Nat) (om : Bool) (seen : Seen), s + k = n → ∃ m', Reach ((k + 1) * (2 * n + 9)) (mk text n s 9 s s om [F0 s om] 1 none seen) m' ∧ Ans m' (srchN text n (k + 1) s) := by
  intro k
  induction k with
  | zero =>
    intro s om seen hsk
    have A := attempt_at (text := text) (n := n) (s := s) (om := om) hn seen
    unfold srchN
    cases hh : hit text n s with
    | true =>
      obtain ⟨m', r, _, a, b, c, d, e, f⟩ := A.1 hh
      exact ⟨m', r.le (by omega), a, b, c, d, e, f⟩
    | false =>
      obtain ⟨pc, p, h, o, s1, r⟩ := A.2 hh
      have h2 := step_start (text := text) (n := n) (s := s) (om := om) (seen := s1) [] 0 pc p h s o false (by omega)
      simp only [Bool.false_eq_true, if_false] at h2
      rw [if_neg (by omega)] at h2
      have h3 := step_last (text := text) (n := n) (s := s) (seen := s1) 0 9 s h om false
      exact ⟨_, ((r.trans (Reach.one rfl h2)).trans (Reach.one rfl h3)).le (by omega), rfl⟩
  | succ k ih =>
    intro s om seen hsk
    have A := attempt_at (text := text) (n := n) (s := s) (om := om) hn seen
    have hmul : (k + 1 + 1) * (2 * n + 9) = (k + 1) * (2 * n + 9) + (2 * n + 9) := Nat.succ_mul ..
    unfold srchN
    cases hh : hit text n s with
    | true =>
      obtain ⟨m', r, _, a, b, c, d, e, f⟩ := A.1 hh
      exact ⟨m', r.le (by omega), a, b, c, d, e, f⟩
    | false =>
      obtain ⟨pc, p, h, o, s1, r⟩ := A.2 hh
      have h2 := step_start (text := text) (n := n) (s := s) (om := om) (seen := s1) [] 0 pc p h s o false (by omega)
      simp only [Bool.false_eq_true, if_false] at h2
      rw [if_pos (by omega)] at h2
      obtain ⟨m', r', a⟩ := ih (s + 1) false s1 (by omega)
      exact ⟨m', ((r.trans (Reach.one rfl h2)).trans r').le (by omega), a⟩

/-- the whole search -/
noncomputable def srch (text : Array Nat) : Option (Nat × Nat) := srchN text text.size (text.size + 1) 0

theorem hit_short (h : n < 2) : hit text n s = false := by
  cases q : hit text n s with
  | false => rfl
  | true =>
    unfold hit at q
    simp only [Bool.and_eq_true, decide_eq_true_eq] at q
    have : dgs text n s ≤ n - (s + 1) := digsN_le ..
    omega
theorem srch_short (h : n < 2) : ∀ k s, srchN text n k s = none
  | 0, _ => rfl
  | k + 1, s => by unfold srchN; rw [hit_short h]; exact srch_short h k (s + 1)

theorem search_ends (text : Array Nat) (hn : text.size < 4294967295) : ∃ m', Reach ((text.size + 1) * (2 * text.size + 9)) (forSearch code0 text 0 0 text.size false) m' ∧ Ans m' (srch text) := by
  by_cases h2 : text.size < 2
  · unfold srch
    rw [srch_short h2]
    refine ⟨_, Reach.le (Reach.one (b := { (forSearch code0 text 0 0 text.size false) with outcome := some .failed }) ?_ ?_) (K := 1) ?_, ?_⟩
    · unfold forSearch
      show M.outcome (if 0 > text.size || text.size - 0 < 2 then _ else _) = none
      rw [if_pos (by simp; omega)]; rfl
    · unfold forSearch
      show M.step (if 0 > text.size || text.size - 0 < 2 then _ else _) = { (if 0 > text.size || text.size - 0 < 2 then _ else _ : M) with outcome := some .failed }
      rw [if_pos (by simp; omega)]; rfl
    · have : 1 * 9 ≤ (text.size + 1) * (2 * text.size + 9) := Nat.mul_le_mul (by omega) (by omega)
      omega
    · show Ans _ none
      rfl
  · obtain ⟨m', r, a⟩ := search_from (text := text) (n := text.size) hn text.size 0 true (({} : Seen).add 14) (by omega)
    refine ⟨m', ?_, a⟩
    have e : forSearch code0 text 0 0 text.size false = mk text text.size 0 9 0 0 true [F0 0 true] 1 none (({} : Seen).add 14) := by
      unfold forSearch
      show (if 0 > text.size || text.size - 0 < 2 then _ else _) = _
      rw [if_neg (by simp; omega)]; rfl
    rw [e]; exact r
end Mine
end
section
open PySem PySem.W PyProof.Rows PySem.Spec PySem.Calls
set_option maxRecDepth 100000
namespace Mine
theorem fresh_R1 : True ∧ True := by
  w_top off
  k_with_none
  first | (walk1; done) | exact ⟨trivial, trivial⟩
open PySem.Builtin.Re

section
variable {M : Model} {A : Around} {E : Value → Shared → Prop} {s : Shared}
theorem wp_reDrive (m' : Sre.M) (hs : m'.outcome.isSome = true) : ∀ (k : Nat) (N : Nat) (m : Sre.M) (Q : Sre.M → Shared → Prop), 1 ≤ k → k ≤ N → m.runFor (4 * k) = m' → Q m' s → wpAny M A (reDrive N m) Q E s
  | 0, _, _, _, h, _, _, _ => absurd h (by omega)
  | k + 1, 0, _, _, _, h, _, _ => absurd h (by omega)
  | k + 1, N + 1, m, Q, _, hN, hr, hq => by
    unfold reDrive
    show wpAny M A (if (m.runFor 4).outcome.isSome = true then pure (m.runFor 4) else do rule "sre.turn"; reDrive N (m.runFor 4)) Q E s
    have e : m.runFor (4 + 4 * k) = m' := by rw [← hr]; congr 1; omega
    rw [runFor_add] at e
    by_cases h : (m.runFor 4).outcome.isSome = true
    · rw [if_pos h]
      rw [runFor_done _ h] at e
      exact wpAny_pure (by rw [e]; exact hq)
    · rw [if_neg h]
      have hk : 1 ≤ k := by
        rcases Nat.eq_zero_or_pos k with h0 | h0
        · subst h0
          exfalso; apply h
          have e' : m.runFor 4 = m' := e
          rw [e']; exact hs
        · exact h0
      exact wpAny_bind (wpAny_rule (wp_reDrive m' hs k N _ Q hk (by omega) e hq))
theorem wp_names (seen : Sre.Seen) (Q : PUnit → Shared → Prop) (h : Q ⟨⟩ s) : ∀ l : List Nat, wpAny M A (forIn l PUnit.unit fun i _ =>
      if seen.has i = true then do rule (Sre.names.getD i ""); pure (ForInStep.yield PUnit.unit) else pure (ForInStep.yield PUnit.unit)) Q E s
  | [] => wpAny_pure h
  | i :: l => by
    rw [List.forIn_cons]
    refine wpAny_bind ?_
    by_cases hi : seen.has i = true
    · rw [if_pos hi]
      exact wpAny_bind (wpAny_rule (wpAny_pure (wp_names seen Q h l)))
    · rw [if_neg hi]
      exact wpAny_pure (wp_names seen Q h l)
theorem wp_runToEnd (m m' : Sre.M) (K : Nat) (r : Option (Nat × Nat)) (hr : Reach K m m') (ha : Ans m' r) (hK : K < 2 ^ 60) (Q : Option Sre.M → Shared → Prop) (h : Q (if r.isSome then some m' else none) s) : wpAny M A (reRunToEnd m) Q E s := by
  obtain ⟨k, hk, e⟩ := hr
  have hs := ha.some
  unfold reRunToEnd
  have e' : m.runFor (4 * (k + 1)) = m' := by
    rw [show 4 * (k + 1) = k + (4 * (k + 1) - k) by omega, runFor_add, e, runFor_done _ hs]
  refine wpAny_bind (wp_reDrive m' hs (k + 1) _ m _ (by omega) (by omega) e' ?_)
  refine wpAny_bind (wp_names m'.seen _ ?_ _)
  cases r with
  | none =>
    have : m'.outcome = some .failed := ha
    rw [this]
    exact wpAny_pure h
  | some p =>
    have : m'.outcome = some .matched := ha.1
    rw [this]
    exact wpAny_pure h
end

theorem slot_search : Slot "re.Pattern" "search" "re.Pattern.search" :=
  .of (owner := "re.Pattern") (n := "search") (by rw [typeLookup_type, builtinLookup_eq_fast]; kernel_rfl) (by decide +kernel) (by decide +kernel) (by decide +kernel)
    (by first | exact .inl (by decide +kernel) | exact .inr (by decide +kernel)) (by rw [isSubtype_type]; kernel_rfl)
theorem type_search : typeOf (.builtin "re.Pattern.search") = pure (.type "method_descriptor") := by show builtinType _ = _; rw [builtinType_eq_fast]; kernel_rfl
theorem entry_search : entryFor table "re.Pattern.search" = some Builtin.«re.Pattern.search» := entryFor_of_tree (by kernel_rfl)
theorem plain_pattern : PlainAttrs "re.Pattern" :=
  ⟨⟨"object.__getattribute__", by rw [typeLookup_type, builtinLookup_eq_fast]; kernel_rfl, by decide +kernel⟩, by rw [typeLookup_type, builtinLookup_eq_fast]; kernel_rfl⟩
theorem args_search (a b : Value) : argsOk "re.Pattern.search" ⟨[a, b], []⟩ := by
  unfold argsOk; kernel_rfl
theorem slot_span : Slot "re.Match" "span" "re.Match.span" :=
  .of (owner := "re.Match") (n := "span") (by rw [typeLookup_type, builtinLookup_eq_fast]; kernel_rfl) (by decide +kernel) (by decide +kernel) (by decide +kernel)
    (by first | exact .inl (by decide +kernel) | exact .inr (by decide +kernel)) (by rw [isSubtype_type]; kernel_rfl)
theorem type_span : typeOf (.builtin "re.Match.span") = pure (.type "method_descriptor") := by show builtinType _ = _; rw [builtinType_eq_fast]; kernel_rfl
theorem entry_span : entryFor table "re.Match.span" = some Builtin.«re.Match.span» := entryFor_of_tree (by kernel_rfl)
theorem plain_match : PlainAttrs "re.Match" :=
  ⟨⟨"object.__getattribute__", by rw [typeLookup_type, builtinLookup_eq_fast]; kernel_rfl, by decide +kernel⟩, by rw [typeLookup_type, builtinLookup_eq_fast]; kernel_rfl⟩
theorem args_span (a b : Value) : argsOk "re.Match.span" ⟨[a, b], []⟩ := by
  unfold argsOk; kernel_rfl
end Mine
end
section
open PySem PySem.W PyProof.Rows PySem.Spec PySem.Calls
set_option maxRecDepth 100000
namespace Mine
theorem fresh_R2 : True ∧ True := by
  w_top off
  k_with_none
  first | (walk1; done) | exact ⟨trivial, trivial⟩
open PySem.Builtin.Re

/-- the pattern and its words as they stand -/
noncomputable def words0 : Array Value := #[.int 14 0, .int 8 0, .int 1 0, .int 2 0, .int 4294967295 0, .int 1 0, .int 1 0, .int 46 0, .int 0 0, .int 16 0, .int 46 0, .int 24 0, .int 9 0, .int 1 0, .int 4294967295 0, .int 13 0, .int 4 0, .int 8 0, .int 0 0, .int 0 0, .int 1 0, .int 6 0, .int 5 0, .int 1 0]
structure PatAt (h : Heap) : Prop where
  pat : ∃ v0 v1, h.get? 43 = some { cls := .type "re.Pattern", data := .fields #[v0, v1, .int 0 0, .none, .none, .ref 42, .int 0 0] }
  tup : h.get? 42 = some { cls := .type "tuple", data := .seq words0 0 }
theorem PatAt.keeps {h h' : Heap} (P : PatAt h) (k : ∀ b o, h.get? b = some o → h'.get? b = some o) : PatAt h' :=
  ⟨let ⟨a, b, e⟩ := P.pat; ⟨a, b, k _ _ e⟩, k _ _ P.tup⟩
theorem code0_eq : (words0.map reRawOf).map (·.toNat) = code0 := by decide +kernel

noncomputable abbrev tupObj (vs : List Value) : Obj := { cls := .type "tuple", data := .seq vs.toArray }
noncomputable abbrev matObj (x : Str) (t : Tok) (p : Addr) : Obj := { cls := .type "re.Match", data := .fields #[.str x t, .ref 43, rawInt 0, rawInt x.cps.size, rawInt (-1), .ref p] }

theorem named_search (v : Value) : reNamed "re.Pattern.search" "search" ["string", "pos", "endpos"] 1 [v] [] = pure [some v, none, none] := by rfl

section
variable {prog : Program} {w : World} {A : Around} {E : Value → Shared → Prop} {s : Shared}
theorem wp_target {x : Str} {t : Tok} {Q : ReTarget → Shared → Prop} (P : PatAt s.heap) (hx : x.cps.size < 2 ^ 60)
    (h : Q { pattern := .ref 43, string := .str x t, code := code0, text := x.cps, kind := 0, groups := 0, pos := 0, lim := x.cps.size } s) :
    wpAny (model prog w) A (reTarget "re.Pattern.search" "search" ⟨[.ref 43, .str x t], []⟩) Q E s := by
  obtain ⟨v0, v1, hp⟩ := P.pat
  have ht := P.tup
  unfold reTarget
  refine wpAny_bind ?_
  rw [named_search]
  refine wpAny_pure ?_
  refine wpAny_bind (wpAny_pure (wpAny_bind (wpAny_pure ?_)))
  unfold fieldsOf
  refine wpAny_bind (wpAny_bind (wpAny_load hp (wpAny_pure ?_)))
  refine wpAny_bind (show wpAny _ _ (pure (x.cps, 0)) _ _ _ from wpAny_pure ?_)
  show wpAny _ _ (if ((0 : Nat) == 0 && (0 : Nat) == 1) = true then _ else _) _ _ _
  rw [if_neg (by decide)]
  show wpAny _ _ (if ((0 : Nat) == 1 && (0 : Nat) == 0) = true then _ else _) _ _ _
  rw [if_neg (by decide)]
  refine wpAny_bind (show wpAny _ _ (pure ()) _ _ _ from wpAny_pure ?_)
  show wpAny _ _ (reRawItems (.ref 42) >>= _) _ _ _
  unfold reRawItems seqItems?
  refine wpAny_bind (wpAny_bind (wpAny_bind (wpAny_load ht (wpAny_pure (wpAny_pure ?_)))))
  refine wpAny_pure ?_
  show Q { pattern := .ref 43, string := .str x t, code := (words0.map reRawOf).map (·.toNat), text := x.cps, kind := 0, groups := 0, pos := min (0 : Int).toNat x.cps.size, lim := min (2 ^ 63 - 1 : Int).toNat x.cps.size } s
  rw [code0_eq, show min (0 : Int).toNat x.cps.size = 0 by simp, show min (2 ^ 63 - 1 : Int).toNat x.cps.size = x.cps.size by omega]
  exact h

/-- the search: nothing, or a match laid above all that stands -/
theorem wp_search {x : Str} {t : Tok} {Q : Value → Shared → Prop} (P : PatAt s.heap) (hx : x.cps.size ≤ 1000000)
    (h0 : srch x.cps = none → Q .none s)
    (h1 : ∀ a b, srch x.cps = some (a, b) → Q (.ref (s.heap.objs.size + 1)) { s with heap := (s.heap.push (tupObj [rawInt a, rawInt b])).push (matObj x t s.heap.objs.size) }) :
    wpAny (model prog w) A (call (.builtin "re.Pattern.search") [.ref 43, .str x t]) Q E s := by
  obtain ⟨v0, v1, hp⟩ := id P.pat
  refine wpAny_call_entry slot_search ⟨_, hp, rfl⟩ entry_search ?_ (args_search _ _)
  unfold Builtin.«re.Pattern.search»
  refine wpAny_bind (wp_target P (by omega) ?_)
  unfold reAnswer
  obtain ⟨m', hr, ha⟩ := search_ends x.cps (by omega)
  have hK : (x.cps.size + 1) * (2 * x.cps.size + 9) < 2 ^ 60 := by
    have : (x.cps.size + 1) * (2 * x.cps.size + 9) ≤ 1000001 * 2000009 := Nat.mul_le_mul (by omega) (by omega)
    omega
  refine wpAny_bind (wp_runToEnd _ m' _ (srch x.cps) hr ha hK _ ?_)
  cases hs : srch x.cps with
  | none => exact wpAny_pure ⟨.none, rfl, h0 hs⟩
  | some ab =>
    obtain ⟨a, b⟩ := ab
    rw [hs] at ha
    obtain ⟨_, e1, e2, e3, e4, e5⟩ := ha
    show wpAny _ _ (reNewMatch (.ref 43) (.str x t) 0 0 x.cps.size m' >>= fun v => ret v) _ _ _
    refine wpAny_bind ?_
    unfold reNewMatch
    show wpAny _ _ (newTuple (rawInt m'.start :: rawInt m'.handed :: []) >>= fun v => newFields "re.Match" [.str x t, .ref 43, rawInt (0 : Nat), rawInt x.cps.size, rawInt m'.lastindex, v]) _ _ _
    rw [e1, e2, e4]
    refine wpAny_bind (wpAny_newTuple ?_ (by size_fits))
    unfold newFields
    refine wpAny_newObj_type ?_ (by size_fits)
    refine wpAny_pure ⟨_, rfl, ?_⟩
    have := h1 a b hs
    show Q (.ref (s.heap.push (tupObj [rawInt a, rawInt b])).objs.size) _
    rw [Heap.size_push]
    exact this
end
end Mine
end
section
open PySem PySem.W PyProof.Rows PySem.Calls
set_option maxRecDepth 100000
namespace Mine
theorem fresh_ZHd : True ∧ True := by
  w_top off
  k_with_none
  first | (walk1; done) | exact ⟨trivial, trivial⟩
/-- the caller's stack and no other -/
noncomputable def lone : List (Code × Pos) → Bool
  | [(.builtin "claim.caller" _, _)] => true
  | _ => false
noncomputable def gate (m : Sem Value) : Sem Value := stack >>= fun st => if lone st then m else pure (.bool true)
noncomputable def gateF (m : Sem Fin) : Sem Fin := stack >>= fun st => if lone st then m else ret (.bool true)

theorem gate_step (prog : Program) (w : World) (s : Shared) (m : Sem Fin) :
    step (denote table) prog w s ⟨gateF m, .builtin "claim.caller" {}, default, []⟩ = .go s ⟨m, .builtin "claim.caller" {}, default, []⟩ := rfl

theorem gate_run {prog : Program} {w : World} {s : Shared} {m : Sem Fin} {o : Outcome} {s' : Shared} (hz : s.asleep) : ∀ {n : Nat},
    schedN (denote table) prog w n (.single s ⟨gateF m, .builtin "claim.caller" {}, default, []⟩) = .halted o s' →
    ∃ k, schedN (denote table) prog w k (.single s ⟨m, .builtin "claim.caller" {}, default, []⟩) = .halted o s'
  | 0, h => by cases h
  | n + 1, h => by
    refine ⟨n, ?_⟩
    have e : sstep (denote table) prog w (.single s ⟨gateF m, .builtin "claim.caller" {}, default, []⟩) = .go (.single s ⟨m, .builtin "claim.caller" {}, default, []⟩) := by
      rcases sstep_single (denote table) prog w s ⟨gateF m, .builtin "claim.caller" {}, default, []⟩ rfl hz with e | e
      · rw [e, gate_step]; rfl
      · rw [gate_step] at e; cases e
    unfold schedN at h
    rw [e] at h
    exact h

theorem ungate {c : ClaimW} {defs kps : List Str} {writes : Bool} {tree : List Value → Sem Fin}
    (h : c.HoldsOpenBy (fun vs => ⟨gateF (tree vs), .builtin "claim.caller" {}, default, []⟩) defs kps writes) :
    c.HoldsOpenBy (fun vs => ⟨tree vs, .builtin "claim.caller" {}, default, []⟩) defs kps writes := by
  obtain ⟨h1, h2, h3⟩ := h
  refine ⟨h1, h2, fun w => ⟨(h3 w).1, fun s hs => ?_⟩⟩
  obtain ⟨s₀, hf, hg, s₁, T, d1, d2, d3, C⟩ := (h3 w).2 s hs
  refine ⟨s₀, hf, hg, s₁, T, d1, d2, d3, fun args hp hl ord ho => ?_⟩
  obtain ⟨vs, s₂, hlaid, n, o, s', hrun, rest⟩ := C args hp hl ord ho
  have z : s₂.asleep := Shared.asleep_of_life (((layAllW_rest _ _ _ hlaid).2.2.2.trans T.2.1).trans (fence_lifeW hf)) (AfterImport.life hs)
  obtain ⟨k, hk⟩ := gate_run z hrun
  exact ⟨vs, s₂, hlaid, k, o, s', hk, rest⟩

theorem gate_call {r : RowW} {w : World} {vs : List Value} {s : Shared} {mg : Str → Option Value} {f : Value} {Q : Fin → Shared → Prop} {E : Value → Shared → Prop} (hg : s.heap.Ns mainGlobals mg) (hf : mg r.name = some f)
    (h : wpAny (model r.prog w) callerA (gate (call f vs)) (fun v s' => Q (.done (.ret v)) s') E s) :
    wpAny (model r.prog w) callerA (gateF (do match ← nsGet mainNs r.name with
      | some f => do ret (← PySem.call f vs)
      | none => unsupported "claim.caller:no-such-global")) Q E s := fun Γ p hΓ => by
  have h1 := h Γ p hΓ
  unfold gate stack at h1
  unfold gateF stack
  rw [Sem.wp_bind'] at h1 ⊢
  rw [Sem.wp_stack, Sem.wp_pure] at h1 ⊢
  cases hl : lone ((Γ.code, p) :: Γ.below) with
  | false =>
    rw [hl] at h1
    exact h1
  | true =>
    rw [hl] at h1
    simp only [if_true] at h1 ⊢
    rw [Sem.wp_bind']
    refine (Sem.wp_nsGet _ Γ _ p s hg r.name _).mpr ?_
    rw [hf]
    dsimp only
    rw [Sem.wp_bind']
    exact h1
end Mine
open Mine in
theorem Mine.PySem.W.holds_open {r : OpenRow} {q : Program} {loose : List Str} {Xt : Shared → Bool} {XP : (Str → Option Value) → Heap → Prop} {α : Type} {Yf : Shared → α} {Ya : World → α} {YP : World → Heap → Prop} {d : DefRec} {kwd : List (Str × PySem.Expr)} {N : Nat}
    (left : LeftO r.prog q loose Xt Yf Ya N) (hY : ∀ w s, Yf s = Ya w → YP w s.heap) (hYk : ∀ w h h', YP w h → (∀ b o, h.get? b = some o → h'.get? b = some o) → YP w h')
    (hX : ∀ s, Xt s = true → XP (s.heap.nsMap mainGlobals) s.heap) (hXk : ∀ mg h h', XP mg h → (∀ b o, h.get? b = some o → h'.get? b = some o) → XP mg h')
    (hdef : defOf q r.name = some (d, kwd)) (hp : r.prog.theDef r.name = some (d.params, d.body, d.scope)) (hk : kwWritten? d.params.kwonlyargs d.params.kw_defaults = some kwd) (hRf : ∀ s, Xt s = true → RecFacts r.records s.heap) (hwr : (!r.writes || r.records.isEmpty) = true)
    (k1 : r.wellSaid = true) (ok : (chainsOk q && opensWell r.prog && (frees r.toRowW && r.within.isEmpty)) = true) (hb : r.prog.bare) (hw : r.toRowW.promised)
    (call : WalkO q loose XP YP r.toRowW d kwd fun f vs => gate (PySem.call f vs)) : r.Holds := by
  refine ⟨k1, hw, ungate (open_anyG (r := r.toRowW) left hY hYk hX hXk hRf hwr ok hb hw
    (fun vs w s mg f Q E hg hf h => gate_call (r := r.toRowW) hg hf h) (fun w s hg G n hn => ?_) fun w s₀ s₁ mg mb G Y args vs as hpre hlay L low => ?_)⟩
  · have hn' : n = r.name := by
      cases hpin : r.pinned <;> simp [hpin] at hn
      exact hn
    subst hn'
    exact pinned_of_view hg G hdef hp hk
  · obtain ⟨a, o, pm, cd, doc, dV, kV, h1, h2, h3, h4, h5⟩ := G.fn hdef
    exact ⟨.ref a, h1, call w s₀ s₁ mg mb G Y a o pm cd doc dV kV h2 h3 h4 h5 (defOf_name hdef ▸ h1) L.gens args vs as hpre hlay L.reads L.well (L.low low)⟩
namespace Mine
set_option maxHeartbeats 8000000 in
open_top hd for PySem.Challenge.rw_zo0034_01
end Mine
end
section
open PySem PySem.W PyProof.Rows
namespace Mine
local macro_rules | `(tactic| walk_at $s:str) => `(tactic| k_extra $s)

section
open PySem PySem.W PyProof.Rows PySem.Spec PySem.Calls
set_option maxRecDepth 100000
theorem fresh_R3 : True ∧ True := by
  w_top off
  k_with_none
  first | (walk1; done) | exact ⟨trivial, trivial⟩
open PySem.Builtin.Re

theorem patAt_of {P : Params} {h : Heap} (X : (hd.heap_39 P).In h) : PatAt h := ⟨⟨_, _, X 43 _ rfl⟩, X 42 _ rfl⟩

theorem mat_no_bool : typeLookup (.type "re.Match") "__bool__" = pure none := by rw [typeLookup_type, builtinLookup_eq_fast]; kernel_rfl
theorem mat_no_len : typeLookup (.type "re.Match") "__len__" = pure none := by rw [typeLookup_type, builtinLookup_eq_fast]; kernel_rfl
theorem mat_no_getattr : typeLookup (.type "re.Match") "__getattr__" = pure none := by rw [typeLookup_type, builtinLookup_eq_fast]; kernel_rfl
theorem mat_string : typeLookup (.type "re.Match") "string" = pure (some (.builtin "re.Match.string")) := by rw [typeLookup_type, builtinLookup_eq_fast]; kernel_rfl
theorem mat_ga : Slot "re.Match" "__getattribute__" "object.__getattribute__" :=
  .of (owner := "object") (n := "__getattribute__") (by rw [typeLookup_type, builtinLookup_eq_fast]; kernel_rfl) (by decide +kernel) (by decide +kernel) (by decide +kernel)
    (by first | exact .inl (by decide +kernel) | exact .inr (by decide +kernel)) (by rw [isSubtype_type]; kernel_rfl)
theorem type_string : typeOf (.builtin "re.Match.string") = pure (.type "member_descriptor") := by show builtinType _ = _; rw [builtinType_eq_fast]; kernel_rfl
theorem entry_string : entryFor table "re.Match.string" = some Builtin.«re.Match.string» := entryFor_of_tree (by kernel_rfl)

section
variable {prog : Program} {w : World} {A : Around} {E : Value → Shared → Prop} {s : Shared}
theorem truthy_mat {q : Addr} {o : Obj} {Q : Bool → Shared → Prop} (ho : s.heap.get? q = some o) (hc : o.cls = .type "re.Match") (h : Q true s) :
    wpAny (model prog w) A (truthy (.ref q)) Q E s := by
  have hT : s.TypeIs (.ref q) "re.Match" := ⟨o, ho, hc⟩
  have f1 := mat_no_bool
  have f2 := mat_no_len
  unfold truthy
  repeat (any_goals (first | assumption | wp_step))

theorem wp_span {q p : Addr} {x : Str} {t t0 : Tok} {a b : Nat} {Q : Value → Shared → Prop} (hq : s.heap.get? q = some (matObj x t p)) (hp : s.heap.get? p = some (tupObj [rawInt a, rawInt b]))
    (h : Q (.ref s.heap.objs.size) { s with heap := s.heap.push (tupObj [.int a s.toks, .int b (s.toks + 1)]), toks := s.toks + 2 }) :
    wpAny (model prog w) A (call (.builtin "re.Match.span") [.ref q, .int 0 t0]) Q E s := by
  refine wpAny_call_entry slot_span ⟨_, hq, rfl⟩ entry_span ?_ (args_span _ _)
  unfold Builtin.«re.Match.span» reOneGroup reFound fieldsOf reRawItems seqItems? reGroupNumber
  obtain ⟨hp', g, d, tk, os⟩ := s
  repeat (any_goals (first | assumption | wp_step))
  refine ⟨_, rfl, ?_⟩
  with_unfolding_all exact h

theorem string_owner : (".".intercalate ("re.Match.string".cutAt '.').dropLast) = "re.Match" := by
  have e0 : "re.Match.string".cutAt '.' = ["re", "Match", "string"] := by first | rfl | decide +kernel
  rw [e0]; decide +kernel
theorem sub_string : isSubtype (.type "re.Match") (.type (".".intercalate ("re.Match.string".cutAt '.').dropLast)) = pure true := by
  rw [string_owner, isSubtype_type]; kernel_rfl
theorem slot_ms_get : Slot "member_descriptor" "__get__" "member_descriptor.__get__" :=
  .of (owner := "member_descriptor") (n := "__get__") (by rw [typeLookup_type, builtinLookup_eq_fast]; kernel_rfl) (by decide +kernel) (by decide +kernel) (by decide +kernel)
    (by first | exact .inl (by decide +kernel) | exact .inr (by decide +kernel)) (by rw [isSubtype_type]; kernel_rfl)
theorem slot_ms_set : Slot "member_descriptor" "__set__" "member_descriptor.__set__" :=
  .of (owner := "member_descriptor") (n := "__set__") (by rw [typeLookup_type, builtinLookup_eq_fast]; kernel_rfl) (by decide +kernel) (by decide +kernel) (by decide +kernel)
    (by first | exact .inl (by decide +kernel) | exact .inr (by decide +kernel)) (by rw [isSubtype_type]; kernel_rfl)
theorem entry_ms_get : entryFor table "member_descriptor.__get__" = some Builtin.«member_descriptor.__get__» := entryFor_of_tree (by kernel_rfl)
theorem args_ms_get (a b c : Value) : argsOk "member_descriptor.__get__" ⟨[a, b, c], []⟩ := by unfold argsOk; kernel_rfl

theorem string_get {hp : Heap} {g : Array GenState} {d : Drawn} {t' : Nat} {os : OsState} {q p : Addr} {x : Str} {t : Tok} {R : Result → Shared → Prop} (hx : hp.get? q = some (matObj x t p)) (hq : R (.ok (.ret (.str x t))) ⟨hp, g, d, t', os⟩) :
    codeAny (model prog w) A (.call (.builtin "member_descriptor.__get__") ⟨[.builtin "re.Match.string", .ref q, .type "re.Match"], []⟩) R ⟨hp, g, d, t', os⟩ := by
  have hT : (⟨hp, g, d, t', os⟩ : Shared).TypeIs (.ref q) "re.Match" := ⟨_, hx, rfl⟩
  have hT5 : (⟨hp, g, d, t', os⟩ : Shared).TypeIs (.builtin "re.Match.string") "member_descriptor" := type_string
  have f8 := sub_string
  refine codeAny_call_builtin slot_ms_get.plain entry_ms_get (slot_ms_get.check _ _ _ _ _ _ _ _ hT5 (args_ms_get _ _ _) ?_)
  repeat (any_goals (first | assumption | wp_step))
  refine ⟨Code.quiet_builtin _ (by decide +kernel), codeAny_builtin entry_string ?_⟩
  repeat (any_goals (first | assumption | wp_step))

theorem string_entry {hp : Heap} {g : Array GenState} {d : Drawn} {t' : Nat} {os : OsState} {q p : Addr} {x : Str} {t tk : Tok} {Q : Fin → Shared → Prop} (hx : hp.get? q = some (matObj x t p)) (hq : Q (.done (.ret (.str x t))) ⟨hp, g, d, t', os⟩) :
    wpAny (model prog w) A (Builtin.«object.__getattribute__» ⟨[.ref q, .str "string" tk], []⟩) Q E ⟨hp, g, d, t', os⟩ := by
  have hT : (⟨hp, g, d, t', os⟩ : Shared).TypeIs (.ref q) "re.Match" := ⟨_, hx, rfl⟩
  have hT5 : (⟨hp, g, d, t', os⟩ : Shared).TypeIs (.builtin "re.Match.string") "member_descriptor" := type_string
  have f4 := mat_string
  have f5 := type_string
  have f6 := slot_ms_get.lookup
  have f7 := slot_ms_set.lookup
  unfold Builtin.«object.__getattribute__»
  repeat (any_goals (first | assumption | wp_step))
  refine string_get hx ?_
  repeat (any_goals (first | assumption | wp_step))

theorem getAttr_string {q p : Addr} {x : Str} {t : Tok} {Q : Value → Shared → Prop} (hq : s.heap.get? q = some (matObj x t p))
    (h : Q (.str x t) { s with toks := s.toks + 1 }) :
    wpAny (model prog w) A (getAttr (.ref q) (Str.ofString "string") true) Q E s := by
  obtain ⟨hp, g, d, tk, os⟩ := s
  have hT : ∀ tk', (⟨hp, g, d, tk', os⟩ : Shared).TypeIs (.ref q) "re.Match" := fun _ => ⟨_, hq, rfl⟩
  have f3 := mat_ga.lookup
  have f4 := mat_ga.bind (.ref q)
  have f5 := mat_no_getattr
  unfold getAttr getAttrBy
  repeat (any_goals (first | assumption | exact hT _ | ((with_reducible show codeAny _ _ (Code.call (Value.builtin "object.__getattribute__") _) _ _); refine codeAny_call_builtin mat_ga.plain F.entry_object_getattribute (mat_ga.check _ _ _ _ _ _ _ _ (hT _) (F.args_object_getattribute_2 _ _) (string_entry hq ?_))) | wp_step))

theorem search_K {h₀ : Heap} {L : Addr} {m : Str → Option Value} {news : List (Addr × Obj)} {x : Str} {t : Tok} {Q : Value → Shared → Prop} (F : Fr h₀ L s.heap m) (N : News h₀ L s.heap news) (X : (hd.heap_39 w.params).In h₀) (hx : x.length ≤ 1000000)
    (h0 : srch x.cps = none → Q .none s)
    (h1 : ∀ a b p q h', srch x.cps = some (a, b) → Fr h₀ L h' m → News h₀ L h' ((q, matObj x t p) :: (p, tupObj [rawInt (a : Nat), rawInt (b : Nat)]) :: news) → (∀ r ∈ news, r.1 < p) → p < q → Q (.ref q) { s with heap := h' }) :
    wpAny (model prog w) A (call (.builtin "re.Pattern.search") [.ref 43, .str x t]) Q E s := by
  refine wp_search ((patAt_of X).keeps F.keep) hx h0 fun a b e => ?_
  have F1 := F.push (tupObj [rawInt (a : Nat), rawInt (b : Nat)])
  have N1 := N.push F (tupObj [rawInt (a : Nat), rawInt (b : Nat)])
  have F2 := F1.push (matObj x t s.heap.objs.size)
  have N2 := N1.push F1 (matObj x t s.heap.objs.size)
  rw [Heap.size_push] at N2
  exact h1 a b _ _ _ e F2 N2 (fun r hr => Heap.lt_size (N r hr).1) (Nat.lt_succ_self _)
theorem search_meth {h₀ : Heap} {L : Addr} {m : Str → Option Value} {pl : Sem Bool} {Q : Value × List Value → Shared → Prop} (F : Fr h₀ L s.heap m) (X : (hd.heap_39 w.params).In h₀) (h : Q (.builtin "re.Pattern.search", [.ref 43]) s) :
    wpAny (model prog w) A (getMethod (.ref 43) (Str.ofString "search") pl) Q E s := by
  obtain ⟨v0, v1, hp⟩ := ((patAt_of X).keeps F.keep).pat
  exact getMethod_builtin ⟨_, hp, rfl⟩ plain_pattern slot_search type_search (fun a e => by cases e; exact ⟨_, hp, rfl⟩) h
theorem truthy_matK {h₀ : Heap} {L : Addr} {news : List (Addr × Obj)} {q p : Addr} {x : Str} {t : Tok} {Q : Bool → Shared → Prop} (N : News h₀ L s.heap news) (hm : (q, matObj x t p) ∈ news) (h : Q true s) :
    wpAny (model prog w) A (truthy (.ref q)) Q E s := truthy_mat (N _ hm).1 rfl h
end
end
section
open PySem PySem.W PyProof.Rows
set_option maxRecDepth 100000
theorem fresh_S0 : True ∧ True := by
  w_top off
  k_with_none
  first | (walk1; done) | exact ⟨trivial, trivial⟩
noncomputable abbrev P0 : Program := PySem.Challenge.rw_zo0034_01.row.prog
noncomputable abbrev Led := List (Addr × Obj)

/-- a function's answer, for every caller: v the value, own what it has newly laid -/
noncomputable def Spec (n : Nat) (w : World) (f : Addr) (pre : Led → Prop) (vs : List Value) (P : Value → Led → Prop) : Prop :=
  ∀ (p : Program) (lo : List Str) (mean : ExcName → Option Value) (mg mb : Str → Option Value) (news : Led) (dp un : Nat) (gd : Option (List Code)) (cn : Str) (cs : Scope) (a : Addr) (ccd : Value) (cl : List (Str × Addr)) (outer : List Env) (A₀ : Around) (base h₀ : Heap) (L : Addr) (m : Str → Option Value) (s : Shared) (Q E : Value → Shared → Prop),
    Below A₀ base outer h₀ → Fr h₀ L s.heap m → (hd.heap_39 w.params).In h₀ → News h₀ L s.heap news → Top p lo mean mg mb h₀ → cs.kind = .function →
    pre news → dp + 10 * n < recursionLimit → un + 100 * n < cLine →
    (∀ (v : Value) (own : Led) (h' : Heap) (tk' : Nat), P v own → Fr h₀ L h' m → News h₀ L h' (own ++ news) → (∀ p ∈ news, ∀ q ∈ own, p.1 < q.1) → Q v { s with heap := h', toks := tk' }) →
      wpAny (model P0 w) (ktrTop dp un gd cn cs L a ccd cl outer) (call (.ref f) vs) Q E s

theorem spec_use {n : Nat} {w : World} {p : Program} {lo : List Str} {mean : ExcName → Option Value} {mg mb : Str → Option Value} {f : Addr} {pre : Led → Prop} {vs : List Value} {P : Value → Led → Prop}
    {dp un : Nat} {gd : Option (List Code)} {cn : Str} {cs : Scope} {a : Addr} {ccd : Value} {cl : List (Str × Addr)} {outer : List Env} {A₀ : Around} {base h₀ : Heap} {L : Addr} {m : Str → Option Value} {s : Shared} {Q E : Value → Shared → Prop} {news : Led}
    (C : Spec n w f pre vs P)
    (B : Below A₀ base outer h₀) (F : Fr h₀ L s.heap m) (X : (hd.heap_39 w.params).In h₀) (N : News h₀ L s.heap news) (T : Top p lo mean mg mb h₀) (hk : cs.kind = .function)
    (hp : pre news) (hdp : dp + 10 * n < recursionLimit) (hu : un + 100 * n < cLine)
    (ret : ∀ (v : Value) (own : Led) (h' : Heap) (tk' : Nat), P v own → Fr h₀ L h' m → News h₀ L h' (own ++ news) → (∀ p ∈ news, ∀ q ∈ own, p.1 < q.1) → Q v { s with heap := h', toks := tk' }) :
    wpAny (model P0 w) (ktrTop dp un gd cn cs L a ccd cl outer) (call (.ref f) vs) Q E s :=
  C p lo mean mg mb news dp un gd cn cs a ccd cl outer A₀ base h₀ L m s Q E B F X N T hk hp hdp hu ret

/-- only a value comes back -/
noncomputable def Only (R : Value → Prop) (v : Value) (own : Led) : Prop := own = [] ∧ R v
theorem use_only {h₀ : Heap} {L : Addr} {m : Str → Option Value} {s : Shared} {Q : Value → Shared → Prop} {news : Led} {R : Value → Prop}
    (h : ∀ (v : Value) (h' : Heap) (tk' : Nat), R v → Fr h₀ L h' m → News h₀ L h' news → Q v { s with heap := h', toks := tk' }) :
    ∀ (v : Value) (own : Led) (h' : Heap) (tk' : Nat), Only R v own → Fr h₀ L h' m → News h₀ L h' (own ++ news) → (∀ p ∈ news, ∀ q ∈ own, p.1 < q.1) → Q v { s with heap := h', toks := tk' } := by
  rintro v own h' tk' ⟨rfl, hr⟩ F N _
  exact h v h' tk' hr F N
theorem use_str {h₀ : Heap} {L : Addr} {m : Str → Option Value} {s : Shared} {Q : Value → Shared → Prop} {news : Led} {x : Str}
    (h : ∀ (t : Tok) (h' : Heap) (tk' : Nat), Fr h₀ L h' m → News h₀ L h' news → Q (.str x t) { s with heap := h', toks := tk' }) :
    ∀ (v : Value) (own : Led) (h' : Heap) (tk' : Nat), Only (fun v => ∃ t, v = .str x t) v own → Fr h₀ L h' m → News h₀ L h' (own ++ news) → (∀ p ∈ news, ∀ q ∈ own, p.1 < q.1) → Q v { s with heap := h', toks := tk' } :=
  use_only (by rintro _ h' tk' ⟨t, rfl⟩ F N; exact h t h' tk' F N)
theorem use_bool {h₀ : Heap} {L : Addr} {m : Str → Option Value} {s : Shared} {Q : Value → Shared → Prop} {news : Led} {x : Bool}
    (h : ∀ (h' : Heap) (tk' : Nat), Fr h₀ L h' m → News h₀ L h' news → Q (.bool x) { s with heap := h', toks := tk' }) :
    ∀ (v : Value) (own : Led) (h' : Heap) (tk' : Nat), Only (fun v => v = .bool x) v own → Fr h₀ L h' m → News h₀ L h' (own ++ news) → (∀ p ∈ news, ∀ q ∈ own, p.1 < q.1) → Q v { s with heap := h', toks := tk' } :=
  use_only (by rintro _ h' tk' rfl F N; exact h h' tk' F N)

theorem ret_only {h₀ h' : Heap} {L : Addr} {m : Str → Option Value} {news news' : Led} {s : Shared} {Q : Value → Shared → Prop} {R : Value → Prop} {v : Value} {tk' : Nat}
    (hret : ∀ (v : Value) (own : Led) (h' : Heap) (tk' : Nat), Only R v own → Fr h₀ L h' m → News h₀ L h' (own ++ news) → (∀ p ∈ news, ∀ q ∈ own, p.1 < q.1) → Q v { s with heap := h', toks := tk' })
    (F : Fr h₀ L h' m) (N : News h₀ L h' news') (hs : ∀ p ∈ news, p ∈ news') (e : R v) : Q v { s with heap := h', toks := tk' } :=
  hret v [] h' tk' ⟨rfl, e⟩ F (cb_drop N hs) (fun _ _ _ hq => nomatch hq)
end
section
open PySem PySem.W PyProof.Rows
set_option maxRecDepth 100000
theorem fresh_S1 : True ∧ True := by
  w_top off
  k_with_none
  first | (walk1; done) | exact ⟨trivial, trivial⟩

noncomputable def hdnF (x : Str) : Bool := match srch x.cps with
  | some _ => false
  | none => !(x == Str.ofString "") && !(Txt.item x 0 == Str.ofString ".") && !(Txt.item x (-1) == Str.ofString ".")

theorem rows_S1_1 : True := by
  k_with "getMethod ref" => (k_here; (with_reducible show wpAny _ _ (getMethod (Value.ref 43) (PySem.Str.ofString "search") _) _ _ _); k_dflt (refine' search_meth ?q1k1 ?q1k2 ?_; (case q1k1 => k_asm); (case q1k2 => k_asm); k_whole))
  k_with "call builtin:re.Pattern.search" => (k_here; (with_reducible show wpAny _ _ (call (Value.builtin "re.Pattern.search") [Value.ref 43, Value.str _ _]) _ _ _); k_dflt (refine' search_K ?q2k1 ?q2k2 ?q2k3 ?q2k4 ?_ ?_; (case q2k1 => k_asm); (case q2k2 => k_asm); (case q2k3 => k_asm); (case q2k4 => omega); k_whole); (first | (intro hno) | skip); (first | (revert hno; intros) | skip))
  k_with "truthy ref" => (k_here; k_dflt (refine' truthy_matK ?q3k1 ?q3k2 ?_; (case q3k1 => k_asm); (case q3k2 => k_mem); k_whole))
  trivial

set_option maxHeartbeats 4000000 in
theorem hdn_spec (w : World) (x : Str) (t : Tok) : Spec 1 w 50 (fun _ => x.length ≤ 1000) [.str x t] (Only fun v => v = .bool (hdnF x)) := by
  have kf : PySem.Challenge.rw_zo0034_01 = PySem.Challenge.rw_zo0034_01 ∧ hd.heap_39 = hd.heap_39 := by
    k_fill
    exact ⟨rfl, rfl⟩
  clear kf
  unfold Spec
  intro p9 lo9 mean mg mb news dp un gd cn cs a ccd cl outer A₀ base h₀ L m s Q E B F X N T hk hp hdp hu hret
  refine wpAny_call ?_
  k_dflt cell_enter
  k_steps
  all_goals (refine ret_only hret (by k_asm) (by k_asm) (by first | exact fun _ h => h | kcj_all) ?_)
  all_goals (unfold hdnF; simp_all)
end
section
open PySem PySem.W PyProof.Rows
set_option maxRecDepth 100000
theorem fresh_S2 : True ∧ True := by
  w_top off
  k_with_none
  first | (walk1; done) | exact ⟨trivial, trivial⟩

noncomputable def reachF (x : Str) : Str :=
  if 0 ≤ Txt.find x (Str.ofString ".") then
    let b := Txt.slice x (some (Txt.find x (Str.ofString ".") + 1)) none
    if hdnF x && (decide (0 ≤ Txt.find b (Str.ofString ".")) || (b == Str.ofString "local")) then Str.ofString "." ++ b else x
  else x
noncomputable def dmF (x y : Str) : Bool :=
  let A := Txt.lower x
  let B := Txt.lower y
  if A == B then true else
  if !hdnF A then false else
  let i := Txt.rfind A B
  if i == -1 || i == 0 then false else
  if !(Txt.startswith B (Str.ofString ".")) then false else
  hdnF (Txt.slice B (some 1) none)

theorem rows_S2_1 : True := by
  k_with "call ref" => (k_here; (with_reducible show wpAny _ _ (call (Value.ref 50) [Value.str _ _]) _ _ _); k_dflt (refine' spec_use (hdn_spec _ _ _) ?q4k1 ?q4k2 ?q4k3 ?q4k4 ?q4k5 ?q4kK ?q4kp ?q4kd ?q4ku (use_bool ?_); (case q4k1 => k_asm); (case q4k2 => k_asm); (case q4k3 => k_asm); (case q4k4 => k_asm); (case q4k5 => k_asm); (case q4kK => first | exact rfl | assumption); (case q4kp => (try dsimp only); omega); (case q4kd => ktr_room); (case q4ku => ktr_units)); intro h9 tk9 F9 N9; (try dsimp only); (try k_fold); (first | (revert h9 tk9; intros) | skip))
  trivial

set_option maxHeartbeats 4000000 in
theorem reach_spec (w : World) (x : Str) (t : Tok) : Spec 2 w 64 (fun _ => x.length ≤ 100) [.str x t] (Only fun v => ∃ t, v = .str (reachF x) t) := by
  have kf : PySem.Challenge.rw_zo0034_01 = PySem.Challenge.rw_zo0034_01 ∧ hd.heap_39 = hd.heap_39 := by
    k_fill
    exact ⟨rfl, rfl⟩
  clear kf
  unfold Spec
  intro p9 lo9 mean mg mb news dp un gd cn cs a ccd cl outer A₀ base h₀ L m s Q E B F X N T hk hp hdp hu hret
  refine wpAny_call ?_
  k_dflt cell_enter
  k_steps
  all_goals (refine ret_only hret (by k_asm) (by k_asm) (by first | exact fun _ h => h | kcj_all) ?_)
  all_goals (clear hret; unfold reachF; simp_all <;> omega)

set_option maxHeartbeats 4000000 in
theorem dm_spec (w : World) (x y : Str) (t u : Tok) : Spec 2 w 57 (fun _ => x.length ≤ 100 ∧ y.length ≤ 100 ∧ (Txt.lower x).length ≤ 1000 ∧ (Txt.lower y).length ≤ 1000) [.str x t, .str y u] (Only fun v => v = .bool (dmF x y)) := by
  have kf : PySem.Challenge.rw_zo0034_01 = PySem.Challenge.rw_zo0034_01 ∧ hd.heap_39 = hd.heap_39 := by
    k_fill
    exact ⟨rfl, rfl⟩
  clear kf
  unfold Spec
  intro p9 lo9 mean mg mb news dp un gd cn cs a ccd cl outer A₀ base h₀ L m s Q E B F X N T hk hp hdp hu hret
  obtain ⟨hp1, hp2, hp3, hp4⟩ := hp
  refine wpAny_call ?_
  k_dflt cell_enter
  k_steps
  all_goals (refine ret_only hret (by k_asm) (by k_asm) (by first | exact fun _ h => h | kcj_all) ?_; clear hret; unfold dmF; simp_all)
end
section
open PySem PySem.W PyProof.Rows PySem.Spec PySem.Calls
set_option maxRecDepth 100000
theorem fresh_S3 : True ∧ True := by
  w_top off
  k_with_none
  first | (walk1; done) | exact ⟨trivial, trivial⟩
section
variable {prog : Program} {w : World} {A : Around} {E : Value → Shared → Prop} {s : Shared}
theorem span_K {h₀ : Heap} {L : Addr} {m : Str → Option Value} {news : Led} {q p : Addr} {x : Str} {t t0 : Tok} {a b : Nat} {Q : Value → Shared → Prop} (F : Fr h₀ L s.heap m) (N : News h₀ L s.heap news)
    (hq : (q, matObj x t p) ∈ news) (hp : (p, tupObj [rawInt (a : Nat), rawInt (b : Nat)]) ∈ news)
    (h : ∀ D h' tk t1 t2, Fr h₀ L h' m → News h₀ L h' ((D, tupObj [.int a t1, .int b t2]) :: news) → (∀ r ∈ news, r.1 < D) → Q (.ref D) { s with heap := h', toks := tk }) :
    wpAny (model prog w) A (call (.builtin "re.Match.span") [.ref q, .int 0 t0]) Q E s := by
  refine wp_span (N _ hq).1 (N _ hp).1 ?_
  exact h _ _ _ _ _ (F.push _) (N.push F _) (fun r hr => Heap.lt_size (N r hr).1)
theorem span_meth {h₀ : Heap} {L : Addr} {news : Led} {q p : Addr} {x : Str} {t : Tok} {pl : Sem Bool} {Q : Value × List Value → Shared → Prop} (N : News h₀ L s.heap news) (hq : (q, matObj x t p) ∈ news) (h : Q (.builtin "re.Match.span", [.ref q]) s) :
    wpAny (model prog w) A (getMethod (.ref q) (Str.ofString "span") pl) Q E s :=
  getMethod_builtin ⟨_, (N _ hq).1, rfl⟩ plain_match slot_span type_span (fun a e => by cases e; exact ⟨_, (N _ hq).1, rfl⟩) h
theorem string_K {h₀ : Heap} {L : Addr} {news : Led} {q p : Addr} {x : Str} {t : Tok} {Q : Value → Shared → Prop} (N : News h₀ L s.heap news) (hq : (q, matObj x t p) ∈ news)
    (h : Q (.str x t) { s with toks := s.toks + 1 }) :
    wpAny (model prog w) A (getAttr (.ref q) (Str.ofString "string") true) Q E s := getAttr_string (N _ hq).1 h
end

noncomputable def unmF (x : Str) (a b : Nat) : Str := Txt.slice x none (some (a : Int)) ++ Txt.slice x (some (b : Int)) none

theorem rows_S3_1 : True := by
  k_with "getMethod ref" => (k_here; (with_reducible show wpAny _ _ (getMethod (Value.ref _) (PySem.Str.ofString "span") _) _ _ _); k_dflt (refine' span_meth ?q5k1 ?q5k2 ?_; (case q5k1 => k_asm); (case q5k2 => first | assumption | exact List.Mem.tail _ (by assumption)); k_whole))
  k_with "call builtin:re.Match.span" => (k_here; k_dflt (refine' span_K ?q6k1 ?q6k2 ?q6k3 ?q6k4 ?_; (case q6k1 => k_asm); (case q6k2 => k_asm); (case q6k3 => assumption); (case q6k4 => assumption); k_whole); intro D' h' tk' t1 t2 F' N' l1; (try dsimp only); (try k_fold); (first | (revert D' h' tk' t1 t2; intros) | skip))
  k_with "getAttr ref" => (k_here; (with_reducible show wpAny _ _ (getAttr (Value.ref _) (PySem.Str.ofString "string") _) _ _ _); k_dflt (refine' string_K ?q7k1 ?q7k2 ?_; (case q7k1 => k_asm); (case q7k2 => first | assumption | exact List.Mem.tail _ (by assumption)); k_whole))
  trivial

set_option maxHeartbeats 4000000 in
theorem unm_spec (w : World) (x : Str) (t : Tok) (q p : Addr) (a b : Nat) : Spec 1 w 38 (fun news => (q, matObj x t p) ∈ news ∧ (p, tupObj [rawInt (a : Nat), rawInt (b : Nat)]) ∈ news ∧ x.length ≤ 1000 ∧ a ≤ 1000 ∧ b ≤ 1000) [.ref q] (Only fun v => ∃ t, v = .str (unmF x a b) t) := by
  have kf : PySem.Challenge.rw_zo0034_01 = PySem.Challenge.rw_zo0034_01 ∧ hd.heap_39 = hd.heap_39 := by
    k_fill
    exact ⟨rfl, rfl⟩
  clear kf
  unfold Spec
  intro p9 lo9 mean mg mb news dp un gd cn cs ad ccd cl outer A₀ base h₀ L m s Q E B F X N T hk hp hdp hu hret
  obtain ⟨hp1, hp2, hp3, hp4, hp5⟩ := hp
  refine wpAny_call ?_
  k_dflt cell_enter
  k_steps
  all_goals (refine ret_only hret (by k_asm) (by k_asm) (by first | exact fun _ h => h | kcj_all) ?_)
  all_goals exact ⟨_, rfl⟩
end
section
open PySem PySem.W PyProof.Rows PySem.Spec PySem.Calls
set_option maxRecDepth 100000
theorem fresh_D1 : True ∧ True := by
  w_top off
  k_with_none
  first | (walk1; done) | exact ⟨trivial, trivial⟩
section
variable {prog : Program} {w : World} {A : Around} {E : Value → Shared → Prop} {s : Shared}
theorem intBits_le {a : Int} (h0 : 0 ≤ a) (h1 : a < 1024) : Builtin.Int.intBits a ≤ 10 := by
  unfold Builtin.Int.intBits
  split
  · omega
  · rename_i h
    have h2 : a ≠ 0 := by simpa using h
    have h3 : a.natAbs ≠ 0 := by omega
    have := (Nat.log2_lt h3 (k := 10)).mpr (by omega)
    omega
theorem bl_K {a : Int} {t : Tok} {Q : Value → Shared → Prop} (h0 : 0 ≤ a) (h1 : a < 1024) (h : Builtin.Int.intBits a ≤ 10 → Q (.int (Builtin.Int.intBits a) s.toks) { s with toks := s.toks + 1 }) :
    wpAny (model prog w) A (call (.builtin "int.bit_length") [.int a t]) Q E s := call_int_bit_length (h (intBits_le h0 h1))
theorem divmod_K {h₀ : Heap} {L : Addr} {m : Str → Option Value} {news : Led} {a b : Int} {t u : Tok} {Q : Value → Shared → Prop} (F : Fr h₀ L s.heap m) (N : News h₀ L s.heap news) (hb : b ≠ 0) (ha : b.natAbs < 1073741824)
    (h : ∀ D h' tk t1 t2, Fr h₀ L h' m → News h₀ L h' ((D, tupObj [.int (a.fdiv b) t1, .int (a.fmod b) t2]) :: news) → (∀ r ∈ news, r.1 < D) → Q (.ref D) { s with heap := h', toks := tk }) :
    wpAny (model prog w) A (call (.builtin "divmod") [.int a t, .int b u]) Q E s := by
  refine divmod_int hb ?_ (Or.inl (PyProof.noPylong_small ha))
  exact h _ _ _ _ _ (F.push _) (N.push F _) (fun r hr => Heap.lt_size (N r hr).1)
end

/-- a new tuple of two ints -/
noncomputable def Pair (x y : Int) (v : Value) (own : Led) : Prop := ∃ D t1 t2, v = .ref D ∧ own = [(D, tupObj [.int x t1, .int y t2])]
theorem ret_own {h₀ h' : Heap} {L : Addr} {m : Str → Option Value} {news news' own : Led} {s : Shared} {Q : Value → Shared → Prop} {P : Value → Led → Prop} {v : Value} {tk' : Nat}
    (hret : ∀ (v : Value) (own : Led) (h' : Heap) (tk' : Nat), P v own → Fr h₀ L h' m → News h₀ L h' (own ++ news) → (∀ p ∈ news, ∀ q ∈ own, p.1 < q.1) → Q v { s with heap := h', toks := tk' })
    (F : Fr h₀ L h' m) (N : News h₀ L h' news') (hs : ∀ p ∈ own ++ news, p ∈ news') (hlt : ∀ p ∈ news, ∀ q ∈ own, p.1 < q.1) (e : P v own) : Q v { s with heap := h', toks := tk' } :=
  hret v own h' tk' e F (cb_drop N hs) hlt
theorem use_pair {h₀ : Heap} {L : Addr} {m : Str → Option Value} {s : Shared} {Q : Value → Shared → Prop} {news : Led} {x y : Int}
    (h : ∀ (D : Addr) (h' : Heap) (tk' : Nat) (t1 t2 : Tok), Fr h₀ L h' m → News h₀ L h' ((D, tupObj [.int x t1, .int y t2]) :: news) → (∀ p ∈ news, p.1 < D) → Q (.ref D) { s with heap := h', toks := tk' }) :
    ∀ (v : Value) (own : Led) (h' : Heap) (tk' : Nat), Pair x y v own → Fr h₀ L h' m → News h₀ L h' (own ++ news) → (∀ p ∈ news, ∀ q ∈ own, p.1 < q.1) → Q v { s with heap := h', toks := tk' } := by
  rintro v own h' tk' ⟨D, t1, t2, rfl, rfl⟩ F N l
  exact h D h' tk' t1 t2 F N (fun p hp => l p hp _ (.head _))
theorem lt_one {news : Led} {D : Addr} {o : Obj} (l : ∀ p ∈ news, p.1 < D) : ∀ p ∈ news, ∀ q ∈ [(D, o)], p.1 < q.1 := fun p hp q hq => by
  rw [List.mem_singleton.mp hq]; exact l p hp

theorem rows_D1_1 : True := by
  k_with "call builtin:int.bit_length" => (k_here; (refine bl_K (by omega) (by omega) ?_); intro hbl; (first | (revert hbl; intros) | skip))
  k_with "call builtin:divmod" => (k_here; k_dflt (refine' divmod_K ?q9k1 ?q9k2 ?q9k3 ?q9k4 ?_; (case q9k1 => k_asm); (case q9k2 => k_asm); (case q9k3 => omega); (case q9k4 => omega); k_whole); intro D' h' tk' t1 t2 F' N' l1; (try dsimp only); (try k_fold); (first | (revert D' h' tk' t1 t2; intros) | skip))
  trivial

set_option maxHeartbeats 4000000 in
theorem d21_spec (w : World) (a b n : Int) (t1 t2 t3 : Tok) : Spec 1 w 71 (fun _ => 0 ≤ a ∧ a < 1024 ∧ 1 ≤ b ∧ b ≤ 10 ∧ 0 ≤ n ∧ n ≤ 10) [.int a t1, .int b t2, .int n t3] (Pair (a.fdiv b) (a.fmod b)) := by
  have kf : PySem.Challenge.rw_zo0034_01 = PySem.Challenge.rw_zo0034_01 ∧ hd.heap_39 = hd.heap_39 := by
    k_fill
    exact ⟨rfl, rfl⟩
  clear kf
  unfold Spec
  intro p9 lo9 mean mg mb news dp un gd cn cs ad ccd cl outer A₀ base h₀ L m s Q E B F X N T hk hp hdp hu hret
  obtain ⟨hp1, hp2, hp3, hp4, hp5, hp6⟩ := hp
  refine wpAny_call ?_
  k_dflt cell_enter
  k_steps
  all_goals (refine ret_own hret (by k_asm) (by k_asm) (fun _ h => h) (lt_one (by assumption)) ⟨_, _, _, rfl, rfl⟩)
end
section
open PySem PySem.W PyProof.Rows PySem.Spec PySem.Calls
set_option maxRecDepth 100000
theorem fresh_D2 : True ∧ True := by
  w_top off
  k_with_none
  first | (walk1; done) | exact ⟨trivial, trivial⟩
section
variable {prog : Program} {w : World} {A : Around} {E : Value → Shared → Prop} {s : Shared}
theorem rep_fold (v : Value) : ∀ (k : Nat) (a : Array Value), List.foldl (fun x1 x2 => x1 ++ x2) a (List.replicate k #[v]) = a ++ (List.replicate k v).toArray
  | 0, a => by simp
  | k + 1, a => by
    rw [List.replicate_succ, List.foldl_cons, rep_fold v k, List.replicate_succ, Array.append_assoc]
    congr 1
    apply Array.ext'
    simp
theorem rep_K {h₀ : Heap} {L : Addr} {m : Str → Option Value} {news : Led} {l : Addr} {v : Value} {k : Int} {n : Nat} {u : Tok} {Q : Value → Shared → Prop} (F : Fr h₀ L s.heap m) (N : News h₀ L s.heap news) (hm : (l, W.listOf #[v] 0) ∈ news) (hk : k = (n : Int)) (hn : n ≤ 1000)
    (h : ∀ D h', Fr h₀ L h' m → News h₀ L h' ((D, W.listOf (List.replicate n v).toArray 0) :: news) → (∀ r ∈ news, r.1 < D) → Q (.ref D) { s with heap := h' }) :
    wpAny (model prog w) A (binaryOp .Mult (.ref l) (.int k u)) Q E s := by
  subst hk
  refine mul_list F N (N _ hm).1 (by omega) (by omega) (by simp; omega) fun h' F' N' => ?_
  refine h _ h' F' ?_ (fun r hr => Heap.lt_size (N r hr).1)
  have e : List.foldl (fun x1 x2 => x1 ++ x2) #[] (List.replicate (if (#[v] : Array Value).isEmpty = true then 0 else (n : Int).toNat) #[v]) = (List.replicate n v).toArray := by
    rw [if_neg (by simp), Int.toNat_natCast, rep_fold]; simp
  rw [e] at N'
  exact N'
end

/-- a code table: not yet filled, or filled by one nested def -/
noncomputable def TabS (P : Addr) (line col : Nat) (qual : Str) (T : Led) : Prop :=
  ∃ ps c o, T = [(P, tabObj ps), (c, o)] ∧ ((ps = #[] ∧ c = P ∧ o = tabObj #[]) ∨ (ps = #[rawInt line, rawInt col, .ref c] ∧ c ≠ P ∧ ∃ vs t, o.data = .fields vs ∧ vs[1]? = some (.str qual t)))
/-- filled by the def whose code is at c -/
noncomputable def TabF (P : Addr) (line col : Nat) (qual : Str) (c : Addr) (oc : Obj) (T : Led) : Prop :=
  T = [(P, tabObj #[rawInt line, rawInt col, .ref c]), (c, oc)] ∧ c ≠ P ∧ ∃ vs t, oc.data = .fields vs ∧ vs[1]? = some (.str qual t)
theorem TabF.s {P : Addr} {line col : Nat} {qual : Str} {c : Addr} {oc : Obj} {T : Led} (h : TabF P line col qual c oc T) : TabS P line col qual T :=
  ⟨_, c, oc, h.1, .inr ⟨rfl, h.2.1, h.2.2⟩⟩
theorem allLt_ne {b d : Nat} {l : Led} (h : AllLt b l) (hd : b ≤ d) : ∀ p ∈ l, p.1 ≠ d := by
  induction l with
  | nil => exact fun _ hp => nomatch hp
  | cons q r ih =>
    intro p hp
    rcases List.mem_cons.mp hp with rfl | hp
    · have h1 := h.1; intro e; rw [e] at h1; exact absurd (Nat.lt_of_lt_of_le h1 hd) (Nat.lt_irrefl _)
    · exact ih h.2 p hp
theorem allLt_mem {b : Addr} {l : Led} (h : AllLt b l) : ∀ p ∈ l, p.1 < b := by
  induction l with
  | nil => exact fun _ hp => nomatch hp
  | cons q r ih =>
    intro p hp
    rcases List.mem_cons.mp hp with rfl | hp
    · exact h.1
    · exact ih h.2 p hp

noncomputable abbrev NeL (d : Addr) (l : Led) : Prop := ∀ p ∈ l, p.1 ≠ d

theorem neL_swap {d : Addr} {rest T T' : Led} (h : NeL d T → NeL d T') (n : NeL d (rest ++ T)) : NeL d (rest ++ T') := fun p hp => by
  rcases List.mem_append.mp hp with hp | hp
  · exact n p (List.mem_append_left _ hp)
  · exact h (fun q hq => n q (List.mem_append_right _ hq)) p hp

/-- the tail of a ledger, and how another takes its place -/
inductive TlF (tl : Led) : Led → (Led → Led) → Prop
  | here : TlF tl tl (fun t => t)
  | cons {p r g} : TlF tl r g → TlF tl (p :: r) (fun t => p :: g t)
theorem TlF.split {tl l : Led} {g : Led → Led} (h : TlF tl l g) : ∃ pre, l = pre ++ tl ∧ ∀ t, g t = pre ++ t := by
  induction h with
  | here => exact ⟨[], rfl, fun _ => rfl⟩
  | @cons p r g _ ih => obtain ⟨pre, e, f⟩ := ih; exact ⟨p :: pre, by rw [e]; rfl, fun t => congrArg (p :: ·) (f t)⟩

section
variable {M : Model} {A : Around} {E : Value → Shared → Prop} {s : Shared} {h₀ : Heap} {L a c P : Addr} {m mg mb : Str → Option Value} {cn : Str} {cs : Scope} {ccd : Value} {cl : List (Str × Addr)} {news rest T : Led} {g : Led → Led}
  {p : Program} {loose : List Str} {mean : ExcName → Option Value} {name qual : Str} {params : Arguments} {body : List Stmt} {scope : Scope} {pos : Pos} {firstLine : Nat} {clos : List (Str × Addr)}
theorem nest_T {Q : Value → Shared → Prop} (F : Fr h₀ L s.heap m) (N : News h₀ L s.heap news) (T9 : Top p loose mean mg mb h₀) (C : CodeHd h₀ c P) (hcd : ccd = .ref c) (U : TlF (rest ++ T) news g) (hT : TabS P pos.line pos.col qual T)
    (hP : ∀ q ∈ g rest, q.1 ≠ P) (hcl : closureFor scope (envX cn cs L a ccd cl) = pure clos)
    (h : ∀ f c' oc vs t T' ctv doc h' tk, TabS P pos.line pos.col qual T' → (c', oc) ∈ rest ++ T' → oc.data = .fields vs → vs[1]? = some (.str qual t) → Fr h₀ L h' m →
      News h₀ L h' ((f, fnMade name qual params body scope clos doc ((mg "__name__").getD .none) c' ctv) :: g (rest ++ T')) →
      (∀ q ∈ g (rest ++ T'), q.1 < f) → (∀ d, (∃ o, (d, o) ∈ g rest) → NeL d T → NeL d T') → Q (.ref f) { s with heap := h', toks := tk }) :
    wpAny M A (makeFunction name qual params (.stmts body) scope (envX cn cs L a ccd cl) [] [] [] pos firstLine) Q E s := by
  obtain ⟨pre, rfl, hg⟩ := U.split
  obtain ⟨ps, c', o, rfl, hs⟩ := hT
  rcases hs with ⟨rfl, rfl, rfl⟩ | ⟨rfl, hne, vs, t, hd, hv⟩
  · have N1 : News h₀ L s.heap ((c', tabObj #[]) :: (pre ++ rest)) := fun q hq => by
      rcases List.mem_cons.mp hq with rfl | hq
      · exact N _ (List.mem_append_right _ (List.mem_append_right _ (.head _)))
      · rcases List.mem_append.mp hq with h1 | h1
        · exact N _ (List.mem_append_left _ h1)
        · exact N _ (List.mem_append_right _ (List.mem_append_left _ h1))
    have hall : ∀ q ∈ pre ++ rest, q.1 ≠ c' := fun q hq => hP q (by rw [hg]; exact hq)
    refine nest_K F N1 T9 C hcd (UpdF.head hall) trivial rfl hcl ?_
    intro f c2 oc vs t ctv doc h' tk F' N' hd hv hlt hlf
    have hP2 : c' < c2 := hlt (c', tabObj #[]) (.head _)
    refine h f c2 oc vs t [(c', tabObj #[rawInt pos.line, rawInt pos.col, .ref c2]), (c2, oc)] ctv doc h' tk (TabF.s ⟨rfl, Nat.ne_of_gt hP2, vs, t, hd, hv⟩) (List.mem_append_right _ (.tail _ (.head _))) hd hv F' ?_ ?_ ?_
    · rw [hg]
      refine cb_drop N' fun q hq => ?_
      have e : (#[] : Array Value) ++ #[rawInt pos.line, rawInt pos.col, .ref c2] = #[rawInt pos.line, rawInt pos.col, .ref c2] := by simp
      rw [e]
      simp only [List.mem_cons, List.mem_append, List.not_mem_nil, or_false] at hq ⊢
      rcases hq with h1 | h1 | h1 | h1 | h1
      · exact .inl h1
      · exact .inr (.inr (.inr (.inl h1)))
      · exact .inr (.inr (.inr (.inr h1)))
      · exact .inr (.inr (.inl h1))
      · exact .inr (.inl h1)
    · rw [hg]
      intro q hq
      simp only [List.mem_cons, List.mem_append, List.not_mem_nil, or_false] at hq
      rcases hq with h1 | h1 | h1 | h1
      · exact Nat.lt_trans (hlt q (.tail _ (List.mem_append_left _ h1))) hlf
      · exact Nat.lt_trans (hlt q (.tail _ (List.mem_append_right _ h1))) hlf
      · rw [h1]; exact Nat.lt_trans hP2 hlf
      · rw [h1]; exact hlf
    · rw [hg]
      rintro d ⟨od, hq⟩ hap p hp e
      simp only [List.mem_cons, List.not_mem_nil, or_false] at hp
      rcases hp with rfl | rfl
      · exact hap (c', tabObj #[]) (.head _) e
      · have : d < c2 := hlt _ (.tail _ hq)
        have e' : c2 = d := e
        rw [e'] at this
        exact absurd this (Nat.lt_irrefl _)
  · refine nestHit_K F N T9 C hcd (List.mem_append_right _ (List.mem_append_right _ (.head _))) (by simp [TriplesOk, rawInt]) (by simp [codeAmong, rawInt]; rfl) hcl ?_
    intro f ctv doc h' tk F' N' hlt
    refine h f c' o vs t [(P, tabObj #[rawInt pos.line, rawInt pos.col, .ref c']), (c', o)] ctv doc h' tk (TabF.s ⟨rfl, hne, vs, t, hd, hv⟩) (List.mem_append_right _ (.tail _ (.head _))) hd hv F' (by rw [hg]; exact N') (by rw [hg]; exact hlt) ?_
    rintro d ⟨od, hq⟩ hap p hp e
    exact hap p hp e
end
end
local macro_rules | `(tactic| k_mem) => `(tactic| assumption)
local macro_rules | `(tactic| k_all) => `(tactic| first | assumption | exact allLt_ne (by assumption) (by omega) | ((rename (∀ d, (∃ o, (d, o) ∈ _) → _) => hap9); exact neL_swap (hap9 _ ⟨_, by k_mem⟩) (allLt_ne (by assumption) (by omega))))
section
open PySem PySem.W PyProof.Rows PySem.Spec PySem.Calls
set_option maxRecDepth 100000
theorem fresh_D3 : True ∧ True := by
  w_top off
  k_with_none
  first | (walk1; done) | exact ⟨trivial, trivial⟩

/-- the parts of a def of the top, and of the def within it -/
noncomputable def topDef (x : Str) : Option (Arguments × List Stmt × Scope) := P0.main.body.findSome? fun
  | .FunctionDef n ps b _ _ _ sc _ _ _ => if n == x then some (ps, b, sc) else none
  | _ => none
noncomputable def nestedOf (b : List Stmt) : Option (Arguments × List Stmt × Scope) := b.findSome? fun
  | .FunctionDef _ ps b _ _ _ sc _ _ _ => some (ps, b, sc)
  | _ => none
noncomputable def in80 : { t : Arguments × List Stmt × Scope // (topDef (Str.ofString "_int2digits")).bind (fun t => nestedOf t.2.1) = some t } := ⟨_, by rfl⟩

section
variable {prog : Program} {w : World} {A : Around} {E : Value → Shared → Prop} {s : Shared}
theorem fdiv_pow_le {a : Int} (h0 : 0 ≤ a) (k : Nat) : 0 ≤ a.fdiv (2 ^ k) ∧ a.fdiv (2 ^ k) ≤ a := by
  have hp : (0 : Int) < 2 ^ k := Int.pow_pos (by decide)
  rw [Int.fdiv_eq_ediv_of_nonneg _ (Int.le_of_lt hp)]
  exact ⟨Int.ediv_nonneg h0 (Int.le_of_lt hp), Int.ediv_le_self _ h0⟩
theorem shr_K {a n : Int} {t u : Tok} {Q : Value → Shared → Prop} (h0 : 0 ≤ a) (hn : 0 ≤ n) (h : ∀ y, y = a.fdiv (2 ^ n.toNat) → 0 ≤ y → y ≤ a → Q (.int y s.toks) { s with toks := s.toks + 1 }) :
    wpAny (model prog w) A (binaryOp .RShift (.int a t) (.int n u)) Q E s :=
  rshift_int hn (h _ rfl (fdiv_pow_le h0 _).1 (fdiv_pow_le h0 _).2)
theorem shr1_K {a : Int} {t u : Tok} {Q : Value → Shared → Prop} (h0 : 0 ≤ a) (h : ∀ y, y = a / 2 → Q (.int y s.toks) { s with toks := s.toks + 1 }) :
    wpAny (model prog w) A (binaryOp .RShift (.int a t) (.int 1 u)) Q E s := by
  refine rshift_int (by decide) ?_
  have e : a.fdiv (2 ^ (1 : Int).toNat) = a / 2 := by
    rw [Int.fdiv_eq_ediv_of_nonneg _ (by decide)]; rfl
  rw [e]
  exact h _ rfl
theorem shl_K {a n : Int} {t u : Tok} {Q : Value → Shared → Prop} (h0 : 0 ≤ a) (h1 : a < 1000000) (hn : 0 ≤ n) (hn2 : n ≤ 1000) (h : ∀ y, y = a * 2 ^ n.toNat → Q (.int y s.toks) { s with toks := s.toks + 1 }) :
    wpAny (model prog w) A (binaryOp .LShift (.int a t) (.int n u)) Q E s :=
  lshift_int_small hn (by omega) (by omega) (h _ rfl)
theorem xor_K {a b : Int} {t u : Tok} {Q : Value → Shared → Prop} (h : ∀ y, y = Builtin.bitXor a b → Q (.int y s.toks) { s with toks := s.toks + 1 }) :
    wpAny (model prog w) A (binaryOp .BitXor (.int a t) (.int b u)) Q E s := xor_int (h _ rfl)
theorem mul_le {a b : Int} {p q : Int} (h0 : 0 ≤ a) (h1 : a ≤ p) (h2 : 0 ≤ b) (h3 : b ≤ q) : 0 ≤ a * b ∧ a * b ≤ p * q :=
  ⟨Int.mul_nonneg h0 h2, Int.mul_le_mul h1 h3 h2 (Int.le_trans h0 h1)⟩
theorem mul3_K {a b : Int} {t u : Tok} {Q : Value → Shared → Prop} (h0 : 0 ≤ a) (h1 : a ≤ 3) (h2 : 0 ≤ b) (h3 : b ≤ 3) (h : ∀ y, y = a * b → 0 ≤ y → y ≤ 9 → Q (.int y s.toks) { s with toks := s.toks + 1 }) :
    wpAny (model prog w) A (binaryOp .Mult (.int a t) (.int b u)) Q E s :=
  PyProof.Rows.mul_int (h _ rfl (mul_le h0 h1 h2 h3).1 (mul_le h0 h1 h2 h3).2) (PySem.IntMulOk.of_left (PySem.intBits_le_64 (by omega) (by omega)))
end
theorem xor_low_tab : ∀ x : Fin 32, ∀ k : Fin 10, (0 : Int) ≤ Builtin.bitXor ((x.val : Nat) : Int) ((((x.val : Nat) : Int).fdiv (2 ^ k.val)) * 2 ^ k.val) ∧ Builtin.bitXor ((x.val : Nat) : Int) ((((x.val : Nat) : Int).fdiv (2 ^ k.val)) * 2 ^ k.val) < 32 := by decide +kernel
theorem xor_low {x k u v y : Int} (hy : y = Builtin.bitXor x v) (hv : v = u * 2 ^ k.toNat) (hu : u = x.fdiv (2 ^ k.toNat)) (h0 : 0 ≤ x) (h1 : x < 32) (k0 : 0 ≤ k) (k1 : k ≤ 9) : 0 ≤ y ∧ y < 32 := by
  have := xor_low_tab ⟨x.toNat, by omega⟩ ⟨k.toNat, by omega⟩
  simp only [Int.toNat_of_nonneg h0] at this
  subst hu hv hy
  exact this

noncomputable def innerF (n : Int) : Nat → Int → Int → Int → List Int → List Int
  | 0, _, _, _, ds => ds
  | k + 1, x, lo, hi, ds => if lo + 1 = hi then ds.set lo.toNat x else
    innerF n k (x.fdiv (2 ^ (((lo + hi) / 2 - lo) * n).toNat)) ((lo + hi) / 2) hi
      (innerF n k (Builtin.bitXor x (x.fdiv (2 ^ (((lo + hi) / 2 - lo) * n).toNat) * 2 ^ (((lo + hi) / 2 - lo) * n).toNat)) lo ((lo + hi) / 2) ds)
theorem innerF_length (n : Int) : ∀ k x lo hi ds, (innerF n k x lo hi ds).length = ds.length
  | 0, _, _, _, _ => rfl
  | k + 1, x, lo, hi, ds => by
    unfold innerF
    split
    · simp
    · rw [innerF_length, innerF_length]

noncomputable abbrev fn80 (qual : Str) (cN cI cA : Addr) (doc pm : Value) (c' : Addr) (ctv : Value) : Obj :=
  fnMade (Str.ofString "inner") qual in80.1.1 in80.1.2.1 in80.1.2.2 [(Str.ofString "n", cN), (Str.ofString "inner", cI), (Str.ofString "a_digits", cA)] doc pm c' ctv

noncomputable def InnerC (w : World) (n : Int) (k : Nat) : Prop :=
  ∀ (p : Program) (lo : List Str) (mean : ExcName → Option Value) (mg mb : Str → Option Value) (x l9 r9 : Int) (tx tl9 tr tn : Tok) (D f cI cA cN c' : Nat) (oI oA oN oc : Obj) (vs : List Value) (ds : List Int) (cvs : Array Value) (ct : Tok) (qual : Str) (doc pm ctv : Value) (tl : Led)
    (dp un : Nat) (gd : Option (List Code)) (cn : Str) (cs : Scope) (a : Addr) (ccd : Value) (cl : List (Str × Addr)) (outer : List Env) (A₀ : Around) (base h₀ : Heap) (L : Addr) (m : Str → Option Value) (s : Shared) (Q E : Value → Shared → Prop),
    r9 - l9 ≤ k → 0 ≤ l9 → l9 < r9 → r9 ≤ ds.length → ds.length ≤ 3 → 0 ≤ x → x < 32 → 0 ≤ n → n ≤ 3 →
    IntsAre vs ds → oI.data = .cell (some (.ref f)) → oA.data = .cell (some (.ref D)) → oN.data = .cell (some (.int n tn)) → oc.data = .fields cvs → cvs[1]? = some (.str qual ct) → (c', oc) ∈ tl → NeL D tl → D ≠ f → D ≠ cI → D ≠ cA → D ≠ cN →
    Below A₀ base outer h₀ → Fr h₀ L s.heap m → (hd.heap_39 w.params).In h₀ →
    News h₀ L s.heap ((D, W.listOf vs.toArray 0) :: (f, fn80 qual cN cI cA doc pm c' ctv) :: (cI, oI) :: (cA, oA) :: (cN, oN) :: tl) →
    Top p lo mean mg mb h₀ → cs.kind = .function → dp + 5 * k + 5 < recursionLimit → un + 50 * k + 50 < cLine → CodeHd h₀ 84 80 →
    (∀ (vs' : List Value) (h' : Heap) (tk' : Nat), IntsAre vs' (innerF n k x l9 r9 ds) → Fr h₀ L h' m →
      News h₀ L h' ((D, W.listOf vs'.toArray 0) :: (f, fn80 qual cN cI cA doc pm c' ctv) :: (cI, oI) :: (cA, oA) :: (cN, oN) :: tl) → Q .none { s with heap := h', toks := tk' }) →
    wpAny (model P0 w) (ktrTop dp un gd cn cs L a ccd cl outer) (call (.ref f) [.int x tx, .int l9 tl9, .int r9 tr]) Q E s

theorem inner_use {w : World} {n : Int} {k : Nat} (C : InnerC w n k) {p : Program} {lo : List Str} {mean : ExcName → Option Value} {mg mb : Str → Option Value} {x l9 r9 : Int} {tx tl9 tr tn : Tok} {D f cI cA cN c' : Nat} {oI oA oN oc : Obj} {vs : List Value} {ds : List Int} {cvs : Array Value} {ct : Tok} {qual : Str} {doc pm ctv : Value} {tl : Led}
    {dp un : Nat} {gd : Option (List Code)} {cn : Str} {cs : Scope} {a : Addr} {ccd : Value} {cl : List (Str × Addr)} {outer : List Env} {A₀ : Around} {base h₀ : Heap} {L : Addr} {m : Str → Option Value} {s : Shared} {Q E : Value → Shared → Prop}
    (F : Fr h₀ L s.heap m) (N : News h₀ L s.heap ((D, W.listOf vs.toArray 0) :: (f, fn80 qual cN cI cA doc pm c' ctv) :: (cI, oI) :: (cA, oA) :: (cN, oN) :: tl)) (hi : IntsAre vs ds) (B : Below A₀ base outer h₀) (X : (hd.heap_39 w.params).In h₀) (T : Top p lo mean mg mb h₀) (hk : cs.kind = .function)
    (hrl : r9 - l9 ≤ k) (hl0 : 0 ≤ l9) (hlr : l9 < r9) (hr : r9 ≤ ds.length) (hd : ds.length ≤ 3) (hx : 0 ≤ x ∧ x < 32) (hn0 : 0 ≤ n) (hn1 : n ≤ 3)
    (hI : oI.data = .cell (some (.ref f))) (hA : oA.data = .cell (some (.ref D))) (hN : oN.data = .cell (some (.int n tn))) (hc : oc.data = .fields cvs) (hv : cvs[1]? = some (.str qual ct)) (hm : (c', oc) ∈ tl) (ne : NeL D tl) (n1 : D ≠ f) (n2 : D ≠ cI) (n3 : D ≠ cA) (n4 : D ≠ cN)
    (hdp : dp + 5 * k + 5 < recursionLimit) (hun : un + 50 * k + 50 < cLine) (CH : CodeHd h₀ 84 80)
    (h : ∀ (vs' : List Value) (h' : Heap) (tk' : Nat), IntsAre vs' (innerF n k x l9 r9 ds) → Fr h₀ L h' m →
      News h₀ L h' ((D, W.listOf vs'.toArray 0) :: (f, fn80 qual cN cI cA doc pm c' ctv) :: (cI, oI) :: (cA, oA) :: (cN, oN) :: tl) → Q .none { s with heap := h', toks := tk' }) :
    wpAny (model P0 w) (ktrTop dp un gd cn cs L a ccd cl outer) (call (.ref f) [.int x tx, .int l9 tl9, .int r9 tr]) Q E s :=
  C p lo mean mg mb x l9 r9 tx tl9 tr tn D f cI cA cN c' oI oA oN oc vs ds cvs ct qual doc pm ctv tl dp un gd cn cs a ccd cl outer A₀ base h₀ L m s Q E hrl hl0 hlr hr hd hx.1 hx.2 hn0 hn1 hi hI hA hN hc hv hm ne n1 n2 n3 n4 B F X N T hk hdp hun CH h

theorem rows_D3_1 : True := by
  k_with "call ref" => (k_here; (rename InnerC _ _ _ => ih9); k_dflt (refine' inner_use ih9 ?q10F ?q10N ?q10hi ?q10B ?q10X ?q10T ?q10hk ?q10r1 ?q10r2 ?q10r3 ?q10r4 ?q10r5 ?q10hx ?q10r6 ?q10r7 ?q10cI ?q10cA ?q10cN ?q10cc ?q10cv ?q10cm ?q10ne ?q10n1 ?q10n2 ?q10n3 ?q10n4 ?q10dp ?q10un ?q10CH ?_; (case q10F => k_asm); (case q10N => k_asm); (case q10hi => assumption); (case q10B => k_asm); (case q10X => k_asm); (case q10T => k_asm); (case q10hk => exact rfl); (case q10cI => assumption); (case q10cA => assumption); (case q10cN => assumption); (case q10cc => assumption); (case q10cv => assumption); (case q10cm => assumption); (case q10ne => assumption); (case q10n1 => assumption); (case q10n2 => assumption); (case q10n3 => assumption); (case q10n4 => assumption); (case q10CH => assumption); (case q10r1 => omega); (case q10r2 => omega); (case q10r3 => omega); (case q10r4 => ((try simp only [innerF_length]); omega)); (case q10r5 => ((try simp only [innerF_length]); omega)); (case q10r6 => omega); (case q10r7 => omega); (case q10dp => ktr_room); (case q10un => ktr_units); (case q10hx => first | (constructor <;> omega) | exact xor_low (by assumption) (by assumption) (by assumption) (by omega) (by omega) (by omega) (by omega)); k_whole); intro vs' h' tk' hi' F' N'; (try dsimp only); (first | (revert vs' h' tk'; intros) | skip))
  trivial
theorem rows_D3_2 : True := by
  k_with "binaryOp RShift int int" => (k_here; (refine shr_K (by omega) (by omega) ?_); intro y9 e9 g9 j9; (first | (revert y9; intros) | skip))
  k_with "binaryOp RShift int int" => (k_here; (with_reducible show wpAny _ _ (binaryOp _ _ (Value.int 1 _)) _ _ _); (refine shr1_K (by omega) ?_); intro y9 e9; (first | (revert y9; intros) | skip))
  k_with "binaryOp LShift int int" => (k_here; (refine shl_K (by omega) (by omega) (by omega) (by omega) ?_); intro y9 e9; (first | (revert y9; intros) | skip))
  k_with "binaryOp BitXor int int" => (k_here; (refine xor_K ?_); intro y9 e9; (first | (revert y9; intros) | skip))
  k_with "binaryOp Mult int int" => (k_here; (refine mul3_K (by omega) (by omega) (by omega) (by omega) ?_); intro y9 e9 g9 j9; (first | (revert y9; intros) | skip))
  trivial

set_option maxHeartbeats 4000000 in
theorem inner_step (w : World) (n : Int) (k : Nat) (ih : InnerC w n k) : InnerC w n (k + 1) := by
  have kf : PySem.Challenge.rw_zo0034_01 = PySem.Challenge.rw_zo0034_01 ∧ hd.heap_39 = hd.heap_39 := by
    k_fill
    exact ⟨rfl, rfl⟩
  clear kf
  unfold InnerC
  intro p9 lo9 mean mg mb x l9 r9 tx tl9 tr tn D f cI cA cN c' oI oA oN oc vs ds cvs ct qual doc pm ctv tl dp un gd cn cs ad ccd cl outer A₀ base h₀ L m s Q E hk1 hl0 hlr hr hds hx0 hx1 hn0 hn1 hI hdI hdA hdN hdc hcv hmc hne n1 n2 n3 n4 B F X N T hk hdp hdu CH hret
  refine wpAny_call ?_
  k_dflt (refine' code_nest ?k1 ?k2 ?k3 ?k4 ?k5 ?kA ?kF ?kK ?k6 ?k7 ?k8 ?k9 ?kB ?_ ?c2 ?c3 ?c4 ?c5; (case kA => exact rfl); (case kF => exact rfl); (case kK => assumption); (case k1 => k_asm); (case k2 => k_asm); (case k3 => k_asm); (case k4 => k_asm); (case k5 => k_asm); (case k6 => exact .tail _ (.head _)); (case k7 => exact codeRec_news (by k_asm) (by k_mem) (by assumption) (by assumption)); (case k8 => ktr_room); (case k9 => exact BindsTo.of_eq rfl); (case c5 => decide); (case kB => exact locs rfl); (case c2 => exact rfl); (case c3 => exact rfl); (case c4 => exact rfl); k_whole; intro g' L' h' FG' F' N' B' X' T'; (try dsimp only); (try k_lift B'); (try k_fold))
  have CH' := CH.keeps FG'.keep
  k_steps
  · refine hret _ _ _ ?_ (by k_asm) (by k_asm)
    unfold innerF
    rw [if_pos (by assumption)]
    assumption
  · refine hret _ _ _ ?_ (by k_asm) (by k_asm)
    unfold innerF
    rw [if_neg (by assumption)]
    subst_vars
    assumption
theorem inner_all (w : World) (n : Int) : ∀ k, InnerC w n k
  | 0 => fun _ _ _ _ _ _ _ _ _ _ _ _ _ _ _ _ _ _ _ _ _ _ _ _ _ _ _ _ _ _ _ _ _ _ _ _ _ _ _ _ _ _ _ _ _ _ _ _ hk _ hlr => absurd hk (by omega)
  | k + 1 => inner_step w n k (inner_all w n k)
end
section
open PySem PySem.W PyProof.Rows PySem.Spec PySem.Calls
set_option maxRecDepth 100000
theorem fresh_D4 : True ∧ True := by
  w_top off
  k_with_none
  first | (walk1; done) | exact ⟨trivial, trivial⟩

/-- a function that makes a nested def -/
noncomputable def SpecT (n : Nat) (w : World) (f : Addr) (P : Addr) (line col : Nat) (qual : Str) (pre : Led → Prop) (vs : List Value) (Post : Value → Led → Prop) : Prop :=
  ∀ (p : Program) (lo : List Str) (mean : ExcName → Option Value) (mg mb : Str → Option Value) (rest T : Led) (dp un : Nat) (gd : Option (List Code)) (cn : Str) (cs : Scope) (a : Addr) (ccd : Value) (cl : List (Str × Addr)) (outer : List Env) (A₀ : Around) (base h₀ : Heap) (L : Addr) (m : Str → Option Value) (s : Shared) (Q E : Value → Shared → Prop),
    Below A₀ base outer h₀ → Fr h₀ L s.heap m → (hd.heap_39 w.params).In h₀ → News h₀ L s.heap (rest ++ T) → Top p lo mean mg mb h₀ → cs.kind = .function →
    TabS P line col qual T → (∀ q ∈ rest, q.1 ≠ P) → pre rest → dp + 10 * n < recursionLimit → un + 100 * n < cLine →
    (∀ (v : Value) (own T' : Led) (h' : Heap) (tk' : Nat), Post v own → TabS P line col qual T' → Fr h₀ L h' m → News h₀ L h' (own ++ (rest ++ T')) → (∀ p ∈ rest, ∀ q ∈ own, p.1 < q.1) → (∀ p ∈ T', ∀ q ∈ own, p.1 ≠ q.1) →
      (∀ d, (∃ o, (d, o) ∈ rest) → NeL d T → NeL d T') → Q v { s with heap := h', toks := tk' }) →
      wpAny (model P0 w) (ktrTop dp un gd cn cs L a ccd cl outer) (call (.ref f) vs) Q E s

noncomputable def Ints (ds : List Int) (v : Value) (own : Led) : Prop := ∃ D vs, v = .ref D ∧ own = [(D, W.listOf vs.toArray 0)] ∧ IntsAre vs ds
noncomputable def qual80 : Str := Str.ofString "_int2digits" ++ Str.ofString ".<locals>." ++ Str.ofString "inner"
theorem ints_rep (x : Int) (t : Tok) : ∀ c, IntsAre (List.replicate c (.int x t)) (List.replicate c x)
  | 0 => .nil
  | c + 1 => .cons x t (ints_rep x t c)

theorem rows_D4_1 : True := by
  k_with "exec FunctionDef" => (k_here; k_dflt (refine' nestDef_K ?q16d0 ?q16k0 ?q16a0 ?_; (case q16d0 => exact rfl); (case q16k0 => exact rfl); (case q16a0 => exact rfl)); (rename TabS _ _ _ _ _ => hTS9); k_dflt (refine' nest_T ?q16F ?q16N ?q16T ?q16C ?q16cd ?q16U hTS9 ?q16hP ?q16cl ?_; (case q16F => k_asm); (case q16N => k_asm); (case q16T => k_asm); (case q16cd => exact rfl); (case q16C => assumption); (case q16U => repeat' (first | with_reducible exact TlF.here | refine' TlF.cons ?_)); (case q16hP => ((try dsimp only); k_all)); (case q16cl => exact rfl); k_whole); intro f' c' oc' vsC tC T' ct' dc' h' tk' hTS hm1 hdC hvC F' N' lf hap; (try dsimp only at N' lf hap); (try k_lt lf); (first | (revert f' c' oc' vsC tC T' ct' dc' h' tk'; intros) | skip))
  k_with "call builtin:int.bit_length" => (k_here; (refine bl_K (by omega) (by omega) ?_); intro hbl; (first | (revert hbl; intros) | skip))
  k_with "binaryOp Mult ref int" => (k_here; (with_reducible show wpAny _ _ (binaryOp Operator.Mult (Value.ref _) (Value.int _ _)) _ _ _); k_dflt (refine' rep_K ?q18k1 ?q18k2 ?q18k3 ?q18k4 ?q18k5 ?_; (case q18k1 => k_asm); (case q18k2 => k_asm); (case q18k3 => k_mem); (case q18k4 => assumption); (case q18k5 => first | assumption | omega | decide); k_whole); intro D' h' F' N' l1; (try k_lt l1); (first | (revert D' h'; intros) | skip))
  trivial

theorem rows_D4_2 : True := by
  k_with "call builtin:len" => (k_here; (with_reducible show wpAny _ _ (call (Value.builtin "len") [Value.ref _]) _ _ _); k_dflt (refine' kst_len ?q19k1 ?q19k2 ?q19k3 ?q19k4 ?_; (case q19k1 => k_asm); (case q19k2 => k_mem); (case q19k3 => exact List.length_replicate ..); (case q19k4 => omega); k_whole))
  trivial

theorem rows_D4_3 : True := by
  k_with "call ref" => (k_here; k_dflt (refine' inner_use (inner_all _ _ 3) ?q20F (cb_drop ?q20N0 (List.forall_mem_cons.mpr ⟨?q20m1, List.forall_mem_cons.mpr ⟨?q20m2, List.forall_mem_cons.mpr ⟨?q20m3, List.forall_mem_cons.mpr ⟨?q20m4, List.forall_mem_cons.mpr ⟨?q20m5, ?q20m6⟩⟩⟩⟩⟩)) ?q20hi ?q20B ?q20X ?q20T ?q20hk ?q20r1 ?q20r2 ?q20r3 ?q20r4 ?q20r5 ?q20hx ?q20r6 ?q20r7 ?q20cI ?q20cA ?q20cN ?q20cc ?q20cv ?q20cm ?q20ne ?q20n1 ?q20n2 ?q20n3 ?q20n4 ?q20dp ?q20un ?q20CH ?_; (case q20F => k_asm); (case q20N0 => k_asm); (case q20m1 => k_mem); (case q20m2 => k_mem); (case q20cI => assumption); (case q20cA => assumption); (case q20cN => assumption); (case q20cm => assumption); (case q20m3 => k_mem); (case q20m4 => k_mem); (case q20m5 => k_mem); (case q20m6 => (intro p hp; repeat (first | exact hp | refine List.Mem.tail _ ?_))); (case q20hi => exact ints_rep _ _ _); (case q20B => k_asm); (case q20X => k_asm); (case q20T => k_asm); (case q20hk => exact rfl); (case q20cc => assumption); (case q20cv => assumption); (case q20ne => k_all); (case q20n1 => k_ne); (case q20n2 => k_ne); (case q20n3 => k_ne); (case q20n4 => k_ne); (case q20CH => assumption); (case q20r1 => omega); (case q20r2 => omega); (case q20r3 => omega); (case q20r4 => ((try simp only [List.length_replicate]); omega)); (case q20r5 => ((try simp only [List.length_replicate]); omega)); (case q20r6 => omega); (case q20r7 => omega); (case q20dp => ktr_room); (case q20un => ktr_units); (case q20hx => (constructor <;> omega)); k_whole); intro vs' h' tk' hi' F' N'; (try dsimp only); (first | (revert vs' h' tk'; intros) | skip))
  trivial

theorem end_ints {P : Addr} {line col : Nat} {qual : Str} {ds : List Int} {rest T T' R news' : Led} {h₀ h' : Heap} {L : Addr} {L' D : Nat} {m : Str → Option Value} {s : Shared} {Q : Value → Shared → Prop} {vs : List Value} {tk' : Nat}
    (hret : ∀ (v : Value) (own T' : Led) (h' : Heap) (tk' : Nat), Ints ds v own → TabS P line col qual T' → Fr h₀ L h' m → News h₀ L h' (own ++ (rest ++ T')) → (∀ p ∈ rest, ∀ q ∈ own, p.1 < q.1) → (∀ p ∈ T', ∀ q ∈ own, p.1 ≠ q.1) →
      (∀ d, (∃ o, (d, o) ∈ rest) → NeL d T → NeL d T') → Q v { s with heap := h', toks := tk' })
    (hi : IntsAre vs ds) (hTS : TabS P line col qual T') (F : Fr h₀ L h' m) (N : News h₀ L h' news') (hm : (D, W.listOf vs.toArray 0) ∈ news') (htl : ∀ p ∈ rest ++ T', p ∈ news') (l1 : ∀ p ∈ rest ++ T, p.1 < L') (hD : L' ≤ D) (ne : NeL D (rest ++ T'))
    (hap : ∀ d, (∃ o, (d, o) ∈ R) → NeL d T → NeL d T') (hR : ∀ p ∈ rest, p ∈ R) : Q (.ref D) { s with heap := h', toks := tk' } := by
  refine hret (.ref D) [(D, W.listOf vs.toArray 0)] T' h' tk' ⟨D, vs, rfl, rfl, hi⟩ hTS F (fun p hp => N p ?_) (fun p hp q hq => ?_) (fun p hp q hq => ?_) (fun d hd => hap d ?_)
  · rcases List.mem_append.mp hp with h | h
    · rw [List.mem_singleton.mp h]; exact hm
    · exact htl p h
  · rw [List.mem_singleton.mp hq]
    exact Nat.lt_of_lt_of_le (l1 p (List.mem_append_left _ hp)) hD
  · rw [List.mem_singleton.mp hq]
    exact ne p (List.mem_append_right _ hp)
  · obtain ⟨o, hm⟩ := hd
    exact ⟨o, hR _ hm⟩

noncomputable def digF (a n : Int) (c : Nat) : List Int := if a = 0 then List.replicate c 0 else innerF n 3 a 0 c (List.replicate c 0)

set_option maxHeartbeats 4000000 in
theorem i2d_spec (w : World) (a n : Int) (c : Nat) (t1 t3 : Tok) : SpecT 5 w 85 80 69 4 qual80 (fun _ => 0 ≤ a ∧ a < 32 ∧ 1 ≤ n ∧ n ≤ 3 ∧ ((Builtin.Int.intBits a : Int) + n - 1).fdiv n = (c : Int) ∧ c ≤ 3 ∧ (a ≠ 0 → 1 ≤ c)) [.int a t1, .int n t3] (Ints (digF a n c)) := by
  have kf : PySem.Challenge.rw_zo0034_01 = PySem.Challenge.rw_zo0034_01 ∧ hd.heap_39 = hd.heap_39 := by
    k_fill
    exact ⟨rfl, rfl⟩
  clear kf
  unfold SpecT
  intro p9 lo9 mean mg mb rest T9 dp un gd cn cs ad ccd cl outer A₀ base h₀ L m s Q E B F X N T hk hT9 hrP hp hdp hu hret
  obtain ⟨hp1, hp2, hp3, hp4, hp5, hp6, hp7⟩ := hp
  have CH : CodeHd h₀ 84 80 := codeHd_of_K X (by kernel_rfl)
  refine wpAny_call ?_
  k_dflt (refine' code_defC ?k1 ?k2 ?k3 ?k4 ?k5 ?kA ?kF ?kK ?k6 ?k7 ?k8 ?k9 ?kB ?kD ?_ ?c2 ?c3 ?c4; (case kA => exact rfl); (case kF => exact rfl); (case kK => assumption); (case k1 => k_asm); (case k2 => k_asm); (case k3 => k_asm); (case k4 => k_asm); (case k5 => k_asm); (case k6 => k_is); (case k7 => k_is); (case k8 => ktr_room); (case k9 => exact BindsTo.of_eq rfl); (case kB => exact rfl); (case kD => decide +kernel); (case c2 => exact rfl); (case c3 => exact rfl); (case c4 => exact rfl); k_whole; intro g' L' h' tk' cells' FG' F' N' Y' B' X' T' l1; k_cells Y'; (try simp only [List.cons_append, List.nil_append] at N'); (try dsimp only); (try k_lift B'); (try k_fold))
  have l1' := allLt_of l1
  have CH' := CH.keeps FG'.keep
  have h80 : (80 : Nat) < L' := by
    obtain ⟨ps, c, o, rfl, _⟩ := hT9
    exact l1 (80, tabObj ps) (List.mem_append_right _ (.head _))
  k_steps
  all_goals (rename (∀ d, (∃ o, (d, o) ∈ _) → _) => hap)
  · refine end_ints hret (ds := digF a n c) ?i1 (by assumption) (by k_asm) (by k_asm) (by k_mem) (by (intro p hp; repeat (first | exact hp | refine List.Mem.tail _ ?_))) l1 (by omega) (by k_all) hap (by (intro p hp; repeat (first | exact hp | refine List.Mem.tail _ ?_)))
    unfold digF
    rw [if_neg (by assumption)]
    assumption
  · refine end_ints hret (ds := digF a n c) ?i2 (by assumption) (by k_asm) (by k_asm) (by k_mem) (by (intro p hp; repeat (first | exact hp | refine List.Mem.tail _ ?_))) l1 (by omega) (by k_all) hap (by (intro p hp; repeat (first | exact hp | refine List.Mem.tail _ ?_)))
    unfold digF
    rw [if_pos (by assumption)]
    exact ints_rep _ _ _
end
section
open PySem PySem.W PyProof.Rows PySem.Spec PySem.Calls
set_option maxRecDepth 100000
theorem fresh_D5 : True ∧ True := by
  w_top off
  k_with_none
  first | (walk1; done) | exact ⟨trivial, trivial⟩
noncomputable def in87 : { t : Arguments × List Stmt × Scope // (topDef (Str.ofString "_digits2int")).bind (fun t => nestedOf t.2.1) = some t } := ⟨_, by rfl⟩

section
variable {prog : Program} {w : World} {A : Around} {E : Value → Shared → Prop} {s : Shared}
theorem shlB_K {a n : Int} {t u : Tok} {Q : Value → Shared → Prop} (h0 : 0 ≤ a) (h1 : a < 2 ^ 40) (hn : 0 ≤ n) (hn2 : n ≤ 1000) (h : Q (.int (a * 2 ^ n.toNat) s.toks) { s with toks := s.toks + 1 }) :
    wpAny (model prog w) A (binaryOp .LShift (.int a t) (.int n u)) Q E s :=
  lshift_int_small hn (by omega) (by omega) h
end

noncomputable def d2iF (n : Int) : Nat → Int → Int → List Int → Int
  | 0, _, _, _ => 0
  | k + 1, lo, hi, ds => if lo + 1 = hi then ds.getD lo.toNat 0 else
    d2iF n k ((lo + hi) / 2) hi ds * 2 ^ (((lo + hi) / 2 - lo) * n).toNat + d2iF n k lo ((lo + hi) / 2) ds
theorem getD_bd {ds : List Int} (h : ∀ d ∈ ds, 0 ≤ d ∧ d < 8) (i : Nat) : 0 ≤ ds.getD i 0 ∧ ds.getD i 0 < 8 := by
  rw [List.getD_eq_getElem?_getD]
  cases e : ds[i]? with
  | none => exact ⟨Int.le_refl _, by decide⟩
  | some d => exact h d (List.mem_of_getElem? e)
theorem d2iF_bd {n : Int} (hn0 : 0 ≤ n) (hn1 : n ≤ 3) {ds : List Int} (hd : ∀ d ∈ ds, 0 ≤ d ∧ d < 8) : ∀ (k : Nat) (lo hi : Int), 0 ≤ lo → lo ≤ hi → hi ≤ 3 → 0 ≤ d2iF n k lo hi ds ∧ d2iF n k lo hi ds ≤ 8 * 513 ^ k
  | 0, _, _, _, _, _ => ⟨Int.le_refl _, by show (0 : Int) ≤ _; decide⟩
  | k + 1, lo, hi, h0, h1, h2 => by
    unfold d2iF
    split
    · have := getD_bd hd lo.toNat
      have h3 : (1 : Int) ≤ 513 ^ (k + 1) := Int.pow_pos (by decide)
      exact ⟨this.1, by omega⟩
    · have A := d2iF_bd hn0 hn1 hd k ((lo + hi) / 2) hi (by omega) (by omega) h2
      have B := d2iF_bd hn0 hn1 hd k lo ((lo + hi) / 2) h0 (by omega) (by omega)
      have m := mul_le (a := (lo + hi) / 2 - lo) (b := n) (p := 3) (q := 3) (by omega) (by omega) hn0 hn1
      have hp : ((2 : Int) ^ (((lo + hi) / 2 - lo) * n).toNat) ≤ 512 := by
        have : (((lo + hi) / 2 - lo) * n).toNat ≤ 9 := by omega
        have := Nat.pow_le_pow_right (n := 2) (by decide) this
        calc ((2 : Int) ^ (((lo + hi) / 2 - lo) * n).toNat) = ((2 ^ (((lo + hi) / 2 - lo) * n).toNat : Nat) : Int) := by norm_cast
          _ ≤ _ := by omega
      have hp0 : (0 : Int) ≤ 2 ^ (((lo + hi) / 2 - lo) * n).toNat := Int.le_of_lt (Int.pow_pos (by decide))
      have M := mul_le A.1 A.2 hp0 hp
      have e : (513 : Int) ^ (k + 1) = 513 ^ k * 513 := Int.pow_succ ..
      omega
theorem d2iF_40 {n : Int} (hn0 : 0 ≤ n) (hn1 : n ≤ 3) {ds : List Int} (hd : ∀ d ∈ ds, 0 ≤ d ∧ d < 8) {k : Nat} (hk : k ≤ 3) {lo hi : Int} (h0 : 0 ≤ lo) (h1 : lo ≤ hi) (h2 : hi ≤ 3) : 0 ≤ d2iF n k lo hi ds ∧ d2iF n k lo hi ds < 2 ^ 40 := by
  have A := d2iF_bd hn0 hn1 hd k lo hi h0 h1 h2
  have : ((513 : Int) ^ k) ≤ 513 ^ 3 := by
    have := Nat.pow_le_pow_right (n := 513) (by decide) hk
    calc ((513 : Int) ^ k) = ((513 ^ k : Nat) : Int) := by norm_cast
      _ ≤ _ := by omega
  omega

noncomputable abbrev fn87 (qual : Str) (cN cI cA : Addr) (doc pm : Value) (c' : Addr) (ctv : Value) : Obj :=
  fnMade (Str.ofString "inner") qual in87.1.1 in87.1.2.1 in87.1.2.2 [(Str.ofString "n", cN), (Str.ofString "inner", cI), (Str.ofString "digits", cA)] doc pm c' ctv

noncomputable def Inn2C (w : World) (n : Int) (k : Nat) : Prop :=
  ∀ (p : Program) (lo : List Str) (mean : ExcName → Option Value) (mg mb : Str → Option Value) (l9 r9 : Int) (tl9 tr tn : Tok) (D f cI cA cN c' : Nat) (oI oA oN oc : Obj) (vs : List Value) (nn : Nat) (ds : List Int) (cvs : Array Value) (ct : Tok) (qual : Str) (doc pm ctv : Value) (news : Led)
    (dp un : Nat) (gd : Option (List Code)) (cn : Str) (cs : Scope) (a : Addr) (ccd : Value) (cl : List (Str × Addr)) (outer : List Env) (A₀ : Around) (base h₀ : Heap) (L : Addr) (m : Str → Option Value) (s : Shared) (Q E : Value → Shared → Prop),
    k ≤ 3 → r9 - l9 ≤ k → 0 ≤ l9 → l9 < r9 → r9 ≤ ds.length → ds.length ≤ 3 → (∀ d ∈ ds, 0 ≤ d ∧ d < 8) → 0 ≤ n → n ≤ 3 →
    IntsAre vs ds → oI.data = .cell (some (.ref f)) → oA.data = .cell (some (.ref D)) → oN.data = .cell (some (.int n tn)) → oc.data = .fields cvs → cvs[1]? = some (.str qual ct) → (c', oc) ∈ news → (D, W.listOf vs.toArray nn) ∈ news → (f, fn87 qual cN cI cA doc pm c' ctv) ∈ news → (cI, oI) ∈ news → (cA, oA) ∈ news → (cN, oN) ∈ news →
    Below A₀ base outer h₀ → Fr h₀ L s.heap m → (hd.heap_39 w.params).In h₀ → News h₀ L s.heap news →
    Top p lo mean mg mb h₀ → cs.kind = .function → dp + 5 * k + 5 < recursionLimit → un + 50 * k + 50 < cLine → CodeHd h₀ 91 87 →
    (∀ (y : Int) (t : Tok) (h' : Heap) (tk' : Nat), y = d2iF n k l9 r9 ds → 0 ≤ y → y < 2 ^ 40 → Fr h₀ L h' m → News h₀ L h' news → Q (.int y t) { s with heap := h', toks := tk' }) →
    wpAny (model P0 w) (ktrTop dp un gd cn cs L a ccd cl outer) (call (.ref f) [.int l9 tl9, .int r9 tr]) Q E s
theorem inn2_use {w : World} {n : Int} {k : Nat} (C : Inn2C w n k) {p : Program} {lo : List Str} {mean : ExcName → Option Value} {mg mb : Str → Option Value} {l9 r9 : Int} {tl9 tr tn : Tok} {D f cI cA cN c' : Nat} {oI oA oN oc : Obj} {vs : List Value} {nn : Nat} {ds : List Int} {cvs : Array Value} {ct : Tok} {qual : Str} {doc pm ctv : Value} {news : Led}
    {dp un : Nat} {gd : Option (List Code)} {cn : Str} {cs : Scope} {a : Addr} {ccd : Value} {cl : List (Str × Addr)} {outer : List Env} {A₀ : Around} {base h₀ : Heap} {L : Addr} {m : Str → Option Value} {s : Shared} {Q E : Value → Shared → Prop}
    (F : Fr h₀ L s.heap m) (N : News h₀ L s.heap news) (m2 : (f, fn87 qual cN cI cA doc pm c' ctv) ∈ news) (hI : oI.data = .cell (some (.ref f))) (m3 : (cI, oI) ∈ news) (m4 : (cA, oA) ∈ news) (m5 : (cN, oN) ∈ news) (hA : oA.data = .cell (some (.ref D))) (hN : oN.data = .cell (some (.int n tn)))
    (m1 : (D, W.listOf vs.toArray nn) ∈ news) (m6 : (c', oc) ∈ news) (hc : oc.data = .fields cvs) (hv : cvs[1]? = some (.str qual ct)) (hi : IntsAre vs ds)
    (B : Below A₀ base outer h₀) (X : (hd.heap_39 w.params).In h₀) (T : Top p lo mean mg mb h₀) (hk : cs.kind = .function)
    (hk3 : k ≤ 3) (hrl : r9 - l9 ≤ k) (hl0 : 0 ≤ l9) (hlr : l9 < r9) (hr : r9 ≤ ds.length) (hd : ds.length ≤ 3) (hb : ∀ d ∈ ds, 0 ≤ d ∧ d < 8) (hn0 : 0 ≤ n) (hn1 : n ≤ 3)
    (hdp : dp + 5 * k + 5 < recursionLimit) (hun : un + 50 * k + 50 < cLine) (CH : CodeHd h₀ 91 87)
    (h : ∀ (y : Int) (t : Tok) (h' : Heap) (tk' : Nat), y = d2iF n k l9 r9 ds → 0 ≤ y → y < 2 ^ 40 → Fr h₀ L h' m → News h₀ L h' news → Q (.int y t) { s with heap := h', toks := tk' }) :
    wpAny (model P0 w) (ktrTop dp un gd cn cs L a ccd cl outer) (call (.ref f) [.int l9 tl9, .int r9 tr]) Q E s :=
  C p lo mean mg mb l9 r9 tl9 tr tn D f cI cA cN c' oI oA oN oc vs nn ds cvs ct qual doc pm ctv news dp un gd cn cs a ccd cl outer A₀ base h₀ L m s Q E hk3 hrl hl0 hlr hr hd hb hn0 hn1 hi hI hA hN hc hv m6 m1 m2 m3 m4 m5 B F X N T hk hdp hun CH h

theorem rows_D5_1 : True := by
  k_with "call ref" => (k_here; (rename Inn2C _ _ _ => ih9); k_dflt (refine' inn2_use ih9 ?q21F ?q21N ?q21m2 ?q21cI ?q21m3 ?q21m4 ?q21m5 ?q21cA ?q21cN ?q21m1 ?q21m6 ?q21cc ?q21cv ?q21hi ?q21B ?q21X ?q21T ?q21hk ?q21h3 ?q21r1 ?q21r2 ?q21r3 ?q21r4 ?q21r5 ?q21hx ?q21r6 ?q21r7 ?q21dp ?q21un ?q21CH ?_; (case q21F => k_asm); (case q21N => k_asm); (case q21m2 => assumption); (case q21cI => assumption); (case q21m3 => assumption); (case q21m4 => assumption); (case q21m5 => assumption); (case q21cA => assumption); (case q21cN => assumption); (case q21m1 => assumption); (case q21m6 => assumption); (case q21cc => assumption); (case q21cv => assumption); (case q21hi => assumption); (case q21B => k_asm); (case q21X => k_asm); (case q21T => k_asm); (case q21hk => exact rfl); (case q21h3 => omega); (case q21r1 => omega); (case q21r2 => omega); (case q21r3 => omega); (case q21r4 => omega); (case q21r5 => omega); (case q21hx => assumption); (case q21r6 => omega); (case q21r7 => omega); (case q21dp => ktr_room); (case q21un => ktr_units); (case q21CH => assumption); k_whole); intro y9 t9 h' tk' e9 g9 j9 F' N'; (try dsimp only); (first | (revert y9 t9 h' tk'; intros) | skip))
  trivial
theorem rows_D5_2 : True := by
  k_with "binaryOp RShift int int" => (k_here; (with_reducible show wpAny _ _ (binaryOp _ _ (Value.int 1 _)) _ _ _); (refine shr1_K (by omega) ?_); intro y9 e9; (first | (revert y9; intros) | skip))
  k_with "binaryOp LShift int int" => (k_here; (refine shlB_K (by omega) (by omega) (by omega) (by omega) ?_))
  k_with "binaryOp Mult int int" => (k_here; (refine mul3_K (by omega) (by omega) (by omega) (by omega) ?_); intro y9 e9 g9 j9; (first | (revert y9; intros) | skip))
  trivial

set_option maxHeartbeats 4000000 in
theorem inn2_step (w : World) (n : Int) (k : Nat) (ih : Inn2C w n k) : Inn2C w n (k + 1) := by
  have kf : PySem.Challenge.rw_zo0034_01 = PySem.Challenge.rw_zo0034_01 ∧ hd.heap_39 = hd.heap_39 := by
    k_fill
    exact ⟨rfl, rfl⟩
  clear kf
  unfold Inn2C
  intro p9 lo9 mean mg mb l9 r9 tl9 tr tn D f cI cA cN c' oI oA oN oc vs nn ds cvs ct qual doc pm ctv news dp un gd cn cs ad ccd cl outer A₀ base h₀ L m s Q E hk3 hk1 hl0 hlr hr hds hb hn0 hn1 hi hdI hdA hdN hdc hcv m6 m1 m2 m3 m4 m5 B F X N T hk hdp hdu CH hret
  refine wpAny_call ?_
  k_dflt (refine' code_nest ?k1 ?k2 ?k3 ?k4 ?k5 ?kA ?kF ?kK ?k6 ?k7 ?k8 ?k9 ?kB ?_ ?c2 ?c3 ?c4 ?c5; (case kA => exact rfl); (case kF => exact rfl); (case kK => assumption); (case k1 => k_asm); (case k2 => k_asm); (case k3 => k_asm); (case k4 => k_asm); (case k5 => k_asm); (case k6 => assumption); (case k7 => exact codeRec_news (by k_asm) (by k_mem) (by assumption) (by assumption)); (case k8 => ktr_room); (case k9 => exact BindsTo.of_eq rfl); (case c5 => decide); (case kB => exact locs rfl); (case c2 => exact rfl); (case c3 => exact rfl); (case c4 => exact rfl); k_whole; intro g' L' h' FG' F' N' B' X' T'; (try dsimp only); (try k_lift B'); (try k_fold))
  have CH' := CH.keeps FG'.keep
  k_steps
  · have bd := getD_bd hb l9.toNat
    exact hret _ _ _ _ (by unfold d2iF; rw [if_pos (by assumption)]) bd.1 (by omega) (by k_asm) (by k_asm)
  · have bd := d2iF_40 hn0 hn1 hb hk3 hl0 (Int.le_of_lt hlr) (by omega : r9 ≤ 3)
    have e : d2iF n (k + 1) l9 r9 ds = d2iF n k ((l9 + r9) / 2) r9 ds * 2 ^ (((l9 + r9) / 2 - l9) * n).toNat + d2iF n k l9 ((l9 + r9) / 2) ds := by
      show (if l9 + 1 = r9 then _ else _) = _
      rw [if_neg (by assumption)]
    subst_vars
    rw [e] at bd
    exact hret _ _ _ _ e.symm bd.1 bd.2 (by k_asm) (by k_asm)
theorem inn2_all (w : World) (n : Int) : ∀ k, Inn2C w n k
  | 0 => fun _ _ _ _ _ _ _ _ _ _ _ _ _ _ _ _ _ _ _ _ _ _ _ _ _ _ _ _ _ _ _ _ _ _ _ _ _ _ _ _ _ _ _ _ _ _ _ _ hk _ hlr => absurd hk (by omega)
  | k + 1 => inn2_step w n k (inn2_all w n k)
end
section
open PySem PySem.W PyProof.Rows PySem.Spec PySem.Calls
set_option maxRecDepth 100000
theorem fresh_D6 : True ∧ True := by
  w_top off
  k_with_none
  first | (walk1; done) | exact ⟨trivial, trivial⟩
noncomputable def qual87 : Str := Str.ofString "_digits2int" ++ Str.ofString ".<locals>." ++ Str.ofString "inner"

theorem d2i_nil {vs : List Value} {ds : List Int} (h : vs.isEmpty = true) (hi : IntsAre vs ds) : ds.isEmpty = true := by
  have := hi.length
  have h' := List.isEmpty_iff.mp h
  rw [h'] at this
  exact List.isEmpty_iff.mpr (List.length_eq_zero_iff.mp this.symm)
theorem d2i_pos {vs : List Value} {ds : List Int} (h : vs.isEmpty = false) (hi : IntsAre vs ds) : (0 : Int) < ds.length := by
  have := hi.length
  cases vs with
  | nil => simp at h
  | cons a r => simp at this; omega
theorem end_val {P : Addr} {line col : Nat} {qual : Str} {Rv : Value → Prop} {rest T T' R news' : Led} {h₀ h' : Heap} {L : Addr} {m : Str → Option Value} {s : Shared} {Q : Value → Shared → Prop} {v : Value} {tk' : Nat}
    (hret : ∀ (v : Value) (own T' : Led) (h' : Heap) (tk' : Nat), Only Rv v own → TabS P line col qual T' → Fr h₀ L h' m → News h₀ L h' (own ++ (rest ++ T')) → (∀ p ∈ rest, ∀ q ∈ own, p.1 < q.1) → (∀ p ∈ T', ∀ q ∈ own, p.1 ≠ q.1) →
      (∀ d, (∃ o, (d, o) ∈ rest) → NeL d T → NeL d T') → Q v { s with heap := h', toks := tk' })
    (hv : Rv v) (hTS : TabS P line col qual T') (F : Fr h₀ L h' m) (N : News h₀ L h' news') (htl : ∀ p ∈ rest ++ T', p ∈ news')
    (hap : ∀ d, (∃ o, (d, o) ∈ R) → NeL d T → NeL d T') (hR : ∀ p ∈ rest, p ∈ R) : Q v { s with heap := h', toks := tk' } :=
  hret v [] T' h' tk' ⟨rfl, hv⟩ hTS F (fun p hp => N p (htl p hp)) (fun _ _ _ hq => nomatch hq) (fun _ _ _ hq => nomatch hq) (fun d ⟨o, hm⟩ => hap d ⟨o, hR _ hm⟩)

theorem rows_D6_1 : True := by
  k_with "exec FunctionDef" => (k_here; k_dflt (refine' nestDef_K ?q25d0 ?q25k0 ?q25a0 ?_; (case q25d0 => exact rfl); (case q25k0 => exact rfl); (case q25a0 => exact rfl)); (rename TabS _ _ _ _ _ => hTS9); k_dflt (refine' nest_T ?q25F ?q25N ?q25T ?q25C ?q25cd ?q25U hTS9 ?q25hP ?q25cl ?_; (case q25F => k_asm); (case q25N => k_asm); (case q25T => k_asm); (case q25cd => exact rfl); (case q25C => assumption); (case q25U => repeat' (first | with_reducible exact TlF.here | refine' TlF.cons ?_)); (case q25hP => ((try dsimp only); k_all)); (case q25cl => exact rfl); k_whole); intro f' c' oc' vsC tC T' ct' dc' h' tk' hTS hm1 hdC hvC F' N' lf hap; (try dsimp only at N' lf hap); (try k_lt lf); (first | (revert f' c' oc' vsC tC T' ct' dc' h' tk'; intros) | skip))
  k_with "truthy ref" => (k_here; k_dflt (refine' kgr_truthy ?q26k1 ?q26k2 ?q26k3 ?q26k4 ?q26k5 ?_; (case q26k1 => k_asm); (case q26k2 => (repeat (first | exact List.mem_append_left _ (by assumption) | refine List.Mem.tail _ ?_))); (case q26k3 => exact rfl); (case q26k4 => exact rfl); (case q26k5 => omega); k_whole))
  k_with "call builtin:len" => (k_here; (with_reducible show wpAny _ _ (call (Value.builtin "len") [Value.ref _]) _ _ _); k_dflt (refine' kst_len ?q27k1 ?q27k2 ?q27k3 ?q27k4 ?_; (case q27k1 => k_asm); (case q27k2 => (repeat (first | exact List.mem_append_left _ (by assumption) | refine List.Mem.tail _ ?_))); (case q27k3 => assumption); (case q27k4 => omega); k_whole))
  k_with "call ref" => (k_here; k_dflt (refine' inn2_use (inn2_all _ _ 3) ?q28F ?q28N ?q28m2 ?q28cI ?q28m3 ?q28m4 ?q28m5 ?q28cA ?q28cN ?q28m1 ?q28m6 ?q28cc ?q28cv ?q28hi ?q28B ?q28X ?q28T ?q28hk ?q28h3 ?q28r1 ?q28r2 ?q28r3 ?q28r4 ?q28r5 ?q28hx ?q28r6 ?q28r7 ?q28dp ?q28un ?q28CH ?_; (case q28F => k_asm); (case q28N => k_asm); (case q28m2 => k_mem); (case q28cI => assumption); (case q28m3 => k_mem); (case q28m4 => k_mem); (case q28m5 => k_mem); (case q28cA => assumption); (case q28cN => assumption); (case q28m1 => (repeat (first | exact List.mem_append_left _ (by assumption) | refine List.Mem.tail _ ?_))); (case q28m6 => k_mem); (case q28cc => assumption); (case q28cv => assumption); (case q28hi => assumption); (case q28B => k_asm); (case q28X => k_asm); (case q28T => k_asm); (case q28hk => exact rfl); (case q28h3 => omega); (case q28r1 => omega); (case q28r2 => omega); (case q28r3 => exact d2i_pos (by assumption) (by assumption)); (case q28r4 => omega); (case q28r5 => omega); (case q28hx => assumption); (case q28r6 => omega); (case q28r7 => omega); (case q28dp => ktr_room); (case q28un => ktr_units); (case q28CH => assumption); k_whole); intro y9 t9 h' tk' e9 g9 j9 F' N'; (try dsimp only); (first | (revert y9 t9 h' tk'; intros) | skip))
  trivial

noncomputable def d2iV (n : Int) (ds : List Int) : Int := if ds.isEmpty then 0 else d2iF n 3 0 ds.length ds

set_option maxHeartbeats 4000000 in
theorem d2i_spec (w : World) (n : Int) (D : Nat) (vs : List Value) (ds : List Int) (nn : Nat) (t3 : Tok) : SpecT 5 w 92 87 84 4 qual87 (fun rest => (D, W.listOf vs.toArray nn) ∈ rest ∧ IntsAre vs ds ∧ ds.length ≤ 3 ∧ (∀ d ∈ ds, 0 ≤ d ∧ d < 8) ∧ 0 ≤ n ∧ n ≤ 3) [.ref D, .int n t3] (Only fun v => ∃ t, v = .int (d2iV n ds) t) := by
  have kf : PySem.Challenge.rw_zo0034_01 = PySem.Challenge.rw_zo0034_01 ∧ hd.heap_39 = hd.heap_39 := by
    k_fill
    exact ⟨rfl, rfl⟩
  clear kf
  unfold SpecT
  intro p9 lo9 mean mg mb rest T9 dp un gd cn cs ad ccd cl outer A₀ base h₀ L m s Q E B F X N T hk hT9 hrP hp hdp hu hret
  obtain ⟨hp1, hp2, hp3, hp4, hp5, hp6⟩ := hp
  have hlen := hp2.length
  have CH : CodeHd h₀ 91 87 := codeHd_of_K X (by kernel_rfl)
  refine wpAny_call ?_
  k_dflt (refine' code_defC ?k1 ?k2 ?k3 ?k4 ?k5 ?kA ?kF ?kK ?k6 ?k7 ?k8 ?k9 ?kB ?kD ?_ ?c2 ?c3 ?c4; (case kA => exact rfl); (case kF => exact rfl); (case kK => assumption); (case k1 => k_asm); (case k2 => k_asm); (case k3 => k_asm); (case k4 => k_asm); (case k5 => k_asm); (case k6 => k_is); (case k7 => k_is); (case k8 => ktr_room); (case k9 => exact BindsTo.of_eq rfl); (case kB => exact rfl); (case kD => decide +kernel); (case c2 => exact rfl); (case c3 => exact rfl); (case c4 => exact rfl); k_whole; intro g' L' h' tk' cells' FG' F' N' Y' B' X' T' l1; k_cells Y'; (try simp only [List.cons_append, List.nil_append] at N'); (try dsimp only); (try k_lift B'); (try k_fold))
  have l1' := allLt_of l1
  have CH' := CH.keeps FG'.keep
  have h87 : (87 : Nat) < L' := by
    obtain ⟨ps, c, o, rfl, _⟩ := hT9
    exact l1 (87, tabObj ps) (List.mem_append_right _ (.head _))
  k_steps
  all_goals (rename (∀ d, (∃ o, (d, o) ∈ _) → _) => hap)
  · refine end_val hret ⟨_, congrArg (Value.int · _) ?_⟩ (by assumption) (by k_asm) (by k_asm) (by (intro p hp; repeat (first | exact hp | refine List.Mem.tail _ ?_))) hap (by (intro p hp; repeat (first | exact hp | refine List.Mem.tail _ ?_)))
    unfold d2iV
    rw [if_pos (d2i_nil (by assumption) hp2)]
  · refine end_val hret ⟨_, congrArg (Value.int · _) ?_⟩ (by assumption) (by k_asm) (by k_asm) (by (intro p hp; repeat (first | exact hp | refine List.Mem.tail _ ?_))) hap (by (intro p hp; repeat (first | exact hp | refine List.Mem.tail _ ?_)))
    have := d2i_pos (by assumption) hp2
    unfold d2iV
    rw [if_neg (by intro h; have h' := List.isEmpty_iff.mp h; rw [h'] at this; simp at this)]
    assumption
end
section
open PySem PySem.W PyProof.Rows PySem.Spec PySem.Calls
set_option maxRecDepth 100000
theorem fresh_LP : True ∧ True := by
  w_top off
  k_with_none
  first | (walk1; done) | exact ⟨trivial, trivial⟩
section
variable {prog : Program} {w : World} {A : Around} {E : Value → Shared → Prop} {s : Shared} {env : Env} {h₀ : Heap}

/-- a turn's end: the iterator stands as it stood, the rest is J's word -/
noncomputable def TurnE (h₀ : Heap) (L : Addr) (I : Addr) (it : Obj) (J : (Str → Option Value) → Led → Prop) (s₁ s₂ : Shared) : Prop :=
  ∃ m' led' h' tk', s₂ = { s₁ with heap := h', toks := tk' } ∧ Fr h₀ L h' m' ∧ News h₀ L h' ((I, it) :: led') ∧ (∀ p ∈ led', p.1 < I) ∧ J m' led'
noncomputable def TurnP (h₀ : Heap) (L : Addr) (I : Addr) (it : Obj) (J : (Str → Option Value) → Led → Prop) (s₁ : Shared) (Q : Flow → Shared → Prop) (f : Flow) (s₂ : Shared) : Prop :=
  match f with
  | .ret v => Q (.ret v) s₂
  | .brk => Q .next s₂
  | _ => TurnE h₀ L I it J s₁ s₂
theorem TurnE.intro {L I : Addr} {it : Obj} {J : (Str → Option Value) → Led → Prop} {m' : Str → Option Value} {led' news' : Led} {h' : Heap} {tk' : Nat} {s₁ : Shared} (F : Fr h₀ L h' m') (N : News h₀ L h' news') (hI : (I, it) ∈ news') (hs : ∀ p ∈ led', p ∈ news') (hlt : ∀ p ∈ led', p.1 < I) (hj : J m' led') :
    TurnE h₀ L I it J s₁ { s₁ with heap := h', toks := tk' } :=
  ⟨m', led', h', tk', rfl, F, fun p hp => (List.mem_cons.mp hp).elim (fun e => e ▸ N _ hI) (fun h => N p (hs p h)), hlt, hj⟩

theorem forJ {x : Str} {px : Pos} {body : List Stmt} {I : Addr} {it0 : Obj} {fp : List Addr} {n : Nat} {P : Nat → Value → Prop} {St : Nat → Heap → Prop} {m : Str → Option Value} {news prot : Led} {Q : Flow → Shared → Prop}
    (W : Walks prog w A I fp [I] n P St) (hI : ∀ i h, St i h → ∃ o, h.get? I = some o) (hfp : ∀ b ∈ fp, b = I ∨ ∃ o, (b, o) ∈ prot)
    (hx : env.kindOf x = some .local) (hp : (env.scope.kind == .class || (env.scope.kind == .module && env.locals != env.globals)) = false)
    (hst : St 0 s.heap) (F : Fr h₀ env.locals s.heap m) (N : News h₀ env.locals s.heap ((I, it0) :: news)) (hlt : ∀ p ∈ news, p.1 < I)
    (J : Nat → (Str → Option Value) → Led → Prop) (hJ : ∀ i m led, J i m led → ∀ p ∈ prot, p ∈ led) (h0 : J 0 m news)
    (turn : ∀ i v m₁ led it h tk, i < n → P i v → J i m₁ led → (∀ p ∈ led, p.1 < I) → Fr h₀ env.locals h (fun y => if y = x then some v else m₁ y) → News h₀ env.locals h ((I, it) :: led) →
      wpAny (model prog w) A (execs body env) (TurnP h₀ env.locals I it (J (i + 1)) { s with heap := h, toks := tk } Q) (fun _ _ => False) { s with heap := h, toks := tk })
    (done : ∀ m₁ led h tk, J n m₁ led → (∀ p ∈ led, p.1 < I) → Fr h₀ env.locals h m₁ → News h₀ env.locals h led → Q .next { s with heap := h, toks := tk }) :
    codeAny (model prog w) A (.forLoop (.Name x px) (.ref I) body [] env) (fun r s' => match r with | .ok f => Q f s' | .error e => E e s') s := by
  have hLI : env.locals ≠ I := fun e => (N (I, it0) (.head _)).2.1 e.symm
  have h0I : h₀.get? I = none := (N (I, it0) (.head _)).2.2
  refine codeAny_forLoop
    (fun k s' => ∃ h' tk m' led i, s' = { s with heap := h', toks := tk } ∧ St i h' ∧ Fr h₀ env.locals h' m' ∧ News h₀ env.locals h' led ∧ (∀ p ∈ led, p.1 < I) ∧ J i m' led ∧ i ≤ n ∧ k = n + 1 - i) ?_ (n + 1)
    ⟨s.heap, s.toks, m, news, 0, rfl, hst, F, fun p hp => N p (.tail _ hp), hlt, h0, Nat.zero_le _, rfl⟩
  rintro k s' ⟨h', tk, m', led, i, rfl, hst', F', N', hlt', hj, hi, rfl⟩
  have next : ∀ h₁ : Heap, (∀ b o, b ∉ [I] → h'.get? b = some o → h₁.get? b = some o) → Fr h₀ env.locals h₁ m' ∧ News h₀ env.locals h₁ led := fun h₁ hk₁ =>
    ⟨⟨F'.ns.at' fun o e => hk₁ _ o (by simpa using hLI) e, fun b o e => hk₁ b o (by simp; rintro rfl; rw [h0I] at e; cases e) (F'.keep b o e), F'.above⟩,
      fun p hp => ⟨hk₁ _ _ (by simp; exact Nat.ne_of_lt (hlt' p hp)) (N' p hp).1, (N' p hp).2⟩⟩
  by_cases hin : i < n
  · refine W.item i _ _ _ hin hst' fun v h₁ tk₁ hP hst₁ hk₁ => ?_
    obtain ⟨F₁, N₁⟩ := next h₁ hk₁
    obtain ⟨it, hit⟩ := hI _ _ hst₁
    refine wpAny_assign_Name (wpAny_storeName_local hx F₁.ns (fun h₂ hn₂ hs₂ => ?_) hp)
    have F₂ := F₁.set hn₂ hs₂
    have N₂ : News h₀ env.locals h₂ ((I, it) :: led) := fun p hp => (List.mem_cons.mp hp).elim (fun e => e ▸ ⟨(hs₂.2 I hLI.symm).trans hit, hLI.symm, h0I⟩) (fun h => (N₁.set hs₂) p h)
    refine wpAny_mono (turn i v m' led it h₂ _ hin hP hj hlt' F₂ N₂) (fun f s₃ h₃ => ?_) fun _ _ e => e.elim
    have fin : TurnE h₀ env.locals I it (J (i + 1)) { s with heap := h₂, toks := tk₁ + 1 } s₃ → ∃ m, m < n + 1 - i ∧ ∃ h' tk m' led i, s₃ = { s with heap := h', toks := tk } ∧ St i h' ∧ Fr h₀ env.locals h' m' ∧ News h₀ env.locals h' led ∧ (∀ p ∈ led, p.1 < I) ∧ J i m' led ∧ i ≤ n ∧ m = n + 1 - i := by
      rintro ⟨m₃, led₃, h₄, tk₃, rfl, F₃, N₃, hlt₃, hj₃⟩
      refine ⟨n + 1 - (i + 1), by omega, h₄, tk₃, m₃, led₃, i + 1, rfl, ?_, F₃, fun p hp => N₃ p (.tail _ hp), hlt₃, hj₃, hin, rfl⟩
      refine W.frame _ _ _ hst₁ fun b hb o e => ?_
      rcases hfp b hb with rfl | ⟨ob, hpb⟩
      · rw [hit] at e; cases e
        exact (N₃ _ (.head _)).1
      · have e1 := (N₁ _ (hJ _ _ _ hj _ hpb)).1
        rw [show (b, ob).1 = b from rfl, e] at e1
        cases e1
        exact (N₃ _ (.tail _ (hJ _ _ _ hj₃ _ hpb))).1
    cases f with
    | ret v => exact h₃
    | brk => exact h₃
    | next => exact fin h₃
    | cont => exact fin h₃
  · have hin' : i = n := by omega
    subst hin'
    refine W.done _ _ _ hst' fun h₁ tk₁ hk₁ => wpAny_execs_nil ?_
    obtain ⟨F₁, N₁⟩ := next h₁ hk₁
    exact done m' led h₁ tk₁ hj hlt' F₁ N₁

/-- what a for's iterator is met by -/
noncomputable def FLoop (prog : Program) (w : World) (A : Around) (env : Env) (target : PySem.Expr) (body : List Stmt) (Q : Flow → Shared → Prop) (E : Value → Shared → Prop) (it : Value) (s : Shared) : Prop :=
  codeAny (model prog w) A (.forLoop target it body [] env) (fun r s' => match r with | .ok f => Q f s' | .error e => cameBackBy (model prog w) A env E e s') s
theorem For_F {target iter : PySem.Expr} {body : List Stmt} {pos : Pos} {Q : Flow → Shared → Prop}
    (h : wpAny (model prog w) A (eval iter env) (fun xv s₁ => wpAny (model prog w) A (pyIter xv) (fun it s₂ => FLoop prog w A env target body Q E it s₂) E s₁) E s)
    (hs : ∀ x, foldedSetIterable iter env x = pure x := by intro _; rfl) : wpAny (model prog w) A (exec (.For target iter body [] pos) env) Q E s :=
  wpAny_For h hs

/-- over a list of the ledger -/
theorem iter_listJ {x : Str} {px : Pos} {body : List Stmt} {l : Addr} {vs : List Value} {nn : Nat} {m : Str → Option Value} {news : Led} {Q : Flow → Shared → Prop}
    (hh : A.handled = none) (hx : env.kindOf x = some .local) (hp : (env.scope.kind == .class || (env.scope.kind == .module && env.locals != env.globals)) = false)
    (F : Fr h₀ env.locals s.heap m) (N : News h₀ env.locals s.heap news) (hl : (l, W.listOf vs.toArray nn) ∈ news)
    (J : Nat → (Str → Option Value) → Led → Prop) (hJ : ∀ i m led, J i m led → (l, W.listOf vs.toArray nn) ∈ led) (h0 : J 0 m news)
    (turn : ∀ i v m₁ led I it h tk, vs[i]? = some v → J i m₁ led → (∀ p ∈ led, p.1 < I) → Fr h₀ env.locals h (fun y => if y = x then some v else m₁ y) → News h₀ env.locals h ((I, it) :: led) →
      wpAny (model prog w) A (execs body env) (TurnP h₀ env.locals I it (J (i + 1)) { s with heap := h, toks := tk } Q) (fun _ _ => False) { s with heap := h, toks := tk })
    (done : ∀ m₁ led h tk, J vs.length m₁ led → Fr h₀ env.locals h m₁ → News h₀ env.locals h led → Q .next { s with heap := h, toks := tk }) :
    wpAny (model prog w) A (pyIter (.ref l)) (fun it s₂ => FLoop prog w A env (.Name x px) body Q E it s₂) E s := by
  have hls : s.heap.IsList l vs.toArray := ⟨_, (N _ hl).1, rfl, nn, rfl⟩
  refine wpAny_pyIter_list hls ?_
  have hne : l ≠ s.heap.objs.size := Nat.ne_of_lt (Heap.lt_size (N _ hl).1)
  have W9 := Walks.list (prog := prog) (w := w) hh s.heap.objs.size l hne vs.toArray
  have hlen : vs.toArray.size = vs.length := by simp
  rw [hlen] at W9
  refine forJ (prot := [(l, W.listOf vs.toArray nn)]) W9 (fun i h st => by obtain ⟨o, ho, _⟩ := st.1; exact ⟨o, ho⟩) (fun b hb => ?_) hx hp ⟨⟨_, Heap.get?_push_size _ rfl, rfl, rfl⟩, hls.at fun o e => Heap.get?_push_of_some _ e⟩ (F.push _) (N.push F _) (fun p hp => Heap.lt_size (N p hp).1) J
    (fun i m led h p hp => by rw [List.mem_singleton.mp hp]; exact hJ i m led h) h0 (fun i v m₁ led it h tk _ hv => turn i v m₁ led _ it h tk (by simpa using hv)) (fun m₁ led h tk hj _ => done m₁ led h tk hj)
  simp only [List.mem_cons, List.not_mem_nil, or_false] at hb
  rcases hb with rfl | rfl
  · exact .inl rfl
  · exact .inr ⟨_, .head _⟩

/-- over reversed(list) -/
theorem iter_revJ {x : Str} {px : Pos} {body : List Stmt} {l I : Addr} {vs : List Value} {nn : Nat} {m : Str → Option Value} {news : Led} {Q : Flow → Shared → Prop}
    (hh : A.handled = none) (hx : env.kindOf x = some .local) (hp : (env.scope.kind == .class || (env.scope.kind == .module && env.locals != env.globals)) = false)
    (F : Fr h₀ env.locals s.heap m) (N : News h₀ env.locals s.heap ((I, revObj l ((vs.length : Int) - 1)) :: news)) (hlt : ∀ p ∈ news, p.1 < I) (hl : (l, W.listOf vs.toArray nn) ∈ news)
    (J : Nat → (Str → Option Value) → Led → Prop) (hJ : ∀ i m led, J i m led → (l, W.listOf vs.toArray nn) ∈ led) (h0 : J 0 m news)
    (turn : ∀ i v m₁ led it h tk, i < vs.length → vs[vs.length - 1 - i]? = some v → J i m₁ led → (∀ p ∈ led, p.1 < I) → Fr h₀ env.locals h (fun y => if y = x then some v else m₁ y) → News h₀ env.locals h ((I, it) :: led) →
      wpAny (model prog w) A (execs body env) (TurnP h₀ env.locals I it (J (i + 1)) { s with heap := h, toks := tk } Q) (fun _ _ => False) { s with heap := h, toks := tk })
    (done : ∀ m₁ led h tk, J vs.length m₁ led → Fr h₀ env.locals h m₁ → News h₀ env.locals h led → Q .next { s with heap := h, toks := tk }) :
    wpAny (model prog w) A (pyIter (.ref I)) (fun it s₂ => FLoop prog w A env (.Name x px) body Q E it s₂) E s := by
  have hls : s.heap.IsList l vs.toArray := ⟨_, (N _ (.tail _ hl)).1, rfl, nn, rfl⟩
  have hit : s.heap.IsRevIter I l ((vs.length : Int) - 1) := ⟨_, (N _ (.head _)).1, rfl, rfl⟩
  refine wpAny_pyIter_revIter hit ?_
  have hne : l ≠ I := Nat.ne_of_lt (hlt _ hl)
  have W9 := Walks.listRev (prog := prog) (w := w) hh I l hne vs.toArray
  have hlen : vs.toArray.size = vs.length := by simp
  rw [hlen] at W9
  refine forJ (prot := [(l, W.listOf vs.toArray nn)]) W9 (fun i h st => by obtain ⟨o, ho, _⟩ := st.2.1; exact ⟨o, ho⟩) (fun b hb => ?_) hx hp ⟨Nat.zero_le _, by simpa using hit, hls⟩ F N hlt J
    (fun i m led h p hp => by rw [List.mem_singleton.mp hp]; exact hJ i m led h) h0 (fun i v m₁ led it h tk hi hv => turn i v m₁ led it h tk hi (by simpa using hv)) (fun m₁ led h tk hj _ => done m₁ led h tk hj)
  simp only [List.mem_cons, List.not_mem_nil, or_false] at hb
  rcases hb with rfl | rfl
  · exact .inl rfl
  · exact .inr ⟨_, .head _⟩

/-- over a range -/
theorem iter_rangeJ {x : Str} {px : Pos} {body : List Stmt} {r : Addr} {a b c : Int} {n : Nat} {t u v9 : Tok} {m : Str → Option Value} {news : Led} {Q : Flow → Shared → Prop}
    (hh : A.handled = none) (hx : env.kindOf x = some .local) (hp : (env.scope.kind == .class || (env.scope.kind == .module && env.locals != env.globals)) = false)
    (hr : IsRange s.heap r a b c t u v9) (hsmall : Builtin.Range.small a b c = true) (hn : Builtin.Range.rangeSize a b c = (n : Int))
    (F : Fr h₀ env.locals s.heap m) (N : News h₀ env.locals s.heap news)
    (J : Nat → (Str → Option Value) → Led → Prop) (h0 : J 0 m news)
    (turn : ∀ (i : Nat) t m₁ led I it h tk, i < n → J i m₁ led → (∀ p ∈ led, p.1 < I) → Fr h₀ env.locals h (fun y => if y = x then some (.int (a + (i : Int) * c) t) else m₁ y) → News h₀ env.locals h ((I, it) :: led) →
      wpAny (model prog w) A (execs body env) (TurnP h₀ env.locals I it (J (i + 1)) { s with heap := h, toks := tk } Q) (fun _ _ => False) { s with heap := h, toks := tk })
    (done : ∀ m₁ led h tk, J n m₁ led → Fr h₀ env.locals h m₁ → News h₀ env.locals h led → Q .next { s with heap := h, toks := tk }) :
    wpAny (model prog w) A (pyIter (.ref r)) (fun it s₂ => FLoop prog w A env (.Name x px) body Q E it s₂) E s := by
  refine wpAny_pyIter_range hr hsmall ?_
  have W9 := Walks.range (prog := prog) (w := w) hh s.heap.objs.size a c n
  refine forJ (prot := []) W9 (fun i h st => ⟨_, st⟩) (fun b hb => .inl (by simpa using hb)) hx hp (by rw [hn]; simpa using Heap.get?_push_size _ rfl) (F.push _) (N.push F _) (fun p hp => Heap.lt_size (N p hp).1) J
    (fun i m led h p hp => nomatch hp) h0 (fun i v m₁ led it h tk hi hv => ?_) (fun m₁ led h tk hj _ => done m₁ led h tk hj)
  obtain ⟨t, rfl⟩ := hv
  exact turn i t m₁ led _ it h tk hi
end
section
variable {prog : Program} {w : World} {A : Around} {E : Value → Shared → Prop} {s : Shared} {h₀ : Heap} {L D : Addr} {m : Str → Option Value} {news news' : Led} {vs : List Value} {n : Nat} {x : Value}
theorem append_L {Q : Value → Shared → Prop} (F : Fr h₀ L s.heap m) (N : News h₀ L s.heap news) (U : Upd D (W.listOf vs.toArray n) (W.listOf (vs ++ [x]).toArray (n + 1)) news news') (hz : vs.length ≤ 100000)
    (h : ∀ h', Fr h₀ L h' m → News h₀ L h' news' → Q .none { s with heap := h' }) : wpAny (model prog w) A (call (.builtin "list.append") [.ref D, x]) Q E s := by
  have e : (vs ++ [x]).toArray = vs.toArray.push x := by simp
  rw [e] at U
  exact append_K F N U h (by rw [List.size_toArray, sizeLine_eq]; omega)
end
section
variable {prog : Program} {w : World} {A : Around} {E : Value → Shared → Prop} {s : Shared} {h₀ : Heap} {L D : Addr} {m : Str → Option Value} {news news' : Led} {vs : List Value} {n : Nat}
theorem addl_K {a b : Addr} {vs ws : List Value} {n1 n2 : Nat} {Q : Value → Shared → Prop} (F : Fr h₀ L s.heap m) (N : News h₀ L s.heap news) (ha : (a, W.listOf vs.toArray n1) ∈ news) (hb : (b, W.listOf ws.toArray n2) ∈ news) (hz : vs.length + ws.length ≤ 100000)
    (h : ∀ D h', Fr h₀ L h' m → News h₀ L h' ((D, W.listOf (vs ++ ws).toArray 0) :: news) → (∀ p ∈ news, p.1 < D) → Q (.ref D) { s with heap := h' }) : wpAny (model prog w) A (binaryOp .Add (.ref a) (.ref b)) Q E s :=
  kmk_add_lit F N ⟨_, (N _ ha).1, rfl, n1, rfl⟩ ⟨_, (N _ hb).1, rfl, n2, rfl⟩ (by simp) h (by simp only [sizeLine_eq]; simpa using by omega)
theorem reverse_L {Q : Value → Shared → Prop} (F : Fr h₀ L s.heap m) (N : News h₀ L s.heap news) (U : Upd D (W.listOf vs.toArray n) (W.listOf vs.reverse.toArray n) news news') (hz : vs.length ≤ 100000)
    (h : ∀ h', Fr h₀ L h' m → News h₀ L h' news' → Q .none { s with heap := h' }) : wpAny (model prog w) A (call (.builtin "list.reverse") [.ref D]) Q E s :=
  kl_reverse F N (l := vs.reverse) (by simp) U (by simp only [sizeLine_eq]; omega) h
theorem ints_app {vs ws : List Value} {ds es : List Int} (h : IntsAre vs ds) (h' : IntsAre ws es) : IntsAre (vs ++ ws) (ds ++ es) := by
  induction h with
  | nil => exact h'
  | cons i t _ ih => exact .cons i t ih
theorem ints_rev {vs : List Value} {ds : List Int} (h : IntsAre vs ds) : IntsAre vs.reverse ds.reverse := by
  induction h with
  | nil => exact .nil
  | cons i t _ ih =>
    rw [List.reverse_cons, List.reverse_cons]
    exact ints_app ih (.cons i t .nil)
end
theorem isl {h₀ h : Heap} {L l : Addr} {news : Led} {vs : List Value} {nn : Nat} (N : News h₀ L h news) (hm : (l, W.listOf vs.toArray nn) ∈ news) : h.IsList l vs.toArray := ⟨_, (N _ hm).1, rfl, nn, rfl⟩
theorem fits_long {i : Int} (h0 : -1000000 ≤ i) (h1 : i ≤ 3000000) : Builtin.Range.rangeFitsLong i = true := by
  unfold Builtin.Range.rangeFitsLong
  simp only [Bool.and_eq_true, decide_eq_true_eq]
  omega
theorem rng_small {a b c : Int} (a0 : 0 ≤ a) (a1 : a ≤ 1000000) (b0 : 0 ≤ b) (b1 : b ≤ 1000000) (c0 : 1 ≤ c) (c1 : c ≤ 1000000) : Builtin.Range.small a b c = true := by
  have h1 := rangeSize_toNat a b c
  have h2 := rangeSize_toNat_le a b c
  unfold Builtin.Range.small
  rw [fits_long (by omega) (by omega), fits_long (by omega) (by omega), fits_long (by omega) (by omega), fits_long (i := Builtin.Range.rangeSize a b c) (by omega) (by omega)]
  rw [if_pos (by omega : c > 0), fits_long (by omega) (by omega)]
  simp
/-- the walk halts here -/
noncomputable def Stop (P : Prop) : Prop := P
theorem stop_in {P : Prop} (h : Stop P) : P := h
theorem stop_out {P : Prop} (h : P) : Stop P := h

/-- a while by an invariant and a measure -/
noncomputable def WTurn (I : Nat → Shared → Prop) (n : Nat) (Q : Flow → Shared → Prop) (f : Flow) (s : Shared) : Prop :=
  match f with
  | .ret v => Q (.ret v) s
  | .brk => Q .next s
  | _ => ∃ m, m < n ∧ I m s
theorem while_J {prog : Program} {w : World} {A : Around} {E : Value → Shared → Prop} {s : Shared} {env : Env} {test : PySem.Expr} {body orelse : List Stmt} {pos : Pos} {Q : Flow → Shared → Prop} (I : Nat → Shared → Prop)
    (turn : ∀ n s, I n s → wpAny (model prog w) A (isTrue test env (eval test env)) (fun b s₂ =>
        if b then wpAny (model prog w) A (execs body env) (WTurn I n Q) (fun _ _ => False) s₂
        else wpAny (model prog w) A (execs orelse env) Q (fun _ _ => False) s₂) (fun _ _ => False) s)
    (n : Nat) (h : I n s) : wpAny (model prog w) A (exec (.While test body orelse pos) env) Q E s := by
  refine wpAny_While (codeAny_whileLoop I (fun n s hI => ?_) n h)
  refine wpAny_mono (turn n s hI) (fun b s₂ hb => ?_) fun _ _ e => e.elim
  cases b with
  | false =>
    simp only [Bool.false_eq_true, if_false] at hb ⊢
    exact wpAny_mono hb (fun f s₃ h₃ => h₃) fun _ _ e => e.elim
  | true =>
    simp only [if_true] at hb ⊢
    refine wpAny_mono hb (fun f s₃ h₃ => ?_) fun _ _ e => e.elim
    cases f <;> exact h₃
theorem ints_snoc {vs : List Value} {ds : List Int} (h : IntsAre vs ds) (x : Int) (t : Tok) : IntsAre (vs ++ [.int x t]) (ds ++ [x]) := by
  induction h with
  | nil => exact .cons x t .nil
  | cons i t' _ ih => exact .cons i t' ih
end
section
open PySem PySem.W PyProof.Rows PySem.Spec PySem.Calls
set_option maxRecDepth 100000
theorem fresh_D7 : True ∧ True := by
  w_top off
  k_with_none
  first | (walk1; done) | exact ⟨trivial, trivial⟩

noncomputable abbrev Tab80 (T : Led) : Prop := TabS 80 69 4 qual80 T
noncomputable abbrev Tab87 (T : Led) : Prop := TabS 87 84 4 qual87 T
/-- both tables, apart from each other and from the rest -/
structure Tabs (T1 T2 : Led) (rest : Led) : Prop where
  t1 : Tab80 T1
  t2 : Tab87 T2
  ap : ∀ p ∈ T1, ∀ q ∈ T2, p.1 ≠ q.1
  ar : ∀ q ∈ rest, ∀ p ∈ T1 ++ T2, p.1 ≠ q.1
theorem TabS.has {P : Addr} {line col : Nat} {qual : Str} {T : Led} (h : TabS P line col qual T) : ∃ o, (P, o) ∈ T := by
  obtain ⟨ps, c, o, rfl, _⟩ := h
  exact ⟨_, .head _⟩
theorem Tabs.more {T1 T2 rest : Led} (h : Tabs T1 T2 rest) {D : Addr} {o : Obj} (hn : NeL D (T1 ++ T2)) : Tabs T1 T2 ((D, o) :: rest) :=
  ⟨h.t1, h.t2, h.ap, fun q hq => by
    rcases List.mem_cons.mp hq with rfl | hq
    · exact hn
    · exact h.ar q hq⟩
theorem Tabs.sub {T1 T2 rest rest' : Led} (h : Tabs T1 T2 rest) (hs : ∀ p ∈ rest', p ∈ rest) : Tabs T1 T2 rest' :=
  ⟨h.t1, h.t2, h.ap, fun q hq => h.ar q (hs q hq)⟩

/-- a function that comes to both makers -/
noncomputable def SpecTT (n : Nat) (w : World) (f : Addr) (pre : Led → Prop) (vs : List Value) (Post : Value → Led → Prop) : Prop :=
  ∀ (p : Program) (lo : List Str) (mean : ExcName → Option Value) (mg mb : Str → Option Value) (rest T1 T2 : Led) (dp un : Nat) (gd : Option (List Code)) (cn : Str) (cs : Scope) (a : Addr) (ccd : Value) (cl : List (Str × Addr)) (outer : List Env) (A₀ : Around) (base h₀ : Heap) (L : Addr) (m : Str → Option Value) (s : Shared) (Q E : Value → Shared → Prop),
    Below A₀ base outer h₀ → Fr h₀ L s.heap m → (hd.heap_39 w.params).In h₀ → News h₀ L s.heap (rest ++ (T1 ++ T2)) → Top p lo mean mg mb h₀ → cs.kind = .function →
    Tabs T1 T2 rest → pre rest → dp + 10 * n < recursionLimit → un + 100 * n < cLine →
    (∀ (v : Value) (own T1' T2' : Led) (h' : Heap) (tk' : Nat), Post v own → Tabs T1' T2' (own ++ rest) → Fr h₀ L h' m → News h₀ L h' (own ++ (rest ++ (T1' ++ T2'))) → (∀ p ∈ rest, ∀ q ∈ own, p.1 < q.1) → Q v { s with heap := h', toks := tk' }) →
      wpAny (model P0 w) (ktrTop dp un gd cn cs L a ccd cl outer) (call (.ref f) vs) Q E s

/-- what stands ahead of a ledger's tail -/
inductive TlA (tl : Led) : Led → Led → Prop
  | app {r} : TlA tl (r ++ tl) r
  | cons {p r q} : TlA tl r q → TlA tl (p :: r) (p :: q)
theorem TlA.eq {tl l pre : Led} (h : TlA tl l pre) : l = pre ++ tl := by
  induction h with
  | app => rfl
  | cons _ ih => rw [ih]; rfl

section
variable {w : World} {p : Program} {lo : List Str} {mean : ExcName → Option Value} {mg mb : Str → Option Value} {rest T1 T2 news pre9 : Led} {dp un : Nat} {gd : Option (List Code)} {cn : Str} {cs : Scope} {a : Addr} {ccd : Value} {cl : List (Str × Addr)} {outer : List Env} {A₀ : Around} {base h₀ : Heap} {L : Addr} {m : Str → Option Value} {s : Shared} {Q E : Value → Shared → Prop}
theorem tt_use {n : Nat} {f : Addr} {pre : Led → Prop} {vs : List Value} {Post : Value → Led → Prop} (C : SpecTT n w f pre vs Post)
    (B : Below A₀ base outer h₀) (F : Fr h₀ L s.heap m) (X : (hd.heap_39 w.params).In h₀) (N : News h₀ L s.heap news) (U : TlA (T1 ++ T2) news pre9) (T : Top p lo mean mg mb h₀) (hk : cs.kind = .function)
    (hT : Tabs T1 T2 (pre9)) (hp : pre (pre9)) (hdp : dp + 10 * n < recursionLimit) (hu : un + 100 * n < cLine)
    (ret : ∀ (v : Value) (own T1' T2' : Led) (h' : Heap) (tk' : Nat), Post v own → Tabs T1' T2' (own ++ pre9) → Fr h₀ L h' m → News h₀ L h' (own ++ (pre9 ++ (T1' ++ T2'))) → (∀ p ∈ pre9, ∀ q ∈ own, p.1 < q.1) → Q v { s with heap := h', toks := tk' }) :
    wpAny (model P0 w) (ktrTop dp un gd cn cs L a ccd cl outer) (call (.ref f) vs) Q E s := by
  obtain rfl := U.eq
  refine C p lo mean mg mb pre9 T1 T2 dp un gd cn cs a ccd cl outer A₀ base h₀ L m s Q E B F X N T hk hT hp hdp hu fun v own T1' T2' h' tk' hP hT' F' N' hlt => ?_
  exact ret v own T1' T2' h' tk' hP hT' F' N' hlt

/-- a maker of the first table, seen with both -/
theorem t1_use {n : Nat} {f : Addr} {pre : Led → Prop} {vs : List Value} {Post : Value → Led → Prop} (C : SpecT n w f 80 69 4 qual80 pre vs Post)
    (B : Below A₀ base outer h₀) (F : Fr h₀ L s.heap m) (X : (hd.heap_39 w.params).In h₀) (N : News h₀ L s.heap news) (U : TlA (T1 ++ T2) news pre9) (T : Top p lo mean mg mb h₀) (hk : cs.kind = .function)
    (hT : Tabs T1 T2 (pre9)) (hp : ∀ r, (∀ q ∈ pre9, q ∈ r) → pre r) (hdp : dp + 10 * n < recursionLimit) (hu : un + 100 * n < cLine)
    (ret : ∀ (v : Value) (own T1' : Led) (h' : Heap) (tk' : Nat), Post v own → Tabs T1' T2 (own ++ pre9) → Fr h₀ L h' m → News h₀ L h' (own ++ (pre9 ++ (T1' ++ T2))) → (∀ p ∈ pre9, ∀ q ∈ own, p.1 < q.1) → Q v { s with heap := h', toks := tk' }) :
    wpAny (model P0 w) (ktrTop dp un gd cn cs L a ccd cl outer) (call (.ref f) vs) Q E s := by
  obtain rfl := U.eq
  obtain ⟨o80, m80⟩ := hT.t1.has
  refine C p lo mean mg mb (pre9 ++ T2) T1 dp un gd cn cs a ccd cl outer A₀ base h₀ L m s Q E B F X (fun q hq => N q ?_) T hk hT.t1 (fun q hq => ?_) (hp _ fun q hq => List.mem_append_left _ hq) hdp hu fun v own T1' h' tk' hP hT' F' N' hlt hne hap => ?_
  · simp only [List.mem_append] at hq ⊢
    rcases hq with (h | h) | h
    · exact .inl h
    · exact .inr (.inr h)
    · exact .inr (.inl h)
  · rcases List.mem_append.mp hq with h | h
    · exact (hT.ar q h _ (List.mem_append_left _ m80)).symm
    · exact (hT.ap _ m80 q h).symm
  · have nT : ∀ q ∈ pre9 ++ T2, ∀ p ∈ T1', p.1 ≠ q.1 := fun q hq p hp => hap q.1 ⟨q.2, hq⟩ (fun r hr => by
      rcases List.mem_append.mp hq with h | h
      · exact hT.ar q h r (List.mem_append_left _ hr)
      · exact hT.ap r hr q h) p hp
    refine ret v own T1' h' tk' hP ⟨hT', hT.t2, fun p hp q hq => nT q (List.mem_append_right _ hq) p hp, fun q hq r hr => ?_⟩ F' (by
      refine cb_drop N' fun q hq => ?_
      simp only [List.mem_append] at hq ⊢
      rcases hq with h | h | h | h
      · exact .inl h
      · exact .inr (.inl (.inl h))
      · exact .inr (.inr h)
      · exact .inr (.inl (.inr h))) (fun p hp q hq => hlt p (List.mem_append_left _ hp) q hq)
    rcases List.mem_append.mp hq with hq | hq
    · rcases List.mem_append.mp hr with hr | hr
      · exact hne r hr q hq
      · exact Nat.ne_of_lt (hlt r (List.mem_append_right _ hr) q hq)
    · rcases List.mem_append.mp hr with hr | hr
      · exact nT q (List.mem_append_left _ hq) r hr
      · exact hT.ar q hq r (List.mem_append_right _ hr)

/-- a maker of the second table, seen with both -/
theorem t2_use {n : Nat} {f : Addr} {pre : Led → Prop} {vs : List Value} {Post : Value → Led → Prop} (C : SpecT n w f 87 84 4 qual87 pre vs Post)
    (B : Below A₀ base outer h₀) (F : Fr h₀ L s.heap m) (X : (hd.heap_39 w.params).In h₀) (N : News h₀ L s.heap news) (U : TlA (T1 ++ T2) news pre9) (T : Top p lo mean mg mb h₀) (hk : cs.kind = .function)
    (hT : Tabs T1 T2 (pre9)) (hp : ∀ r, (∀ q ∈ pre9, q ∈ r) → pre r) (hdp : dp + 10 * n < recursionLimit) (hu : un + 100 * n < cLine)
    (ret : ∀ (v : Value) (own T2' : Led) (h' : Heap) (tk' : Nat), Post v own → Tabs T1 T2' (own ++ pre9) → Fr h₀ L h' m → News h₀ L h' (own ++ (pre9 ++ (T1 ++ T2'))) → (∀ p ∈ pre9, ∀ q ∈ own, p.1 < q.1) → Q v { s with heap := h', toks := tk' }) :
    wpAny (model P0 w) (ktrTop dp un gd cn cs L a ccd cl outer) (call (.ref f) vs) Q E s := by
  obtain rfl := U.eq
  obtain ⟨o87, m87⟩ := hT.t2.has
  refine C p lo mean mg mb (pre9 ++ T1) T2 dp un gd cn cs a ccd cl outer A₀ base h₀ L m s Q E B F X (fun q hq => N q (by rwa [List.append_assoc] at hq)) T hk hT.t2 (fun q hq => ?_) (hp _ fun q hq => List.mem_append_left _ hq) hdp hu fun v own T2' h' tk' hP hT' F' N' hlt hne hap => ?_
  · rcases List.mem_append.mp hq with h | h
    · exact (hT.ar q h _ (List.mem_append_right _ m87)).symm
    · exact hT.ap q h _ m87
  · have nT : ∀ q ∈ pre9 ++ T1, ∀ p ∈ T2', p.1 ≠ q.1 := fun q hq p hp => hap q.1 ⟨q.2, hq⟩ (fun r hr => by
      rcases List.mem_append.mp hq with h | h
      · exact hT.ar q h r (List.mem_append_right _ hr)
      · exact (hT.ap q h r hr).symm) p hp
    refine ret v own T2' h' tk' hP ⟨hT.t1, hT', fun p hp q hq => (nT p (List.mem_append_right _ hp) q hq).symm, fun q hq r hr => ?_⟩ F' (by
      refine cb_drop N' fun q hq => ?_
      simp only [List.mem_append] at hq ⊢
      rcases hq with h | h | h | h
      · exact .inl h
      · exact .inr (.inl (.inl h))
      · exact .inr (.inl (.inr h))
      · exact .inr (.inr h)) (fun p hp q hq => hlt p (List.mem_append_left _ hp) q hq)
    rcases List.mem_append.mp hq with hq | hq
    · rcases List.mem_append.mp hr with hr | hr
      · exact Nat.ne_of_lt (hlt r (List.mem_append_right _ hr) q hq)
      · exact hne r hr q hq
    · rcases List.mem_append.mp hr with hr | hr
      · exact hT.ar q hq r (List.mem_append_left _ hr)
      · exact nT q (List.mem_append_left _ hq) r hr
end
end
section
open PySem PySem.W PyProof.Rows PySem.Spec PySem.Calls
set_option maxRecDepth 100000
theorem fresh_D8 : True ∧ True := by
  w_top off
  k_with_none
  first | (walk1; done) | exact ⟨trivial, trivial⟩

/-- the digits' number, and a division by digits -/
noncomputable def cntF (a n : Int) : Nat := (((Builtin.Int.intBits a : Int) + n - 1).fdiv n).toNat
noncomputable def stepF (b n : Int) (st : List Int × Int) (d : Int) : List Int × Int :=
  (st.1 ++ [(st.2 * 2 ^ n.toNat + d).fdiv b], (st.2 * 2 ^ n.toNat + d).fmod b)
noncomputable def stF (b n : Int) (ds : List Int) (i : Nat) : List Int × Int := (ds.reverse.take i).foldl (stepF b n) ([], 0)
noncomputable def dmOk (a b : Int) : Bool :=
  let n : Int := Builtin.Int.intBits b
  let c := cntF a n
  let ds := digF a n c
  decide (1 ≤ n) && decide (n ≤ 3) && decide (((Builtin.Int.intBits a : Int) + n - 1).fdiv n = (c : Int)) && decide (c ≤ 3) && (decide (a = 0) || decide (1 ≤ c)) && ds.all (fun d => decide (0 ≤ d) && decide (d < 8)) && decide (ds.length ≤ 3) &&
  (List.range (ds.length + 1)).all (fun i => decide (0 ≤ (stF b n ds i).2) && decide ((stF b n ds i).2 < 8) && (stF b n ds i).1.all (fun d => decide (0 ≤ d) && decide (d < 8))) &&
  decide (d2iV n (stF b n ds ds.length).1.reverse = a.fdiv b) && decide ((stF b n ds ds.length).2 = a.fmod b)
theorem dm_tab : ∀ a : Fin 32, ∀ b : Fin 4, dmOk ((a.val : Nat) : Int) (((b.val + 2 : Nat)) : Int) = true := by decide +kernel
theorem dm_ok {a b : Int} (h0 : 0 ≤ a) (h1 : a < 32) (h2 : 2 ≤ b) (h3 : b ≤ 5) : dmOk a b = true := by
  have := dm_tab ⟨a.toNat, by omega⟩ ⟨(b - 2).toNat, by omega⟩
  have e1 : ((a.toNat : Nat) : Int) = a := by omega
  have e2 : (((b - 2).toNat + 2 : Nat) : Int) = b := by omega
  simp only [e1, e2] at this
  exact this
theorem step_len (b n : Int) : ∀ (l : List Int) (st : List Int × Int), (l.foldl (stepF b n) st).1.length = st.1.length + l.length
  | [], _ => rfl
  | d :: l, st => by
    rw [List.foldl_cons, step_len b n l, List.length_cons]
    unfold stepF
    simp; omega
theorem stF_len {b n : Int} {ds : List Int} {i : Nat} : (stF b n ds i).1.length ≤ ds.length := by
  unfold stF
  rw [step_len]
  simp; omega
theorem stF_succ {b n : Int} {ds : List Int} {i : Nat} {d : Int} (h : i < ds.length) (hd : ds[ds.length - 1 - i]? = some d) : stF b n ds (i + 1) = stepF b n (stF b n ds i) d := by
  have e : ds.reverse[i]? = some d := by rw [List.getElem?_reverse h, hd]
  unfold stF
  rw [List.take_add_one, e]
  simp
end
section
open PySem PySem.W PyProof.Rows PySem.Spec PySem.Calls
set_option maxRecDepth 100000
theorem fresh_D9 : True ∧ True := by
  w_top off
  k_with_none
  first | (walk1; done) | exact ⟨trivial, trivial⟩

theorem tt_end {x y x' y' : Int} {rest T1' T2' R news' : Led} {h₀ h' : Heap} {L : Addr} {D : Nat} {m : Str → Option Value} {s : Shared} {Q : Value → Shared → Prop} {t u : Tok} {tk' : Nat}
    (hret : ∀ (v : Value) (own T1' T2' : Led) (h' : Heap) (tk' : Nat), Pair x' y' v own → Tabs T1' T2' (own ++ rest) → Fr h₀ L h' m → News h₀ L h' (own ++ (rest ++ (T1' ++ T2'))) → (∀ p ∈ rest, ∀ q ∈ own, p.1 < q.1) → Q v { s with heap := h', toks := tk' })
    (hT : Tabs T1' T2' R) (hR : ∀ p ∈ rest, p ∈ R) (F : Fr h₀ L h' m) (N : News h₀ L h' news') (hm : (D, tupObj [.int x t, .int y u]) ∈ news') (htl : ∀ p ∈ rest ++ (T1' ++ T2'), p ∈ news') (hlt : AllLt D (rest ++ (T1' ++ T2'))) (ex : x = x') (ey : y = y') :
    Q (.ref D) { s with heap := h', toks := tk' } := by
  subst ex ey
  refine hret (.ref D) [(D, tupObj [.int x t, .int y u])] T1' T2' h' tk' ⟨D, t, u, rfl, rfl⟩ ((hT.sub hR).more fun p hp => Nat.ne_of_lt (allLt_mem hlt p (List.mem_append_right _ hp))) F (fun p hp => N p ?_) (lt_one fun p hp => allLt_mem hlt p (List.mem_append_left _ hp))
  rcases List.mem_cons.mp hp with rfl | hp
  · exact hm
  · exact htl p hp
theorem use_int2 {x : Int} {pre9 T1 : Led} {h₀ : Heap} {L : Addr} {m : Str → Option Value} {s : Shared} {Q : Value → Shared → Prop}
    (h : ∀ (t : Tok) (T2' : Led) (h' : Heap) (tk' : Nat), Tabs T1 T2' pre9 → Fr h₀ L h' m → News h₀ L h' (pre9 ++ (T1 ++ T2')) → Q (.int x t) { s with heap := h', toks := tk' }) :
    ∀ (v : Value) (own T2' : Led) (h' : Heap) (tk' : Nat), Only (fun v => ∃ t, v = .int x t) v own → Tabs T1 T2' (own ++ pre9) → Fr h₀ L h' m → News h₀ L h' (own ++ (pre9 ++ (T1 ++ T2'))) → (∀ p ∈ pre9, ∀ q ∈ own, p.1 < q.1) → Q v { s with heap := h', toks := tk' } := by
  rintro v own T2' h' tk' ⟨rfl, t, rfl⟩ hT F N l
  exact h t T2' h' tk' hT F N
theorem use_ints1 {ds : List Int} {pre9 T2 : Led} {h₀ : Heap} {L : Addr} {m : Str → Option Value} {s : Shared} {Q : Value → Shared → Prop}
    (h : ∀ (D : Nat) (vs : List Value) (T1' : Led) (h' : Heap) (tk' : Nat), IntsAre vs ds → Tabs T1' T2 ((D, W.listOf vs.toArray 0) :: pre9) → Fr h₀ L h' m → News h₀ L h' ((D, W.listOf vs.toArray 0) :: (pre9 ++ (T1' ++ T2))) → (∀ p ∈ pre9, p.1 < D) → Q (.ref D) { s with heap := h', toks := tk' }) :
    ∀ (v : Value) (own T1' : Led) (h' : Heap) (tk' : Nat), Ints ds v own → Tabs T1' T2 (own ++ pre9) → Fr h₀ L h' m → News h₀ L h' (own ++ (pre9 ++ (T1' ++ T2))) → (∀ p ∈ pre9, ∀ q ∈ own, p.1 < q.1) → Q v { s with heap := h', toks := tk' } := by
  rintro v own T1' h' tk' ⟨D, vs, rfl, rfl, hi⟩ hT F N l
  exact h D vs T1' h' tk' hi hT F N fun p hp => l p hp _ (.head _)
theorem rows_D9_1 : True := by
  k_with "call builtin:int.bit_length" => (k_here; (refine bl_K (by omega) (by omega) ?_); intro hbl; (first | (revert hbl; intros) | skip))
  k_with "binaryOp LShift int int" => (k_here; (refine shlB_K (by omega) (by omega) (by omega) (by omega) ?_))
  k_with "exec For Name Call cons nil" => (k_here; k_dflt (refine' For_F ?_ ?q31hs; (case q31hs => (intro _; rfl)); k_whole))
  k_with "eval Name" => (k_here; k_dflt (refine' ld ?q32k1 ?q32k2 ?_; (case q32k1 => k_asm); (case q32k2 => first | exact rfl | ((conv => lhs; whnf); assumption)); k_whole))
  k_with "call builtin:list.append" => (k_here; (with_reducible show wpAny _ _ (call (Value.builtin _) [Value.ref _, _]) _ _ _); k_dflt (refine' append_L ?q33k1 ?q33k2 ?q33k3 ?q33z ?_; (case q33k1 => k_asm); (case q33k2 => k_asm); (case q33k3 => k_upd); (case q33z => first | omega | assumption); k_whole); intro h' F' N'; (first | (revert h'; intros) | skip))
  k_with "call builtin:list.reverse" => (k_here; (with_reducible show wpAny _ _ (call (Value.builtin _) [Value.ref _]) _ _ _); k_dflt (refine' reverse_L ?q34k1 ?q34k2 ?q34k3 ?q34z ?_; (case q34k1 => k_asm); (case q34k2 => k_asm); (case q34k3 => k_upd); (case q34z => first | omega | assumption); k_whole); intro h' F' N'; (first | (revert h'; intros) | skip))
  k_with "call ref" => (k_here; (with_reducible show wpAny _ _ (call (Value.ref 71) _) _ _ _); k_dflt (refine' spec_use (d21_spec _ _ _ _ _ _ _) ?q35k1 ?q35k2 ?q35k3 ?q35k4 ?q35k5 ?q35kK ?q35kp ?q35kd ?q35ku (use_pair ?_); (case q35k1 => k_asm); (case q35k2 => k_asm); (case q35k3 => k_asm); (case q35k4 => k_asm); (case q35k5 => k_asm); (case q35kK => exact rfl); (case q35kp => ((try dsimp only); omega)); (case q35kd => ktr_room); (case q35ku => ktr_units)); intro D' h' tk' t1 t2 F' N' l1; (try dsimp only); (try k_lt l1); (try k_fold); (first | (revert D' h' tk' t1 t2; intros) | skip))
  k_with "call ref" => (k_here; (with_reducible show wpAny _ _ (call (Value.ref 85) _) _ _ _); (rename Tabs _ _ _ => hT9); k_dflt (refine' t1_use (i2d_spec _ _ _ _ _ _) ?q36B ?q36F ?q36X ?q36N ?q36U ?q36T ?q36hk hT9 ?q36hp ?q36dp ?q36un (use_ints1 ?_); (case q36B => k_asm); (case q36F => k_asm); (case q36X => k_asm); (case q36N => k_asm); (case q36U => exact TlA.app); (case q36T => k_asm); (case q36hk => exact rfl); (case q36hp => (intro _ _; assumption)); (case q36dp => ktr_room); (case q36un => ktr_units); k_whole); intro D' vs' T1' h' tk' hi' hT' F' N' l1; (try dsimp only); (try k_fold); (first | (revert D' vs' T1' h' tk'; intros) | skip))
  trivial

set_option maxHeartbeats 4000000 in
theorem dmp_spec (w : World) (a b : Int) (t1 t2 : Tok) : SpecTT 7 w 99 (fun _ => 0 ≤ a ∧ a < 32 ∧ 2 ≤ b ∧ b ≤ 5) [.int a t1, .int b t2] (Pair (a.fdiv b) (a.fmod b)) := by
  have kf : PySem.Challenge.rw_zo0034_01 = PySem.Challenge.rw_zo0034_01 ∧ hd.heap_39 = hd.heap_39 := by
    k_fill
    exact ⟨rfl, rfl⟩
  clear kf
  unfold SpecTT
  intro p9 lo9 mean mg mb rest T1 T2 dp un gd cn cs ad ccd cl outer A₀ base h₀ L m s Q E B F X N T hk hT hp hdp hu hret
  obtain ⟨hp1, hp2, hp3, hp4⟩ := hp
  have hok := dm_ok hp1 hp2 hp3 hp4
  unfold dmOk at hok
  simp only [Bool.and_eq_true, Bool.or_eq_true, decide_eq_true_eq, List.all_eq_true, List.mem_range] at hok
  obtain ⟨⟨⟨⟨⟨⟨⟨⟨⟨hn1, hn3⟩, hc⟩, hc3⟩, hc1⟩, hds⟩, hdl⟩, hst⟩, hq⟩, hr⟩ := hok
  have hpre : 0 ≤ a ∧ a < 32 ∧ 1 ≤ (Builtin.Int.intBits b : Int) ∧ (Builtin.Int.intBits b : Int) ≤ 3 ∧ ((Builtin.Int.intBits a : Int) + (Builtin.Int.intBits b : Int) - 1).fdiv (Builtin.Int.intBits b : Int) = (cntF a (Builtin.Int.intBits b) : Int) ∧ cntF a (Builtin.Int.intBits b) ≤ 3 ∧ (a ≠ 0 → 1 ≤ cntF a (Builtin.Int.intBits b)) :=
    ⟨hp1, hp2, hn1, hn3, hc, hc3, fun h => hc1.resolve_left h⟩
  refine wpAny_call ?_
  k_dflt cell_enter
  k_steps
  rename_i Dd vs T1' hA tkA hi hT' lD hB tkB hC Dq hD lq hE It hF F' N' lI
  k_dflt (refine iter_revJ (l := Dd) (vs := vs) (nn := 0) rfl rfl rfl F' N' ?hlt ?hl (fun i mm led => ∃ qvs nn tr, led = (Dq, W.listOf qvs.toArray nn) :: (Dd, W.listOf vs.toArray 0) :: (rest ++ (T1' ++ T2)) ∧ IntsAre qvs (stF b (Builtin.Int.intBits b) (digF a (Builtin.Int.intBits b) (cntF a (Builtin.Int.intBits b))) i).1 ∧ mm (Str.ofString "r") = some (.int (stF b (Builtin.Int.intBits b) (digF a (Builtin.Int.intBits b) (cntF a (Builtin.Int.intBits b))) i).2 tr) ∧ mm (Str.ofString "b") = some (.int b t2) ∧ (∃ tn, mm (Str.ofString "n") = some (.int (Builtin.Int.intBits b) tn)) ∧ mm (Str.ofString "q_digits") = some (.ref Dq)) ?hJ ?h0 ?turn ?done)
  case hlt => 
    intro p hp
    rcases List.mem_cons.mp hp with rfl | hp
    · exact lI.1
    · rcases List.mem_cons.mp hp with rfl | hp
      · exact lI.2.1
      · exact allLt_mem lI.2.2 p hp
  case hl => exact .tail _ (.head _)
  case hJ => 
    rintro i mm led ⟨qvs, nn, tr, rfl, _⟩
    exact .tail _ (.head _)
  case h0 => exact ⟨[], 0, _, rfl, .nil, rfl, rfl, ⟨_, rfl⟩, rfl⟩
  case turn =>
    rintro i v m₁ led it h tk hil hv ⟨qvs, nn, tr, rfl, hq1, hr1, hb1, ⟨tn, hn1'⟩, hqd⟩ hlt F1 N1
    dsimp only at F1 N1 ⊢
    have hlen := hi.length
    generalize digF a (Builtin.Int.intBits b) (cntF a (Builtin.Int.intBits b)) = ds at *
    obtain ⟨td, hx⟩ := hi.get (ds.length - 1 - i) ds[ds.length - 1 - i] (by simp)
    rw [hlen, hx] at hv
    obtain rfl := Option.some.inj hv
    have hd8 := hds _ (List.getElem_mem (show ds.length - 1 - i < ds.length by omega))
    have hs1 := hst i (by omega)
    have hs2 := hst (i + 1) (by omega)
    rw [stF_succ (d := ds[ds.length - 1 - i]) (by omega) (by simp)] at hs2 ⊢
    generalize ds[ds.length - 1 - i] = d at *
    generalize hstE : stF b (Builtin.Int.intBits b) ds i = st at *
    obtain ⟨qs, r⟩ := st
    have hI := hlt
    k_lt hI
    have hqz : qvs.length ≤ 100000 := by
      have h1 := hq1.length
      have h2 := stF_len (b := b) (n := (Builtin.Int.intBits b : Int)) (ds := ds) (i := i)
      rw [hstE] at h2
      simp only at h1 h2
      omega
    have hpw : ((2 : Int) ^ ((Builtin.Int.intBits b : Int)).toNat) ≤ 8 := by
      have h1 : ((Builtin.Int.intBits b : Int)).toNat ≤ 3 := by omega
      have h2 := Nat.pow_le_pow_right (n := 2) (by decide) h1
      calc ((2 : Int) ^ ((Builtin.Int.intBits b : Int)).toNat) = ((2 ^ ((Builtin.Int.intBits b : Int)).toNat : Nat) : Int) := by norm_cast
        _ ≤ _ := by omega
    have hpb := mul_le (a := r) (p := 7) (b := (2 : Int) ^ ((Builtin.Int.intBits b : Int)).toNat) (q := 8) (by simp only at hs1; omega) (by simp only at hs1; omega) (Int.le_of_lt (Int.pow_pos (by decide))) hpw
    simp only at hs1
    k_steps
    show TurnE _ _ _ _ _ _ _
    rename Fr _ _ _ _ => FF
    rename News _ _ _ _ => NN
    exact TurnE.intro FF NN (.tail _ (.head _)) (fun p hp => .tail _ (.tail _ hp)) (allLt_mem (by exact hI)) ⟨_, _, _, rfl, ints_snoc hq1 _ _, rfl, hb1, ⟨_, hn1'⟩, hqd⟩
  case done =>
    rintro m₁ led h tk ⟨qvs, nn, tr, rfl, hq1, hr1, hb1, ⟨tn, hn1'⟩, hqd⟩ F1 N1
    dsimp only at F1 N1 ⊢
    have hTq : ∀ o, Tabs T1' T2 ((Dq, o) :: (Dd, W.listOf vs.toArray 0) :: rest) := fun o => hT'.more fun p hp => allLt_ne lq.2 (Nat.le_refl _) p (List.mem_append_right _ hp)
    have hlen := hi.length
    generalize digF a (Builtin.Int.intBits b) (cntF a (Builtin.Int.intBits b)) = ds at *
    rw [hlen] at hq1 hr1
    have hqz : qvs.length ≤ 100000 := by
      have h1 := hq1.length
      have h2 := stF_len (b := b) (n := (Builtin.Int.intBits b : Int)) (ds := ds) (i := ds.length)
      omega
    have hpq : (stF b (Builtin.Int.intBits b) ds ds.length).1.reverse.length ≤ 3 ∧ (∀ d ∈ (stF b (Builtin.Int.intBits b) ds ds.length).1.reverse, 0 ≤ d ∧ d < 8) ∧ 0 ≤ (Builtin.Int.intBits b : Int) ∧ (Builtin.Int.intBits b : Int) ≤ 3 := by
      refine ⟨?_, fun d hd => (hst ds.length (by omega)).2 d (List.mem_reverse.mp hd), by omega, hn3⟩
      have h2 := stF_len (b := b) (n := (Builtin.Int.intBits b : Int)) (ds := ds) (i := ds.length)
      rw [List.length_reverse]; omega
    k_steps
    k_dflt (refine' t2_use (d2i_spec w (Builtin.Int.intBits b) Dq qvs.reverse (stF b (Builtin.Int.intBits b) ds ds.length).1.reverse nn tn) ?B ?F ?X ?N ?U ?T ?hk (hTq _) ?hp ?dp ?un (use_int2 ?_); (case B => k_asm); (case F => k_asm); (case X => k_asm); (case N => k_asm); (case U => exact TlA.cons (TlA.cons TlA.app)); (case T => k_asm); (case hk => exact rfl); (case hp => exact fun r hr => ⟨hr _ (List.Mem.head _), ints_rev hq1, hpq⟩); (case dp => ktr_room); (case un => ktr_units); k_whole)
    intro t9 T2' h' tk' hT9 F' N'
    dsimp only
    simp only [List.cons_append] at N'
    k_steps
    rename (_ ∧ _ ∧ AllLt _ _) => lD9
    exact tt_end hret hT9 (fun p hp => .tail _ (.tail _ hp)) (by k_asm) (by k_asm) (.head _) (fun p hp => .tail _ (.tail _ (.tail _ hp))) lD9.2.2 hq hr
end
section
open PySem PySem.W PyProof.Rows PySem.Spec PySem.Calls
set_option maxRecDepth 100000
theorem fresh_DA : True ∧ True := by
  w_top off
  k_with_none
  first | (walk1; done) | exact ⟨trivial, trivial⟩
theorem use_pairT {x y : Int} {pre9 : Led} {h₀ : Heap} {L : Addr} {m : Str → Option Value} {s : Shared} {Q : Value → Shared → Prop}
    (h : ∀ (D : Nat) (t u : Tok) (T1' T2' : Led) (h' : Heap) (tk' : Nat), Tabs T1' T2' ((D, tupObj [.int x t, .int y u]) :: pre9) → Fr h₀ L h' m → News h₀ L h' ((D, tupObj [.int x t, .int y u]) :: (pre9 ++ (T1' ++ T2'))) → (∀ p ∈ pre9, p.1 < D) → Q (.ref D) { s with heap := h', toks := tk' }) :
    ∀ (v : Value) (own T1' T2' : Led) (h' : Heap) (tk' : Nat), Pair x y v own → Tabs T1' T2' (own ++ pre9) → Fr h₀ L h' m → News h₀ L h' (own ++ (pre9 ++ (T1' ++ T2'))) → (∀ p ∈ pre9, ∀ q ∈ own, p.1 < q.1) → Q v { s with heap := h', toks := tk' } := by
  rintro v own T1' T2' h' tk' ⟨D, t, u, rfl, rfl⟩ hT F N l
  exact h D t u T1' T2' h' tk' hT F N (fun p hp => l p hp _ (.head _))

theorem neg_tab : ∀ a : Fin 32, ∀ b : Fin 4, Builtin.bitNot (Int.fdiv (Builtin.bitNot (-((a.val : Nat) : Int) - 1)) ((b.val + 2 : Nat) : Int)) = Int.fdiv (-((a.val : Nat) : Int) - 1) ((b.val + 2 : Nat) : Int) ∧ ((b.val + 2 : Nat) : Int) + Builtin.bitNot (Int.fmod (Builtin.bitNot (-((a.val : Nat) : Int) - 1)) ((b.val + 2 : Nat) : Int)) = Int.fmod (-((a.val : Nat) : Int) - 1) ((b.val + 2 : Nat) : Int) := by decide +kernel
theorem neg_ok {a b : Int} (h0 : -32 ≤ a) (h1 : a < 0) (h2 : 2 ≤ b) (h3 : b ≤ 5) : Builtin.bitNot ((Builtin.bitNot a).fdiv b) = a.fdiv b ∧ b + Builtin.bitNot ((Builtin.bitNot a).fmod b) = a.fmod b := by
  have := neg_tab ⟨(-a - 1).toNat, by omega⟩ ⟨(b - 2).toNat, by omega⟩
  have e1 : -(((-a - 1).toNat : Nat) : Int) - 1 = a := by omega
  have e2 : (((b - 2).toNat + 2 : Nat) : Int) = b := by omega
  simp only [e1, e2] at this
  exact this
theorem rows_DA_1 : True := by
  k_with "call ref" => (k_here; (with_reducible show wpAny _ _ (call (Value.ref 99) _) _ _ _); (rename Tabs _ _ _ => hT9); k_dflt (refine' tt_use (dmp_spec _ _ _ _ _) ?q37B ?q37F ?q37X ?q37N ?q37U ?q37T ?q37hk hT9 ?q37hp ?q37dp ?q37un (use_pairT ?_); (case q37B => k_asm); (case q37F => k_asm); (case q37X => k_asm); (case q37N => k_asm); (case q37U => exact TlA.app); (case q37T => k_asm); (case q37hk => exact rfl); (case q37hp => ((try dsimp only); omega)); (case q37dp => ktr_room); (case q37un => ktr_units); k_whole); intro D' t9 u9 T1' T2' h' tk' hT' F' N' l1; (try dsimp only); (try k_fold); (first | (revert D' t9 u9 T1' T2' h' tk'; intros) | skip))
  trivial

set_option maxHeartbeats 4000000 in
theorem idp_spec (w : World) (a b : Int) (t1 t2 : Tok) : SpecTT 8 w 106 (fun _ => 0 ≤ a ∧ a < 32 ∧ 2 ≤ b ∧ b ≤ 5) [.int a t1, .int b t2] (Pair (a.fdiv b) (a.fmod b)) := by
  have kf : PySem.Challenge.rw_zo0034_01 = PySem.Challenge.rw_zo0034_01 ∧ hd.heap_39 = hd.heap_39 := by
    k_fill
    exact ⟨rfl, rfl⟩
  clear kf
  unfold SpecTT
  intro p9 lo9 mean mg mb rest T1 T2 dp un gd cn cs ad ccd cl outer A₀ base h₀ L m s Q E B F X N T hk hT hp hdp hu hret
  obtain ⟨hp1, hp2, hp3, hp4⟩ := hp
  refine wpAny_call ?_
  k_dflt cell_enter
  k_steps
  · exfalso; omega
  · rename Tabs _ _ (_ :: _) => hTe
    exact hret _ [(_, _)] _ _ _ _ ⟨_, _, _, rfl, rfl⟩ hTe (by k_asm) (by k_asm) (lt_one (by assumption))

theorem rows_DA_2 : True := by
  k_with "call ref" => (k_here; (with_reducible show wpAny _ _ (call (Value.ref 106) _) _ _ _); (rename Tabs _ _ _ => hT9); k_dflt (refine' tt_use (idp_spec _ _ _ _ _) ?q38B ?q38F ?q38X ?q38N ?q38U ?q38T ?q38hk hT9 ?q38hp ?q38dp ?q38un (use_pairT ?_); (case q38B => k_asm); (case q38F => k_asm); (case q38X => k_asm); (case q38N => k_asm); (case q38U => exact TlA.app); (case q38T => k_asm); (case q38hk => exact rfl); (case q38hp => ((try dsimp only); omega)); (case q38dp => ktr_room); (case q38un => ktr_units); k_whole); intro D' t9 u9 T1' T2' h' tk' hT' F' N' l1; (try dsimp only); (try simp only [List.cons_append] at N'); (try k_fold); (first | (revert D' t9 u9 T1' T2' h' tk'; intros) | skip))
  trivial

set_option maxHeartbeats 4000000 in
theorem idn_spec (w : World) (a b : Int) (t1 t2 : Tok) : SpecTT 9 w 106 (fun _ => -32 ≤ a ∧ a < 0 ∧ 2 ≤ b ∧ b ≤ 5) [.int a t1, .int b t2] (Pair (a.fdiv b) (a.fmod b)) := by
  have kf : PySem.Challenge.rw_zo0034_01 = PySem.Challenge.rw_zo0034_01 ∧ hd.heap_39 = hd.heap_39 := by
    k_fill
    exact ⟨rfl, rfl⟩
  clear kf
  unfold SpecTT
  intro p9 lo9 mean mg mb rest T1 T2 dp un gd cn cs ad ccd cl outer A₀ base h₀ L m s Q E B F X N T hk hT hp hdp hu hret
  obtain ⟨hp1, hp2, hp3, hp4⟩ := hp
  have hbn : Builtin.bitNot a = -a - 1 := rfl
  refine wpAny_call ?_
  k_dflt cell_enter
  k_steps
  · exfalso; omega
  · have en := neg_ok hp1 hp2 hp3 hp4
    rename (_ ∧ AllLt _ _) => lD9
    rename Tabs _ _ (_ :: _) => hTe
    exact tt_end hret hTe (fun p hp => .tail _ hp) (by k_asm) (by k_asm) (.head _) (fun p hp => .tail _ (.tail _ hp)) lD9.2 en.1 en.2
theorem idm_spec (w : World) (a b : Int) (t1 t2 : Tok) : SpecTT 9 w 106 (fun _ => -32 ≤ a ∧ a < 32 ∧ 2 ≤ b ∧ b ≤ 5) [.int a t1, .int b t2] (Pair (a.fdiv b) (a.fmod b)) := by
  unfold SpecTT
  intro p9 lo9 mean mg mb rest T1 T2 dp un gd cn cs ad ccd cl outer A₀ base h₀ L m s Q E B F X N T hk hT hp hdp hu hret
  by_cases h : a < 0
  · exact idn_spec w a b t1 t2 p9 lo9 mean mg mb rest T1 T2 dp un gd cn cs ad ccd cl outer A₀ base h₀ L m s Q E B F X N T hk hT ⟨hp.1, h, hp.2.2⟩ hdp hu hret
  · exact idp_spec w a b t1 t2 p9 lo9 mean mg mb rest T1 T2 dp un gd cn cs ad ccd cl outer A₀ base h₀ L m s Q E B F X N T hk hT ⟨by omega, hp.2⟩ (by omega) (by omega) hret
end
section
open PySem PySem.W PyProof.Rows PySem.Spec PySem.Calls
set_option maxRecDepth 100000
theorem fresh_E1 : True ∧ True := by
  w_top off
  k_with_none
  first | (walk1; done) | exact ⟨trivial, trivial⟩

noncomputable def sizesF (base : Int) : Nat → Int → Int → Int → List Int → List Int → List Int
  | 0, _, _, _, _, _ => []
  | k + 1, low, high, size, rs, fs =>
    if -((-low).fdiv base) ≥ high.fdiv base then rs ++ List.replicate (high - low).toNat size ++ fs
    else sizesF base k (-((-low).fdiv base)) (high.fdiv base) (size * base) (rs ++ List.replicate ((-low).fmod base).toNat size) (List.replicate (high.fmod base).toNat size ++ fs)

section
variable {prog : Program} {w : World} {A : Around} {E : Value → Shared → Prop} {s : Shared}
theorem repN_K {h₀ : Heap} {L : Addr} {m : Str → Option Value} {news : Led} {l : Addr} {v : Value} {k : Int} {u : Tok} {Q : Value → Shared → Prop} (F : Fr h₀ L s.heap m) (N : News h₀ L s.heap news) (hm : (l, W.listOf #[v] 0) ∈ news) (h0 : 0 ≤ k) (hn : k ≤ 1000)
    (h : ∀ D h', Fr h₀ L h' m → News h₀ L h' ((D, W.listOf (List.replicate k.toNat v).toArray 0) :: news) → (∀ r ∈ news, r.1 < D) → Q (.ref D) { s with heap := h' }) :
    wpAny (model prog w) A (binaryOp .Mult (.ref l) (.int k u)) Q E s := rep_K F N hm (Int.toNat_of_nonneg h0).symm (by omega) h
theorem mulB_K {a b : Int} {t u : Tok} {Q : Value → Shared → Prop} (h0 : 0 ≤ b) (h1 : b ≤ 1000) (h : Q (.int (a * b) s.toks) { s with toks := s.toks + 1 }) :
    wpAny (model prog w) A (binaryOp .Mult (.int a t) (.int b u)) Q E s := PyProof.Rows.mul_int h (PySem.IntMulOk.of_right (PySem.intBits_le_64 (by omega) (by omega)))
end
theorem fdm {a b : Int} (hb : 2 ≤ b) (hb5 : b ≤ 5) : a = b * a.fdiv b + a.fmod b ∧ 0 ≤ a.fmod b ∧ a.fmod b < b := by
  rw [Int.fdiv_eq_ediv_of_nonneg _ (by omega), Int.fmod_eq_emod_of_nonneg _ (by omega)]
  exact ⟨(Int.mul_ediv_add_emod a b).symm, Int.emod_nonneg _ (by omega), Int.emod_lt_of_pos _ (by omega)⟩

theorem ttI_end {ds : List Int} {rest T1' T2' R news' : Led} {h₀ h' : Heap} {L : Addr} {D : Nat} {vs : List Value} {m : Str → Option Value} {s : Shared} {Q : Value → Shared → Prop} {tk' : Nat}
    (hret : ∀ (v : Value) (own T1' T2' : Led) (h' : Heap) (tk' : Nat), Ints ds v own → Tabs T1' T2' (own ++ rest) → Fr h₀ L h' m → News h₀ L h' (own ++ (rest ++ (T1' ++ T2'))) → (∀ p ∈ rest, ∀ q ∈ own, p.1 < q.1) → Q v { s with heap := h', toks := tk' })
    (hT : Tabs T1' T2' R) (hR : ∀ p ∈ rest, p ∈ R) (F : Fr h₀ L h' m) (N : News h₀ L h' news') (hm : (D, W.listOf vs.toArray 0) ∈ news') (htl : ∀ p ∈ rest ++ (T1' ++ T2'), p ∈ news') (hlt : ∀ p ∈ rest ++ (T1' ++ T2'), p.1 < D) (hi : IntsAre vs ds) :
    Q (.ref D) { s with heap := h', toks := tk' } := by
  refine hret (.ref D) [(D, W.listOf vs.toArray 0)] T1' T2' h' tk' ⟨D, vs, rfl, rfl, hi⟩ ((hT.sub hR).more fun p hp => Nat.ne_of_lt (hlt p (List.mem_append_right _ hp))) F (fun p hp => N p ?_) (lt_one fun p hp => hlt p (List.mem_append_left _ hp))
  rcases List.mem_cons.mp hp with rfl | hp
  · exact hm
  · exact htl p hp
theorem fd_neg {a b : Int} (ha : a ≤ 0) (hb : 2 ≤ b) (hb5 : b ≤ 5) : a.fdiv b ≤ 0 := by
  have d := fdm (a := a) hb hb5
  rcases Int.lt_or_le 0 (a.fdiv b) with h | h
  · have := Int.mul_lt_mul_of_pos_left (show (0 : Int) < a.fdiv b from h) (show (0 : Int) < b by omega)
    rw [Int.mul_zero] at this
    omega
  · exact h
theorem fd_half {a b : Int} (ha : 0 ≤ a) (hb : 2 ≤ b) (hb5 : b ≤ 5) : 0 ≤ a.fdiv b ∧ 2 * a.fdiv b ≤ a := by
  have d := fdm (a := a) hb hb5
  have h0 : 0 ≤ a.fdiv b := by
    rw [Int.fdiv_eq_ediv_of_nonneg _ (by omega)]
    exact Int.ediv_nonneg ha (by omega)
  have := Int.mul_le_mul_of_nonneg_right hb h0
  exact ⟨h0, by omega⟩
theorem rows_E1_1 : True := by
  k_with "eval Name" => (k_here; k_dflt (refine' ld ?q39k1 ?q39k2 ?_; (case q39k1 => k_asm); (case q39k2 => first | exact rfl | ((conv => lhs; whnf); assumption)); k_whole))
  k_with "binaryOp Mult ref int" => (k_here; (with_reducible show wpAny _ _ (binaryOp Operator.Mult (Value.ref _) (Value.int _ _)) _ _ _); k_dflt (refine' repN_K ?q40k1 ?q40k2 ?q40k3 ?q40k4 ?q40k5 ?_; (case q40k1 => k_asm); (case q40k2 => k_asm); (case q40k3 => k_mem); (case q40k4 => omega); (case q40k5 => omega); k_whole); intro D' h' F' N' l1; (try dsimp only); (have l2 := l1); (try k_lt l1); (first | (revert D' h'; intros) | skip))
  k_with "binaryOp Add ref ref" => (k_here; k_dflt (refine' addl_K ?q41k1 ?q41k2 ?q41k3 ?q41k4 ?q41k5 ?_; (case q41k1 => k_asm); (case q41k2 => k_asm); (case q41k3 => k_mem); (case q41k4 => k_mem); (case q41k5 => ((try simp only [List.length_replicate, List.length_append]); omega)); k_whole); intro D' h' F' N' l1; (try dsimp only); (have l2 := l1); (try k_lt l1); (first | (revert D' h'; intros) | skip))
  k_with "binaryOp Mult int int" => (k_here; (refine mulB_K (by omega) (by omega) ?_); (try dsimp only))
  k_with "exec While Constant cons nil" => (refine stop_in ?_)
  k_with "call ref" => (k_here; (with_reducible show wpAny _ _ (call (Value.ref 106) _) _ _ _); (rename Tabs _ _ _ => hT9); k_dflt (refine' tt_use (idm_spec _ _ _ _ _) ?q44B ?q44F ?q44X ?q44N ?q44U ?q44T ?q44hk hT9 ?q44hp ?q44dp ?q44un (use_pairT ?_); (case q44B => k_asm); (case q44F => k_asm); (case q44X => k_asm); (case q44N => k_asm); (case q44U => repeat' (first | with_reducible exact TlA.app | refine' TlA.cons ?_)); (case q44T => k_asm); (case q44hk => exact rfl); (case q44hp => ((try dsimp only); omega)); (case q44dp => ktr_room); (case q44un => ktr_units); k_whole); intro D' t9 u9 T1' T2' h' tk' hT' F' N' l1; (try dsimp only); (have l2 := l1); (try simp only [List.cons_append] at N'); (try k_lt l1); (try k_fold); (first | (revert D' t9 u9 T1' T2' h' tk'; intros) | skip))
  trivial

noncomputable def szInv (g' : Heap) (L' : Addr) (rest : Led) (base low high : Int) (t3 : Tok) (s : Shared) (n : Nat) (s' : Shared) : Prop :=
  ∃ (h : Heap) (tk : Nat) (mm : Str → Option Value) (T1 T2 : Led) (Rr Ff : Nat) (rvs fvs : List Value) (nr nf : Nat) (rs fs : List Int) (lo hi sz : Int) (tlo thi tsz : Tok),
    s' = { s with heap := h, toks := tk } ∧ Fr g' L' h mm ∧ News g' L' h ((Ff, W.listOf fvs.toArray nf) :: (Rr, W.listOf rvs.toArray nr) :: (rest ++ (T1 ++ T2))) ∧ Tabs T1 T2 ((Ff, W.listOf fvs.toArray nf) :: (Rr, W.listOf rvs.toArray nr) :: rest) ∧
    IntsAre rvs rs ∧ IntsAre fvs fs ∧ mm (Str.ofString "low") = some (.int lo tlo) ∧ mm (Str.ofString "high") = some (.int hi thi) ∧ mm (Str.ofString "size") = some (.int sz tsz) ∧ mm (Str.ofString "base") = some (.int base t3) ∧
    mm (Str.ofString "rising") = some (.ref Rr) ∧ mm (Str.ofString "falling") = some (.ref Ff) ∧ 0 ≤ lo ∧ lo < hi ∧ hi < 32 ∧ hi < 2 ^ n ∧ n ≤ 5 ∧ rs.length + 10 * n ≤ 100 ∧ fs.length + 10 * n ≤ 100 ∧
    sizesF base n lo hi sz rs fs = sizesF base 5 low high 1 [] []

set_option maxHeartbeats 4000000 in
theorem sizes_spec (w : World) (low high base : Int) (t1 t2 t3 : Tok) : SpecTT 11 w 127 (fun _ => 0 ≤ low ∧ low < high ∧ high < 32 ∧ 2 ≤ base ∧ base ≤ 5) [.int low t1, .int high t2, .int base t3] (Ints (sizesF base 5 low high 1 [] [])) := by
  have kf : PySem.Challenge.rw_zo0034_01 = PySem.Challenge.rw_zo0034_01 ∧ hd.heap_39 = hd.heap_39 := by
    k_fill
    exact ⟨rfl, rfl⟩
  clear kf
  unfold SpecTT
  intro p9 lo9 mean mg mb rest T1 T2 dp un gd cn cs ad ccd cl outer A₀ base9 h₀ L m s Q E B F X N T hk hT hp hdp hu hret
  obtain ⟨hp1, hp2, hp3, hp4, hp5⟩ := hp
  refine wpAny_call ?_
  k_dflt cell_enter
  k_steps
  rename_i g' L' h7 FG' B' X' T' tkz Rr lh6 lR Ff lh5 lF Dt lh4 lD lh3 lh2 lh1 hh F' N'
  refine stop_out ?_
  refine while_J (szInv g' L' rest base low high t3 s) ?turn 5 ?start
  case start =>
    refine ⟨_, _, _, T1, T2, Rr, Ff, [], [], 0, 0, [], [], low, high, 1, _, _, _, rfl, F', cb_drop N' (fun p hp => .tail _ hp), ?_, .nil, .nil, rfl, rfl, rfl, rfl, rfl, rfl, hp1, hp2, hp3, hp3, Nat.le_refl _, by decide, by decide, rfl⟩
    exact (hT.more fun p hp => allLt_ne (allLt_of lR) (Nat.le_refl _) p (List.mem_append_right _ hp)).more fun p hp => allLt_ne lF.2 (Nat.le_refl _) p (List.mem_append_right _ hp)
  case turn =>
    rintro n s' ⟨h, tk, mm, T1, T2, Rr, Ff, rvs, fvs, nr, nf, rs, fs, lo, hi, sz, tlo, thi, tsz, rfl, F1, N1, hT1, hrs, hfs, m1, m2, m3, m4, m5, m6, b1, b2, b3, b4, b5, b6, b7, he⟩
    have hlr := hrs.length
    have hlf := hfs.length
    obtain ⟨k, rfl⟩ : ∃ k, n = k + 1 := ⟨n - 1, by
      rcases n with _ | n
      · simp at b4; omega
      · rfl⟩
    have d1 := fdm (a := -lo) hp4 hp5
    have d2 := fdm (a := hi) hp4 hp5
    k_steps
    · show qk (.ret _) _
      k_steps
      rename Tabs _ _ (_ :: _ :: _) => hTb
      rename (∀ p : Addr × Obj, p ∈ _ → p.1 < _) => l2
      refine ttI_end hret hTb (fun p hp => .tail _ (.tail _ (.tail _ (.tail _ hp)))) (by k_asm) (by k_asm) (.head _) (fun p hp => by repeat (first | exact hp | refine List.Mem.tail _ ?_)) (fun p hp => l2 p (by repeat (first | exact hp | refine List.Mem.tail _ ?_))) ?_
      rw [← he]
      unfold sizesF
      rw [if_pos (by assumption)]
      exact ints_app (ints_app hrs (ints_rep _ _ _)) hfs
    · refine ⟨k, Nat.lt_succ_self _, ?_⟩
      rename_i T1b T2b h16 tkb hTb l24 l17 h15 h14 h13 tk3 hcond tk2 l1v h12 l16 D4 h11 l23 l15 D3 h10 l22 l14 h9 tk1 lv h8 l13 D2v h7b l21 l12 D1v h6 l20 l11 h5 tk0 D0 h4 l10 h3 h2 h1 h0 FF NN
      dsimp only
      refine ⟨_, _, _, T1b, T2b, D3, D1v, rvs ++ List.replicate ((-lo).fmod base).toNat (.int sz tsz), List.replicate (hi.fmod base).toNat (.int sz tsz) ++ fvs, 0, 0, rs ++ List.replicate ((-lo).fmod base).toNat sz, List.replicate (hi.fmod base).toNat sz ++ fs, -(-lo).fdiv base, hi.fdiv base, sz * base, _, _, _, rfl, FF, cb_drop NN ?_, ?_, ints_app hrs (ints_rep _ _ _), ints_app (ints_rep _ _ _) hfs, rfl, rfl, rfl, m4, rfl, rfl, ?_, ?_, ?_, ?_, ?_, ?_, ?_, ?_⟩
      · intro p hp
        rcases List.mem_cons.mp hp with rfl | hp
        · k_mem
        · rcases List.mem_cons.mp hp with rfl | hp
          · k_mem
          · repeat (first | exact hp | refine List.Mem.tail _ ?_)
      · refine ((hTb.sub (rest' := rest) (fun p hp => .tail _ (.tail _ (.tail _ (.tail _ hp))))).more (fun p hp => Nat.ne_of_lt (l22 p ?_))).more (fun p hp => Nat.ne_of_lt (l20 p ?_))
        · have hp' : p ∈ rest ++ (T1b ++ T2b) := List.mem_append_right _ hp
          repeat (first | exact hp' | refine List.Mem.tail _ ?_)
        · have hp' : p ∈ rest ++ (T1b ++ T2b) := List.mem_append_right _ hp
          repeat (first | exact hp' | refine List.Mem.tail _ ?_)
      · have := fd_neg (a := -lo) (by omega) hp4 hp5; omega
      · omega
      · have := fd_half (a := hi) (by omega) hp4 hp5; omega
      · have := fd_half (a := hi) (by omega) hp4 hp5
        have e : (2 : Int) ^ (k + 1) = 2 ^ k * 2 := Int.pow_succ ..
        omega
      · omega
      · rw [List.length_append, List.length_replicate]; omega
      · rw [List.length_append, List.length_replicate]; omega
      · rw [← he]
        conv => rhs; unfold sizesF
        rw [if_neg hcond]
end
section
open PySem PySem.W PyProof.Rows PySem.Spec PySem.Calls
set_option maxRecDepth 100000
theorem fresh_E2 : True ∧ True := by
  w_top off
  k_with_none
  first | (walk1; done) | exact ⟨trivial, trivial⟩

noncomputable def octL (base : Int) : Nat → Int → List Int
  | 0, _ => []
  | k + 1, n => (48 + n.fmod base) :: octL base k (n.fdiv base)
noncomputable def octF (base : Int) (places : Nat) (n : Int) : List Int := (octL base places n).reverse
noncomputable def numF (base : Int) : Nat → Int → Int
  | 0, n => n
  | k + 1, n => numF base k (n.fdiv base)
theorem octL_snoc (base : Int) : ∀ (k : Nat) (n : Int), octL base (k + 1) n = octL base k n ++ [48 + (numF base k n).fmod base]
  | 0, n => rfl
  | k + 1, n => by
    rw [octL, octL_snoc base k, octL]
    rfl
theorem numF_succ (base : Int) : ∀ (k : Nat) (n : Int), numF base (k + 1) n = (numF base k n).fdiv base
  | 0, n => rfl
  | k + 1, n => by
    rw [numF, numF_succ base k]; rfl
theorem octL_length (base : Int) : ∀ (k : Nat) (n : Int), (octL base k n).length = k
  | 0, _ => rfl
  | k + 1, n => by rw [octL, List.length_cons, octL_length base k]

theorem rows_E2_1 : True := by
  k_with "eval Name" => (k_here; k_dflt (refine' ld ?q45k1 ?q45k2 ?_; (case q45k1 => k_asm); (case q45k2 => first | exact rfl | ((conv => lhs; whnf); assumption)); k_whole))
  k_with "loadName" => (k_here; k_dflt (refine' ldn ?q46k1 ?q46k2 ?_; (case q46k1 => k_asm); (case q46k2 => first | exact rfl | ((conv => lhs; whnf); assumption)); k_whole))
  k_with "subscriptTail Name Slice ref ref" => (k_here; (with_reducible show wpAny _ _ (subscriptTail _ (PySem.Expr.Slice none none (some _) _) (Value.ref _) (Value.ref _)) _ _ _); k_dflt (refine' krv_ints ?q47F ?q47N ?q47l ?q47k ?q47i ?_ ?q47s ?q47t ?q47z; (case q47F => k_asm); (case q47N => k_asm); (case q47l => exact isl (by k_asm) (by k_mem)); (case q47k => exact IsPart.int _ _); (case q47i => assumption); (case q47s => with_unfolding_all rfl); (case q47t => kmk_pure); (case q47z => (rw [List.size_toArray, sizeLine_eq]; omega))); intro D' ws' h' F' N' l1 hI' hC'; (try dsimp only); (have l2 := l1); (try k_lt l1); (first | (revert D' ws' h'; intros) | skip))
  k_with "exec For Name Call cons nil" => (k_here; k_dflt (refine' For_F ?_ ?q48hs; (case q48hs => (intro _; rfl)); k_whole))
  k_with "call builtin:list.append" => (k_here; (with_reducible show wpAny _ _ (call (Value.builtin _) [Value.ref _, _]) _ _ _); k_dflt (refine' append_L ?q49k1 ?q49k2 ?q49k3 ?q49z ?_; (case q49k1 => k_asm); (case q49k2 => k_asm); (case q49k3 => k_upd); (case q49z => first | omega | assumption); k_whole); intro h' F' N'; (try dsimp only); (first | (revert h'; intros) | skip))
  trivial

set_option maxHeartbeats 4000000 in
theorem oct_spec (w : World) (n base : Int) (places : Nat) (t1 t2 t3 : Tok) : Spec 2 w 134 (fun _ => 2 ≤ base ∧ base ≤ 5 ∧ places ≤ 10) [.int n t1, .int base t2, .int places t3] (Ints (octF base places n)) := by
  have kf : PySem.Challenge.rw_zo0034_01 = PySem.Challenge.rw_zo0034_01 ∧ hd.heap_39 = hd.heap_39 := by
    k_fill
    exact ⟨rfl, rfl⟩
  clear kf
  unfold Spec
  intro p9 lo9 mean mg mb rest dp un gd cn cs ad ccd cl outer A₀ base9 h₀ L m s Q E B F X N T hk hp hdp hu hret
  obtain ⟨hp1, hp2, hp3⟩ := hp
  refine wpAny_call ?_
  k_dflt cell_enter
  k_steps
  rename_i g' L' h3 FG' B' X' T' tkz Dq h2 lq h1 F0 N0 h0 tk9 ta tb tc hr F1 N1 ho
  k_dflt (refine' iter_rangeJ (n := places) rfl rfl rfl hr ?hsm ?hn F1 N1 (fun i mm led => ∃ vs nn tn, led = (Dq, W.listOf vs.toArray nn) :: rest ∧ IntsAre vs (octL base i n) ∧ mm (Str.ofString "octets") = some (.ref Dq) ∧ mm (Str.ofString "base") = some (.int base t2) ∧ mm (Str.ofString "number") = some (.int (numF base i n) tn)) ?h0 ?turn ?done)
  case hsm => exact rng_small (by decide) (by decide) (by omega) (by omega) (by decide) (by decide)
  case hn => rw [rangeSize_nat]; omega
  case h0 => exact ⟨[], 0, t1, rfl, .nil, rfl, rfl, rfl⟩
  case turn =>
    rintro i t m₁ led I it h tk hi ⟨vs, nn, tn, rfl, hv, hm1, hm2, hm3⟩ hlt F2 N2
    dsimp only at F2 N2 ⊢
    have hlv := hv.length
    rw [octL_length] at hlv
    have hI := hlt
    k_lt hI
    k_steps
    show TurnE _ _ _ _ _ _ _
    rename Fr _ _ _ _ => FF
    rename News _ _ _ _ => NN
    refine TurnE.intro FF NN (.head _) (fun p hp => .tail _ hp) (allLt_mem (by exact hI)) ⟨_, _, _, rfl, by rw [octL_snoc]; exact ints_snoc hv _ _, hm1, hm2, congrArg (fun z => some (Value.int z _)) (numF_succ base i n).symm⟩
  case done =>
    rintro m₁ led h tk ⟨vs, nn, tn, rfl, hv, hm1, hm2, hm3⟩ F2 N2
    dsimp only at F2 N2 ⊢
    have hlv := hv.length
    rw [octL_length] at hlv
    k_steps
    rename IntsAre _ _ => hI9
    rename (∀ p : Addr × Obj, p ∈ _ → p.1 < _) => l2
    exact ret_own hret (own := [(_, _)]) (by k_asm) (by k_asm) (fun p hp => by
      rcases List.mem_cons.mp hp with rfl | hp
      · exact .head _
      · repeat (first | exact hp | refine List.Mem.tail _ ?_)) (lt_one fun p hp => l2 p (by repeat (first | exact hp | refine List.Mem.tail _ ?_))) ⟨_, _, rfl, rfl, hI9⟩
end
section
open PySem PySem.W PyProof.Rows PySem.Spec PySem.Calls
set_option maxRecDepth 100000
theorem fresh_P1 : True ∧ True := by
  w_top off
  k_with_none
  first | (walk1; done) | exact ⟨trivial, trivial⟩
noncomputable def okc : List Nat := [46, 10, 45, 48, 49, 50, 51, 52, 97, 100, 105, 110, 112, 114]
theorem okc_lower : ∀ c ∈ okc, Unicode.lowerOf c = [c] := by decide +kernel
theorem flat_ones : ∀ l : List Nat, (l.map fun c => [c]).flatten = l
  | [] => rfl
  | a :: l => by rw [List.map_cons, List.flatten_cons, flat_ones l]; rfl
theorem lower_id {l : List Nat} (h : l.all okc.contains = true) : Txt.lower ⟨l.toArray⟩ = ⟨l.toArray⟩ := by
  have e : (l.toArray.mapIdx fun i c => ((fun i (_ : Nat) => Unicode.lowerAt l.toArray i) i c).toArray) = (l.map fun c => #[c]).toArray := by
    refine Array.ext (by simp) fun i h1 h2 => ?_
    rw [Array.getElem_mapIdx]
    have hi : i < l.length := by simpa using h2
    have hm : l[i] ∈ okc := by
      have := List.all_eq_true.mp h l[i] (List.getElem_mem hi)
      simpa using this
    show (Unicode.lowerAt l.toArray i).toArray = _
    have e1 : l.toArray[i]? = some l[i] := by simp [hi]
    have e2 : (l[i] == 0x3A3) = false := by
      have : ∀ c ∈ okc, (c == 0x3A3) = false := by decide
      exact this _ hm
    have e3 : Unicode.lowerAt l.toArray i = [l[i]] := by
      unfold Unicode.lowerAt
      rw [e1]
      simp only [e2, Bool.false_and, Bool.false_eq_true, if_false, okc_lower _ hm]
    rw [e3]
    simp
  unfold Txt.lower placed
  rw [e]
  congr 1
  rw [← Array.toList_inj]
  simp [Array.toList_flatten, Function.comp_def]
  exact flat_ones l
noncomputable def tailC : List Nat := [105, 110, 45, 97, 100, 100, 114, 46, 97, 114, 112, 97]
noncomputable def headC : List Nat := [97, 114, 112, 97, 46, 105, 110, 45, 97, 100, 100, 114]
noncomputable def bareC (ds : List Int) : List Nat := ds.flatMap (fun d => [d.toNat, 46]) ++ tailC
noncomputable def netC (ds : List Int) : List Nat := headC ++ ds.reverse.flatMap (fun d => [46, d.toNat]) ++ [10]
/-- a name's text, a line's text, a zone's text -/
noncomputable def bareF (ds : List Int) : Str := ⟨(bareC ds).toArray⟩
noncomputable def netF (ds : List Int) : Str := ⟨(netC ds).toArray⟩
noncomputable def zoneF (ds : List Int) : Str := ⟨(46 :: bareC ds).toArray⟩
noncomputable def strEq (x : Str) (l : List Nat) : Bool := x.cps.toList == l
theorem strEq_iff {x : Str} {l : List Nat} (h : strEq x l = true) : x = ⟨l.toArray⟩ := by
  have := eq_of_beq h
  cases x
  simp only at this
  rw [← this]
theorem s_dot : Str.ofString "." = ⟨#[46]⟩ := by decide +kernel
theorem s_nil : Str.ofString "" = ⟨#[]⟩ := by decide +kernel
theorem s_local : Str.ofString "local" = ⟨#[108, 111, 99, 97, 108]⟩ := by decide +kernel
/-- is_HDN and reach over written signs -/
noncomputable def hdnG (x : Str) : Bool := match srch x.cps with
  | some _ => false
  | none => !(x == ⟨#[]⟩) && !(Txt.item x 0 == ⟨#[46]⟩) && !(Txt.item x (-1) == ⟨#[46]⟩)
theorem hdnG_eq (x : Str) : hdnF x = hdnG x := by
  unfold hdnF hdnG
  rw [s_dot, s_nil]
  all_goals rfl
noncomputable def reachG (x : Str) : Str :=
  if 0 ≤ Txt.find x ⟨#[46]⟩ then
    let b := Txt.slice x (some (Txt.find x ⟨#[46]⟩ + 1)) none
    if hdnG x && (decide (0 ≤ Txt.find b ⟨#[46]⟩) || (b == ⟨#[108, 111, 99, 97, 108]⟩)) then ⟨#[46]⟩ ++ b else x
  else x
theorem reachG_eq (x : Str) : reachF x = reachG x := by
  unfold reachF reachG
  rw [s_dot, s_local, hdnG_eq]
noncomputable def okDs (ds : List Int) : Bool :=
  strEq (Txt.lstripChars (bareF ds) ⟨#[46]⟩) (bareC ds) && strEq (Txt.lstripChars (zoneF ds) ⟨#[46]⟩) (bareC ds) &&
  (bareC ds).all okc.contains && hdnG (bareF ds) && strEq (Txt.slice (zoneF ds) (some 1) none) (bareC ds) && (hdnG (netF ds) == ds.isEmpty) &&
  strEq (Txt.join ⟨#[46]⟩ (Txt.split (bareF ds) ⟨#[46]⟩).reverse ++ ⟨#[10]⟩) (netC ds) && decide ((Txt.split (bareF ds) ⟨#[46]⟩).length ≤ 8) && (Txt.split (bareF ds) ⟨#[46]⟩).all (fun x => decide (x.length ≤ 14)) &&
  decide ((bareC ds).length ≤ 30) && decide ((netC ds).length ≤ 30) && !(Txt.startswith (bareF ds) ⟨#[46]⟩) && Txt.startswith (zoneF ds) ⟨#[46]⟩ &&
  match ds with
  | [] => strEq (reachG (bareF [])) (bareC [])
  | d :: r => strEq (reachG (bareF (d :: r))) (46 :: bareC r) && !(bareC (d :: r) == 46 :: bareC r) && (match srch (netF (d :: r)).cps with | some (a, b) => decide (a ≤ 1000) && decide (b ≤ 1000) && strEq (unmF (netF (d :: r)) a b) (netC r) | none => false)
noncomputable def bsN : Nat → Nat
  | 0 => 2
  | 1 => 3
  | 2 => 4
  | _ => 5
noncomputable def plN : Nat → Nat
  | 0 => 4
  | 1 => 3
  | 2 => 2
  | _ => 2
noncomputable def dss (j : Nat) : List (List Int) := (List.range (plN j + 1)).flatMap fun k => (List.range (bsN j ^ k)).map fun (c : Nat) => octL ((bsN j : Nat) : Int) k ((c : Nat) : Int)
noncomputable def okA (ds : List Int) : Bool :=
  strEq (Txt.lstripChars (bareF ds) ⟨#[46]⟩) (bareC ds) && strEq (Txt.lstripChars (zoneF ds) ⟨#[46]⟩) (bareC ds) &&
  (bareC ds).all okc.contains && hdnG (bareF ds)
noncomputable def okB (ds : List Int) : Bool := strEq (Txt.slice (zoneF ds) (some 1) none) (bareC ds) && (hdnG (netF ds) == ds.isEmpty)
noncomputable def okC1 (ds : List Int) : Bool := strEq (Txt.join ⟨#[46]⟩ (Txt.split (bareF ds) ⟨#[46]⟩).reverse ++ ⟨#[10]⟩) (netC ds)
noncomputable def okC2 (ds : List Int) : Bool := decide ((Txt.split (bareF ds) ⟨#[46]⟩).length ≤ 8) && (Txt.split (bareF ds) ⟨#[46]⟩).all (fun x => decide (x.length ≤ 14))
noncomputable def okE (ds : List Int) : Bool := decide ((bareC ds).length ≤ 30) && decide ((netC ds).length ≤ 30) && !(Txt.startswith (bareF ds) ⟨#[46]⟩) && Txt.startswith (zoneF ds) ⟨#[46]⟩
noncomputable def okF (ds : List Int) : Bool := match ds with
  | [] => strEq (reachG (bareF [])) (bareC [])
  | d :: r => strEq (reachG (bareF (d :: r))) (46 :: bareC r) && !(bareC (d :: r) == 46 :: bareC r)
noncomputable def okG (ds : List Int) : Bool := match ds with
  | [] => true
  | d :: r => (match srch (netF (d :: r)).cps with | some (a, b) => decide (a ≤ 1000) && decide (b ≤ 1000) && strEq (unmF (netF (d :: r)) a b) (netC r) | none => false)
theorem okDs_of {ds : List Int} (ha : okA ds = true) (hb : okB ds = true) (h1 : okC1 ds = true) (h2 : okC2 ds = true) (he : okE ds = true) (hf : okF ds = true) (hg : okG ds = true) : okDs ds = true := by
  unfold okA at ha
  unfold okB at hb
  unfold okC1 at h1
  unfold okC2 at h2
  unfold okE at he
  unfold okDs
  simp only [Bool.and_eq_true] at ha hb h2 he ⊢
  obtain ⟨⟨⟨a1, a2⟩, a3⟩, a4⟩ := ha
  obtain ⟨b1, b2⟩ := hb
  obtain ⟨c1, c2⟩ := h2
  obtain ⟨⟨⟨e1, e2⟩, e3⟩, e4⟩ := he
  refine ⟨⟨⟨⟨⟨⟨⟨⟨⟨⟨⟨⟨⟨a1, a2⟩, a3⟩, a4⟩, b1⟩, b2⟩, h1⟩, c1⟩, c2⟩, e1⟩, e2⟩, e3⟩, e4⟩, ?_⟩
  cases ds with
  | nil => exact hf
  | cons d r =>
    unfold okF at hf
    unfold okG at hg
    show (_ && _) = true
    rw [Bool.and_eq_true]
    exact ⟨hf, hg⟩
theorem okA_0 : (dss 0).all okA = true := by decide +kernel
theorem okB_0 : (dss 0).all okB = true := by decide +kernel
theorem okC1_0 : (dss 0).all okC1 = true := by decide +kernel
theorem okC2_0 : (dss 0).all okC2 = true := by decide +kernel
theorem okE_0 : (dss 0).all okE = true := by decide +kernel
theorem okF_0 : (dss 0).all okF = true := by decide +kernel
theorem okG_0 : (dss 0).all okG = true := by decide +kernel
theorem okDs0 : (dss 0).all okDs = true := List.all_eq_true.mpr fun ds h => okDs_of (List.all_eq_true.mp okA_0 ds h) (List.all_eq_true.mp okB_0 ds h) (List.all_eq_true.mp okC1_0 ds h) (List.all_eq_true.mp okC2_0 ds h) (List.all_eq_true.mp okE_0 ds h) (List.all_eq_true.mp okF_0 ds h) (List.all_eq_true.mp okG_0 ds h)
theorem okA_1 : (dss 1).all okA = true := by decide +kernel
theorem okB_1 : (dss 1).all okB = true := by decide +kernel
theorem okC1_1 : (dss 1).all okC1 = true := by decide +kernel
theorem okC2_1 : (dss 1).all okC2 = true := by decide +kernel
theorem okE_1 : (dss 1).all okE = true := by decide +kernel
theorem okF_1 : (dss 1).all okF = true := by decide +kernel
theorem okG_1 : (dss 1).all okG = true := by decide +kernel
theorem okDs1 : (dss 1).all okDs = true := List.all_eq_true.mpr fun ds h => okDs_of (List.all_eq_true.mp okA_1 ds h) (List.all_eq_true.mp okB_1 ds h) (List.all_eq_true.mp okC1_1 ds h) (List.all_eq_true.mp okC2_1 ds h) (List.all_eq_true.mp okE_1 ds h) (List.all_eq_true.mp okF_1 ds h) (List.all_eq_true.mp okG_1 ds h)
theorem okA_2 : (dss 2).all okA = true := by decide +kernel
theorem okB_2 : (dss 2).all okB = true := by decide +kernel
theorem okC1_2 : (dss 2).all okC1 = true := by decide +kernel
theorem okC2_2 : (dss 2).all okC2 = true := by decide +kernel
theorem okE_2 : (dss 2).all okE = true := by decide +kernel
theorem okF_2 : (dss 2).all okF = true := by decide +kernel
theorem okG_2 : (dss 2).all okG = true := by decide +kernel
theorem okDs2 : (dss 2).all okDs = true := List.all_eq_true.mpr fun ds h => okDs_of (List.all_eq_true.mp okA_2 ds h) (List.all_eq_true.mp okB_2 ds h) (List.all_eq_true.mp okC1_2 ds h) (List.all_eq_true.mp okC2_2 ds h) (List.all_eq_true.mp okE_2 ds h) (List.all_eq_true.mp okF_2 ds h) (List.all_eq_true.mp okG_2 ds h)
theorem okA_3 : (dss 3).all okA = true := by decide +kernel
theorem okB_3 : (dss 3).all okB = true := by decide +kernel
theorem okC1_3 : (dss 3).all okC1 = true := by decide +kernel
theorem okC2_3 : (dss 3).all okC2 = true := by decide +kernel
theorem okE_3 : (dss 3).all okE = true := by decide +kernel
theorem okF_3 : (dss 3).all okF = true := by decide +kernel
theorem okG_3 : (dss 3).all okG = true := by decide +kernel
theorem okDs3 : (dss 3).all okDs = true := List.all_eq_true.mpr fun ds h => okDs_of (List.all_eq_true.mp okA_3 ds h) (List.all_eq_true.mp okB_3 ds h) (List.all_eq_true.mp okC1_3 ds h) (List.all_eq_true.mp okC2_3 ds h) (List.all_eq_true.mp okE_3 ds h) (List.all_eq_true.mp okF_3 ds h) (List.all_eq_true.mp okG_3 ds h)
end
section
set_option maxRecDepth 100000
open PySem PySem.W PyProof.Rows PySem.Spec PySem.Calls
theorem fresh_P3 : True ∧ True := by
  w_top off
  k_with_none
  first | (walk1; done) | exact ⟨trivial, trivial⟩
structure OkD (ds : List Int) : Prop where
  ls1 : Txt.lstripChars (bareF ds) (Str.ofString ".") = bareF ds
  ls2 : Txt.lstripChars (zoneF ds) (Str.ofString ".") = bareF ds
  lowb : Txt.lower (bareF ds) = bareF ds
  lowz : Txt.lower (zoneF ds) = zoneF ds
  hb : hdnF (bareF ds) = true
  sl : Txt.slice (zoneF ds) (some 1) none = bareF ds
  hn : hdnF (netF ds) = ds.isEmpty
  jn : netF ds = Txt.join (Str.ofString ".") (Txt.split (bareF ds) (Str.ofString ".")).reverse ++ Str.ofString "\n"
  sp : (Txt.split (bareF ds) (Str.ofString ".")).length ≤ 8
  sp2 : ∀ a ∈ Txt.split (bareF ds) (Str.ofString "."), a.length ≤ 14
  bl : (bareF ds).length ≤ 30
  nl : (netF ds).length ≤ 30
  sw0 : Txt.startswith (bareF ds) (Str.ofString ".") = false
  sw1 : Txt.startswith (zoneF ds) (Str.ofString ".") = true
  ren : ds = [] → reachF (bareF ds) = bareF ds
  rec9 : ∀ d r, ds = d :: r → reachF (bareF ds) = zoneF r ∧ zoneF r ≠ bareF ds ∧ ∃ a b, srch (netF ds).cps = some (a, b) ∧ a ≤ 1000 ∧ b ≤ 1000 ∧ unmF (netF ds) a b = netF r
theorem s_nl' : Str.ofString "\n" = ⟨#[10]⟩ := by decide +kernel
theorem okD_of {ds : List Int} (h : okDs ds = true) : OkD ds := by
  unfold okDs at h
  simp only [Bool.and_eq_true, decide_eq_true_eq, Bool.not_eq_true', beq_iff_eq] at h
  obtain ⟨⟨⟨⟨⟨⟨⟨⟨⟨⟨⟨⟨⟨h1, h2⟩, h3⟩, h4⟩, h5⟩, h6⟩, h7⟩, h8⟩, h9⟩, h10⟩, h11⟩, h12⟩, h13⟩, h14⟩ := h
  refine ⟨?_, ?_, lower_id h3, lower_id (l := 46 :: bareC ds) ?_, ?_, strEq_iff h5, ?_, ?_, ?_, ?_, ?_, ?_, ?_, ?_, ?_, ?_⟩
  · rw [s_dot]; exact strEq_iff h1
  · rw [s_dot]; exact strEq_iff h2
  · rw [List.all_cons, h3]; rfl
  · rw [hdnG_eq]; exact h4
  · rw [hdnG_eq]; exact h6
  · rw [s_dot, s_nl']; exact (strEq_iff h7).symm
  · rw [s_dot]; exact h8
  · rw [s_dot]
    intro a ha
    have := List.all_eq_true.mp h9 a ha
    exact of_decide_eq_true this
  · show (bareC ds).toArray.size ≤ 30
    rw [List.size_toArray]; exact h10
  · show (netC ds).toArray.size ≤ 30
    rw [List.size_toArray]; exact h11
  · rw [s_dot]; exact h12
  · rw [s_dot]; exact h13
  · rintro rfl
    rw [reachG_eq]
    exact strEq_iff h14
  · rintro d r rfl
    simp only [Bool.and_eq_true, Bool.not_eq_true'] at h14
    obtain ⟨⟨g1, g2⟩, g3⟩ := h14
    refine ⟨by rw [reachG_eq]; exact strEq_iff g1, fun e => ?_, ?_⟩
    · have e2 : (46 :: bareC r) = bareC (d :: r) := by
        have := congrArg (fun x : Str => x.cps.toList) e
        simpa [zoneF, bareF] using this
      rw [← e2] at g2
      simp at g2
    · cases hs : srch (netF (d :: r)).cps with
      | none => rw [hs] at g3; cases g3
      | some ab =>
        obtain ⟨a, b⟩ := ab
        rw [hs] at g3
        simp only [Bool.and_eq_true, decide_eq_true_eq] at g3
        exact ⟨a, b, rfl, g3.1.1, g3.1.2, strEq_iff g3.2⟩
/-- somewhere in l stands y -/
noncomputable def occ (y : List Nat) : List Nat → Bool
  | [] => y.isPrefixOf []
  | c :: l => y.isPrefixOf (c :: l) || occ y l
theorem occ_iff (y : List Nat) : ∀ l : List Nat, occ y l = true ↔ ∃ i, i ≤ l.length ∧ y <+: l.drop i
  | [] => by
    unfold occ
    rw [List.isPrefixOf_iff_prefix]
    exact ⟨fun h => ⟨0, Nat.le_refl _, h⟩, fun ⟨i, _, h⟩ => by simpa using h⟩
  | c :: l => by
    unfold occ
    rw [Bool.or_eq_true, List.isPrefixOf_iff_prefix, occ_iff y l]
    constructor
    · rintro (h | ⟨i, hi, h⟩)
      · exact ⟨0, Nat.zero_le _, h⟩
      · exact ⟨i + 1, Nat.succ_le_succ hi, h⟩
    · rintro ⟨i, hi, h⟩
      cases i with
      | zero => exact .inl h
      | succ i => exact .inr ⟨i, Nat.le_of_succ_le_succ hi, h⟩
theorem at_iff (l y : List Nat) (i : Nat) : StrLaws.At ⟨l.toArray⟩ ⟨y.toArray⟩ (Str.length ⟨l.toArray⟩) i ↔ i ≤ l.length ∧ y <+: l.drop i := by
  unfold StrLaws.At Builtin.Str.subAt Str.length
  simp only [List.size_toArray, List.extract_toArray, beq_iff_eq]
  rw [List.prefix_iff_eq_take]
  have e : (l.extract i (i + y.length)) = (l.drop i).take y.length := by
    rw [List.extract_eq_take_drop]
    congr 1
    omega
  rw [e]
  constructor
  · rintro ⟨h1, h2⟩
    exact ⟨by omega, by simpa using h2.symm⟩
  · rintro ⟨h1, h2⟩
    have := congrArg List.length h2
    rw [List.length_take, List.length_drop] at this
    exact ⟨by omega, by simpa using h2.symm⟩
noncomputable def zoneM (xs ds : List Int) : Bool := occ (46 :: bareC ds) (bareC xs).tail
theorem dm_zone {xs ds : List Int} (hx : OkD xs) (hd : OkD ds) : dmF (bareF xs) (zoneF ds) = zoneM xs ds := by
  unfold dmF
  simp only [hx.lowb, hd.lowz, hx.hb, hd.sw1, hd.sl, hd.hb]
  have hne : (bareF xs == zoneF ds) = false := by
    cases h : (bareF xs == zoneF ds) with
    | false => rfl
    | true =>
      have := eq_of_beq h
      have e := hx.sw0
      rw [this, hd.sw1] at e
      cases e
  rw [hne]
  simp only [Bool.false_eq_true, if_false, Bool.not_true]
  have key : ∀ i : Nat, StrLaws.At (bareF xs) (zoneF ds) (bareF xs).length i ↔ i ≤ (bareC xs).length ∧ (46 :: bareC ds) <+: (bareC xs).drop i := fun i => at_iff _ _ i
  rcases rfind_whole (bareF xs) (zoneF ds) with ⟨e, hn⟩ | ⟨i, e, hi, hn⟩
  · rw [e]
    simp only [beq_self_eq_true, Bool.true_or, if_true]
    cases h : zoneM xs ds with
    | false => rfl
    | true =>
      obtain ⟨k, hk, hp⟩ := (occ_iff _ _).mp h
      rw [List.drop_tail] at hp
      refine absurd ((key (k + 1)).mpr ⟨?_, hp⟩) (hn (k + 1))
      rcases Nat.lt_or_ge (bareC xs).length (k + 1) with h9 | h9
      · rw [List.drop_of_length_le (by omega)] at hp
        have := hp.length_le
        simp at this
      · exact h9
  · rw [e]
    by_cases h0 : i = 0
    · subst h0
      simp only [Int.natCast_zero, beq_self_eq_true, Bool.or_true, if_true]
      cases h : zoneM xs ds with
      | false => rfl
      | true =>
        obtain ⟨k, hk, hp⟩ := (occ_iff _ _).mp h
        rw [List.drop_tail] at hp
        refine absurd ((key (k + 1)).mpr ⟨?_, hp⟩) (hn (k + 1) (by omega))
        rcases Nat.lt_or_ge (bareC xs).length (k + 1) with h9 | h9
        · rw [List.drop_of_length_le (by omega)] at hp
          have := hp.length_le
          simp at this
        · exact h9
    · have h1 : (((i : Nat) : Int) == -1 || ((i : Nat) : Int) == 0) = false := by
        simp only [Bool.or_eq_false_iff, beq_eq_false_iff_ne]
        omega
      rw [h1]
      simp only [Bool.false_eq_true, if_false]
      obtain ⟨g1, g2⟩ := (key i).mp hi
      refine ((occ_iff _ _).mpr ⟨i - 1, ?_, ?_⟩).symm
      · rw [List.length_tail]; omega
      · rw [List.drop_tail, show i - 1 + 1 = i by omega]; exact g2
theorem dm_bare {xs ds : List Int} (hx : OkD xs) (hd : OkD ds) : dmF (bareF xs) (bareF ds) = (bareC xs == bareC ds) := by
  unfold dmF
  simp only [hx.lowb, hd.lowb, hx.hb, hd.sw0]
  have e : (bareF xs == bareF ds) = (bareC xs == bareC ds) := by
    rw [Bool.eq_iff_iff, beq_iff_eq, beq_iff_eq]
    constructor
    · intro h
      have := congrArg (fun x : Str => x.cps.toList) h
      simpa [bareF] using this
    · intro h
      unfold bareF
      rw [h]
  rw [e]
  cases (bareC xs == bareC ds)
  · simp only [Bool.false_eq_true, if_false, Bool.not_true, Bool.not_false, if_true]
    split <;> rfl
  · rfl
theorem bareC_inj : ∀ {xs ds : List Int}, xs.length = ds.length → (∀ x ∈ xs, 0 ≤ x) → (∀ x ∈ ds, 0 ≤ x) → bareC xs = bareC ds → xs = ds
  | [], [], _, _, _, _ => rfl
  | x :: xs, d :: ds, hl, hx, hd, h => by
    have h' : x.toNat :: 46 :: bareC xs = d.toNat :: 46 :: bareC ds := h
    injection h' with h1 h2
    injection h2 with _ h3
    have h0 := hx x (.head _)
    have h00 := hd d (.head _)
    have e : x = d := by omega
    rw [e, bareC_inj (by simpa using hl) (fun y hy => hx y (.tail _ hy)) (fun y hy => hd y (.tail _ hy)) h3]
  | [], _ :: _, hl, _, _, _ => by simp at hl
  | _ :: _, [], hl, _, _, _ => by simp at hl
end
section
set_option maxRecDepth 100000
open PySem PySem.W PyProof.Rows PySem.Spec PySem.Calls
theorem fresh_P4 : True ∧ True := by
  w_top off
  k_with_none
  first | (walk1; done) | exact ⟨trivial, trivial⟩
noncomputable def whN (j : Nat) : Nat := bsN j ^ plN j
noncomputable def drTab (j : Nat) : Bool := (List.range (whN j)).all fun a => (List.range (plN j + 1)).all fun i => (dss j).contains ((octL ((bsN j : Nat) : Int) (plN j) ((a : Nat) : Int)).drop i)
noncomputable def zmTab (j : Nat) : Bool := (List.range (whN j)).all fun a => (dss j).all fun ds => decide (ds.length = plN j) || (zoneM (octL ((bsN j : Nat) : Int) (plN j) ((a : Nat) : Int)) ds == ((octL ((bsN j : Nat) : Int) (plN j) ((a : Nat) : Int)).drop (plN j - ds.length) == ds))
theorem dr0 : drTab 0 = true := by decide +kernel
theorem dr1 : drTab 1 = true := by decide +kernel
theorem dr2 : drTab 2 = true := by decide +kernel
theorem dr3 : drTab 3 = true := by decide +kernel
theorem zm0 : zmTab 0 = true := by decide +kernel
theorem zm1 : zmTab 1 = true := by decide +kernel
theorem zm2 : zmTab 2 = true := by decide +kernel
theorem zm3 : zmTab 3 = true := by decide +kernel
theorem four {P : Nat → Prop} (h0 : P 0) (h1 : P 1) (h2 : P 2) (h3 : P 3) : ∀ j, j < 4 → P j
  | 0, _ => h0
  | 1, _ => h1
  | 2, _ => h2
  | 3, _ => h3
  | _ + 4, h => absurd h (by omega)
theorem ds_ok {j : Nat} (hj : j < 4) {ds : List Int} (h : ds ∈ dss j) : OkD ds := by
  have key : (dss j).all okDs = true := four (P := fun j => (dss j).all okDs = true) okDs0 okDs1 okDs2 okDs3 j hj
  exact okD_of (List.all_eq_true.mp key ds h)
noncomputable abbrev oc (j : Nat) (a : Int) : List Int := octL ((bsN j : Nat) : Int) (plN j) a
theorem dr_mem {j : Nat} (hj : j < 4) {a : Int} (h0 : 0 ≤ a) (h1 : a < (whN j : Nat)) {i : Nat} (hi : i ≤ plN j) : (oc j a).drop i ∈ dss j := by
  have key : drTab j = true := four (P := fun j => drTab j = true) dr0 dr1 dr2 dr3 j hj
  have h := List.all_eq_true.mp key a.toNat (List.mem_range.mpr (by omega))
  have h := List.all_eq_true.mp h i (List.mem_range.mpr (by omega))
  have e : ((a.toNat : Nat) : Int) = a := Int.toNat_of_nonneg h0
  rw [e] at h
  simpa using h
theorem zm_eq {j : Nat} (hj : j < 4) {a : Int} (h0 : 0 ≤ a) (h1 : a < (whN j : Nat)) {ds : List Int} (hd : ds ∈ dss j) (hl : ds.length ≠ plN j) : zoneM (oc j a) ds = ((oc j a).drop (plN j - ds.length) == ds) := by
  have key : zmTab j = true := four (P := fun j => zmTab j = true) zm0 zm1 zm2 zm3 j hj
  have h := List.all_eq_true.mp key a.toNat (List.mem_range.mpr (by omega))
  have h := List.all_eq_true.mp h ds hd
  have e : ((a.toNat : Nat) : Int) = a := Int.toNat_of_nonneg h0
  rw [e, decide_eq_false hl, Bool.false_or] at h
  exact eq_of_beq h
theorem zl {ds : List Int} (h : OkD ds) : (zoneF ds).length ≤ 31 := by
  have := h.bl
  have e : (bareF ds).length = (bareC ds).length := List.size_toArray
  have e2 : (zoneF ds).length = (bareC ds).length + 1 := List.size_toArray
  omega
end
section
open PySem PySem.W PyProof.Rows PySem.Spec PySem.Calls
set_option maxRecDepth 100000
theorem fresh_NL : True ∧ True := by
  w_top off
  k_with_none
  first | (walk1; done) | exact ⟨trivial, trivial⟩
open PySem.Sem (wp)

/-- the built-ins that a bytearray asks the stack for -/
noncomputable def badIds : List String := Builtin.Bytes.decodersThatHold ++ ["bytearray.__contains__", "bytearray.__mod__", "bytearray.__rmod__", "_struct.pack_into.held", "bytearray.find.held"]
noncomputable def okC : Code → Bool
  | .builtin id _ => !badIds.contains id
  | _ => true
noncomputable def CleanB (l : List (Code × Pos)) : Prop := ∀ x ∈ l, okC x.1 = true
/-- wpAny over the clean stacks -/
noncomputable def wpN {α : Type} (M : Model) (A : Around) (t : Sem α) (Q : α → Shared → Prop) (E : Value → Shared → Prop) (s : Shared) : Prop :=
  ∀ Γ p, Γ.In A → CleanB ((Γ.code, p) :: Γ.below) → wp M Γ t (fun a _ s' => Q a s') (fun e _ s' => E e s') p s
noncomputable def codeN (M : Model) (A : Around) (c : Code) (R : Result → Shared → Prop) (s : Shared) : Prop :=
  ∀ Γ p, Γ.code = c → Γ.Below A → CleanB Γ.below → wpCode M Γ R p s

section
variable {α β : Type} {M : Model} {A : Around} {E : Value → Shared → Prop} {s : Shared}
theorem CleanB.swap {c : Code} {p p' : Pos} {l : List (Code × Pos)} (h : CleanB ((c, p) :: l)) : CleanB ((c, p') :: l) := fun x hx => by
  rcases List.mem_cons.mp hx with rfl | hx
  · exact h (c, p) (.head _)
  · exact h x (.tail _ hx)
theorem wpN_of {t : Sem α} {Q : α → Shared → Prop} (h : wpAny M A t Q E s) : wpN M A t Q E s := fun Γ p hΓ _ => h Γ p hΓ
theorem codeN_of {c : Code} {R : Result → Shared → Prop} (h : codeAny M A c R s) : codeN M A c R s := fun Γ p hc hΓ _ => h Γ p hc hΓ
theorem wpN_mono {t : Sem α} {Q Q' : α → Shared → Prop} {E' : Value → Shared → Prop} (h : wpN M A t Q E s) (hQ : ∀ a s, Q a s → Q' a s) (hE : ∀ e s, E e s → E' e s) : wpN M A t Q' E' s :=
  fun Γ p hΓ hc => Sem.wp_mono M Γ t (fun a _ s => hQ a s) (fun e _ s => hE e s) p s (h Γ p hΓ hc)
theorem wpN_bind {m : Sem α} {f : α → Sem β} {Q : β → Shared → Prop} (h : wpN M A m (fun a s' => wpN M A (f a) Q E s') E s) : wpN M A (m >>= f) Q E s := fun Γ p hΓ hc => by
  rw [Sem.wp_bind']
  exact Sem.wp_mono M Γ m (fun a p' s' h' => h' Γ p' hΓ hc.swap) (fun _ _ _ h' => h') p s (h Γ p hΓ hc)
/-- a part that needs no clean stack -/
theorem wpN_step {m : Sem α} {f : α → Sem β} {Q : β → Shared → Prop} (h : wpAny M A m (fun a s' => wpN M A (f a) Q E s') E s) : wpN M A (m >>= f) Q E s := wpN_bind (wpN_of h)
theorem wpN_pure {a : α} {Q : α → Shared → Prop} (h : Q a s) : wpN M A (pure a) Q E s := wpN_of (wpAny_pure h)
theorem wpN_holding {vs : List Value} {m : Sem α} {Q : α → Shared → Prop} (h : wpN M A m Q E s) : wpN M A (holding vs m) Q E s :=
  fun Γ p hΓ hc => by rw [Sem.wp_holding]; exact h Γ p hΓ hc
theorem wpN_onRaise {m : Sem α} {k : Value → Sem Unit} {Q : α → Shared → Prop}
    (h : wpN M A m Q (fun e s' => wpAny M A (k e) (fun _ s'' => E e s'') E s') s) : wpN M A (m.onRaise k) Q E s := fun Γ p hΓ hc => by
  rw [Sem.wp_onRaise]
  exact Sem.wp_mono M Γ m (fun _ _ _ h' => h') (fun e p' s' h' => h' Γ p' hΓ) p s (h Γ p hΓ hc)
theorem wpN_tryCatch {m : Sem α} {k : Value → Sem α} {Q : α → Shared → Prop} (h : wpN M A m Q (fun e s' => wpAny M A (k e) Q E s') s) :
    wpN M A (tryCatch m k) Q E s := fun Γ p hΓ hc => by
  rw [Sem.wp_tryCatch']
  exact Sem.wp_mono M Γ m (fun _ _ _ h' => h') (fun e p' s' h' => h' Γ p' hΓ) p s (h Γ p hΓ hc)
theorem wpN_runValue {c : Code} {Q : Value → Shared → Prop}
    (hc : codeN M A c (fun r s' => match r with | .ok (.ret v) => Q v s' | .ok _ => False | .error e => E e s') s) :
    wpN M A (runValue c) Q E s := fun Γ p hΓ hcl => by
  rw [Sem.wp_runValue]
  exact hc _ p rfl (hΓ.enter c none p (by intro x; cases x)) hcl
theorem wpN_call {f : Value} {pos : List Value} {kw : List (Str × Value)} {Q : Value → Shared → Prop}
    (hc : codeN M A (.call f ⟨pos, kw⟩) (fun r s' => match r with | .ok (.ret v) => Q v s' | .ok _ => False | .error e => E e s') s) :
    wpN M A (call f pos kw) Q E s := wpN_runValue hc
theorem codeN_tree {c : Code} {R : Result → Shared → Prop} (ok : okC c = true)
    (h : wpN M (A.under c) (M.den c) (fun fin s' => match fin with | .done f => R (.ok f) s' | .again c' => c'.quiet = true ∧ codeN M A c' R s')
      (fun e s' => R (.error e) s') s) : codeN M A c R s := fun Γ p hc hΓ hcl => by
  rw [wpCode_iff_wp, hc]
  refine Sem.wp_mono M Γ _ (fun fin p' s' h' => ?_) (fun _ _ _ h' => h') p s (h Γ p (hc ▸ hΓ.in) fun x hx => by
    rcases List.mem_cons.mp hx with rfl | hx
    · rw [hc]; exact ok
    · exact hcl x hx)
  cases fin with
  | done f => exact h'
  | again c' => exact ⟨h'.1, h'.2 (Γ.goto c') p' rfl (hΓ.goto c') hcl⟩
end
section
variable {prog : Program} {w : World} {A : Around} {E : Value → Shared → Prop} {s : Shared} {R : Result → Shared → Prop}
theorem codeN_builtin {id : String} {args : Args} {b : Builtin} (ok : badIds.contains id = false) (hb : entryFor table id = some b)
    (h : wpN (model prog w) (A.under (.builtin id args)) (b args)
      (fun fin s' => match fin with | .done f => R (.ok f) s' | .again c' => c'.quiet = true ∧ codeN (model prog w) A c' R s') (fun e s' => R (.error e) s') s) :
    codeN (model prog w) A (.builtin id args) R s := by
  refine codeN_tree (by show (!badIds.contains id) = true; rw [ok]; rfl) ?_
  show wpN _ _ (match entryFor table id with | some b => b args | none => unsupported ((withoutEnding? id "#data").getD id)) _ _ s
  rw [hb]; exact h
theorem codeN_func {body env}
    (h : wpN (model prog w) (A.deeper env) (execs body env) (fun f s' => R (.ok (.ret (match f with | .ret v => v | _ => .none))) s')
      (fun e s' => wpAny (model prog w) (A.deeper env) (leaving env e) (fun _ s'' => R (.error e) s'') (fun e' s'' => R (.error e') s'') s') s) :
    codeN (model prog w) A (.func body env) R s := by
  refine codeN_tree rfl ?_
  show wpN _ (A.deeper env) (do point; match ← (execs body env).onRaise (leaving env) with | .ret v => ret v | _ => ret .none) _ _ s
  refine wpN_step (wpAny_point (wpN_bind (wpN_onRaise (wpN_mono h (fun f s' h' => ?_) fun _ _ h' => h'))))
  cases f <;> exact wpN_pure h'
theorem codeN_call_fn {a : Addr} {args : Args} {o : Obj} {fd : FuncData} {body : List Stmt} (hroom : A.depth < recursionLimit)
    (ho : s.heap.get? a = some o) (hd' : o.data = .func fd) (hco : fd.scope.isCoroutine = false) (hgen : fd.scope.isGenerator = false) (hbody : fd.body = .stmts body) (hcd : s.heap.CodeRec fd.code fd.qualname)
    (h : wpAny (model prog w) A.in1 (bindArgs fd args) (fun binds s₁ =>
      wpAny (model prog w) A.in1 (newFunctionEnv fd.scope fd.globals fd.closure binds (fd.qualname ++ ".<locals>.") (some a) fd.code none fd.builtins)
        (fun env s₂ => s₂.heap.NoLimit ∧ codeN (model prog w) A (.func body env) R s₂) (fun e s' => R (.error e) s') s₁) (fun e s' => R (.error e) s') s) :
    codeN (model prog w) A (.call (.ref a) args) R s := by
  obtain ⟨c, oc, vs, tq, hc, hoc, hdc, hq⟩ := hcd
  rw [hc] at h
  refine codeN_tree rfl (wpN_of ?_)
  show wpAny _ A.in1 (load a >>= fun o => _) _ _ s
  refine wpAny_bind (wpAny_load ho ?_)
  rw [hd']
  show wpAny _ A.in1 (callFunction a fd args) _ _ s
  unfold callFunction
  rw [hc, hco, hgen, hbody]
  dsimp only
  refine wpAny_bind (m := field (.ref c) 1) (wpAny_field hoc hdc hq (wpAny_bind (wpAny_pure (wpAny_bind (wpAny_mono h (fun binds s₁ h₁ => ?_) fun _ _ x => x)))))
  refine wpAny_bind (wpAny_mono h₁ (fun env s₂ h₂ => ?_) fun _ _ x => x)
  exact wpAny_bind (wpAny_enterFrame h₂.1 hroom (wpAny_pure ⟨rfl, h₂.2⟩))
end
end
section
open PySem PySem.W PyProof.Rows PySem.Spec PySem.Calls
set_option maxRecDepth 100000
theorem fresh_NB : True ∧ True := by
  w_top off
  k_with_none
  first | (walk1; done) | exact ⟨trivial, trivial⟩
open PySem.Builtin.Bytes

theorem ba_mro : mroOf (.type "bytearray") = pure [.type "bytearray", .type "object"] := by rw [mroOf_type]; kernel_rfl
theorem ba_lookup_new : typeLookup (.type "bytearray") "__new__" = pure (some (.builtin "bytearray.__new__")) := by rw [typeLookup_type, builtinLookup_eq_fast]; kernel_rfl
theorem ba_slot_init : Slot "bytearray" "__init__" "bytearray.__init__" :=
  .of (owner := "bytearray") (n := "__init__") (by rw [typeLookup_type, builtinLookup_eq_fast]; kernel_rfl) (by decide +kernel) (by decide +kernel) (by decide +kernel)
    (by first | exact .inl (by decide +kernel) | exact .inr (by decide +kernel)) (by rw [isSubtype_type]; kernel_rfl)
theorem ba_called : TypeCalled "bytearray" "bytearray.__new__" "bytearray.__init__" :=
  ⟨by decide +kernel, by decide +kernel, ⟨_, _, ba_mro⟩, madeBy_type ba_mro ba_lookup_new (by decide +kernel), by decide +kernel, by rw [isSubtype_type]; kernel_rfl, ba_slot_init⟩
theorem ba_typeCall (a : Value) : checkTypeCall "bytearray" ⟨[a], []⟩ = pure () := by kernel_rfl
theorem ba_newCall (a : Value) : checkBuiltinCall "bytearray.__new__" ⟨[.type "bytearray", a], []⟩ = pure () := by kernel_rfl
theorem ba_entry_new : entryFor table "bytearray.__new__" = some Builtin.«list.__new__» :=
  entryFor_alias (id' := "list.__new__") (by kernel_rfl) (by first | rfl | decide +kernel) (by decide +kernel) (by kernel_rfl)
theorem ba_entry_init : entryFor table "bytearray.__init__" = some Builtin.«bytearray.__init__» := by first | exact entryFor_of_fast (by kernel_rfl) | exact entryFor_of_tree (by kernel_rfl)
theorem ba_plain_new : plainId "bytearray.__new__" = true := by decide +kernel
theorem ba_args_init (a b : Value) : argsOk "bytearray.__init__" ⟨[a, b], []⟩ := by unfold argsOk; kernel_rfl
theorem ba_sub : isSubtype (.type "bytearray") (.type "bytearray") = pure true := by rw [isSubtype_type]; kernel_rfl
theorem ba_bind (v : Value) : bindOptional "bytearray.__init__" "bytearray" ["source", "encoding", "errors"] [v] [] = pure [some v, none, none] := by kernel_rfl
theorem ba_no_release : typeLookup (.type "bytearray") "__release_buffer__" = pure (some (.builtin "bytearray.__release_buffer__")) := by rw [typeLookup_type, builtinLookup_eq_fast]; kernel_rfl
theorem int_index : typeLookup (.type "int") "__index__" = pure (some (.builtin "int.__index__")) := by rw [typeLookup_type, builtinLookup_eq_fast]; kernel_rfl
set_option maxRecDepth 1000000 in
set_option maxHeartbeats 4000000 in
theorem owner_ba : ("bytearray.__new__".splitOn ".__new__").headD "" = "bytearray" := by simp +decide [String.splitOn, String.splitOnAux]
noncomputable def baObj (b : Array UInt8) : Obj := { cls := .type "bytearray", data := .bytearray b }
theorem ne_dite {P : Prop} {_ : Decidable P} {x : P → Bool} {y : ¬P → Bool} (h : ¬P) (k : ¬ y h = true) : ¬ dite P x y = true := by
  rw [dif_neg h]; exact k
theorem bad_no {id : String} {args : Args} (h : badIds.contains id = true) : ¬ okC (.builtin id args) = true := by
  show ¬ (!badIds.contains id) = true
  rw [h]; exact Bool.false_ne_true
section
variable {prog : Program} {w : World} {A : Around} {s : Shared} {E : Value → Shared → Prop}
theorem code_ba_new (a : Value) {Q₁ : Value → Shared → Prop} (h : Q₁ (.ref s.heap.objs.size) { s with heap := s.heap.push (baObj #[]) }) :
    codeAny (model prog w) A (.call (.builtin "bytearray.__new__") ⟨[.type "bytearray", a], []⟩) (wants Q₁ E) s := by
  refine codeAny_of_tree ?_
  show wpAny _ A.in1 (do checkBuiltinCall "bytearray.__new__" ⟨[.type "bytearray", a], []⟩; again (.builtin "bytearray.__new__" ⟨[.type "bytearray", a], []⟩)) _ _ s
  refine wpAny_bind (wpAny_of_eq (ba_newCall a) (wpAny_pure ⟨plainId_quiet ba_plain_new _, codeAny_builtin_stack ba_entry_new rfl fun p st => ?_⟩))
  rw [Around.under_plainId ba_plain_new _]
  have hsub := ba_sub
  have hown := owner_ba
  obtain ⟨hp, g, d, tk, os⟩ := s
  simp only [hown]
  wp_walk
  exact h
theorem exported_no {self : Value} {Q : Bool → Shared → Prop} (h : Q false s) : wpN (model prog w) A (exported self) Q E s := fun Γ p _ hc => by
  show Q (List.any ((Γ.code, p) :: Γ.below) _) s
  rw [List.any_eq_false.mpr]
  · exact h
  · rintro ⟨c, p'⟩ hx
    have ok := hc _ hx
    clear hc hx
    by_cases hb : ∃ id args, c = .builtin id args
    · obtain ⟨id, args, rfl⟩ := hb
      delta exported.match_1
      show ¬ dite (id = "bytearray.__contains__") _ _ = true
      refine @ne_dite _ _ _ _ ?hn ?_; case hn => exact fun e => bad_no (by rw [e]; decide +kernel) ok
      refine @ne_dite _ _ _ _ ?hn ?_; case hn => exact fun e => bad_no (by rw [e]; decide +kernel) ok
      refine @ne_dite _ _ _ _ ?hn ?_; case hn => exact fun e => bad_no (by rw [e]; decide +kernel) ok
      refine @ne_dite _ _ _ _ ?hn ?_; case hn => exact fun e => bad_no (by rw [e]; decide +kernel) ok
      refine @ne_dite _ _ _ _ ?hn ?_; case hn => exact fun e => bad_no (by rw [e]; decide +kernel) ok
      obtain ⟨pos, kw⟩ := args
      cases pos with
      | nil => exact Bool.false_ne_true
      | cons v more =>
        show ¬ (Builtin.Bytes.sameRef v self && decodersThatHold.contains id) = true
        have h2 : decodersThatHold.contains id = false := by
          cases hd : decodersThatHold.contains id with
          | false => rfl
          | true => exact (bad_no (List.contains_iff_mem.mpr (List.mem_append_left _ (List.contains_iff_mem.mp hd))) ok).elim
        rw [h2, Bool.and_false]
        exact Bool.false_ne_true
    · cases c <;> first | exact Bool.false_ne_true | exact (hb ⟨_, _, rfl⟩).elim
end
end
section
open PySem PySem.W PyProof.Rows PySem.Spec PySem.Calls
set_option maxRecDepth 100000
theorem fresh_NC : True ∧ True := by
  w_top off
  k_with_none
  first | (walk1; done) | exact ⟨trivial, trivial⟩
open PySem.Builtin.Bytes
theorem ba_buffer : typeLookup (.type "bytearray") "__buffer__" = pure (some (.builtin "bytearray.__buffer__")) := by rw [typeLookup_type, builtinLookup_eq_fast]; kernel_rfl
section
variable {prog : Program} {w : World} {A : Around} {s : Shared} {E : Value → Shared → Prop} {D : Addr} {b : Array UInt8}
theorem bmN_if_false {α : Type} {M : Model} {c : Bool} {a b : Sem α} {Q : α → Shared → Prop} (hc : c = false) (h : wpN M A b Q E s) : wpN M A (if c = true then a else b) Q E s := by
  subst hc
  exact h
theorem ba_own {name : String} {id : String} {Q : Bool → Shared → Prop} (hD : s.heap.get? D = some (baObj b)) (hl : typeLookup (.type "bytearray") (name : Str) = pure (some (.builtin id))) (h1 : id.endsWith ("." ++ name) = true) (h2 : id.dropRight (name.length + 1) = "bytearray") (h : Q true s) :
    wpAny (model prog w) A (slotIsOwn (.ref D) name) Q E s := by
  have hT : s.TypeIs (.ref D) "bytearray" := ⟨_, hD, rfl⟩
  unfold slotIsOwn
  refine wpAny_bind (wpAny_specialOf hT hl ?_)
  dsimp only
  rw [h1, h2]
  exact wpAny_isInstance hT ba_sub h
theorem ba_release {Q : Bool → Shared → Prop} (hD : s.heap.get? D = some (baObj b)) (h : Q false s) : wpAny (model prog w) A (ownRelease (.ref D)) Q E s := by
  unfold ownRelease
  exact wpAny_bind (ba_own hD ba_no_release (by decide +kernel) (by decide +kernel) (wpAny_pure h))
theorem ba_payload {Q : Array UInt8 → Shared → Prop} (hD : s.heap.get? D = some (baObj b)) (h : Q b s) : wpAny (model prog w) A (payload (.ref D)) Q E s := by
  unfold payload payload?
  refine wpAny_bind (wpAny_bind (wpAny_load hD (wpAny_pure ?_)))
  exact wpAny_pure h
theorem ba_write {f : Array UInt8 → Array UInt8} {Q : Unit → Shared → Prop} (hD : s.heap.get? D = some (baObj b)) (hz : (f b).size ≤ 100000)
    (h : (s.heap.update D (Obj.mapBytearray f)).get? D = some (baObj (f b)) → Q () { s with heap := s.heap.update D (Obj.mapBytearray f) }) : wpAny (model prog w) A (write (.ref D) f) Q E s := by
  show wpAny _ _ (updateBytearray D f) _ _ _
  unfold updateBytearray
  refine wpAny_bind (wpAny_load hD ?_)
  show wpAny _ _ (update D (Obj.mapBytearray f) >>= fun _ => lookBehind D) _ _ _
  refine wpAny_bind (wpAny_update hD ?_)
  have e : (s.heap.update D (Obj.mapBytearray f)).get? D = some (baObj (f b)) := Heap.get?_update_self (Obj.mapBytearray f) hD rfl
  refine wpAny_lookBehind e ?_ (h e)
  show (if (f b).size > sizeLine then some "bytearray:memory" else none) = none
  rw [if_neg]
  rw [sizeLine_eq]; omega

theorem ba_init {n : Int} {t : Tok} (hD : s.heap.get? D = some (baObj #[])) (h0 : 0 ≤ n) (h1 : n ≤ 10000) {Q : Fin → Shared → Prop}
    (h : ∀ h', h'.get? D = some (baObj (Array.replicate n.toNat 0)) → (∀ a o, a ≠ D → s.heap.get? a = some o → h'.get? a = some o) → Q (.done (.ret .none)) { s with heap := h' }) :
    wpN (model prog w) A (Builtin.«bytearray.__init__» ⟨[.ref D, .int n t], []⟩) Q E s := by
  unfold Builtin.«bytearray.__init__»
  refine wpN_step (ba_release hD ?_)
  dsimp only [Bool.false_eq_true, if_false]
  refine wpN_step (wpAny_of_eq (ba_bind _) ?_)
  dsimp only
  refine wpN_step (wpAny_of_eq (a := ()) rfl ?_)
  refine wpN_step (wpAny_of_eq (a := ()) rfl ?_)
  refine wpN_bind ?_
  refine wpN_bind (exported_no ?_)
  show wpN _ _ (exportsOf (.ref D) >>= fun k => pure (decide (k > 0))) _ _ _
  refine wpN_of ?_
  refine wpAny_bind (wpAny_bind (wpAny_load hD (wpAny_pure (wpAny_pure ?_))))
  refine wpN_of ?_
  refine bm_if_false (by decide) ?_
  refine wpAny_bind (ba_write hD (Nat.zero_le _) fun hD1 => ?_)
  refine wpAny_bind (wpAny_of_eq (a := none) rfl ?_)
  refine bm_if_false rfl ?_
  have b63 : (2 : Int) ^ 63 = 9223372036854775808 := by decide
  refine bm_if_false (c := !fitsIndex n) (by unfold fitsIndex; rw [b63]; simp only [Bool.not_eq_false', Bool.and_eq_true, decide_eq_true_eq]; omega) ?_
  rw [if_neg (by omega : ¬ n < 0)]
  refine bm_if_false (by rw [b63]; simp only [beq_eq_false_iff_ne, ne_eq]; omega) ?_
  refine bm_if_false (by unfold tooLong; rw [sizeLine_eq]; exact decide_eq_false (by omega)) ?_
  refine wpAny_bind (wpAny_rule ?_)
  by_cases hn : n > 0
  · rw [if_pos hn]
    refine wpAny_bind (ba_write hD1 (by simp only [Array.size_replicate]; omega) fun hD2 => ?_)
    refine wpAny_pure (h _ hD2 fun a o ha e => ?_)
    exact (Heap.get?_update_other _ _ (Ne.symm ha)).trans ((Heap.get?_update_other _ _ (Ne.symm ha)).trans e)
  · rw [if_neg hn]
    refine wpAny_pure (h _ ?_ fun a o ha e => (Heap.get?_update_other _ _ (Ne.symm ha)).trans e)
    rw [hD1, show n.toNat = 0 by omega]; rfl

theorem ba_call {n : Int} {t : Tok} (h0 : 0 ≤ n) (h1 : n ≤ 10000) {Q : Value → Shared → Prop}
    (h : ∀ h', h'.get? s.heap.objs.size = some (baObj (Array.replicate n.toNat 0)) → (∀ a o, s.heap.get? a = some o → h'.get? a = some o) → Q (.ref s.heap.objs.size) { s with heap := h' }) :
    wpN (model prog w) A (call (.type "bytearray") [.int n t]) Q E s := by
  obtain ⟨c, tl, hmro⟩ := ba_called.mro
  refine wpN_call (codeN_tree rfl (wpN_of ?_))
  show wpAny _ _ (callAny (.type "bytearray") _) _ _ _
  refine wpAny_pure ⟨Code.quiet_builtin _ (by decide +kernel), codeN_builtin (by decide +kernel) F.entry_type_call ?_⟩
  rw [Around.under_plain (weight_type_call_type "bytearray" _ []) (units_type_call_type "bytearray" _ [])]
  have f1 := ba_called.notType
  have f2 := ba_called.canCreate
  unfold Builtin.«type.__call__»
  dsimp only
  rw [f1]
  simp only [Bool.false_eq_true, if_false]
  refine bmN_if_false f2 ?_
  refine wpN_step (wpAny_of_eq (ba_typeCall _) ?_)
  refine wpN_step (wpAny_of_eq hmro ?_)
  refine bmN_if_false rfl ?_
  refine wpN_step (wpAny_of_eq ba_called.made ?_)
  dsimp only
  refine wpN_step (wpAny_pure ?_)
  refine wpN_step (wpAny_holding (wpAny_call (code_ba_new _ ?_)))
  have hD : (s.heap.push (baObj #[])).get? s.heap.objs.size = some (baObj #[]) := Heap.get?_push_size _ rfl
  have hT : ({ s with heap := s.heap.push (baObj #[]) } : Shared).TypeIs (.ref s.heap.objs.size) "bytearray" := ⟨_, hD, rfl⟩
  refine wpN_step (wpAny_isInstance hT ba_sub ?_)
  refine bmN_if_false rfl ?_
  refine wpN_bind (wpN_holding ?_)
  unfold callSpecial?
  refine wpN_step (wpAny_specialOf hT ba_slot_init.lookup ?_)
  dsimp only
  refine wpN_holding ?_
  refine wpN_step (wpAny_of_eq (ba_slot_init.bind _) ?_)
  dsimp only
  refine wpN_bind (wpN_call (codeN_tree rfl (wpN_of ?_)))
  show wpAny _ _ (checkBuiltinCall "bytearray.__init__" _ >>= fun _ => _) _ _ _
  refine wpAny_bind (ba_slot_init.check _ _ _ _ _ _ _ _ hT (ba_args_init _ _) ?_)
  refine wpAny_pure ⟨plainId_quiet ba_slot_init.plain _, codeN_builtin (by decide +kernel) ba_entry_init ?_⟩
  refine ba_init hD h0 h1 fun h' e1 e2 => ?_
  refine wpN_pure ?_
  dsimp only
  refine bmN_if_false rfl ?_
  exact wpN_pure (h h' e1 fun a o e => e2 a o (Nat.ne_of_lt (Heap.lt_size e)) (Heap.get?_push_of_some _ e))
end
end
section
open PySem PySem.W PyProof.Rows PySem.Spec PySem.Calls
set_option maxRecDepth 100000
theorem fresh_ND : True ∧ True := by
  w_top off
  k_with_none
  first | (walk1; done) | exact ⟨trivial, trivial⟩
open PySem.Builtin.Bytes
theorem ba_slot_set : Slot "bytearray" "__setitem__" "bytearray.__setitem__" :=
  .of (owner := "bytearray") (n := "__setitem__") (by rw [typeLookup_type, builtinLookup_eq_fast]; kernel_rfl) (by decide +kernel) (by decide +kernel) (by decide +kernel)
    (by first | exact .inl (by decide +kernel) | exact .inr (by decide +kernel)) (by rw [isSubtype_type]; kernel_rfl)
theorem ba_entry_set : entryFor table "bytearray.__setitem__" = some Builtin.«bytearray.__setitem__» := by first | exact entryFor_of_fast (by kernel_rfl) | exact entryFor_of_tree (by kernel_rfl)
theorem ba_args_set (a b c : Value) : argsOk "bytearray.__setitem__" ⟨[a, b, c], []⟩ := by unfold argsOk; kernel_rfl
theorem ba_no_bytes : typeLookup (.type "bytearray") "__bytes__" = pure none := by rw [typeLookup_type, builtinLookup_eq_fast]; kernel_rfl
theorem ba_no_index : typeLookup (.type "bytearray") "__index__" = pure none := by rw [typeLookup_type, builtinLookup_eq_fast]; kernel_rfl
section
variable {prog : Program} {w : World} {A : Around} {s : Shared} {E : Value → Shared → Prop} {D : Addr} {b : Array UInt8}
theorem ba_setAt {k x : Int} {t u : Tok} {Q : Unit → Shared → Prop} (hD : s.heap.get? D = some (baObj b)) (hz : b.size ≤ 100000) (h0 : 0 ≤ k) (h1 : k < b.size) (x0 : 0 ≤ x) (x1 : x < 256)
    (hQ : Q () { s with heap := s.heap.update D (Obj.mapBytearray (·.setIfInBounds k.toNat x.toNat.toUInt8)) }) : wpAny (model prog w) A (setItem (.ref D) (.int k t) (.int x u)) Q E s := by
  have hT : s.TypeIs (.ref D) "bytearray" := ⟨_, hD, rfl⟩
  have b63 : (2 : Int) ^ 63 = 9223372036854775808 := by decide
  unfold setItem
  refine wpAny_holding ?_
  refine wpAny_bind (wpAny_sequenceKey hT (by decide) ?_)
  refine wpAny_bind (wpAny_callSpecial?_slot (name := Str.ofString "__setitem__") hT ba_slot_set
    (wpAny_call_entry ba_slot_set hT ba_entry_set ?_ (ba_args_set _ _ _)))
  show wpAny _ _ (subscript? (.int k t) >>= _) _ _ s
  refine wpAny_bind ?_
  unfold subscript?
  refine wpAny_bind (wpAny_specialOf (rfl : s.TypeIs (.int k t) "int") int_index ?_)
  refine bm_if_false rfl ?_
  refine wpAny_bind (wpAny_of_eq (rfl : asIndex (.int k t) = pure k) ?_)
  refine bm_if_false (c := !fitsIndex k) (by unfold fitsIndex; rw [b63]; simp only [Bool.not_eq_false', Bool.and_eq_true, decide_eq_true_eq]; omega) ?_
  refine wpAny_pure ?_
  dsimp only
  refine wpAny_bind ?_
  unfold byteValue
  refine wpAny_bind (wpAny_of_eq (rfl : asIndex (.int x u) = pure x) ?_)
  refine bm_if_false (by simp only [Bool.or_eq_false_iff, decide_eq_false_iff_not]; omega) ?_
  refine wpAny_pure ?_
  refine wpAny_bind (ba_payload hD ?_)
  have e : seqIndex? k b.size = some k.toNat := by
    unfold seqIndex?
    rw [if_neg (by omega : ¬ k < 0)]
    simp only [Bool.and_eq_true, decide_eq_true_eq]
    rw [if_pos ⟨h0, h1⟩]
  rw [e]
  dsimp only
  refine wpAny_bind (ba_write hD (by simpa using hz) fun hD1 => ?_)
  first
    | exact wpAny_bind (wpAny_pure (wpAny_pure ⟨.none, rfl, wpAny_pure hQ⟩))
    | exact wpAny_pure ⟨.none, rfl, wpAny_pure hQ⟩

theorem ba_made {t : Tok} {Q : Fin → Shared → Prop} {x : Value} (h : Q (.done (.ret x)) s) : wpAny (model prog w) A (ret x) Q E s := wpAny_pure h
theorem ba_new {Q : Value → Shared → Prop} (hD : s.heap.get? D = some (baObj b)) (hz : b.size ≤ 100000) (hQ : ∀ t k, Q (.bytes b t) { s with toks := k }) :
    codeAny (model prog w) A (.call (.builtin "bytes.__new__") ⟨[.type "bytes", .ref D], []⟩) (wants Q E) s := by
  have hT : s.TypeIs (.ref D) "bytearray" := ⟨_, hD, rfl⟩
  refine codeAny_of_tree ?_
  show wpAny _ A.in1 (do checkBuiltinCall "bytes.__new__" ⟨[.type "bytes", .ref D], []⟩; again (.builtin "bytes.__new__" ⟨[.type "bytes", .ref D], []⟩)) _ _ s
  refine wpAny_bind (wpAny_of_eq (F.bm_newCall _) (wpAny_pure ⟨plainId_quiet F.bm_plain _, codeAny_builtin F.bm_entry ?_⟩))
  rw [Around.under_plainId F.bm_plain _]
  unfold Builtin.«bytes.__new__»
  refine wpAny_bind (wpAny_of_eq (a := true) rfl ?_)
  refine bm_if_false rfl ?_
  refine wpAny_bind (wpAny_of_eq F.bm_sub ?_)
  refine bm_if_false rfl ?_
  refine wpAny_bind (wpAny_of_eq (F.bm_bind _) ?_)
  refine wpAny_bind (wpAny_of_eq (a := ()) rfl ?_)
  refine wpAny_bind (wpAny_of_eq (a := ()) rfl ?_)
  refine bm_if_false rfl ?_
  refine wpAny_bind (wpAny_specialOf hT ba_no_bytes ?_)
  dsimp only
  refine wpAny_bind (wpAny_bind ?_)
  show wpAny _ _ (load D >>= _) _ _ _
  refine wpAny_bind (wpAny_load hD ?_)
  refine wpAny_pure (wpAny_pure ?_)
  refine bm_if_false rfl ?_
  refine wpAny_bind (wpAny_specialOf hT ba_no_index ?_)
  refine bm_if_true rfl ?_
  show wpAny _ _ (buffer? "bytes.__new__" (.ref D) true >>= _) _ _ _
  refine wpAny_bind ?_
  unfold buffer?
  refine wpAny_bind (wpAny_specialOf hT ba_buffer ?_)
  dsimp only
  refine wpAny_bind (ba_own hD ba_buffer (by decide +kernel) (by decide +kernel) ?_)
  refine bm_if_false rfl ?_
  refine wpAny_bind (wpAny_specialOf hT ba_buffer ?_)
  refine wpAny_bind (ba_release hD ?_)
  refine bm_if_false rfl ?_
  refine wpAny_bind (ba_payload hD ?_)
  refine wpAny_pure ?_
  dsimp only
  refine wpAny_bind (wpAny_rule ?_)
  refine wpAny_bind (wpAny_mkBytes ?_ (by rw [sizeLine_eq]; omega))
  show wpAny _ _ (if (Value.type "bytes" == Value.type "bytes") = true then _ else _) _ _ _
  refine bm_if_true (by decide) ?_
  first
    | exact wpAny_pure (hQ _ _)
    | exact wpAny_bind (wpAny_pure (wpAny_pure (hQ _ _)))
theorem ba_bytes {Q : Value → Shared → Prop} (hD : s.heap.get? D = some (baObj b)) (hz : b.size ≤ 100000) (hQ : ∀ t k, Q (.bytes b t) { s with toks := k }) :
    wpAny (model prog w) A (call (.type "bytes") [.ref D]) Q E s := by
  refine callType_codes (Q₁ := fun obj s₁ => s₁.TypeIs obj "bytes" ∧ Q obj s₁) F.bm_called (F.bm_typeCall _) F.entry_object_init
    (ba_new hD hz fun t k => ⟨PySem.W.typeIs_bytes _ _ _, hQ t k⟩) fun obj s₁ h₁ => ?_
  exact ⟨h₁.1, F.args_object_init_2 obj _, object_init_meets F.bm_called.init.lookup F.bm_called.made (by decide) prog w A.in1 _ s₁ ⟨h₁.1, rfl, h₁.2⟩⟩

/-! the same with the frame and the ledger -/
variable {h₀ : Heap} {L : Addr} {m : Str → Option Value} {news news' : List (Addr × Obj)}
theorem ba_bytes_K {Q : Value → Shared → Prop} (N : News h₀ L s.heap news) (hD : (D, baObj b) ∈ news) (hz : b.size ≤ 100000) (hQ : ∀ t k, Q (.bytes b t) { s with toks := k }) :
    wpAny (model prog w) A (call (.type "bytes") [.ref D]) Q E s := ba_bytes (N _ hD).1 hz hQ
theorem ba_set_K {k x : Int} {t u : Tok} {Q : Unit → Shared → Prop} (F : Fr h₀ L s.heap m) (N : News h₀ L s.heap news) (U : Upd D (baObj b) (baObj (b.setIfInBounds k.toNat x.toNat.toUInt8)) news news') (hz : b.size ≤ 100000) (h0 : 0 ≤ k) (h1 : k < b.size) (x0 : 0 ≤ x) (x1 : x < 256)
    (hQ : ∀ h', Fr h₀ L h' m → News h₀ L h' news' → Q () { s with heap := h' }) : wpAny (model prog w) A (setItem (.ref D) (.int k t) (.int x u)) Q E s := by
  obtain ⟨pre, post, rfl, rfl, a, c⟩ := U.split
  have z := N (D, baObj b) (List.mem_append.mpr (.inr (.head _)))
  refine ba_setAt z.1 hz h0 h1 x0 x1 (hQ _ (F.change (Heap.SameBut.update ..) z.2.1 z.2.2) (news_set N a c (Heap.SameBut.update ..) ?_))
  exact Heap.get?_update_self (Obj.mapBytearray fun b => b.setIfInBounds k.toNat x.toNat.toUInt8) z.1 rfl
end
end
section
open PySem PySem.W PyProof.Rows PySem.Spec PySem.Calls
set_option maxRecDepth 100000
theorem fresh_NE : True ∧ True := by
  w_top off
  k_with_none
  first | (walk1; done) | exact ⟨trivial, trivial⟩
section
variable {M : Model} {A : Around} {E : Value → Shared → Prop} {s : Shared} {env : Env}
theorem wpN_execs_cons {st : Stmt} {rest : List Stmt} {Q : Flow → Shared → Prop}
    (h : wpN M A (exec st env) (fun f s' => match f with | .next => wpN M A (execs rest env) Q E s' | f => Q f s') E s) :
    wpN M A (execs (st :: rest) env) Q E s := by
  rw [execs_cons]
  refine wpN_bind (wpN_mono h (fun f s' h' => ?_) fun _ _ x => x)
  cases f with
  | next => exact h'
  | _ => exact wpN_pure h'
theorem wpN_execs_one {st : Stmt} {rest : List Stmt} {Q : Flow → Shared → Prop}
    (h : wpAny M A (exec st env) (fun f s' => match f with | .next => wpN M A (execs rest env) Q E s' | f => Q f s') E s) :
    wpN M A (execs (st :: rest) env) Q E s := wpN_execs_cons (wpN_of h)
theorem wpN_Assign {x : Str} {pos' pos : Pos} {value : PySem.Expr} {Q : Flow → Shared → Prop} (hs : swapsWith value (some (.Name x pos')) pos.line env = pure false)
    (h : wpN M A (eval value env) (fun v s₁ => wpAny M A (storeName env x v) (fun _ => Q .next) E s₁) E s) :
    wpN M A (exec (.Assign [.Name x pos'] value pos) env) Q E s := by
  rw [exec_Assign_Name env x pos' value pos hs]
  refine wpN_step (wpAny_standAt (wpN_bind (wpN_mono h (fun v s₁ h₁ => ?_) fun _ _ x => x)))
  exact wpN_step (wpAny_standAt (wpN_step (wpAny_bindName (wpAny_mono h₁ (fun _ _ y => wpN_pure y) fun _ _ y => y))))
theorem wpN_tail {t : Sem Value} {Q : Value → Shared → Prop} (h : wpN M A t Q E s) : wpN M A (t >>= fun r => holding [r] point >>= fun _ => pure r) Q E s :=
  wpN_bind (wpN_mono h (fun _ _ hr => wpN_of (wpAny_bind (wpAny_holding (wpAny_point (wpAny_pure hr))))) fun _ _ x => x)
theorem wpN_keep {α : Type} {vs : List Value} {m : Sem α} {Q : α → Shared → Prop} (h : wpN M A m Q E s) : wpN M A (m.keep vs) Q E s :=
  fun Γ p hΓ hc => by rw [Sem.wp_keep]; exact h Γ p hΓ hc
theorem callWithN_type {pos : Pos} {T : String} {args : List (Bool × Sem Value)} {Q : Value → Shared → Prop} (hplain : args.any (·.1) = false)
    (h : wpAny M A (evalArgs (.type T) true args []) (fun a s₁ => wpN M A (call (.type T) a.pos a.kw) Q E s₁) E s) :
    wpN M A (callWith pos (.type T) [] args []) Q E s := by
  unfold callWith
  refine wpN_step (wpAny_holding (wpAny_mono h (fun a s₁ h₁ => wpN_step (wpAny_standAt ?_)) fun _ _ x => x))
  rw [hplain]
  simp only [List.any_nil, Bool.or_false]
  refine wpN_step (wpAny_pure ?_)
  exact wpN_tail h₁
theorem callWithN_fn {pos : Pos} {a : Addr} {o : Obj} {fd : FuncData} {args : List (Bool × Sem Value)} {Q : Value → Shared → Prop} (hplain : args.any (·.1) = false) (hlen : args.length ≤ 30)
    (h : wpAny M A (evalArgs (.ref a) true args []) (fun x s₁ => (s₁.heap.get? a = some o ∧ o.data = .func fd) ∧ wpN M A (call (.ref a) x.pos x.kw) Q E s₁) E s) :
    wpN M A (callWith pos (.ref a) [] args []) Q E s := by
  unfold callWith
  refine wpN_step (wpAny_holding (wpAny_mono h (fun x s₁ h₁ => wpN_step (wpAny_standAt ?_)) fun _ _ y => y))
  rw [hplain]
  simp only [List.any_nil, Bool.or_false]
  refine wpN_step (m := keeperOf (.ref a)) ?_
  unfold keeperOf
  refine wpAny_bind (wpAny_load h₁.1.1 ?_)
  rw [h₁.1.2]
  refine wpAny_pure ?_
  dsimp only
  rw [if_neg (by simp only [List.length_nil]; omega)]
  exact wpN_tail (by unfold callMarked; exact wpN_keep h₁.2)
theorem args1 {f : Value} {e : PySem.Expr} {pos : Pos} {Q : Args → Shared → Prop} (he : backTo pos (starEach [e] env) = [(false, eval e env)])
    (h : wpAny M A (eval e env) (fun v s' => Q ⟨[v], []⟩ s') E s) : wpAny M A (evalArgs f true (backTo pos (starEach [e] env)) []) Q E s := by
  rw [he]
  exact Calls.evalArgs_plain (Calls.spliced_cons (wpAny_mono h (fun _ _ h' => Calls.spliced_nil h') fun _ _ x => x))
theorem args2 {f : Value} {e e' : PySem.Expr} {pos : Pos} {Q : Args → Shared → Prop} (he : backTo pos (starEach [e, e'] env) = [(false, eval e env), (false, eval e' env)])
    (h : wpAny M A (eval e env) (fun v s' => wpAny M A (eval e' env) (fun v' s'' => Q ⟨[v, v'], []⟩ s'') E s') E s) : wpAny M A (evalArgs f true (backTo pos (starEach [e, e'] env)) []) Q E s := by
  rw [he]
  exact Calls.evalArgs_plain (Calls.spliced_cons (wpAny_mono h (fun _ _ h' => Calls.spliced_cons (wpAny_mono h' (fun _ _ h'' => Calls.spliced_nil h'') fun _ _ x => x)) fun _ _ x => x))
theorem wpN_Call_Name {id : Str} {p pos : Pos} {args : List PySem.Expr} {Q : Value → Shared → Prop}
    (h : wpAny M A (eval (.Name id p) env) (fun f s₁ => wpN M A (callWith pos f [] (backTo pos (starEach args env)) []) Q E s₁) E s) :
    wpN M A (eval (.Call (.Name id p) args [] pos) env) Q E s := by
  show wpN M A (do callWith pos (← eval (.Name id p) env) [] (backTo pos (starEach args env)) (backToKw pos (keywordEach [] env))) Q E s
  exact wpN_step h
end
section
variable {prog : Program} {w : World} {A₀ A : Around} {s : Shared} {base h₀ : Heap} {outer : List Env} {L : Addr} {m : Str → Option Value} {env : Env} {news : List (Addr × Obj)} {K : Frag} {p : Program} {loose : List Str} {mean : ExcName → Option Value} {mg mb : Str → Option Value}
  {R : Result → Shared → Prop} {name qual : Str} {params : Arguments} {body : List Stmt} {scope : Scope} {dV kV doc pm cdv ct oc : Value} {an od : Option Addr} {osl : Array (Option Value)} {f : Addr} {args : Args} {binds : List (Str × Value)}
/-- a def is entered, the stack clean -/
theorem codeN_def (B : Below A₀ base outer h₀) (F : Fr h₀ L s.heap m) (X₀ : K.In h₀) (N : News h₀ L s.heap news) (T : Top p loose mean mg mb h₀) (hA : A.frames = some (env :: outer)) (hf : env.frame = some L) (hke : env.scope.kind = .function)
    (ho : K.lookup f = some ⟨oc, od, .func (fnOf name qual params body scope dV kV doc pm an cdv ct), osl⟩) (hcd : codeIn K cdv qual = true) (hroom : A.depth < recursionLimit)
    (hbind : BindsTo s (fnOf name qual params body scope dV kV doc pm an cdv ct) args binds) (hloc : ∀ y ∈ binds, scope.names.lookup y.1 = some .local)
    (h : ∀ g L' h₁, Fr h₀ L g m → Fr g L' h₁ (fun y => binds.reverse.lookup y) → News g L' h₁ news → Below A base (env :: outer) g → K.In g → Top p loose mean mg mb g →
      wpN (model prog w) (A.deeper (envOf qual scope L' f cdv)) (execs body (envOf qual scope L' f cdv))
        (fun fl s' => LeaveK h₀ L m g R (match fl with | .ret v => v | _ => .none) s')
        (fun e s' => wpAny (model prog w) (A.deeper (envOf qual scope L' f cdv)) (leaving (envOf qual scope L' f cdv) e) (fun _ s'' => R (.error e) s'') (fun e' s'' => R (.error e') s'') s')
        { s with heap := h₁, toks := s.toks + binds.length })
    (hco : scope.isCoroutine = false) (hgen : scope.isGenerator = false) (hk : scope.kind = .function)
    (hcell : ∀ x ∈ scope.names, x.2 ≠ .cell) : codeN (model prog w) A (.call (.ref f) args) R s := by
  obtain ⟨FG, BG, st, lv⟩ := groundX (R := R) B F N hA hf hke
  refine codeN_call_fn (fd := fnOf name qual params body scope dV kV doc pm an cdv ct) hroom ((X₀.keeps F.keep) _ _ ho) rfl hco hgen rfl (codeRec_of (X₀.keeps F.keep) hcd) (hbind _ _ _ _ ?_)
  refine wpAny_newFunctionEnv hcell hloc (fun h₁ hns hsb => ⟨(T.nolimit.keeps F.keep).fresh _ hsb, codeN_func ?_⟩) hk
  have up : ∀ b o, s.heap.get? b = some o → h₁.get? b = some o := fun b o e => hsb.extBut b o (Nat.ne_of_lt (Heap.lt_size e)) (Heap.get?_push_of_some _ e)
  exact wpN_mono (h _ s.heap.objs.size h₁ FG ⟨hns, fun b o e => up b o (of_hideAll _ e), Nat.le_of_eq (hideAll_size _ _)⟩
    (fun p hp => ⟨up _ _ (N p hp).1, Nat.ne_of_lt (Heap.lt_size (N p hp).1), hideAll_none _ (List.mem_map_of_mem hp)⟩) BG (X₀.keeps st) (T.keeps st)) (fun fl s' hl => lv _ _ hl) fun _ _ y => y
end
end
section
open PySem PySem.W PyProof.Rows PySem.Spec PySem.Calls
set_option maxRecDepth 100000
theorem fresh_NF : True ∧ True := by
  w_top off
  k_with_none
  first | (walk1; done) | exact ⟨trivial, trivial⟩

noncomputable def swJ (ds : List Int) (k i : Nat) : Nat → List Int → List Int
  | 0, acc => acc
  | j + 1, acc => (swJ ds k i j acc).set (i * k + (k - 1 - j)) (ds.getD (i * k + j) 0)
noncomputable def swI (ds : List Int) (k : Nat) : Nat → List Int
  | 0 => List.replicate ds.length 0
  | i + 1 => swJ ds k i k (swI ds k i)

theorem by_getD (ds : List Int) (hds : ∀ d ∈ ds, 0 ≤ d ∧ d < 256) (i : Nat) : ((((ds.map fun n : Int => n.toNat.toUInt8).getD i 0).toNat : Nat) : Int) = ds.getD i 0 := by
  rw [List.getD_eq_getElem?_getD, List.getD_eq_getElem?_getD, List.getElem?_map]
  cases h : ds[i]? with
  | none => rfl
  | some n =>
    obtain ⟨h0, h1⟩ := hds n (List.mem_of_getElem? h)
    exact byte_back h0 h1
theorem by_item {prog : Program} {w : World} {A : Around} {s : Shared} {E : Value → Shared → Prop} {ds : List Int} {i : Int} {t ui : Tok} {value slice : PySem.Expr} {Q : Value → Shared → Prop} (hmax : ds.length ≤ 10000) (hds : ∀ d ∈ ds, 0 ≤ d ∧ d < 256) (h0 : 0 ≤ i) (h1 : i < ds.length)
    (h : Q (.int (ds.getD i.toNat 0) s.toks) { s with toks := s.toks + 1 })
    (hs : subscripted slice false (.bytes (byteArr ds) t) (.int i ui) = operate [.bytes (byteArr ds) t, .int i ui] (getItem (.bytes (byteArr ds) t) (.int i ui)))
    (ht : ∀ r, letTemporaryGo value (.bytes (byteArr ds) t) r = pure ()) : wpAny (model prog w) A (subscriptTail value slice (.bytes (byteArr ds) t) (.int i ui)) Q E s :=
  bytes_item_K (x := ds.map fun n : Int => n.toNat.toUInt8) (by rw [List.length_map]; omega) h0 (by rw [List.length_map]; exact h1) (by_getD ds hds i.toNat) h hs ht
theorem byteArr_set (ds : List Int) (k : Nat) (x : Int) : (byteArr ds).setIfInBounds k x.toNat.toUInt8 = byteArr (ds.set k x) := by
  unfold byteArr
  rw [List.setIfInBounds_toArray, List.map_set]
theorem byteArr_rep (n : Nat) : Array.replicate n (0 : UInt8) = byteArr (List.replicate n 0) := by
  unfold byteArr
  rw [List.map_replicate, ← List.toArray_replicate]
  rfl
theorem by_set {prog : Program} {w : World} {A : Around} {s : Shared} {E : Value → Shared → Prop} {h₀ : Heap} {L D : Addr} {m : Str → Option Value} {news news' : Led} {ds : List Int} {k x : Int} {t u : Tok} {Q : Unit → Shared → Prop} (F : Fr h₀ L s.heap m) (N : News h₀ L s.heap news) (U : Upd D (baObj (byteArr ds)) (baObj (byteArr (ds.set k.toNat x))) news news') (hz : ds.length ≤ 10000) (h0 : 0 ≤ k) (h1 : k < ds.length) (x0 : 0 ≤ x) (x1 : x < 256)
    (hQ : ∀ h', Fr h₀ L h' m → News h₀ L h' news' → Q () { s with heap := h' }) : wpAny (model prog w) A (setItem (.ref D) (.int k t) (.int x u)) Q E s :=
  ba_set_K F N (by rw [byteArr_set]; exact U) (by rw [byteArr_size]; omega) h0 (by rw [byteArr_size]; exact h1) x0 x1 hQ
theorem swJ_length (ds : List Int) (k i : Nat) : ∀ (j : Nat) (acc : List Int), (swJ ds k i j acc).length = acc.length
  | 0, _ => rfl
  | j + 1, acc => by rw [swJ, List.length_set, swJ_length ds k i j]
theorem swI_length (ds : List Int) (k : Nat) : ∀ i : Nat, (swI ds k i).length = ds.length
  | 0 => by rw [swI, List.length_replicate]
  | i + 1 => by rw [swI, swJ_length, swI_length ds k i]
theorem getD_in (ds : List Int) (hds : ∀ d ∈ ds, 0 ≤ d ∧ d < 256) (i : Nat) : 0 ≤ ds.getD i 0 ∧ ds.getD i 0 < 256 := by
  rw [List.getD_eq_getElem?_getD]
  cases h : ds[i]? with
  | none => exact ⟨by decide, by decide⟩
  | some n => exact hds n (List.mem_of_getElem? h)
theorem bs_size {c k n : Nat} (hk : 1 ≤ k) (h : n = c * k) : Builtin.Range.rangeSize 0 (n : Int) (k : Int) = (c : Int) := by
  subst h
  unfold Builtin.Range.rangeSize
  rw [if_pos (by omega)]
  cases c with
  | zero => simp
  | succ c =>
    have e : ((c + 1) * k : Nat) = c * k + k := Nat.succ_mul c k
    rw [if_pos (by omega), e]
    have e2 : ((c * k + k : Nat) : Int) - 0 - 1 = ((k : Int) - 1) + (c : Int) * k := by push_cast; omega
    rw [e2, Int.add_mul_ediv_right _ _ (by omega), Int.ediv_eq_zero_of_lt (by omega) (by omega)]
    omega
theorem ba_K {prog : Program} {w : World} {A : Around} {s : Shared} {E : Value → Shared → Prop} {h₀ : Heap} {L : Addr} {m : Str → Option Value} {news : Led} {n : Int} {t : Tok} {Q : Value → Shared → Prop} (F : Fr h₀ L s.heap m) (N : News h₀ L s.heap news) (h0 : 0 ≤ n) (h1 : n ≤ 10000)
    (h : ∀ D h', Fr h₀ L h' m → News h₀ L h' ((D, baObj (Array.replicate n.toNat 0)) :: news) → (∀ p ∈ news, p.1 < D) → Q (.ref D) { s with heap := h' }) :
    wpN (model prog w) A (call (.type "bytearray") [.int n t]) Q E s := by
  refine ba_call h0 h1 fun h' e1 e2 => h _ h' ⟨F.ns.keeps e2, fun b o e => e2 b o (F.keep b o e), F.above⟩ (fun p hp => ?_) fun p hp => Heap.lt_size (N p hp).1
  have hL : L < s.heap.objs.size := F.ns.lt
  rcases List.mem_cons.mp hp with rfl | hp
  · exact ⟨e1, Nat.ne_of_gt hL, Heap.get?_none_of_le (Nat.le_trans F.above (Nat.le_of_lt hL))⟩
  · exact ⟨e2 _ _ (N p hp).1, (N p hp).2⟩

theorem rows_NF_1 : True := by
  k_with "eval Name" => (k_here; k_dflt (refine' ld ?q50k1 ?q50k2 ?_; (case q50k1 => k_asm); (case q50k2 => first | exact rfl | ((conv => lhs; whnf); assumption)); k_whole))
  k_with "exec For Name Call cons nil" => (k_here; k_dflt (refine' For_F ?_ ?q51hs; (case q51hs => (intro _; rfl)); k_whole))
  k_with "subscriptTail" => (k_here; (with_reducible show wpAny _ _ (subscriptTail _ _ (Value.bytes (byteArr _) _) (Value.int _ _)) _ _ _); k_dflt (refine' by_item ?q52m ?q52d ?q52a ?q52b ?_ ?q52s ?q52t; (case q52m => assumption); (case q52d => assumption); (case q52a => omega); (case q52b => omega); (case q52s => with_unfolding_all rfl); (case q52t => (intro _; with_unfolding_all rfl)); k_whole))
  k_with "setItem ref int int" => (k_here; k_dflt (refine' by_set ?q53F ?q53N ?q53U ?q53z ?q53a ?q53b ?q53c ?q53d ?_; (case q53F => k_asm); (case q53N => k_asm); (case q53U => k_upd); (case q53z => (rw [swJ_length, swI_length]; omega)); (case q53a => omega); (case q53b => (rw [swJ_length, swI_length]; omega)); (case q53c => exact (getD_in _ (by assumption) _).1); (case q53d => exact (getD_in _ (by assumption) _).2); k_whole); intro h' F' N'; (try dsimp only); (first | (revert h'; intros) | skip))
  k_with "call type:bytes" => (k_here; (with_reducible show wpAny _ _ (call (Value.type _) [Value.ref _]) _ _ _); k_dflt (refine' ba_bytes_K ?q54N ?q54m ?q54z ?_; (case q54N => k_asm); (case q54m => exact List.Mem.head _); (case q54z => (rw [byteArr_size, swI_length]; omega)); k_whole); intro t' k'; (try dsimp only); (first | (revert t' k'; intros) | skip))
  trivial
set_option maxHeartbeats 4000000 in
theorem bs_spec (w : World) (ds : List Int) (c k : Nat) (hk1 : 1 ≤ k) (hk2 : k ≤ 10) (hlen : ds.length = c * k) (hmax : ds.length ≤ 10000) (hds : ∀ d ∈ ds, 0 ≤ d ∧ d < 256) (t1 t2 : Tok) :
    ∀ (p : Program) (lo : List Str) (mean : ExcName → Option Value) (mg mb : Str → Option Value) (news : Led) (dp un : Nat) (gd : Option (List Code)) (cn : Str) (cs : Scope) (a : Addr) (ccd : Value) (cl : List (Str × Addr)) (outer : List Env) (A₀ : Around) (base h₀ : Heap) (L : Addr) (m : Str → Option Value) (s : Shared) (Q E : Value → Shared → Prop),
    Below A₀ base outer h₀ → Fr h₀ L s.heap m → (hd.heap_39 w.params).In h₀ → News h₀ L s.heap news → Top p lo mean mg mb h₀ → cs.kind = .function →
    dp + 20 < recursionLimit → un + 200 < cLine →
    (∀ (t : Tok) (h' : Heap) (tk' : Nat), Fr h₀ L h' m → News h₀ L h' news → Q (.bytes (byteArr (swI ds k c)) t) { s with heap := h', toks := tk' }) →
      wpN (model P0 w) (ktrTop dp un gd cn cs L a ccd cl outer) (call (.ref 120) [.bytes (byteArr ds) t1, .int k t2]) Q E s := by
  have kf : PySem.Challenge.rw_zo0034_01 = PySem.Challenge.rw_zo0034_01 ∧ hd.heap_39 = hd.heap_39 := by
    k_fill
    exact ⟨rfl, rfl⟩
  clear kf
  intro p9 lo9 mean mg mb rest dp un gd cn cs ad ccd cl outer A₀ base9 h₀ L m s Q E B F X N T hk hdp hu hret
  refine wpN_call ?_
  k_dflt (refine' codeN_def ?k1 ?k2 ?k3 ?k4 ?k5 ?kA ?kF ?kK ?k6 ?k7 ?k8 ?k9 ?kB ?_ ?c2 ?c3 ?c4 ?c5; (case kA => exact rfl); (case kF => exact rfl); (case kK => assumption); (case k1 => k_asm); (case k2 => k_asm); (case k3 => k_asm); (case k4 => k_asm); (case k5 => k_asm); (case k6 => k_is); (case k7 => k_is); (case k8 => ktr_room); (case k9 => exact BindsTo.of_eq rfl); (case c5 => decide); (case kB => exact locs rfl); (case c2 => exact rfl); (case c3 => exact rfl); (case c4 => exact rfl); k_whole; intro g' L' h' FG' F' N' B' X' T'; (try dsimp only); (try k_lift B'); (try k_fold))
  refine wpN_execs_cons (wpN_Assign rfl (wpN_Call_Name ?_))
  k_steps
  refine callWithN_type rfl (args1 rfl ?_)
  k_steps
  refine ba_K (by k_asm) (by k_asm) (by omega) (by omega) ?_
  intro D9 h9 F9 N9 l9
  (have l8 := l9)
  (try k_lt l9)
  k_steps
  refine wpN_of ?_
  k_steps
  rename_i hA FA NA hB tkB ta tb tc hr FB NB hsz
  k_dflt (refine' iter_rangeJ (n := c) rfl rfl rfl hr ?hsm ?hn FB NB (fun i mm led => led = (D9, baObj (byteArr (swI ds k i))) :: rest ∧ mm (Str.ofString "data") = some (.bytes (byteArr ds) t1) ∧ mm (Str.ofString "width") = some (.int k t2) ∧ mm (Str.ofString "swapped_data") = some (.ref D9)) ?h0 ?turn ?done)
  case hsm => exact rng_small (by omega) (by omega) (by omega) (by omega) (by omega) (by omega)
  case hn => exact bs_size hk1 hlen
  case h0 => exact ⟨by rw [Int.toNat_natCast, byteArr_rep]; rfl, rfl, rfl, rfl⟩
  case turn =>
    rintro i ti m₁ led I it h tk hi ⟨rfl, hm1, hm2, hm3⟩ hlt F2 N2
    dsimp only at F2 N2 ⊢
    have hI := hlt
    k_steps
    rename_i hC tkC ta2 tb2 tc2 hr2 FC NC hsz2
    k_dflt (refine' iter_rangeJ (n := k) rfl rfl rfl hr2 ?hsm2 ?hn2 FC NC (fun j mm led => led = (I, it) :: (D9, baObj (byteArr (swJ ds k i j (swI ds k i)))) :: rest ∧ mm (Str.ofString "data") = some (.bytes (byteArr ds) t1) ∧ mm (Str.ofString "width") = some (.int k t2) ∧ mm (Str.ofString "swapped_data") = some (.ref D9) ∧ mm (Str.ofString "i") = some (.int (0 + (i : Int) * k) ti)) ?h02 ?turn2 ?done2)
    case hsm2 => exact rng_small (by omega) (by omega) (by omega) (by omega) (by omega) (by omega)
    case hn2 => rw [rangeSize_nat]; omega
    case h02 => exact ⟨rfl, hm1, hm2, hm3, rfl⟩
    case turn2 =>
      rintro j tj m₂ led I2 it2 h2 tk2 hj ⟨rfl, hn1, hn2, hn3, hn4⟩ hlt2 F3 N3
      dsimp only at F3 N3 ⊢
      have hI2 := hlt2
      have hik : (i : Int) * k + k ≤ ds.length := by
        have h1 : (i + 1) * k ≤ c * k := Nat.mul_le_mul_right k hi
        rw [Nat.add_mul, Nat.one_mul] at h1
        rw [hlen]
        exact_mod_cast h1
      have hne1 : I2 ≠ D9 := Nat.ne_of_gt (hlt2 _ (.tail _ (.head _)))
      have hne2 : I ≠ D9 := Nat.ne_of_gt (hlt _ (.head _))
      have l7 : ∀ p ∈ rest, p.1 ≠ D9 := fun p hp => Nat.ne_of_lt (l8 p hp)
      have hik0 : 0 ≤ (i : Int) * k := Int.mul_nonneg (by omega) (by omega)
      k_steps
      show TurnE _ _ _ _ _ _ _
      rename Fr _ _ _ _ => FF
      rename News _ _ _ _ => NN
      have e1 : (0 + (i : Int) * k + k - 1 - (0 + (j : Int) * 1)).toNat = i * k + (k - 1 - j) := by
        have h2 : ((i * k : Nat) : Int) = (i : Int) * k := by push_cast; rfl
        omega
      have e2 : (0 + (i : Int) * k + (0 + (j : Int) * 1)).toNat = i * k + j := by
        have h2 : ((i * k : Nat) : Int) = (i : Int) * k := by push_cast; rfl
        omega
      rw [e1, e2] at NN
      refine TurnE.intro FF NN (.head _) (fun p hp => .tail _ hp) (fun p hp => ?_) ⟨rfl, hn1, hn2, hn3, hn4⟩
      rcases List.mem_cons.mp hp with rfl | hp
      · exact hlt2 _ (.head _)
      rcases List.mem_cons.mp hp with rfl | hp
      · exact (hlt2 _ (.tail _ (.head _)) : D9 < I2)
      · exact hlt2 _ (.tail _ (.tail _ hp))
    case done2 =>
      rintro m₂ led h2 tk2 ⟨rfl, hn1, hn2, hn3, hn4⟩ F3 N3
      dsimp only at F3 N3 ⊢
      k_steps
      show TurnE _ _ _ _ _ _ _
      rename Fr _ _ _ _ => FF
      rename News _ _ _ _ => NN
      refine TurnE.intro FF NN (.head _) (fun p hp => .tail _ hp) (fun p hp => ?_) ⟨rfl, hn1, hn2, hn3⟩
      rcases List.mem_cons.mp hp with rfl | hp
      · exact (hlt _ (.head _) : D9 < I)
      · exact hlt _ (.tail _ hp)
  case done =>
    rintro m₁ led h tk ⟨rfl, hm1, hm2, hm3⟩ F2 N2
    dsimp only at F2 N2 ⊢
    k_steps
    refine hret _ _ _ (by k_asm) (cb_drop (by k_asm) ?_)
    exact fun p hp => .tail _ hp
end
section
open PySem PySem.W PyProof.Rows PySem.Spec PySem.Calls
set_option maxRecDepth 100000
theorem fresh_GS : True ∧ True := by
  w_top off
  k_with_none
  first | (walk1; done) | exact ⟨trivial, trivial⟩
open PySem.Sem (wp)
section
variable {M : Model} {A : Around} {R : GenEnd} {Y : Protocol} {n : Nat} {s₀ : Shared} {c : Code} {fs : List Frame} {s : Shared} {env : Env}
theorem seg_wbind {α β : Type} {m : Sem α} {f : α → Sem β} {K : β → Sem PySem.Fin} {H : Value → Sem PySem.Fin} {gd : Bool → Bool} {lv : List Value → List Value}
    (h : wpAny M (A.over c fs) m (fun a s' => Seg M A R Y n s₀ c ((f a).wrap K H gd lv) fs s') (fun x s' => Seg M A R Y n s₀ c (H x) fs s') s) :
    Seg M A R Y n s₀ c ((m >>= f).wrap K H gd lv) fs s := by
  rw [Sem.bind_eq_wrap', Sem.wrap_wrap]
  exact seg_wrap h
variable {K : Flow → Sem PySem.Fin} {H : Value → Sem PySem.Fin} {gd : Bool → Bool} {lv : List Value → List Value}
/-- a statement in which nothing is yielded -/
theorem seg_st {st : Stmt} {rest : List Stmt}
    (h : wpAny M (A.over c fs) (exec st env) (fun f s' => match f with | .next => Seg M A R Y n s₀ c ((execs rest env).wrap K H gd lv) fs s' | f => Seg M A R Y n s₀ c (K f) fs s') (fun x s' => Seg M A R Y n s₀ c (H x) fs s') s) :
    Seg M A R Y n s₀ c ((execs (st :: rest) env).wrap K H gd lv) fs s :=
  seg_execs_cons (seg_wrap (wpAny_mono h (fun f _ x => by cases f <;> exact x) fun _ _ x => x))
theorem seg_If {test : PySem.Expr} {body orelse : List Stmt} {pos : Pos}
    (h : wpAny M (A.over c fs) (isTrue test env (eval test env)) (fun b s' => if b = true then Seg M A R Y n s₀ c ((execs body env).wrap K H gd lv) fs s' else Seg M A R Y n s₀ c ((execs orelse env).wrap K H gd lv) fs s') (fun x s' => Seg M A R Y n s₀ c (H x) fs s') s) :
    Seg M A R Y n s₀ c ((exec (.If test body orelse pos) env).wrap K H gd lv) fs s := by
  rw [exec_If]
  refine seg_wbind (wpAny_standAt (seg_wbind (wpAny_mono h (fun b s' x => ?_) fun _ _ x => x)))
  cases b <;> exact x
theorem seg_For {target iter : PySem.Expr} {body : List Stmt} {pos : Pos} (hs : ∀ x, foldedSetIterable iter env x = pure x)
    (h : wpAny M (A.over c fs) (eval iter env) (fun xv s₁ => wpAny M (A.over c fs) (pyIter xv) (fun it s₂ => ∀ p, Seg M A R Y n s₀ (.forLoop target it body [] env) (M.den (.forLoop target it body [] env))
      (.ret (fun r => ((match r with | .ok f => (.pure f : Sem Flow) | .error e => .raise e).onRaise fun (x : Value) => do
        if (← field x 1) == Value.none then unsupported "frame.own-activation:exception-without-traceback"
        setFlight x env.frame).wrap K H gd lv) none (gd false) (lv []) c p [] :: fs) s₂) (fun x s' => Seg M A R Y n s₀ c (H x) fs s') s₁) (fun x s' => Seg M A R Y n s₀ c (H x) fs s') s) :
    Seg M A R Y n s₀ c ((exec (.For target iter body [] pos) env).wrap K H gd lv) fs s := by
  rw [exec_For]
  refine seg_wbind (wpAny_standAt (seg_wbind (wpAny_mono h (fun xv s₁ h₁ => seg_wbind (wpAny_of_eq (hs xv) (seg_wbind (wpAny_standAt (seg_wbind (wpAny_holding (wpAny_mono h₁ (fun it s₂ h₂ => ?_) fun _ _ x => x))))))) fun _ _ x => x)))
  exact seg_call h₂
end
section
variable {prog : Program} {w : World} {A : Around} {R : GenEnd} {Y : Protocol} {n : Nat} {s₀ : Shared} {fs : List Frame} {s : Shared} {env : Env}
theorem seg_forLoop {x : Str} {px : Pos} {it : Value} {body : List Stmt}
    (h : wpAny (model prog w) (A.over (.forLoop (.Name x px) it body [] env) fs) (pyNext it) (fun o s' => match o with
      | none => ∀ c', Seg (model prog w) A R Y n s₀ c' (leafOf (.ok .next)) fs s'
      | some v => wpAny (model prog w) (A.over (.forLoop (.Name x px) it body [] env) fs) (storeName env x v) (fun _ s₂ => ∀ H : Value → Sem PySem.Fin,
          Seg (model prog w) A R Y n s₀ (.forLoop (.Name x px) it body [] env) ((execs body env).wrap (fun f => match f with
            | .next | .cont => .pure (.again (.forLoop (.Name x px) it body [] env))
            | .brk => .pure (.done .next)
            | .ret v => .pure (.done (.ret v))) H id id) fs s₂) (fun _ _ => False) s') (fun _ _ => False) s) :
    Seg (model prog w) A R Y n s₀ (.forLoop (.Name x px) it body [] env) ((model prog w).den (.forLoop (.Name x px) it body [] env)) fs s := by
  show Seg _ A R Y n s₀ _ ((forTurn (.Name x px) it body [] env).onRaise (fun x => do noteFrame x env; theTreesLotGoes x)) fs s
  unfold forTurn
  rw [Sem.onRaise_eq_wrap]
  refine seg_wbind (wpAny_standAt (seg_wbind (wpAny_onRaise (wpAny_mono h (fun o s' h₁ => ?_) fun _ _ x => x.elim))))
  cases o with
  | none =>
    refine seg_again rfl ?_
    show Seg _ A R Y n s₀ _ (((execs [] env).onRaise fun x => do noteFrame x env; theTreesLotGoes x) >>= fun f => pure (.done f)) fs s'
    exact h₁ _
  | some v =>
    refine seg_wbind (wpAny_of_eq (a := ()) rfl (seg_wbind (wpAny_assign_Name (wpAny_mono h₁ (fun _ s₂ h₂ => ?_) fun _ _ x => x.elim))))
    rw [Sem.bind_eq_wrap', Sem.wrap_wrap]
    have h3 := h₂ (fun e => (Sem.raise e : Sem PySem.Fin).wrap Sem.pure (fun e => (do noteFrame e env; theTreesLotGoes e : Sem Unit).bind fun _ => .raise e) id id)
    rw [Sem.wrap_congr (execs body env) _ _ (K' := fun f => match f with
            | .next | .cont => .pure (.again (.forLoop (.Name x px) it body [] env))
            | .brk => .pure (.done .next)
            | .ret v => .pure (.done (.ret v))) (fun f => by cases f <;> rfl) (fun _ => rfl)]
    exact h3
end
end
section
open PySem PySem.W PyProof.Rows PySem.Spec PySem.Calls
set_option maxRecDepth 100000
theorem fresh_GN : True ∧ True := by
  w_top off
  k_with_none
  first | (walk1; done) | exact ⟨trivial, trivial⟩
noncomputable def gnD : { t : Arguments × List Stmt × Scope // topDef (Str.ofString "_grouping_intervals") = some t } := ⟨_, by rfl⟩
noncomputable def forOf (b : List Stmt) : Option (PySem.Expr × Pos × List Stmt × Pos) := b.findSome? fun
  | .For (.Name _ p) e b _ q => some (e, p, b, q)
  | _ => none
noncomputable def gnF : { t : PySem.Expr × Pos × List Stmt × Pos // forOf gnD.1.2.1 = some t } := ⟨_, by rfl⟩
noncomputable def gnA0 : { st : Stmt // gnD.1.2.1[0]? = some st } := ⟨_, by rfl⟩
noncomputable def gnS0 : { st : Stmt // gnF.1.2.2.1[0]? = some st } := ⟨_, by rfl⟩
noncomputable def gnS3 : { st : Stmt // gnF.1.2.2.1[3]? = some st } := ⟨_, by rfl⟩
noncomputable def ifOf (b : List Stmt) : Option (PySem.Expr × List Stmt × Pos) := b.findSome? fun
  | .If e b _ q => some (e, b, q)
  | _ => none
noncomputable def gnI : { t : PySem.Expr × List Stmt × Pos // ifOf (gnF.1.2.2.1.drop 1) = some t } := ⟨_, by rfl⟩
noncomputable def gnR : { st : Stmt // gnI.1.2.1[0]? = some st } := ⟨_, by rfl⟩
noncomputable def whOf (b : List Stmt) : Option (PySem.Expr × List Stmt × Pos) := b.findSome? fun
  | .While e b _ q => some (e, b, q)
  | _ => none
noncomputable def gnW : { t : PySem.Expr × List Stmt × Pos // whOf gnI.1.2.1 = some t } := ⟨_, by rfl⟩
noncomputable def yOf (b : List Stmt) : Option (PySem.Expr × Pos × Pos) := b.findSome? fun
  | .Expr (.Yield (some e) q) p => some (e, q, p)
  | _ => none
noncomputable def gnY1 : { t : PySem.Expr × Pos × Pos // yOf gnW.1.2.1 = some t } := ⟨_, by rfl⟩
noncomputable def gnY2 : { t : PySem.Expr × Pos × Pos // yOf gnF.1.2.2.1 = some t } := ⟨_, by rfl⟩
noncomputable def gnEnv (L : Addr) : Env := envOf (Str.ofString "_grouping_intervals") gnD.1.2.2 L 113 (.ref 112)
theorem gn_body : gnD.1.2.1 = [gnA0.1, .For (.Name (Str.ofString "interval") gnF.1.2.1) gnF.1.1 gnF.1.2.2.1 [] gnF.1.2.2.2] := rfl
theorem gn_fbody : gnF.1.2.2.1 = [gnS0.1, .If gnI.1.1 gnI.1.2.1 [] gnI.1.2.2, .Expr (.Yield (some gnY2.1.1) gnY2.1.2.1) gnY2.1.2.2, gnS3.1] := rfl
theorem gn_ibody : gnI.1.2.1 = [gnR.1, .While gnW.1.1 gnW.1.2.1 [] gnW.1.2.2] := rfl
theorem gn_wbody : gnW.1.2.1 = [.Expr (.Yield (some gnY1.1.1) gnY1.1.2.1) gnY1.1.2.2] := rfl

theorem rows_GN_1 : True := by
  k_with "eval Name" => (k_here; k_dflt (refine' ld ?q55k1 ?q55k2 ?_; (case q55k1 => k_asm); (case q55k2 => first | exact rfl | assumption | ((conv => lhs; whnf); assumption)); k_whole))
  trivial
section
variable {w : World} {A : Around} {p9 : Program} {lo9 : List Str} {mean : ExcName → Option Value} {mg mb : Str → Option Value} {h₀ : Heap} {L : Addr} {m : Str → Option Value} {s : Shared} {E : Value → Shared → Prop}
set_option maxHeartbeats 4000000 in
theorem gn_if1 {Q : Flow → Shared → Prop} {x : Int} {t : Tok}
    (F : Fr h₀ L s.heap m) (X : (hd.heap_39 w.params).In h₀) (N : News h₀ L s.heap []) (T : Top p9 lo9 mean mg mb h₀) (hm : m (Str.ofString "interval") = some (.int x t))
    (h1 : x = 127 → Q (.ret .none) s) (h2 : x ≠ 127 → Q .next s) :
    wpAny (model P0 w) A (exec gnS0.1 (gnEnv L)) Q E s := by
  have kf : PySem.Challenge.rw_zo0034_01 = PySem.Challenge.rw_zo0034_01 ∧ hd.heap_39 = hd.heap_39 := by
    k_fill
    exact ⟨rfl, rfl⟩
  clear kf
  unfold gnS0 gnEnv gnD
  dsimp only
  k_steps

  all_goals first | exact h1 (by omega) | exact h2 (by omega)
set_option maxHeartbeats 4000000 in
theorem gn_if2 {Q : Bool → Shared → Prop} {x : Int} {t : Tok}
    (F : Fr h₀ L s.heap m) (X : (hd.heap_39 w.params).In h₀) (N : News h₀ L s.heap []) (T : Top p9 lo9 mean mg mb h₀) (hm : m (Str.ofString "interval") = some (.int x t))
    (h : ∀ k, Q (decide (x = 0)) { s with toks := k }) :
    wpAny (model P0 w) A (isTrue gnI.1.1 (gnEnv L) (eval gnI.1.1 (gnEnv L))) Q E s := by
  have kf : PySem.Challenge.rw_zo0034_01 = PySem.Challenge.rw_zo0034_01 ∧ hd.heap_39 = hd.heap_39 := by
    k_fill
    exact ⟨rfl, rfl⟩
  clear kf
  unfold gnI gnEnv gnD
  dsimp only
  k_steps

  all_goals exact h _
set_option maxHeartbeats 4000000 in
theorem gn_raise {Q : Flow → Shared → Prop} {x : Int} {t : Tok}
    (F : Fr h₀ L s.heap m) (X : (hd.heap_39 w.params).In h₀) (N : News h₀ L s.heap []) (T : Top p9 lo9 mean mg mb h₀) (hm : m (Str.ofString "last_interval") = some (.int x t))
    (h : Q .next s) :
    wpAny (model P0 w) A (exec gnR.1 (gnEnv L)) Q E s := by
  have kf : PySem.Challenge.rw_zo0034_01 = PySem.Challenge.rw_zo0034_01 ∧ hd.heap_39 = hd.heap_39 := by
    k_fill
    exact ⟨rfl, rfl⟩
  clear kf
  unfold gnR gnEnv gnD
  dsimp only
  k_steps

  all_goals exact h
theorem gn_true {Q : Bool → Shared → Prop} (h : Q true s) : wpAny (model P0 w) A (isTrue gnW.1.1 (gnEnv L) (eval gnW.1.1 (gnEnv L))) Q E s := by
  unfold gnW gnEnv gnD
  dsimp only
  k_steps
  all_goals exact h
set_option maxHeartbeats 4000000 in
theorem gn_y1 {Q : Value → Shared → Prop} {v : Value} (F : Fr h₀ L s.heap m) (hm : m (Str.ofString "last_interval") = some v) (h : Q v s) : wpAny (model P0 w) A (eval gnY1.1.1 (gnEnv L)) Q E s :=
  ld F hm h
theorem gn_y2 {Q : Value → Shared → Prop} {v : Value} (F : Fr h₀ L s.heap m) (hm : m (Str.ofString "interval") = some v) (h : Q v s) : wpAny (model P0 w) A (eval gnY2.1.1 (gnEnv L)) Q E s :=
  ld F hm h
theorem gn_iter {Q : Value → Shared → Prop} {v : Value} (F : Fr h₀ L s.heap m) (hm : m (Str.ofString "grouping") = some v) (h : Q v s) : wpAny (model P0 w) A (eval gnF.1.1 (gnEnv L)) Q E s :=
  ld F hm h
/-- a store changes the frame alone -/
theorem gn_last {Q : Flow → Shared → Prop} {v : Value} (F : Fr h₀ L s.heap m) (hm : m (Str.ofString "interval") = some v)
    (h : ∀ h' k, Fr h₀ L h' (fun y => if y = Str.ofString "last_interval" then some v else m y) → Heap.SameBut L s.heap h' → Q .next { s with heap := h', toks := k }) :
    wpAny (model P0 w) A (exec gnS3.1 (gnEnv L)) Q E s := by
  show wpAny _ _ (exec (.Assign [.Name (Str.ofString "last_interval") _] (.Name (Str.ofString "interval") _) _) _) _ _ _
  exact wpAny_Assign_Name (ld F hm (wpAny_storeName_local rfl F.ns (fun h' hn hs => h h' _ (F.set hn hs) hs) rfl))
theorem gn_first {Q : Flow → Shared → Prop} (F : Fr h₀ L s.heap m)
    (h : ∀ h' k, Fr h₀ L h' (fun y => if y = Str.ofString "last_interval" then some .none else m y) → Heap.SameBut L s.heap h' → Q .next { s with heap := h', toks := k }) :
    wpAny (model P0 w) A (exec gnA0.1 (gnEnv L)) Q E s := by
  show wpAny _ _ (exec (.Assign [.Name (Str.ofString "last_interval") _] (.Constant .none _ _) _) _) _ _ _
  exact wpAny_Assign_Name (wpAny_pure (wpAny_storeName_local rfl F.ns (fun h' hn hs => h h' _ (F.set hn hs) hs) rfl))
end
end
section
open PySem PySem.W PyProof.Rows PySem.Spec PySem.Calls
set_option maxRecDepth 100000
theorem fresh_GO : True ∧ True := by
  w_top off
  k_with_none
  first | (walk1; done) | exact ⟨trivial, trivial⟩
/-- the j-th number that is handed out -/
noncomputable def exO (sz : List Int) (z : Bool) (j : Nat) : Option Int := if j < sz.length then sz[j]? else if z then sz.getLast? else none
noncomputable def KeepBut (L I : Addr) (h h' : Heap) : Prop := ∀ b o, b ≠ L → b ≠ I → h.get? b = some o → h'.get? b = some o
noncomputable def Same3 (L I l : Addr) (h h' : Heap) : Prop := ∀ b o, (b = L ∨ b = I ∨ b = l) → h.get? b = some o → h'.get? b = some o
noncomputable def Since (L I : Addr) (s₀ s : Shared) : Prop := ∃ h' k, s = { s₀ with heap := h', toks := k } ∧ KeepBut L I s₀.heap h'
theorem Since.refl (L I : Addr) (s : Shared) : Since L I s s := ⟨s.heap, s.toks, rfl, fun _ _ _ _ e => e⟩
theorem Since.step {L I : Addr} {s₀ s : Shared} {h : Heap} {k : Nat} (x : Since L I s₀ s) (hk : KeepBut L I s.heap h) : Since L I s₀ { s with heap := h, toks := k } := by
  obtain ⟨h', k', rfl, q⟩ := x
  exact ⟨h, k, rfl, fun b o h1 h2 e => hk b o h1 h2 (q b o h1 h2 e)⟩
noncomputable def GY (h₀ : Heap) (L I l : Addr) (sz : List Int) (z : Bool) : Protocol := fun m s₀ v s' kap =>
  (∃ x t, exO sz z (sz.length + 1 - m) = some x ∧ v = .int x t) ∧ Since L I s₀ s' ∧ (∃ o, s'.heap.get? L = some o) ∧ (∃ o, s'.heap.get? I = some o) ∧
    (0 < m → ∀ s'', Same3 L I l s'.heap s''.heap → (∀ b o, h₀.get? b = some o → s''.heap.get? b = some o) → kap (.send .none) s'')
noncomputable def GP (L I : Addr) (z : Bool) (n : Nat) (s₀ s₁ : Shared) : Prop := n = 2 ∧ z = false ∧ Since L I s₀ s₁
noncomputable def GR (L I : Addr) (z : Bool) : GenEnd := fun n s₀ r s₁ => r = .ok (.ret .none) ∧ GP L I z n s₀ s₁
noncomputable def gCode (L I : Addr) : Code := .forLoop (.Name (Str.ofString "interval") gnF.1.2.1) (.ref I) gnF.1.2.2.1 [] (gnEnv L)
noncomputable def wCode (L : Addr) : Code := .whileLoop gnW.1.1 gnW.1.2.1 [] (gnEnv L)

section
variable {w : World} {A : Around} {p9 : Program} {lo9 : List Str} {mean : ExcName → Option Value} {mg mb : Str → Option Value} {h₀ : Heap} {L I l : Addr}
theorem fr_same {h h' : Heap} {m : Str → Option Value} (F : Fr h₀ L h m) (hk : Same3 L I l h h') (hh : ∀ b o, h₀.get? b = some o → h'.get? b = some o) : Fr h₀ L h' m :=
  ⟨F.ns.at' fun o e => hk _ o (.inl rfl) e, hh, F.above⟩
/-- the endless part -/
theorem gn_zero {sz : List Int} {fs : List Frame} (hfs : splitAtGen fs = none) (hfg : fs.any Frame.guarded = false) (X : (hd.heap_39 w.params).In h₀) (T : Top p9 lo9 mean mg mb h₀) {y : Int} (hy : sz.getLast? = some y) :
    ∀ (m : Nat) (s₀ s : Shared) (mm : Str → Option Value) (t : Tok), m ≤ 1 → Since L I s₀ s → (∃ o, s.heap.get? I = some o) → Fr h₀ L s.heap mm → mm (Str.ofString "last_interval") = some (.int y t) →
      Seg (model P0 w) A (GR L I true) (GY h₀ L I l sz true) (m + 1) s₀ (wCode L) ((model P0 w).den (wCode L)) fs s := by
  intro m
  induction m with
  | zero =>
    intro s₀ s mm t hm hs hoI F hl
    have hoL : ∃ o, s.heap.get? L = some o := let ⟨o, _, _, ho, _⟩ := F.ns; ⟨o, ho⟩
    refine seg_whileLoop (gn_true ?_)
    rw [if_pos rfl, gn_wbody]
    refine seg_execs_cons (seg_Expr_Yield hfs rfl hfg (gn_y1 F hl fun kap hk => ⟨⟨y, t, ?_, rfl⟩, hs, hoL, hoI, fun h => absurd h (Nat.lt_irrefl _)⟩))
    unfold exO
    rw [if_neg (by omega), if_pos rfl, hy]
  | succ m ih =>
    intro s₀ s mm t hm hs hoI F hl
    have hoL : ∃ o, s.heap.get? L = some o := let ⟨o, _, _, ho, _⟩ := F.ns; ⟨o, ho⟩
    refine seg_whileLoop (gn_true ?_)
    rw [if_pos rfl, gn_wbody]
    refine seg_execs_cons (seg_Expr_Yield hfs rfl hfg (gn_y1 F hl fun kap hk => ⟨⟨y, t, ?_, rfl⟩, hs, hoL, hoI, fun _ s'' hsame hh => hk .none s'' ?_⟩))
    · unfold exO
      rw [if_neg (by omega), if_pos rfl, hy]
    · refine seg_execs_nil (seg_again rfl ?_)
      exact ih s'' s'' mm t (by omega) (Since.refl L I s'') (let ⟨o, ho⟩ := hoI; ⟨o, hsame I o (.inr (.inl rfl)) ho⟩) (fr_same F hsame hh) hl

/-- at the loop's head -/
noncomputable def GI (h₀ : Heap) (L I l : Addr) (vs : List Value) (sz : List Int) (i : Nat) (h : Heap) : Prop :=
  ∃ m, Fr h₀ L h m ∧ h.IsListIter I l i ∧ h.IsList l vs.toArray ∧ (0 < i → ∃ t, m (Str.ofString "last_interval") = some (.int (sz.getD (i - 1) 0) t))
/-- the tail of the list that is handed in, and whether it is endless -/
noncomputable def tailOk (tl : List Int) (z : Bool) : Prop := (tl = [] ∧ z = false) ∨ (∃ r, tl = 127 :: r ∧ z = false) ∨ (∃ r, tl = 0 :: r ∧ z = true)
theorem ints_at {vs : List Value} {ds : List Int} (h : IntsAre vs ds) {i : Nat} {d : Int} (hd : ds[i]? = some d) : ∃ t, vs[i]? = some (.int d t) := by
  have hi : i < vs.length := by
    rw [h.length]
    exact (List.getElem?_eq_some_iff.mp hd).1
  obtain ⟨n, t, e, hn⟩ := IntsAre.at h i vs[i] (List.getElem?_eq_getElem hi)
  rw [hd] at hn; cases hn
  exact ⟨t, by rw [List.getElem?_eq_getElem hi, e]⟩
theorem gn_loop {sz tl : List Int} {z : Bool} {vs : List Value} {k9 : Result → Sem PySem.Fin} {c9 : Code} {p9' : Pos} {lf : List Value}
    (hh : ∀ c, (A.over c [.ret k9 none false lf c9 p9' []]).handled = none)
    (hkN : k9 (.ok .next) = leafOf (.ok (.ret .none))) (hkR : k9 (.ok (.ret .none)) = leafOf (.ok (.ret .none)))
    (X : (hd.heap_39 w.params).In h₀) (T : Top p9 lo9 mean mg mb h₀) (hz : tailOk tl z) (hvs : IntsAre vs (sz ++ tl)) (hsz : ∀ x ∈ sz, x ≠ 0 ∧ x ≠ 127) (hne : sz ≠ [])
    (hLI : L ≠ I) (hlL : l ≠ L) (hlI : l ≠ I) (hI0 : h₀.get? I = none) :
    ∀ (k i : Nat) (s₀ s : Shared), i + k = sz.length → Since L I s₀ s → GI h₀ L I l vs sz i s.heap →
      Seg (model P0 w) A (GR L I z) (GY h₀ L I l sz z) (k + 2) s₀ (gCode L I) ((model P0 w).den (gCode L I)) [.ret k9 none false lf c9 p9' []] s := by
  intro k
  induction k with
  | zero =>
    intro i s₀ s hik hs ⟨m, F, hit, hl, hm⟩
    have fin : ∀ c' s', Since L I s₀ s' → z = false → Seg (model P0 w) A (GR L I z) (GY h₀ L I l sz z) 2 s₀ c' (leafOf (.ok (.ret .none))) [.ret k9 none false lf c9 p9' []] s' := fun c' s' hs' hz' => by
      refine seg_leaf _ ?_
      rw [hkR]
      exact seg_end _ ⟨rfl, rfl, hz', hs'⟩
    have finN : ∀ c' s', Since L I s₀ s' → z = false → Seg (model P0 w) A (GR L I z) (GY h₀ L I l sz z) 2 s₀ c' (leafOf (.ok .next)) [.ret k9 none false lf c9 p9' []] s' := fun c' s' hs' hz' => by
      refine seg_leaf _ ?_
      rw [hkN]
      exact seg_end _ ⟨rfl, rfl, hz', hs'⟩
    have hlen : (sz ++ tl)[i]? = tl[0]? := by rw [List.getElem?_append_right (by omega)]; congr 1; omega
    refine seg_forLoop ?_
    rcases hz with ⟨rfl, rfl⟩ | ⟨r, rfl, rfl⟩ | ⟨r, rfl, rfl⟩
    · refine wpAny_pyNext_list_end (hh _) hit hl ?_ fun h' he => ?_
      · have : vs.length = sz.length := by rw [hvs.length, List.append_nil]
        simp only [List.getElem?_toArray]
        exact List.getElem?_eq_none (by omega)
      · exact fun c' => finN c' _ (hs.step fun b o _ hb e => he b o hb e) rfl
    · obtain ⟨t, hv⟩ := ints_at hvs (hlen.trans rfl)
      refine wpAny_pyNext_list_item hit hl (by simpa using hv) fun h' hit' hs' => ?_
      have F1 : Fr h₀ L h' m := ⟨F.ns.sameBut hs' hLI, fun b o e => (hs'.2 b (by rintro rfl; rw [hI0] at e; cases e)).trans (F.keep b o e), F.above⟩
      refine wpAny_storeName_local rfl F1.ns (fun h2 hn2 hs2 => ?_) rfl
      have F2 := F1.set hn2 hs2
      intro H
      rw [gn_fbody]
      refine seg_st (gn_if1 F2 X (fun _ h => nomatch h) T (if_pos rfl) (fun _ => ?_) (fun h => absurd rfl h))
      refine fin _ _ ?_ rfl
      exact (hs.step (h := h') (k := s.toks) fun b o _ hb e => (hs'.2 b hb).trans e).step fun b o hb _ e => (hs2.2 b hb).trans e
    · obtain ⟨t, hv⟩ := ints_at hvs (hlen.trans rfl)
      refine wpAny_pyNext_list_item hit hl (by simpa using hv) fun h' hit' hs' => ?_
      have F1 : Fr h₀ L h' m := ⟨F.ns.sameBut hs' hLI, fun b o e => (hs'.2 b (by rintro rfl; rw [hI0] at e; cases e)).trans (F.keep b o e), F.above⟩
      refine wpAny_storeName_local rfl F1.ns (fun h2 hn2 hs2 => ?_) rfl
      have F2 := F1.set hn2 hs2
      intro H
      rw [gn_fbody]
      have hlen0 : 0 < sz.length := List.length_pos_iff.mpr hne
      obtain ⟨t2, hlast⟩ := hm (by omega)
      have hy : sz.getLast? = some (sz.getD (i - 1) 0) := by
        rw [List.getLast?_eq_getElem?, List.getD_eq_getElem?_getD, show i - 1 = sz.length - 1 by omega]
        rw [List.getElem?_eq_getElem (by omega)]
        rfl
      refine seg_st (gn_if1 F2 X (fun _ h => nomatch h) T (if_pos rfl) (fun h => absurd h (by decide)) (fun _ => ?_))
      refine seg_execs_cons (seg_If (gn_if2 F2 X (fun _ h => nomatch h) T (if_pos rfl) fun k3 => ?_))
      rw [if_pos (by decide), gn_ibody]
      refine seg_st (gn_raise (s := { s with heap := h2, toks := k3 }) F2 X (fun _ h => nomatch h) T ((if_neg (by decide)).trans hlast) ?_)
      refine seg_execs_cons (seg_While fun pp => ?_)
      refine gn_zero (by rfl) (by rfl) X T hy 1 s₀ _ _ t2 (Nat.le_refl _) ?_ (let ⟨o, ho, _⟩ := hit'; ⟨o, (hs2.2 I (Ne.symm hLI)).trans ho⟩) F2 ((if_neg (by decide)).trans hlast)
      exact (hs.step (h := h') (k := s.toks) fun b o _ hb e => (hs'.2 b hb).trans e).step fun b o hb _ e => (hs2.2 b hb).trans e
  | succ k ih =>
    intro i s₀ s hik hs ⟨m, F, hit, hl, hm⟩
    have hi : i < sz.length := by omega
    have hlen : (sz ++ tl)[i]? = some sz[i] := by rw [List.getElem?_append_left hi, List.getElem?_eq_getElem hi]
    obtain ⟨h0, h127⟩ := hsz sz[i] (List.getElem_mem hi)
    obtain ⟨t, hv⟩ := ints_at hvs hlen
    refine seg_forLoop ?_
    refine wpAny_pyNext_list_item hit hl (by simpa using hv) fun h' hit' hs' => ?_
    have F1 : Fr h₀ L h' m := ⟨F.ns.sameBut hs' hLI, fun b o e => (hs'.2 b (by rintro rfl; rw [hI0] at e; cases e)).trans (F.keep b o e), F.above⟩
    refine wpAny_storeName_local rfl F1.ns (fun h2 hn2 hs2 => ?_) rfl
    have F2 := F1.set hn2 hs2
    intro H
    rw [gn_fbody]
    refine seg_st (gn_if1 F2 X (fun _ h => nomatch h) T (if_pos rfl) (fun h => absurd h h127) (fun _ => ?_))
    refine seg_execs_cons (seg_If (gn_if2 F2 X (fun _ h => nomatch h) T (if_pos rfl) fun k3 => ?_))
    rw [if_neg (by simpa using h0)]
    refine seg_execs_nil ?_
    refine seg_execs_cons (seg_Expr_Yield (by rfl) rfl (by rfl) (gn_y2 (s := { s with heap := h2, toks := k3 }) F2 (if_pos rfl) fun kap hk => ⟨⟨sz[i], t, ?_, rfl⟩, ?_, (let ⟨o, _, _, ho, _⟩ := F2.ns; ⟨o, ho⟩), (let ⟨o, ho, _⟩ := hit'; ⟨o, (hs2.2 I (Ne.symm hLI)).trans ho⟩), fun _ s'' hsame hh9 => hk .none s'' ?_⟩))
    · unfold exO
      rw [show sz.length + 1 - (k + 2) = i by omega, if_pos hi, List.getElem?_eq_getElem hi]
    · exact (hs.step (h := h') (k := s.toks) fun b o _ hb e => (hs'.2 b hb).trans e).step (h := h2) (k := k3) fun b o hb _ e => (hs2.2 b hb).trans e
    · have F3 : Fr h₀ L s''.heap _ := fr_same (I := I) (l := l) F2 hsame hh9
      refine seg_st (gn_last F3 (if_pos rfl) fun h4 k4 F4 hs4 => ?_)
      refine seg_execs_nil (seg_again rfl ?_)
      refine ih (i + 1) s'' _ (by omega) ⟨h4, k4, rfl, fun b o hb _ e => (hs4.2 b hb).trans e⟩ ⟨_, F4, ?_, ?_, fun _ => ⟨t, ?_⟩⟩
      · obtain ⟨o, ho, hc, hd⟩ := hit'
        exact ⟨o, (hs4.2 I (Ne.symm hLI)).trans (hsame I o (.inr (.inl rfl)) ((hs2.2 I (Ne.symm hLI)).trans ho)), hc, hd⟩
      · obtain ⟨o, ho, hc⟩ := (hl.extBut hs'.extBut hlI).extBut hs2.extBut hlL
        exact ⟨o, (hs4.2 l hlL).trans (hsame l o (.inr (.inr rfl)) ho), hc⟩
      · rw [if_pos rfl, Nat.add_sub_cancel, List.getD_eq_getElem?_getD, List.getElem?_eq_getElem hi]
        rfl
end
end
section
open PySem PySem.W PyProof.Rows PySem.Spec PySem.Calls
set_option maxRecDepth 100000
theorem fresh_GP : True ∧ True := by
  w_top off
  k_with_none
  first | (walk1; done) | exact ⟨trivial, trivial⟩
noncomputable def gFunc (L : Addr) : Code := .func gnD.1.2.1 (gnEnv L)
theorem over_handled {A : Around} (hA : A.handled = none) {k9 : Result → Sem PySem.Fin} {c9 : Code} {p9 : Pos} {lf : List Value} (c : Code) : (A.over c [.ret k9 none false lf c9 p9 []]).handled = none := by
  show (marksOver _ _).1 = none
  unfold marksOver
  simp only [List.foldr, Frame.marks, hA]
  rfl
section
variable {w : World} {A : Around} {p9 : Program} {lo9 : List Str} {mean : ExcName → Option Value} {mg mb : Str → Option Value} {h₀ : Heap} {L l : Addr}
theorem gn_start {sz tl : List Int} {z : Bool} {vs : List Value} (hA : A.handled = none) (X : (hd.heap_39 w.params).In h₀) (T : Top p9 lo9 mean mg mb h₀) (hz : tailOk tl z) (hvs : IntsAre vs (sz ++ tl)) (hsz : ∀ x ∈ sz, x ≠ 0 ∧ x ≠ 127) (hne : sz ≠ [])
    {s : Shared} {m : Str → Option Value} (F : Fr h₀ L s.heap m) (hl : s.heap.IsList l vs.toArray) (hlL : l ≠ L) (hm : m (Str.ofString "grouping") = some (.ref l)) :
    Seg (model P0 w) A (GR L s.heap.objs.size z) (GY h₀ L s.heap.objs.size l sz z) (sz.length + 2) s (gFunc L) ((model P0 w).den (gFunc L)) [] s := by
  refine seg_func ?_
  rw [gn_body]
  refine seg_st (gn_first F fun h1 k1 F1 hs1 => ?_)
  have hl1 := hl.extBut hs1.extBut hlL
  have e1 : h1.objs.size = s.heap.objs.size := hs1.1
  obtain ⟨ol, hol, _⟩ := id hl1
  have hlt : l < h1.objs.size := Heap.lt_size hol
  have hLlt : L < h1.objs.size := F1.ns.lt
  refine seg_execs_cons (seg_For (fun _ => rfl) (gn_iter (s := { s with heap := h1, toks := k1 }) F1 ((if_neg (by decide)).trans hm) (wpAny_pyIter_list hl1 fun pp => ?_)))
  dsimp only
  rw [e1]
  refine gn_loop (l := l) (tl := tl) (vs := vs) (over_handled hA) (by rfl) (by rfl) X T hz hvs hsz hne (by rw [← e1]; exact Nat.ne_of_lt hLlt) hlL (by rw [← e1]; exact Nat.ne_of_lt hlt) (Heap.get?_none_of_le (Nat.le_trans F.above (Nat.le_of_lt F.ns.lt)))
    sz.length 0 s _ (Nat.zero_add _) ⟨_, _, rfl, fun b o h2 h3 e => ?_⟩ ⟨_, F1.push _, ?_, hl1.push _, fun h => absurd h (Nat.lt_irrefl _)⟩
  · exact Heap.get?_push_of_some _ ((hs1.2 b h2).trans e)
  · rw [← e1]
    exact ⟨_, Heap.get?_push_size _ rfl, rfl, rfl⟩

/-- what a suspended generator will do, where its three objects stand -/
noncomputable def GenSt (w : World) (A : Around) (h₀ : Heap) (L I l : Addr) (sz : List Int) (z : Bool) (j : Nat) (gs : GenState) (h : Heap) : Prop :=
  ∀ s'' : Shared, Same3 L I l h s''.heap → (∀ b o, h₀.get? b = some o → s''.heap.get? b = some o) → gs.Goes (model P0 w) A (GR L I z) (GY h₀ L I l sz z) (sz.length + 2 - j) (.send .none) s''
theorem bare_set {G : Array GenState} {g : Nat} {x : GenState} (h : AllBare G) (hx : x.bare = true) : AllBare (G.setIfInBounds g x) := fun y hy => by
  rcases Array.mem_or_eq_of_mem_setIfInBounds hy with h1 | rfl
  · exact h y h1
  · exact hx
theorem gn_next {sz : List Int} {z : Bool} {I a : Addr} {g j : Nat} {gs : GenState} {s : Shared} {E : Value → Shared → Prop} {Q : Option Value → Shared → Prop} (hA : A.handled = none) (hlim : s.heap.NoLimit) (hroom : A.depth < recursionLimit) (hj : j ≤ sz.length + 1)
    (hg : s.heap.IsGen a g) (hgs : s.gens[g]? = some gs) (hb : AllBare s.gens)
    (hgo : gs.Goes (model P0 w) A.in1 (GR L I z) (GY h₀ L I l sz z) (sz.length + 2 - j) (.send .none) (s.setGen g .running))
    (hY : ∀ x t h' k gs' G, exO sz z j = some x → KeepBut L I s.heap h' → (∃ o, h'.get? L = some o) → (∃ o, h'.get? I = some o) → (j ≤ sz.length → GenSt w A.in1 h₀ L I l sz z (j + 1) gs' h') → G[g]? = some gs' → AllBare G → Q (some (.int x t)) { s with heap := h', toks := k, gens := G })
    (hN : j = sz.length → z = false → ∀ h' k G, KeepBut L I s.heap h' → AllBare G → Q none { s with heap := h', toks := k, gens := G }) :
    wpAny (model P0 w) A (pyNext (.ref a)) Q E s := by
  have hlt : g < s.gens.size := by
    rcases Nat.lt_or_ge g s.gens.size with h' | h'
    · exact h'
    · rw [Array.getElem?_eq_none h'] at hgs; cases hgs
  obtain ⟨n, hn⟩ : ∃ n, sz.length + 2 - j = n + 1 := ⟨sz.length + 1 - j, by omega⟩
  unfold pyNext
  refine wpAny_bind (wpAny_attempt (wpAny_callSpecial?_slot (name := Str.ofString "__next__") hg.typeIs slot_gen_next
    (wpAny_call_entry slot_gen_next hg.typeIs entry_gen_next ?_ (args_gen_next _))))
  show wpAny _ A.in1 (Builtin.Generator.genWake (.ref a) (.send .none)) _ _ s
  unfold Builtin.Generator.genWake
  refine wpAny_bind (wpAny_holding (wpAny_genNumber hg (wpAny_bind (wpAny_genState hgs ?_))))
  cases gs with
  | running => exact hgo.elim
  | finished => exact hgo.elim
  | _ =>
    refine wpAny_bind (wpAny_roomToWake hlim hroom ?_)
    show wpAny _ A.in1 (.resume g (.send .none) [] _) _ _ s
    refine wpAny_resumeQ hgs hgo (fun x s₁ hx => ?_) (fun v s₁ gs' hb' hv => ?_)
    · obtain ⟨rfl, h2, h3, h', k, rfl, hk⟩ := hx
      show wpAny _ A.in1 (newExc (.type "StopIteration") [] >>= _) _ _ _
      refine wpAny_bind ?_
      simp only [newExc, newTuple]
      refine wpAny_bind (wpAny_newObj_type ?_ (by size_fits))
      refine wpAny_bind (m := firstArgMember _ _) (wpAny_of_eq (a := Value.none) (by first | rfl | (simp only [firstArgMember]; rfl)) ?_)
      refine wpAny_newObj_type ?_ (by size_fits)
      simp only [raiseNew]
      refine wpAny_bind (wpAny_bind (wpAny_handled ?_))
      first | rw [show A.in1.handled = none from hA] | rw [hA]
      refine wpAny_throw ?_
      refine wpAny_bind (wpAny_isInstance (T := "StopIteration") (b := true) ⟨_, Heap.get?_push_size _ rfl, rfl⟩ isSubtype_stop ?_)
      exact wpAny_pure (hN (by omega) h3 _ _ _ (fun b o hb1 hb2 e => Heap.get?_push_of_some _ (Heap.get?_push_of_some _ (hk b o hb1 hb2 e))) (bare_set (bare_set hb rfl) rfl))
    · rw [hn] at hv
      obtain ⟨⟨x, t, hx, rfl⟩, ⟨h', k, rfl, hk⟩, hoL, hoI, hkap⟩ := hv
      rw [show sz.length + 1 - (n + 1 - 1) = j by omega] at hx
      refine wpAny_pure ⟨.int x t, rfl, wpAny_pure (hY x t h' k gs' _ hx hk hoL hoI (fun hj' => ?_) ?_ (bare_set (bare_set hb rfl) hb'))⟩
      · intro s'' h1 h2
        have := hkap (by omega) s'' h1 h2
        rw [show sz.length + 2 - (j + 1) = n by omega]
        exact this
      · show ((s.gens.setIfInBounds g .running).setIfInBounds g gs')[g]? = some gs'
        rw [Array.getElem?_setIfInBounds_self_of_lt (by simpa using hlt)]
end
end
section
open PySem PySem.W PyProof.Rows PySem.Spec PySem.Calls
set_option maxRecDepth 100000
theorem fresh_GQ : True ∧ True := by
  w_top off
  k_with_none
  first | (walk1; done) | exact ⟨trivial, trivial⟩
noncomputable def gMap (l : Addr) : Str → Option Value := fun y => ([(Str.ofString "grouping", Value.ref l)] : List (Str × Value)).reverse.lookup y
theorem gn_nocell : ∀ x ∈ gnD.1.2.2.names, x.2 ≠ .cell := by decide
section
variable {w : World} {A : Around} {p9 : Program} {lo9 : List Str} {mean : ExcName → Option Value} {mg mb : Str → Option Value} {h₀ : Heap} {L l : Addr} {m : Str → Option Value} {news : Led} {s : Shared} {E : Value → Shared → Prop}
theorem gn_make {Q : Value → Shared → Prop} (F : Fr h₀ L s.heap m) (X : (hd.heap_39 w.params).In h₀) (N : News h₀ L s.heap news) (T : Top p9 lo9 mean mg mb h₀) (hroom : A.depth < recursionLimit)
    (h : ∀ C a oC oa h' k, Fr h₀ L h' m → News h₀ L h' ((a, oa) :: (C, oC) :: news) → (∀ p ∈ news, p.1 < C) → C < a → (∀ h'' : Heap, h''.get? a = some oa → h''.IsGen a s.gens.size) →
      (∀ h'' : Heap, h''.get? C = some oC → (∀ b o, h₀.get? b = some o → h''.get? b = some o) → Fr h₀ C h'' (gMap l)) → Q (.ref a) { s with heap := h', toks := k, gens := s.gens.push (.fresh (gFunc C)) }) :
    wpAny (model P0 w) A (call (.ref 113) [.ref l]) Q E s := by
  refine wpAny_call ?_
  have ho : ∃ oc od osl dV kV doc pm an ct, (hd.heap_39 w.params).lookup 113 = some ⟨oc, od, .func (fnOf (Str.ofString "_grouping_intervals") (Str.ofString "_grouping_intervals") gnD.1.1 gnD.1.2.1 gnD.1.2.2 dV kV doc pm an (.ref 112) ct), osl⟩ ∧ codeIn (hd.heap_39 w.params) (.ref 112) (Str.ofString "_grouping_intervals") = true ∧
      bindArgs (fnOf (Str.ofString "_grouping_intervals") (Str.ofString "_grouping_intervals") gnD.1.1 gnD.1.2.1 gnD.1.2.2 dV kV doc pm an (.ref 112) ct) ⟨[.ref l], []⟩ = pure [(Str.ofString "grouping", Value.ref l)] := ⟨_, _, _, _, _, _, _, _, _, rfl, rfl, rfl⟩
  obtain ⟨oc, od, osl, dV, kV, doc, pm, an, ct, ho, hcd, hbd⟩ := ho
  refine codeAny_call_generator hroom ((X.keeps F.keep) _ _ ho) rfl rfl rfl rfl (codeRec_of (X.keeps F.keep) hcd) (BindsTo.of_eq hbd _ _ _ _ ?_)
  refine wpAny_newFunctionEnv gn_nocell (locs rfl) (fun h1 hn1 hs1 => ⟨(T.nolimit.keeps F.keep).fresh _ hs1, ?_⟩) rfl
  have up : ∀ b o, s.heap.get? b = some o → h1.get? b = some o := fun b o e => hs1.extBut b o (Nat.ne_of_lt (Heap.lt_size e)) (Heap.get?_push_of_some _ e)
  obtain ⟨oC, es, ep, hC, hCd, hCk, hCf⟩ := id hn1
  have hLt : L < s.heap.objs.size := F.ns.lt
  have hz1 : h1.objs.size = s.heap.objs.size + 1 := by rw [hs1.1, Heap.size_push]
  have F1 : Fr h₀ L h1 m := ⟨F.ns.at' fun o e => up _ o e, fun b o e => up b o (F.keep b o e), F.above⟩
  have hC0 : h₀.get? s.heap.objs.size = none := Heap.get?_none_of_le (Nat.le_trans F.above (Nat.le_of_lt hLt))
  have N1 : News h₀ L h1 ((s.heap.objs.size, oC) :: news) := fun p hp => by
    rcases List.mem_cons.mp hp with rfl | hp
    · exact ⟨hC, Nat.ne_of_gt hLt, hC0⟩
    · exact ⟨up _ _ (N p hp).1, (N p hp).2⟩
  refine h s.heap.objs.size h1.objs.size oC _ _ _ (F1.push _) (N1.push F1 _) (fun p hp => Heap.lt_size (N p hp).1) (by rw [hz1]; exact Nat.lt_succ_self _) (fun h'' e => ?_) fun h'' e hk => ?_
  · exact ⟨_, _, _, e, rfl, rfl, rfl⟩
  · exact ⟨⟨oC, es, ep, e, hCd, hCk, hCf⟩, hk, Nat.le_trans F.above (Nat.le_of_lt hLt)⟩
end
end
section
open PySem PySem.W PyProof.Rows PySem.Spec PySem.Calls
set_option maxRecDepth 100000
theorem fresh_GT : True ∧ True := by
  w_top off
  k_with_none
  first | (walk1; done) | exact ⟨trivial, trivial⟩
noncomputable def GTurnE (h₀ : Heap) (L : Addr) (gl : Led) (J : (Str → Option Value) → Led → Prop) (s₁ s₂ : Shared) : Prop :=
  ∃ m' led' h' tk', s₂ = { s₁ with heap := h', toks := tk' } ∧ Fr h₀ L h' m' ∧ News h₀ L h' (gl ++ led') ∧ J m' led'
noncomputable def GTurnP (h₀ : Heap) (L : Addr) (gl : Led) (J : (Str → Option Value) → Led → Prop) (s₁ : Shared) (Q : Flow → Shared → Prop) (f : Flow) (s₂ : Shared) : Prop :=
  match f with
  | .ret v => Q (.ret v) s₂
  | .brk => Q .next s₂
  | _ => GTurnE h₀ L gl J s₁ s₂
section
variable {w : World} {A : Around} {p9 : Program} {lo9 : List Str} {mean : ExcName → Option Value} {mg mb : Str → Option Value} {h₀ : Heap} {l a C : Addr} {m : Str → Option Value} {s : Shared} {E : Value → Shared → Prop} {env : Env}
theorem forG {x : Str} {px : Pos} {body : List Stmt} {oa oC : Obj} {led : Led} {Q : Flow → Shared → Prop} {sz tl : List Int} {z : Bool} {vs : List Value} {nn g : Nat}
    (hA : A.handled = none) (hroom : A.depth < recursionLimit) (hx : env.kindOf x = some .local) (hp : (env.scope.kind == .class || (env.scope.kind == .module && env.locals != env.globals)) = false)
    (X : (hd.heap_39 w.params).In h₀) (T : Top p9 lo9 mean mg mb h₀) (hz : tailOk tl z) (hvs : IntsAre vs (sz ++ tl)) (hsz : ∀ x ∈ sz, x ≠ 0 ∧ x ≠ 127) (hne : sz ≠ [])
    (F : Fr h₀ env.locals s.heap m) (N : News h₀ env.locals s.heap ((a, oa) :: (C, oC) :: led)) (hCa : C < a)
    (hoa : ∀ h'' : Heap, h''.get? a = some oa → h''.IsGen a g) (hoC : ∀ h'' : Heap, h''.get? C = some oC → (∀ b o, h₀.get? b = some o → h''.get? b = some o) → Fr h₀ C h'' (gMap l))
    (hgs : s.gens[g]? = some (.fresh (gFunc C))) (hb : AllBare s.gens)
    (J : Nat → (Str → Option Value) → Led → Prop) (hJl : ∀ j m led, J j m led → (l, W.listOf vs.toArray nn) ∈ led) (hJlt : ∀ j m led, J j m led → ∀ p ∈ led, p.1 < C) (hJend : ∀ m led, ¬ J (sz.length + 2) m led) (h0 : J 0 m led)
    (turn : ∀ j xv t m₁ led oI oC' h tk G, exO sz z j = some xv → J j m₁ led → Fr h₀ env.locals h (fun y => if y = x then some (.int xv t) else m₁ y) → News h₀ env.locals h ([(s.heap.objs.size, oI), (a, oa), (C, oC')] ++ led) → a < s.heap.objs.size → AllBare G →
      wpAny (model P0 w) A (execs body env) (GTurnP h₀ env.locals [(s.heap.objs.size, oI), (a, oa), (C, oC')] (J (j + 1)) { s with gens := G } Q) (fun _ _ => False) { s with heap := h, toks := tk, gens := G })
    (done : ∀ m₁ led h tk G, z = false → J sz.length m₁ led → Fr h₀ env.locals h m₁ → News h₀ env.locals h led → AllBare G → Q .next { s with heap := h, toks := tk, gens := G }) :
    FLoop P0 w A env (.Name x px) body Q E (.ref a) s := by
  have hla := hJl 0 m led h0
  have aS : a < s.heap.objs.size := Heap.lt_size (N _ (.head _)).1
  have hLS : env.locals < s.heap.objs.size := F.ns.lt
  have hI0 : h₀.get? s.heap.objs.size = none := Heap.get?_none_of_le (Nat.le_trans F.above (Nat.le_of_lt hLS))
  have hClt : ∀ j m led, J j m led → ∀ p ∈ led, p.1 ≠ C ∧ p.1 ≠ s.heap.objs.size := fun j m led hj p hp => by
    have := hJlt j m led hj p hp
    exact ⟨Nat.ne_of_lt this, Nat.ne_of_lt (Nat.lt_trans this (Nat.lt_trans hCa aS))⟩
  have haC : a ≠ C := Nat.ne_of_gt hCa
  have haI : a ≠ s.heap.objs.size := Nat.ne_of_lt aS
  have hLC : env.locals ≠ C := fun e => (N (C, oC) (.tail _ (.head _))).2.1 e.symm
  have hLI : env.locals ≠ s.heap.objs.size := Nat.ne_of_lt hLS
  have hC0 : h₀.get? C = none := (N (C, oC) (.tail _ (.head _))).2.2
  -- what one call of next leaves
  have after : ∀ {h h' : Heap} {m₁ : Str → Option Value} {led₁ : Led} {j : Nat}, J j m₁ led₁ → Fr h₀ env.locals h m₁ → News h₀ env.locals h ((a, oa) :: led₁) → KeepBut C s.heap.objs.size h h' →
      Fr h₀ env.locals h' m₁ ∧ News h₀ env.locals h' ((a, oa) :: led₁) := fun {h h' m₁ led₁ j} hj F₁ N₁ hk =>
    ⟨⟨F₁.ns.at' fun o e => hk _ o hLC hLI e, fun b o e => hk b o (by rintro rfl; rw [hC0] at e; cases e) (by rintro rfl; rw [hI0] at e; cases e) (F₁.keep b o e), F₁.above⟩,
     fun p hp => by
      rcases List.mem_cons.mp hp with rfl | hp'
      · exact ⟨hk _ _ haC haI (N₁ _ (.head _)).1, (N₁ _ (.head _)).2⟩
      · exact ⟨hk _ _ (hClt j m₁ led₁ hj p hp').1 (hClt j m₁ led₁ hj p hp').2 (N₁ _ (.tail _ hp')).1, (N₁ _ (.tail _ hp')).2⟩⟩
  refine codeAny_forLoop
    (fun k s' => ∃ j h tk G gs m' led', s' = { s with heap := h, toks := tk, gens := G } ∧ k = sz.length + 2 - j ∧ j ≤ sz.length + 1 ∧ Fr h₀ env.locals h m' ∧ News h₀ env.locals h ((a, oa) :: led') ∧ J j m' led' ∧ G[g]? = some gs ∧ AllBare G ∧
      gs.Goes (model P0 w) A.in1 (GR C s.heap.objs.size z) (GY h₀ C s.heap.objs.size l sz z) (sz.length + 2 - j) (.send .none) ({ s with heap := h, toks := tk, gens := G }.setGen g .running)) ?_ (sz.length + 2)
    ⟨0, s.heap, s.toks, s.gens, _, m, led, rfl, rfl, Nat.zero_le _, F, fun p hp => N p (by rcases List.mem_cons.mp hp with rfl | hp; exact .head _; exact .tail _ (.tail _ hp)), h0, hgs, hb, rfl, ?_⟩
  · rintro k s' ⟨j, h, tk, G, gs, m₁, led₁, rfl, rfl, hj, F₁, N₁, hJ, hG, hB, hgo⟩
    have hlim : h.NoLimit := T.nolimit.keeps F₁.keep
    refine gn_next (s := { s with heap := h, toks := tk, gens := G }) hA hlim hroom hj (hoa h (N₁ _ (.head _)).1) hG hB hgo (fun xv t h' k' gs' G' hxv hk hoC' hoI hst hG' hB' => ?_) (fun hj' hz' h' k' G' hk hB' => ?_)
    · obtain ⟨F₂, N₂⟩ := after hJ F₁ N₁ hk
      obtain ⟨oC', hoC'⟩ := hoC'
      obtain ⟨oI, hoI⟩ := hoI
      refine wpAny_assign_Name (wpAny_storeName_local hx F₂.ns (fun h₃ hn₃ hs₃ => ?_) hp)
      have F₃ := F₂.set hn₃ hs₃
      have N₃ : News h₀ env.locals h₃ ([(s.heap.objs.size, oI), (a, oa), (C, oC')] ++ led₁) := fun p hp => by
        rcases List.mem_cons.mp hp with rfl | hp
        · exact ⟨(hs₃.2 _ hLI.symm).trans hoI, hLI.symm, hI0⟩
        rcases List.mem_cons.mp hp with rfl | hp
        · exact (N₂.set hs₃) _ (.head _)
        rcases List.mem_cons.mp hp with rfl | hp
        · exact ⟨(hs₃.2 _ hLC.symm).trans hoC', hLC.symm, hC0⟩
        · exact (N₂.set hs₃) _ (.tail _ hp)
      refine wpAny_mono (turn j xv t m₁ led₁ oI oC' h₃ _ G' hxv hJ F₃ N₃ aS hB') (fun f s₃ h₃' => ?_) fun _ _ e => e.elim
      have fin : GTurnE h₀ env.locals [(s.heap.objs.size, oI), (a, oa), (C, oC')] (J (j + 1)) { s with gens := G' } s₃ → ∃ k9, k9 < sz.length + 2 - j ∧ ∃ j h tk G gs m' led', s₃ = { s with heap := h, toks := tk, gens := G } ∧ k9 = sz.length + 2 - j ∧ j ≤ sz.length + 1 ∧ Fr h₀ env.locals h m' ∧ News h₀ env.locals h ((a, oa) :: led') ∧ J j m' led' ∧ G[g]? = some gs ∧ AllBare G ∧
          gs.Goes (model P0 w) A.in1 (GR C s.heap.objs.size z) (GY h₀ C s.heap.objs.size l sz z) (sz.length + 2 - j) (.send .none) ({ s with heap := h, toks := tk, gens := G }.setGen g .running) := by
        rintro ⟨m', led', h9, tk', rfl, F', N', hJ'⟩
        have hj9 : j ≤ sz.length := by
          rcases Nat.lt_or_ge sz.length j with h1 | h1
          · have : j + 1 = sz.length + 2 := by omega
            rw [this] at hJ'
            exact absurd hJ' (hJend _ _)
          · exact h1
        refine ⟨sz.length + 2 - (j + 1), by omega, j + 1, h9, tk', G', gs', m', led', rfl, rfl, by omega, F', fun p hp => ?_, hJ', hG', hB', hst hj9 _ (fun b o hbb e => ?_) F'.keep⟩
        · rcases List.mem_cons.mp hp with rfl | hp
          · exact N' _ (.tail _ (.head _))
          · exact N' _ (.tail _ (.tail _ (.tail _ hp)))
        · rcases hbb with rfl | rfl | rfl
          · rw [hoC'] at e; cases e
            exact (N' _ (.tail _ (.tail _ (.head _)))).1
          · rw [hoI] at e; cases e
            exact (N' _ (.head _)).1
          · have e1 := (N₂ _ (.tail _ (hJl j m₁ led₁ hJ))).1
            dsimp only at e1
            rw [e1] at e; cases e
            exact (N' _ (.tail _ (.tail _ (.tail _ (hJl (j + 1) m' led' hJ'))))).1
      cases f with
      | ret v => exact h₃'
      | brk => exact h₃'
      | next => exact fin h₃'
      | cont => exact fin h₃'
    · obtain ⟨F₂, N₂⟩ := after hJ F₁ N₁ hk
      refine wpAny_execs_nil ?_
      subst hj'
      exact done m₁ led₁ h' k' G' hz' hJ F₂ (fun p hp => N₂ p (.tail _ hp)) hB'
  · have F9 := hoC s.heap (N _ (.tail _ (.head _))).1 F.keep
    exact gn_start (A := A.in1) (s := s.setGen g .running) hA X T hz hvs hsz hne F9 ⟨_, (N _ (.tail _ (.tail _ hla))).1, rfl, nn, rfl⟩ (Nat.ne_of_lt (hJlt 0 m led h0 _ hla)) rfl
end
end
section
open PySem PySem.W PyProof.Rows PySem.Spec PySem.Calls
set_option maxRecDepth 100000
theorem fresh_LH : True ∧ True := by
  w_top off
  k_with_none
  first | (walk1; done) | exact ⟨trivial, trivial⟩
open PySem.Sem (wp)
/-- the gate is passed with the caller's stack alone -/
theorem gate_in {M : Model} {f : Value} {vs : List Value} {Q E : Value → Shared → Prop} {s : Shared} (hbad : Q (.bool true) s)
    (h : codeN M callerA (.call f ⟨vs, []⟩) (fun r s' => match r with | .ok (.ret v) => Q v s' | .ok _ => False | .error e => E e s') s) :
    wpAny M callerA (gate (call f vs)) Q E s := fun Γ p hΓ => by
  unfold gate stack
  rw [Sem.wp_bind', Sem.wp_stack, Sem.wp_pure]
  cases hl : lone ((Γ.code, p) :: Γ.below) with
  | false => exact hbad
  | true =>
    have hc : CleanB ((Γ.code, p) :: Γ.below) := by
      unfold lone at hl
      split at hl
      · rename_i e
        injection e with e1 e2
        injection e1 with e3 e4
        rw [e2]
        intro x hx
        rcases List.mem_cons.mp hx with rfl | hx
        · rw [show (Γ.code, p).1 = Γ.code from rfl, e3]
          show (!badIds.contains "claim.caller") = true
          decide +kernel
        · exact nomatch hx
      · cases hl
    exact wpN_call h Γ p hΓ hc
section
variable {prog : Program} {w : World} {A : Around} {R : Result → Shared → Prop} {s : Shared} {name : Str} {params : Arguments} {body : List Stmt} {scope : Scope} {pm cd doc : Value} {a : Addr} {o : Obj} {args : List Value} {binds : List (Str × Value)}
theorem codeN_cells (hroom : A.depth < recursionLimit) (ho : s.heap.get? a = some o) (hdata : o.data = .func (Calls.docDef name params body scope pm cd doc)) (hlim : s.heap.NoLimit) (hcd : s.heap.CodeRec cd name)
    (hbind : bindArgs (Calls.docDef name params body scope pm cd doc) ⟨args, []⟩ = pure binds)
    (hkind : ∀ x ∈ binds, scope.names.lookup x.1 = some .local ∨ (scope.names.lookup x.1 = some .cell ∧ ((cellsFrom (s.heap.objs.size + 1) scope.names []).lookup x.1).isSome = true))
    (hnd : ((cellsFrom 0 scope.names []).map (·.1)).Nodup)
    (h : ∀ h₁ tk cells, Fr s.heap s.heap.objs.size h₁ (bindL (envOfC name scope s.heap.objs.size a cd).kindOf binds fun _ => none) → News s.heap s.heap.objs.size h₁ cells →
      CellsAre (bindC (envOfC name scope s.heap.objs.size a cd).kindOf binds fun _ => none) (cellsFrom (s.heap.objs.size + 1) scope.names []) cells →
      wpN (model prog w) (A.deeper (envOfC name scope s.heap.objs.size a cd)) (execs body (envOfC name scope s.heap.objs.size a cd))
        (fun f s' => R (.ok (.ret (match f with | .ret v => v | _ => .none))) s') (fun _ _ => False) { s with heap := h₁, toks := tk })
    (hco : scope.isCoroutine = false) (hgen : scope.isGenerator = false) (hk : scope.kind = .function) :
    codeN (model prog w) A (.call (.ref a) ⟨args, []⟩) R s := by
  refine codeN_call_fn (fd := Calls.docDef name params body scope pm cd doc) hroom ho hdata hco hgen rfl hcd ?_
  rw [hbind]
  refine wpAny_pure (wpAny_newFunctionEnv_cells hk hkind fun env he s' x => ?_)
  subst he
  refine ⟨hlim.keeps x.toInCall.keep, codeN_func ?_⟩
  obtain ⟨h₁, tk, rfl, _⟩ := x.done
  obtain ⟨cells, N, Y⟩ := Cl.news (h₀ := s.heap) (Nat.le_refl _) fun n c hm => ⟨x.cell n c (lookup_of_mem_nodup (cellsFrom_names scope.names 0 (s.heap.objs.size + 1) [] [] rfl ▸ hnd) hm), x.above n c hm⟩
  exact wpN_mono (h h₁ tk cells ⟨x.toInCall.ns, x.toInCall.keep, x.toInCall.fresh⟩ N Y) (fun _ _ y => y) fun _ _ y => y.elim
end
theorem law_good {cw : ClaimW} {cl : Str → Option Addr} {mean : ExcName → Option Value} {args : List WData} {tabs : List (Addr × Addr)} {s₁ s' : Shared} (hT : TabsAt tabs s₁.heap)
    (hk : ∀ b o, (ghostOf s₁.heap tabs).get? b = some o → s'.heap.get? b = some o) (hgr : GrownAll tabs s'.heap) (hos : s'.os = s₁.os) (hb : AllBare s'.gens) (hn : ∀ cls, cw.raises args cls = false) (hp : cw.post args (.bool true) args = true) :
    GoodWG cw cl mean args s₁ (.ok (.ret (.bool true))) s' := by
  refine ⟨.inl ⟨_, _, [], rfl, hn, .bool true, hp, fun _ => ⟨.nil, fun a h => nomatch h⟩⟩, ⟨fun b o e => ?_, fun b o e => ?_⟩, hos, hb⟩
  · by_cases hm : b ∈ tabs.map (·.2)
    · obtain ⟨q, hq, rfl⟩ := List.mem_map.mp hm
      have e2 := (hT q hq).2
      rw [e] at e2
      obtain rfl := Option.some.inj e2
      obtain ⟨ps, hP⟩ := hgr.get q hq
      exact .inr (.inl ⟨((hT q hq).1.tab (hT q hq).2).isCodeTable, rfl, #[], ps, rfl, by rw [Array.empty_append]; exact hP⟩)
    · exact .inl (hk b o (ghost_ne e hm))
  · by_cases hm : b ∈ tabs.map (·.2)
    · obtain ⟨q, hq, rfl⟩ := List.mem_map.mp hm
      obtain ⟨ps, hP⟩ := hgr.get q hq
      exact ⟨_, hP⟩
    · exact ⟨o, hk b o (ghost_ne e hm)⟩
end
section
open PySem PySem.W PyProof.Rows PySem.Spec PySem.Calls
set_option maxRecDepth 100000
theorem fresh_LI : True ∧ True := by
  w_top off
  k_with_none
  first | (walk1; done) | exact ⟨trivial, trivial⟩
noncomputable def lawD : { t : Arguments × List Stmt × Scope // topDef (Str.ofString "law") = some t } := ⟨_, by rfl⟩
noncomputable abbrev lawEnv (L fa : Addr) (cd : Value) : Env := envOfC (Str.ofString "law") lawD.1.2.2 L fa cd
noncomputable def LawEnd (h₀ : Heap) (s₁ : Shared) (f : Flow) (s' : Shared) : Prop :=
  f = .ret (.bool true) ∧ s'.os = s₁.os ∧ AllBare s'.gens ∧ (∀ b o, h₀.get? b = some o → s'.heap.get? b = some o) ∧ GrownAll [(91, 87), (84, 80)] s'.heap
theorem law_cells (L : Addr) : cellsFrom (L + 1) lawD.1.2.2.names [] = [(Str.ofString "wider", L + 2), (Str.ofString "zone", L + 1)] := rfl
noncomputable def LawBody : Prop := ∀ (w : World) (lo : List Str) (mean : ExcName → Option Value) (mg mb : Str → Option Value) (h₀ : Heap) (L fa l : Addr) (cd : Value) (ns : List Int) (vs : List Value) (o1 o2 : Obj) (s₁ : Shared) (h₁ : Heap) (tk : Nat),
  (hd.heap_39 w.params).In h₀ → Top topProg lo mean mg mb h₀ → Below callerA h₀ [] h₀ → CodeHd h₀ 91 87 → CodeHd h₀ 84 80 → h₀.IsList l vs.toArray → IntsAre vs ns → ns.length ≤ 63 →
  Fr h₀ L h₁ (fun y => if y = Str.ofString "script" then some (.ref l) else none) → News h₀ L h₁ [(L + 2, o2), (L + 1, o1), (87, tabObj #[]), (80, tabObj #[])] → o1.data = .cell none → o2.data = .cell none → 87 < L → s₁.gens = #[] →
  wpN (model P0 w) (callerA.deeper (lawEnv L fa cd)) (execs lawD.1.2.1 (lawEnv L fa cd)) (LawEnd h₀ s₁) (fun _ _ => False) { s₁ with heap := h₁, toks := tk }

theorem law_post (d : WData) : PySem.Challenge.rw_zo0034_01.row.claim.post [d] (.bool true) [d] = true := by
  refine postW_of (r := PySem.Challenge.rw_zo0034_01.row.toRowW) (by wrow_shape) (by wtm_val) ?_
  rfl
set_option maxHeartbeats 8000000 in
theorem law_reduce (H : LawBody) : PySem.Challenge.rw_zo0034_01.Holds := by
  refine hd ?_
  k_fill
  intro w s₀ s₁ mg mb G Y fa o pm cd doc dV kV ho hd hcd hD hmg hg args vals as hpre hlay hrd hwl hlo
  have KX := km_in_of Y
  km_tabs Y
  have X := (Ground.X G).1
  have V := (Ground.X G).2
  refine Ground.open G ?_
  intro T B D TE TW
  try (refine guard_noD D (by decide +kernel) ?_; clear D)
  km_lay T hmg ho hd cd
  clear hmg
  wrow_args hpre hlay hrd hwl hlo
  have he := Dflts.none hD rfl
  subst he
  have he := Dflts.noKw hD
  subst he
  refine gate_in ?_ ?_
  · refine law_good hT9 (fun b o e => of_hideAll _ e) ⟨⟨_, (hT9 (91, 87) (.head _)).2⟩, ⟨_, (hT9 (84, 80) (.tail _ (.head _))).2⟩, trivial⟩ rfl (.of_eq hg) (fun _ => rfl) ?_
    exact law_post _
  · refine codeN_cells (by decide) ho (fd_plain hd) (Top.nolimit T) hcd rfl (kinds_of (by kinds_ok)) (by decide) (fun h₁ tk₁ cells F N0 X0 => ?_) rfl rfl rfl
    cells_open X0
    rename_i ns hs hlay0 hL1 hr1 hl2 a6 a5 lst vs a2 hL ra w1 r0 hI hrr hc1 hc2 o2 o1 hd1 hd2
    have hlen : ns.length ≤ 63 := by omega
    have C' := ghost_code hT9
    refine wpN_mono (H w _ _ _ _ (ghostOf s₁.heap [(91, 87), (84, 80)]) s₁.heap.objs.size fa lst cd ns vs o1 o2 s₁ h₁ tk₁ (ghost_K hT9 KX (by kernel_rfl)) (ghost_top hT9 T) (ghost_below hT9) C'.1 C'.2.1 (ghost_list hT9 hL) hI hlen ?_ ?_ ?_ ?_ ?_ hg) (fun f s' hf => ?_) (fun _ _ x => x.elim)
    · exact ghost_fr hT9 F
    · exact ghost_news hT9 F N0
    · exact hd2
    · exact hd1
    · exact Heap.lt_size (hT9 (91, 87) (.head _)).2
    · obtain ⟨rfl, e1, e2, e3, e4⟩ := hf
      exact law_good hT9 e3 e4 e1 e2 (fun _ => rfl) (law_post _)
end
section
open PySem PySem.W PyProof.Rows PySem.Spec PySem.Calls
set_option maxRecDepth 100000
theorem fresh_EN : True ∧ True := by
  w_top off
  k_with_none
  first | (walk1; done) | exact ⟨trivial, trivial⟩
section
variable {prog : Program} {w : World} {A : Around} {E : Value → Shared → Prop} {s : Shared} {env : Env} {h₀ : Heap}
/-- over enumerate(list) -/
theorem iter_enumJ {xi xv : Str} {pi pv pt : Pos} {x1 : Nat} {body : List Stmt} {l B : Addr} {vs : List Value} {nn : Nat} {m : Str → Option Value} {led₀ : Led} {Q : Flow → Shared → Prop}
    (hh : A.handled = none) (hxi : env.kindOf xi = some .local) (hxv : env.kindOf xv = some .local) (hp : (env.scope.kind == .class || (env.scope.kind == .module && env.locals != env.globals)) = false)
    (F : Fr h₀ env.locals s.heap m) (N : News h₀ env.locals s.heap led₀)
    (J : Nat → (Str → Option Value) → Led → Prop) (hJl : ∀ i m led, J i m led → (l, W.listOf vs.toArray nn) ∈ led) (hJB : ∀ i m led, J i m led → ∀ p ∈ led, p.1 < B) (hB : B ≤ s.heap.objs.size) (h0 : J 0 m led₀)
    (turn : ∀ i v t m₁ led e it oe oi h tk, vs[i]? = some v → J i m₁ led → B ≤ it → it < e → Fr h₀ env.locals h (fun y => if y = xv then some v else if y = xi then some (.int (i : Nat) t) else m₁ y) → News h₀ env.locals h ([(e, oe), (it, oi)] ++ led) →
      wpAny (model prog w) A (execs body env) (GTurnP h₀ env.locals [(e, oe), (it, oi)] (J (i + 1)) s Q) (fun _ _ => False) { s with heap := h, toks := tk })
    (done : ∀ m₁ led h tk, J vs.length m₁ led → Fr h₀ env.locals h m₁ → News h₀ env.locals h led → Q .next { s with heap := h, toks := tk }) :
    wpAny (model prog w) A (call (.type "enumerate") [.ref l]) (fun xv' s₁ => wpAny (model prog w) A (pyIter xv') (fun itv s₂ => FLoop prog w A env (.Tuple [.Name xi pi, .Name xv pv] x1 pt) body Q E itv s₂) E s₁) E s := by
  have hla := (N _ (hJl 0 m led₀ h0)).1
  have hLS : env.locals < s.heap.objs.size := F.ns.lt
  refine call_enumerate_1 hla fun h1 he1 hit1 hz1 hk1 => wpAny_pyIter_enum he1 ?_
  obtain ⟨it, hit⟩ : ∃ it, it = s.heap.objs.size := ⟨_, rfl⟩
  rw [← hit] at he1 hit1 hz1 hB hLS ⊢
  have hI0 : ∀ b, it ≤ b → h₀.get? b = none := fun b hb => Heap.get?_none_of_le (Nat.le_trans F.above (Nat.le_trans (Nat.le_of_lt hLS) hb))
  have hLi : env.locals ≠ it := Nat.ne_of_lt hLS
  have hLe : env.locals ≠ it + 1 := Nat.ne_of_lt (Nat.lt_succ_of_lt hLS)
  have hei : it + 1 ≠ it := Nat.succ_ne_self it
  have F1 : Fr h₀ env.locals h1 m := ⟨F.ns.at' fun o e => hk1 _ o e, fun b o e => hk1 b o (F.keep b o e), F.above⟩
  have N1 : News h₀ env.locals h1 led₀ := fun p hp => ⟨hk1 _ _ (N p hp).1, (N p hp).2⟩
  refine codeAny_forLoop_any
    (fun k s' => ∃ h tk m' led i old, s' = { s with heap := h, toks := tk } ∧ IsEnum h (it + 1) it ((i : Nat) : Int) old ∧ h.IsListIter it l i ∧ Fr h₀ env.locals h m' ∧ News h₀ env.locals h led ∧ J i m' led ∧ i ≤ vs.length ∧ k = vs.length + 1 - i) ?_ (vs.length + 1)
    ⟨h1, s.toks, m, led₀, 0, .none, rfl, he1, hit1, F1, N1, h0, Nat.zero_le _, rfl⟩
  rintro k s' ⟨H, tk, m', led, i, old, rfl, he', hit', F', N', hJ, hi, rfl⟩
  have hlH : H.IsList l vs.toArray := ⟨_, (N' _ (hJl i m' led hJ)).1, rfl, nn, rfl⟩
  have heH : it + 1 < H.objs.size := Heap.lt_size he'
  obtain ⟨oi, hoi, _⟩ := id hit'
  have hiH : it < H.objs.size := Heap.lt_size hoi
  have hLH : env.locals < H.objs.size := F'.ns.lt
  have hne : ∀ p ∈ led, p.1 ≠ it + 1 ∧ p.1 ≠ it ∧ p.1 < H.objs.size := fun p hp => by
    have := Nat.lt_of_lt_of_le (hJB i m' led hJ p hp) hB
    exact ⟨Nat.ne_of_lt (Nat.lt_succ_of_lt this), Nat.ne_of_lt this, Nat.lt_trans this hiH⟩
  have hne0 : ∀ b o, h₀.get? b = some o → b ≠ it + 1 ∧ b ≠ it := fun b o e => ⟨(by rintro rfl; rw [hI0 _ (Nat.le_succ it)] at e; cases e), (by rintro rfl; rw [hI0 _ (Nat.le_refl _)] at e; cases e)⟩
  cases hv : vs[i]? with
  | none =>
    have hsz : i = vs.length := Nat.le_antisymm hi (by simpa using hv)
    subst hsz
    refine wpAny_pyNext_enum_end hh he' hit' hlH (by simpa using hv) fun h₁ he₁ => wpAny_execs_nil ?_
    exact done m' led h₁ tk hJ ⟨F'.ns.at' fun o e => he₁ _ o hLi e, fun b o e => he₁ b o (hne0 b o e).2 (F'.keep b o e), F'.above⟩ fun p hp => ⟨he₁ _ _ (hne p hp).2.1 (N' p hp).1, (N' p hp).2⟩
  | some v =>
    have hlt : i < vs.length := (List.getElem?_eq_some_iff.mp hv).1
    refine wpAny_pyNext_enum_item he' hit' hlH (by simpa using hv) hei fun h₁ heo hit₁ ht₁ hz₁ hk₁ => ?_
    refine wpAny_letOwnedTupleGo_enum heo fun h₂ he₂ hs₂ => ?_
    replace hs₂ : Heap.SameBut (it + 1) h₁ h₂ := hs₂
    have ht₂ : h₂.IsTuple H.objs.size #[.int i tk, v] := ⟨_, (hs₂.2 _ (Nat.ne_of_gt heH)).trans ht₁, rfl, _, rfl⟩
    have hz₂ : h₂.objs.size = H.objs.size + 1 := hs₂.1.trans hz₁
    refine wpAny_assign_Tuple hh ht₂ rfl rfl fun h₃ hx₃ => ?_
    replace hx₃ : Heap.ExtBut h₂.objs.size h₂ h₃ := hx₃
    have up : ∀ b o, b ≠ it + 1 → b ≠ it → H.get? b = some o → h₃.get? b = some o := fun b o h2 h3 e =>
      hx₃ b o (by rw [hz₂]; exact Nat.ne_of_lt (Nat.lt_succ_of_lt (Heap.lt_size e))) ((hs₂.2 b h2).trans (hk₁ b o h2 h3 e))
    have hn₃ : h₃.Ns env.locals m' := F'.ns.at' fun o e => up _ o hLe hLi e
    have F₃ : Fr h₀ env.locals h₃ m' := ⟨hn₃, fun b o e => up b o (hne0 b o e).1 (hne0 b o e).2 (F'.keep b o e), F'.above⟩
    have he₃ : IsEnum h₃ (it + 1) it ((i : Int) + 1) v := hx₃ _ _ (by rw [hz₂]; exact Nat.ne_of_lt (Nat.lt_succ_of_lt heH)) he₂
    obtain ⟨oi2, hoi2, hoic⟩ := hit₁
    have hi₃ : h₃.get? it = some oi2 := hx₃ _ _ (by rw [hz₂]; exact Nat.ne_of_lt (Nat.lt_succ_of_lt hiH)) ((hs₂.2 it hei.symm).trans hoi2)
    have N₃ : News h₀ env.locals h₃ ([(it + 1, { cls := .type "enumerate", dict := none, data := .fields #[.none, .bool false, .ref it, rawInt ((i : Int) + 1), .none, v], slots := #[] }), (it, oi2)] ++ led) := fun p hp => by
      rcases List.mem_cons.mp hp with rfl | hp
      · exact ⟨he₃, hLe.symm, hI0 _ (Nat.le_succ it)⟩
      rcases List.mem_cons.mp hp with rfl | hp
      · exact ⟨hi₃, hLi.symm, hI0 _ (Nat.le_refl _)⟩
      · exact ⟨up _ _ (hne p hp).1 (hne p hp).2.1 (N' p hp).1, (N' p hp).2⟩
    show wpAny _ A (do holding [v] (assign (.Name xi pi) env (.int i tk)); do holding [] (assign (.Name xv pv) env v); pure ()) _ _ _
    refine wpAny_bind (wpAny_holding (wpAny_assign_Name (wpAny_storeName_local hxi hn₃ (fun h₄ hn₄ hs₄ => ?_) hp)))
    have F₄ := F₃.set hn₄ hs₄
    refine wpAny_bind (wpAny_holding (wpAny_assign_Name (wpAny_storeName_local hxv hn₄ (fun h₅ hn₅ hs₅ => wpAny_pure ?_) hp)))
    have F₅ := F₄.set hn₅ hs₅
    refine wpAny_mono (turn i v tk m' led (it + 1) it _ oi2 h₅ _ hv hJ hB (Nat.lt_succ_self it) F₅ ((N₃.set hs₄).set hs₅)) (fun f s₃ h₆ => ?_) fun _ _ e => e.elim
    have fin : GTurnE h₀ env.locals [(it + 1, { cls := .type "enumerate", dict := none, data := .fields #[.none, .bool false, .ref it, rawInt ((i : Int) + 1), .none, v], slots := #[] }), (it, oi2)] (J (i + 1)) s s₃ → ∃ k, k < vs.length + 1 - i ∧ ∃ h tk m' led i old, s₃ = { s with heap := h, toks := tk } ∧ IsEnum h (it + 1) it ((i : Nat) : Int) old ∧ h.IsListIter it l i ∧ Fr h₀ env.locals h m' ∧ News h₀ env.locals h led ∧ J i m' led ∧ i ≤ vs.length ∧ k = vs.length + 1 - i := by
      rintro ⟨m9, led9, h9, tk9, rfl, F9, N9, hJ9⟩
      refine ⟨vs.length + 1 - (i + 1), by omega, h9, tk9, m9, led9, i + 1, v, rfl, ?_, ⟨oi2, (N9 _ (.tail _ (.head _))).1, hoic⟩, F9, fun p hp => N9 p (.tail _ (.tail _ hp)), hJ9, hlt, rfl⟩
      have : ((i + 1 : Nat) : Int) = (i : Int) + 1 := by push_cast; rfl
      rw [this]
      exact (N9 _ (.head _)).1
    cases f with
    | ret v => exact h₆
    | brk => exact h₆
    | next => exact fin h₆
    | cont => exact fin h₆
end
end
section
open PySem PySem.W PyProof.Rows PySem.Spec PySem.Calls
set_option maxRecDepth 100000
theorem fresh_LL : True ∧ True := by
  w_top off
  k_with_none
  first | (walk1; done) | exact ⟨trivial, trivial⟩
noncomputable def lawS0 : { st : Stmt // lawD.1.2.1[0]? = some st } := ⟨_, by rfl⟩
noncomputable def lawS1 : { st : Stmt // lawD.1.2.1[1]? = some st } := ⟨_, by rfl⟩
noncomputable def lawS2 : { st : Stmt // lawD.1.2.1[2]? = some st } := ⟨_, by rfl⟩
noncomputable def lawS3 : { st : Stmt // lawD.1.2.1[3]? = some st } := ⟨_, by rfl⟩
noncomputable def lawS4 : { st : Stmt // lawD.1.2.1[4]? = some st } := ⟨_, by rfl⟩
noncomputable def lawS5 : { st : Stmt // lawD.1.2.1[5]? = some st } := ⟨_, by rfl⟩
noncomputable def lawS6 : { st : Stmt // lawD.1.2.1[6]? = some st } := ⟨_, by rfl⟩
noncomputable def lawS7 : { st : Stmt // lawD.1.2.1[7]? = some st } := ⟨_, by rfl⟩
noncomputable def lawS8 : { st : Stmt // lawD.1.2.1[8]? = some st } := ⟨_, by rfl⟩
noncomputable def lawS9 : { st : Stmt // lawD.1.2.1[9]? = some st } := ⟨_, by rfl⟩
noncomputable def lawS10 : { st : Stmt // lawD.1.2.1[10]? = some st } := ⟨_, by rfl⟩
noncomputable def lawS11 : { st : Stmt // lawD.1.2.1[11]? = some st } := ⟨_, by rfl⟩
noncomputable def lawS12 : { st : Stmt // lawD.1.2.1[12]? = some st } := ⟨_, by rfl⟩
noncomputable def lawS13 : { st : Stmt // lawD.1.2.1[13]? = some st } := ⟨_, by rfl⟩
noncomputable def lawS14 : { st : Stmt // lawD.1.2.1[14]? = some st } := ⟨_, by rfl⟩
noncomputable def lawS15 : { st : Stmt // lawD.1.2.1[15]? = some st } := ⟨_, by rfl⟩
noncomputable def lawS16 : { st : Stmt // lawD.1.2.1[16]? = some st } := ⟨_, by rfl⟩
noncomputable def lawS17 : { st : Stmt // lawD.1.2.1[17]? = some st } := ⟨_, by rfl⟩
noncomputable def lawS18 : { st : Stmt // lawD.1.2.1[18]? = some st } := ⟨_, by rfl⟩
noncomputable def lawS19 : { st : Stmt // lawD.1.2.1[19]? = some st } := ⟨_, by rfl⟩
noncomputable def lawS20 : { st : Stmt // lawD.1.2.1[20]? = some st } := ⟨_, by rfl⟩
noncomputable def lawS21 : { st : Stmt // lawD.1.2.1[21]? = some st } := ⟨_, by rfl⟩
noncomputable def lawS22 : { st : Stmt // lawD.1.2.1[22]? = some st } := ⟨_, by rfl⟩
noncomputable def lawS23 : { st : Stmt // lawD.1.2.1[23]? = some st } := ⟨_, by rfl⟩
noncomputable def lawS24 : { st : Stmt // lawD.1.2.1[24]? = some st } := ⟨_, by rfl⟩
noncomputable def lawS25 : { st : Stmt // lawD.1.2.1[25]? = some st } := ⟨_, by rfl⟩
noncomputable def lawS26 : { st : Stmt // lawD.1.2.1[26]? = some st } := ⟨_, by rfl⟩
noncomputable def lawS27 : { st : Stmt // lawD.1.2.1[27]? = some st } := ⟨_, by rfl⟩
noncomputable def lawS28 : { st : Stmt // lawD.1.2.1[28]? = some st } := ⟨_, by rfl⟩
noncomputable def lawS29 : { st : Stmt // lawD.1.2.1[29]? = some st } := ⟨_, by rfl⟩
theorem law_list : lawD.1.2.1 = [lawS0.1, lawS1.1, lawS2.1, lawS3.1, lawS4.1, lawS5.1, lawS6.1, lawS7.1, lawS8.1, lawS9.1, lawS10.1, lawS11.1, lawS12.1, lawS13.1, lawS14.1, lawS15.1, lawS16.1, lawS17.1, lawS18.1, lawS19.1, lawS20.1, lawS21.1, lawS22.1, lawS23.1, lawS24.1, lawS25.1, lawS26.1, lawS27.1, lawS28.1, lawS29.1] := rfl
theorem lnX {M : Model} {A : Around} {E : Value → Shared → Prop} {s : Shared} {h₀ : Heap} {L a : Addr} {m : Str → Option Value} {cn : Str} {cs : Scope} {ccd : Value} {cl : List (Str × Addr)} {x : Str} {v : Value} {Q : Value → Shared → Prop} (F : Fr h₀ L s.heap m) (hv : m x = some v) (h : Q v s)
    (hk : cs.kind = .function) (hx : (envX cn cs L a ccd cl).kindOf x = some .local) : wpAny M A (loadName (envX cn cs L a ccd cl) x) Q E s := wpAny_loadName_local hk hx F.ns hv h
noncomputable abbrev lawA (L fa : Addr) (cd : Value) : Around := callerA.deeper (lawEnv L fa cd)
end
section
open PySem PySem.W PyProof.Rows PySem.Spec PySem.Calls
set_option maxRecDepth 100000
section
open PySem PySem.W PyProof.Rows PySem.Spec PySem.Calls
set_option maxRecDepth 100000
theorem fresh_L1 : True ∧ True := by
  w_top off
  k_with_none
  first | (walk1; done) | exact ⟨trivial, trivial⟩
theorem rows_L1_1 : True := by
  k_with "eval Name" => (k_here; k_dflt (refine' nameX_L ?q56F ?q56v ?_ ?q56a ?q56b; (case q56F => k_asm); (case q56a => rfl); (case q56b => rfl); (case q56v => first | exact rfl | assumption | ((conv => lhs; whnf); assumption)); k_whole))
  k_with "loadName" => (k_here; k_dflt (refine' lnX ?q57F ?q57v ?_ ?q57a ?q57b; (case q57F => k_asm); (case q57a => rfl); (case q57b => rfl); (case q57v => first | exact rfl | assumption | ((conv => lhs; whnf); assumption)); k_whole))
  k_with "exec For Tuple Call cons nil" => (k_here; k_dflt (refine' For_F ?_ ?q58hs; (case q58hs => (intro _; rfl)); k_whole))
  k_with "exec For Name Call cons nil" => (k_here; k_dflt (refine' For_F ?_ ?q59hs; (case q59hs => (intro _; rfl)); k_whole))
  k_with "setItem ref int int" => (k_here; k_dflt (refine' ksa_set ?q60F ?q60N ?q60U ?q60hi ?q60h0 ?q60h1 ?q60hfit ?_; (case q60F => k_asm); (case q60N => k_asm); (case q60U => k_upd); (case q60hi => assumption); (case q60h0 => omega); (case q60h1 => omega); (case q60hfit => omega); k_whole); intro _ _ _ _ _ _; (try dsimp only))
  trivial
section
variable {w : World} {lo : List Str} {mean : ExcName → Option Value} {mg mb : Str → Option Value} {h₀ : Heap} {L fa : Addr} {cd : Value} {m : Str → Option Value} {led : Led} {s : Shared} {E : Value → Shared → Prop}
set_option maxHeartbeats 4000000 in
theorem st0 {Q : Flow → Shared → Prop} (X : (hd.heap_39 w.params).In h₀) (T : Top topProg lo mean mg mb h₀) (B : Below callerA h₀ [] h₀) (F : Fr h₀ L s.heap m) (N : News h₀ L s.heap led)
    (k : ∀ D h2 tk (vs : List Value), IntsAre vs [5, 7, 14] → Fr h₀ L h2 (fun y => if y = Str.ofString "sums" then some (.ref D) else m y) → News h₀ L h2 ((D, W.listOf vs.toArray 0) :: led) → (∀ p ∈ led, p.1 < D) → Q .next { s with heap := h2, toks := tk }) :
    wpAny (model P0 w) (lawA L fa cd) (exec lawS0.1 (lawEnv L fa cd)) Q E s := by
  have kf : PySem.Challenge.rw_zo0034_01 = PySem.Challenge.rw_zo0034_01 ∧ hd.heap_39 = hd.heap_39 := by
    k_fill
    exact ⟨rfl, rfl⟩
  clear kf
  unfold lawS0 lawEnv lawD
  dsimp only
  k_steps
  rename_i D h1 l1 h2 F2 N2
  exact k _ _ _ _ (.cons _ _ (.cons _ _ (.cons _ _ .nil))) F2 N2 (by first | exact l1 | exact allLt_mem l1)
set_option maxHeartbeats 4000000 in
theorem st1 {Q : Flow → Shared → Prop} {l D : Addr} {vs ns9 : List Value} {nn : Nat} {ns : List Int} (X : (hd.heap_39 w.params).In h₀) (T : Top topProg lo mean mg mb h₀) (B : Below callerA h₀ [] h₀) (F : Fr h₀ L s.heap m) (N : News h₀ L s.heap ((D, W.listOf ns9.toArray nn) :: led))
    (hl : h₀.IsList l vs.toArray) (hi : IntsAre vs ns) (hlen : ns.length ≤ 63) (hm1 : m (Str.ofString "script") = some (.ref l)) (hm2 : m (Str.ofString "sums") = some (.ref D)) (hi9 : IntsAre ns9 [5, 7, 14]) (lD : ∀ p ∈ led, p.1 < D)
    (k : ∀ m2 h2 tk (vs2 : List Value) (ds : List Int) (n2 : Nat) (_ : Unit), IntsAre vs2 ds → ds.length = 3 → (∀ x ∈ ds, 0 ≤ x ∧ x ≤ 100000000) → m2 (Str.ofString "sums") = some (.ref D) → Fr h₀ L h2 m2 → News h₀ L h2 ((D, W.listOf vs2.toArray n2) :: led) → Q .next { s with heap := h2, toks := tk }) :
    wpAny (model P0 w) (lawA L fa cd) (exec lawS1.1 (lawEnv L fa cd)) Q E s := by
  have kf : PySem.Challenge.rw_zo0034_01 = PySem.Challenge.rw_zo0034_01 ∧ hd.heap_39 = hd.heap_39 := by
    k_fill
    exact ⟨rfl, rfl⟩
  clear kf
  unfold lawS1 lawEnv lawD
  dsimp only
  k_steps
  rename_i D2 ws h1 F1 N1 hI1 hC1 hL1 l1
  obtain ⟨l1a, l1b⟩ := l1
  k_dflt (refine' iter_enumJ (B := D2 + 1) rfl rfl rfl rfl F1 N1 (fun i mm led' => ∃ vs9 ds n9, led' = (D2, W.listOf ws.toArray 0) :: (D, W.listOf vs9.toArray n9) :: led ∧ IntsAre vs9 ds ∧ ds.length = 3 ∧ (∀ x ∈ ds, 0 ≤ x ∧ x ≤ 14 + 1000000 * (i : Int)) ∧ mm (Str.ofString "sums") = some (.ref D)) ?hJl ?hJB ?hB ?h0 ?turn ?done)
  case hJl => rintro i mm led' ⟨vs9, ds, n9, rfl, _⟩; exact .head _
  case hJB =>
    rintro i mm led' ⟨vs9, ds, n9, rfl, _⟩ p hp
    rcases List.mem_cons.mp hp with rfl | hp
    · exact Nat.lt_succ_self D2
    rcases List.mem_cons.mp hp with rfl | hp
    · exact Nat.lt_succ_of_lt l1a
    · exact Nat.lt_succ_of_lt (Nat.lt_trans (lD p hp) l1a)
  case hB => exact Heap.lt_size (N1 _ (.head _)).1
  case h0 => exact ⟨ns9, _, nn, rfl, hi9, rfl, by simp, hm2⟩
  case turn =>
    rintro i v t m₁ led' e it oe oi h tk hv ⟨vs9, ds, n9, rfl, hi9', hl9, hb9, hms⟩ hBi hie F2 N2
    obtain ⟨x, tx, rfl, hx⟩ := IntsAre.at hI1 i v hv
    dsimp only [List.cons_append, List.nil_append] at F2 N2 ⊢
    have hit : @LT.lt Nat _ D2 it := hBi
    have hie2 : @LT.lt Nat _ it e := hie
    have hD : @LT.lt Nat _ D D2 := l1a
    have lD1 : ∀ p ∈ led, p.1 ≠ D := fun p hp => Nat.ne_of_lt (lD p hp)
    have hm0 : 0 ≤ (i : Int).fmod 3 ∧ (i : Int).fmod 3 < 3 := ⟨Int.fmod_nonneg_of_pos _ (by decide), Int.fmod_lt_of_pos _ (by decide)⟩
    have hb63 : (2 : Int) ^ 63 = 9223372036854775808 := by decide
    k_steps
    rename_i t9 h9 F9 N9 hI9 hL9 hS9
    refine ⟨_, _, _, _, rfl, F9, N9, _, _, _, rfl, hI9, hL9.trans hl9, fun y hy => ?_, hms⟩
    have hx0 : 0 ≤ x.fmod 1000000 ∧ x.fmod 1000000 < 1000000 := ⟨Int.fmod_nonneg_of_pos _ (by decide), Int.fmod_lt_of_pos _ (by decide)⟩
    rcases List.mem_or_eq_of_mem_set hy with h | rfl
    · obtain ⟨h3, h4⟩ := hb9 y h
      exact ⟨h3, by push_cast; omega⟩
    · have hg : ds.getD ((i : Int).fmod 3).toNat 0 ∈ ds := by
        rw [List.getD_eq_getElem?_getD, List.getElem?_eq_getElem (by omega)]
        exact List.getElem_mem _
      obtain ⟨h3, h4⟩ := hb9 _ hg
      push_cast
      omega
  case done =>
    rintro m₁ led' h tk ⟨vs9, ds, n9, rfl, hi9', hl9, hb9, hms⟩ F2 N2
    have hws : ws.length ≤ 60 := by
      have := hI1.length
      omega
    refine k _ _ _ _ _ _ () hi9' hl9 (fun x hx => ⟨(hb9 x hx).1, by have := (hb9 x hx).2; omega⟩) hms F2 fun p hp => N2 p (.tail _ hp)
end
end
section
open PySem PySem.W PyProof.Rows PySem.Spec PySem.Calls
set_option maxRecDepth 100000
theorem fresh_L2 : True ∧ True := by
  w_top off
  k_with_none
  first | (walk1; done) | exact ⟨trivial, trivial⟩
theorem rows_L2_1 : True := by
  k_with "eval Name" => (k_here; k_dflt (refine' nameX_L ?q61F ?q61v ?_ ?q61a ?q61b; (case q61F => k_asm); (case q61a => rfl); (case q61b => rfl); (case q61v => first | exact rfl | assumption | ((conv => lhs; whnf); assumption)); k_whole))
  k_with "loadName" => (k_here; k_dflt (refine' lnX ?q62F ?q62v ?_ ?q62a ?q62b; (case q62F => k_asm); (case q62a => rfl); (case q62b => rfl); (case q62v => first | exact rfl | assumption | ((conv => lhs; whnf); assumption)); k_whole))
  k_with "exec For Tuple Call cons nil" => (k_here; k_dflt (refine' For_F ?_ ?q63hs; (case q63hs => (intro _; rfl)); k_whole))
  k_with "exec For Name Call cons nil" => (k_here; k_dflt (refine' For_F ?_ ?q64hs; (case q64hs => (intro _; rfl)); k_whole))
  trivial
noncomputable def bsOf : Nat → Int
  | 0 => 2
  | 1 => 3
  | 2 => 4
  | _ => 5
noncomputable def plOf : Nat → Int
  | 0 => 4
  | 1 => 3
  | 2 => 2
  | _ => 2
noncomputable def tlOf : Nat → List Int
  | 0 => []
  | 1 => [0]
  | 2 => [127, 1]
  | _ => [0, 2]
noncomputable abbrev up (m : Str → Option Value) (x : String) (v : Value) : Str → Option Value := fun y => if y = Str.ofString x then some v else m y
section
variable {w : World} {lo : List Str} {mean : ExcName → Option Value} {mg mb : Str → Option Value} {h₀ : Heap} {L fa : Addr} {cd : Value} {m : Str → Option Value} {led : Led} {s : Shared} {E : Value → Shared → Prop}
set_option maxHeartbeats 4000000 in
theorem st2 {Q : Flow → Shared → Prop} {D : Addr} {vs : List Value} {nn : Nat} {ds : List Int} (X : (hd.heap_39 w.params).In h₀) (T : Top topProg lo mean mg mb h₀) (B : Below callerA h₀ [] h₀) (F : Fr h₀ L s.heap m) (N : News h₀ L s.heap ((D, W.listOf vs.toArray nn) :: led))
    (hm : m (Str.ofString "sums") = some (.ref D)) (hi : IntsAre vs ds) (hl : ds.length = 3) (lD : ∀ p ∈ led, p.1 < D)
    (k : ∀ j h2 tk t u, j < 4 → Fr h₀ L h2 (up (up m "base" (.int (bsOf j) t)) "places" (.int (plOf j) u)) → News h₀ L h2 ((D, W.listOf vs.toArray nn) :: led) → Q .next { s with heap := h2, toks := tk }) :
    wpAny (model P0 w) (lawA L fa cd) (exec lawS2.1 (lawEnv L fa cd)) Q E s := by
  have kf : PySem.Challenge.rw_zo0034_01 = PySem.Challenge.rw_zo0034_01 ∧ hd.heap_39 = hd.heap_39 := by
    k_fill
    exact ⟨rfl, rfl⟩
  clear kf
  unfold lawS2 lawEnv lawD
  dsimp only
  have hb63 : (2 : Int) ^ 63 = 9223372036854775808 := by decide
  k_steps
  have hx0 : ∀ x : Int, 0 ≤ x.fmod 4 ∧ x.fmod 4 < 4 := fun x => ⟨Int.fmod_nonneg_of_pos _ (by decide), Int.fmod_lt_of_pos _ (by decide)⟩
  generalize hx : Int.fmod (List.getD _ _ _) 4 = x9
  have hx2 := hx0 (ds.getD (Int.toNat 0) 0)
  rw [hx] at hx2
  obtain rfl | rfl | rfl | rfl : x9 = 0 ∨ x9 = 1 ∨ x9 = 2 ∨ x9 = 3 := by omega
  · k_steps
    rename Fr _ _ _ _ => FF
    rename News _ _ _ _ => NN
    exact k 0 _ _ _ _ (by decide) FF (cb_drop NN (fun p hp => by repeat (first | exact hp | refine List.Mem.tail _ ?_)))
  · k_steps
    rename Fr _ _ _ _ => FF
    rename News _ _ _ _ => NN
    exact k 1 _ _ _ _ (by decide) FF (cb_drop NN (fun p hp => by repeat (first | exact hp | refine List.Mem.tail _ ?_)))
  · k_steps
    rename Fr _ _ _ _ => FF
    rename News _ _ _ _ => NN
    exact k 2 _ _ _ _ (by decide) FF (cb_drop NN (fun p hp => by repeat (first | exact hp | refine List.Mem.tail _ ?_)))
  · k_steps
    rename Fr _ _ _ _ => FF
    rename News _ _ _ _ => NN
    exact k 3 _ _ _ _ (by decide) FF (cb_drop NN (fun p hp => by repeat (first | exact hp | refine List.Mem.tail _ ?_)))
set_option maxHeartbeats 4000000 in
theorem st3 {Q : Flow → Shared → Prop} {D : Addr} {vs : List Value} {nn : Nat} {ds : List Int} (X : (hd.heap_39 w.params).In h₀) (T : Top topProg lo mean mg mb h₀) (B : Below callerA h₀ [] h₀) (F : Fr h₀ L s.heap m) (N : News h₀ L s.heap ((D, W.listOf vs.toArray nn) :: led))
    (hm : m (Str.ofString "sums") = some (.ref D)) (hi : IntsAre vs ds) (hl : ds.length = 3) (hb : ∀ x ∈ ds, 0 ≤ x ∧ x ≤ 100000000) (lD : ∀ p ∈ led, p.1 < D)
    (k : ∀ (r : Nat) h2 tk (TT : Nat) (ts : List Value), r < 4 → IntsAre ts (tlOf r) → Fr h₀ L h2 (up m "tail" (.ref TT)) → News h₀ L h2 ((TT, W.listOf ts.toArray 0) :: (D, W.listOf vs.toArray nn) :: led) → @LT.lt Nat _ D TT → Q .next { s with heap := h2, toks := tk }) :
    wpAny (model P0 w) (lawA L fa cd) (exec lawS3.1 (lawEnv L fa cd)) Q E s := by
  have kf : PySem.Challenge.rw_zo0034_01 = PySem.Challenge.rw_zo0034_01 ∧ hd.heap_39 = hd.heap_39 := by
    k_fill
    exact ⟨rfl, rfl⟩
  clear kf
  unfold lawS3 lawEnv lawD
  dsimp only
  have hb63 : (2 : Int) ^ 63 = 9223372036854775808 := by decide
  k_steps
  have hx0 : ∀ x : Int, 0 ≤ x.fmod 4 ∧ x.fmod 4 < 4 := fun x => ⟨Int.fmod_nonneg_of_pos _ (by decide), Int.fmod_lt_of_pos _ (by decide)⟩
  generalize hx : Int.fmod (Int.fdiv _ _) 4 = x9
  have hx2 := hx0 ((ds.getD (Int.toNat 0) 0).fdiv 4)
  rw [hx] at hx2
  obtain rfl | rfl | rfl | rfl : x9 = 0 ∨ x9 = 1 ∨ x9 = 2 ∨ x9 = 3 := by omega
  · k_steps
    rename Fr _ _ _ _ => FF
    rename News _ _ _ _ => NN
    refine' k 0 _ _ _ _ (by decide) ?hi FF (cb_drop NN (List.forall_mem_cons.mpr ⟨?h1, ?h2⟩)) (by omega)
    case h1 => repeat (first | exact List.Mem.head _ | refine List.Mem.tail _ ?_)
    case h2 =>
      intro p hp
      repeat (first | exact hp | refine List.Mem.tail _ ?_)
    case hi => exact .nil
  · k_steps
    rename Fr _ _ _ _ => FF
    rename News _ _ _ _ => NN
    refine' k 1 _ _ _ _ (by decide) ?hi FF (cb_drop NN (List.forall_mem_cons.mpr ⟨?h1, ?h2⟩)) (by omega)
    case h1 => repeat (first | exact List.Mem.head _ | refine List.Mem.tail _ ?_)
    case h2 =>
      intro p hp
      repeat (first | exact hp | refine List.Mem.tail _ ?_)
    case hi => exact .cons _ _ .nil
  · k_steps
    rename Fr _ _ _ _ => FF
    rename News _ _ _ _ => NN
    refine' k 2 _ _ _ _ (by decide) ?hi FF (cb_drop NN (List.forall_mem_cons.mpr ⟨?h1, ?h2⟩)) (by omega)
    case h1 => repeat (first | exact List.Mem.head _ | refine List.Mem.tail _ ?_)
    case h2 =>
      intro p hp
      repeat (first | exact hp | refine List.Mem.tail _ ?_)
    case hi => exact .cons _ _ (.cons _ _ .nil)
  · k_steps
    rename Fr _ _ _ _ => FF
    rename News _ _ _ _ => NN
    refine' k 3 _ _ _ _ (by decide) ?hi FF (cb_drop NN (List.forall_mem_cons.mpr ⟨?h1, ?h2⟩)) (by omega)
    case h1 => repeat (first | exact List.Mem.head _ | refine List.Mem.tail _ ?_)
    case h2 =>
      intro p hp
      repeat (first | exact hp | refine List.Mem.tail _ ?_)
    case hi => exact .cons _ _ (.cons _ _ .nil)
end
end
section
open PySem PySem.W PyProof.Rows PySem.Spec PySem.Calls
set_option maxRecDepth 100000
theorem fresh_L3 : True ∧ True := by
  w_top off
  k_with_none
  first | (walk1; done) | exact ⟨trivial, trivial⟩
theorem rows_L3_1 : True := by
  k_with "eval Name" => (k_here; k_dflt (refine' nameX_L ?q65F ?q65v ?_ ?q65a ?q65b; (case q65F => k_asm); (case q65a => rfl); (case q65b => rfl); (case q65v => first | exact rfl | assumption | ((conv => lhs; whnf); assumption)); k_whole))
  k_with "loadName" => (k_here; k_dflt (refine' lnX ?q66F ?q66v ?_ ?q66a ?q66b; (case q66F => k_asm); (case q66a => rfl); (case q66b => rfl); (case q66v => first | exact rfl | assumption | ((conv => lhs; whnf); assumption)); k_whole))
  k_with "exec For Tuple Call cons nil" => (k_here; k_dflt (refine' For_F ?_ ?q67hs; (case q67hs => (intro _; rfl)); k_whole))
  k_with "exec For Name Call cons nil" => (k_here; k_dflt (refine' For_F ?_ ?q68hs; (case q68hs => (intro _; rfl)); k_whole))
  trivial
noncomputable def whoF : Nat → Int
  | 0 => 16
  | 1 => 27
  | 2 => 16
  | _ => 25
section
variable {w : World} {lo : List Str} {mean : ExcName → Option Value} {mg mb : Str → Option Value} {h₀ : Heap} {L fa : Addr} {cd : Value} {m : Str → Option Value} {led : Led} {s : Shared} {E : Value → Shared → Prop}
set_option maxHeartbeats 4000000 in
theorem st4 {Q : Flow → Shared → Prop} {j : Nat} {t u : Tok} (hj : j < 4) (X : (hd.heap_39 w.params).In h₀) (T : Top topProg lo mean mg mb h₀) (B : Below callerA h₀ [] h₀) (F : Fr h₀ L s.heap m) (N : News h₀ L s.heap led)
    (hm1 : m (Str.ofString "base") = some (.int (bsOf j) t)) (hm2 : m (Str.ofString "places") = some (.int (plOf j) u))
    (k : ∀ h2 tk t, Fr h₀ L h2 (up m "whole" (.int (whoF j) t)) → News h₀ L h2 led → Q .next { s with heap := h2, toks := tk }) :
    wpAny (model P0 w) (lawA L fa cd) (exec lawS4.1 (lawEnv L fa cd)) Q E s := by
  have kf : PySem.Challenge.rw_zo0034_01 = PySem.Challenge.rw_zo0034_01 ∧ hd.heap_39 = hd.heap_39 := by
    k_fill
    exact ⟨rfl, rfl⟩
  clear kf
  unfold lawS4 lawEnv lawD
  dsimp only
  match j, hj with
  | 0, _ =>
    dsimp only [bsOf, plOf] at hm1 hm2
    k_steps
    rename Fr _ _ _ _ => FF
    rename News _ _ _ _ => NN
    exact k _ _ _ FF NN
  | 1, _ =>
    dsimp only [bsOf, plOf] at hm1 hm2
    k_steps
    rename Fr _ _ _ _ => FF
    rename News _ _ _ _ => NN
    exact k _ _ _ FF NN
  | 2, _ =>
    dsimp only [bsOf, plOf] at hm1 hm2
    k_steps
    rename Fr _ _ _ _ => FF
    rename News _ _ _ _ => NN
    exact k _ _ _ FF NN
  | 3, _ =>
    dsimp only [bsOf, plOf] at hm1 hm2
    k_steps
    rename Fr _ _ _ _ => FF
    rename News _ _ _ _ => NN
    exact k _ _ _ FF NN
set_option maxHeartbeats 4000000 in
theorem st5 {Q : Flow → Shared → Prop} {D : Addr} {vs : List Value} {nn : Nat} {ds : List Int} {wh : Int} {t : Tok} (X : (hd.heap_39 w.params).In h₀) (T : Top topProg lo mean mg mb h₀) (B : Below callerA h₀ [] h₀) (F : Fr h₀ L s.heap m) (N : News h₀ L s.heap led) (hD : (D, W.listOf vs.toArray nn) ∈ led)
    (hm : m (Str.ofString "sums") = some (.ref D)) (hm2 : m (Str.ofString "whole") = some (.int wh t)) (hi : IntsAre vs ds) (hl : ds.length = 3) (hb : ∀ x ∈ ds, 0 ≤ x ∧ x ≤ 100000000) (hw : 16 ≤ wh) (hw2 : wh ≤ 27)
    (k : ∀ h2 tk t, Fr h₀ L h2 (up m "low" (.int ((ds.getD 1 0).fmod wh) t)) → News h₀ L h2 led → Q .next { s with heap := h2, toks := tk }) :
    wpAny (model P0 w) (lawA L fa cd) (exec lawS5.1 (lawEnv L fa cd)) Q E s := by
  have kf : PySem.Challenge.rw_zo0034_01 = PySem.Challenge.rw_zo0034_01 ∧ hd.heap_39 = hd.heap_39 := by
    k_fill
    exact ⟨rfl, rfl⟩
  clear kf
  unfold lawS5 lawEnv lawD
  dsimp only
  have hb63 : (2 : Int) ^ 63 = 9223372036854775808 := by decide
  k_steps
  rename Fr _ _ _ _ => FF
  rename News _ _ _ _ => NN
  exact k _ _ _ FF NN
set_option maxHeartbeats 4000000 in
theorem st6 {Q : Flow → Shared → Prop} {D : Addr} {vs : List Value} {nn : Nat} {ds : List Int} {wh lw : Int} {t u : Tok} (X : (hd.heap_39 w.params).In h₀) (T : Top topProg lo mean mg mb h₀) (B : Below callerA h₀ [] h₀) (F : Fr h₀ L s.heap m) (N : News h₀ L s.heap led) (hD : (D, W.listOf vs.toArray nn) ∈ led)
    (hm : m (Str.ofString "sums") = some (.ref D)) (hm2 : m (Str.ofString "whole") = some (.int wh t)) (hm3 : m (Str.ofString "low") = some (.int lw u)) (hi : IntsAre vs ds) (hl : ds.length = 3) (hb : ∀ x ∈ ds, 0 ≤ x ∧ x ≤ 100000000) (hw : 16 ≤ wh) (hw2 : wh ≤ 27) (hl0 : 0 ≤ lw) (hl1 : lw < wh)
    (k : ∀ h2 tk t, Fr h₀ L h2 (up m "high" (.int (lw + 1 + (ds.getD 2 0).fmod (wh - lw)) t)) → News h₀ L h2 led → Q .next { s with heap := h2, toks := tk }) :
    wpAny (model P0 w) (lawA L fa cd) (exec lawS6.1 (lawEnv L fa cd)) Q E s := by
  have kf : PySem.Challenge.rw_zo0034_01 = PySem.Challenge.rw_zo0034_01 ∧ hd.heap_39 = hd.heap_39 := by
    k_fill
    exact ⟨rfl, rfl⟩
  clear kf
  unfold lawS6 lawEnv lawD
  dsimp only
  have hb63 : (2 : Int) ^ 63 = 9223372036854775808 := by decide
  k_steps
  rename Fr _ _ _ _ => FF
  rename News _ _ _ _ => NN
  exact k _ _ _ FF NN
end
end
section
open PySem PySem.W PyProof.Rows PySem.Spec PySem.Calls
set_option maxRecDepth 100000
theorem fresh_L4 : True ∧ True := by
  w_top off
  k_with_none
  first | (walk1; done) | exact ⟨trivial, trivial⟩
theorem rows_L4_1 : True := by
  k_with "eval Name" => (k_here; k_dflt (refine' nameX_L ?q69F ?q69v ?_ ?q69a ?q69b; (case q69F => k_asm); (case q69a => rfl); (case q69b => rfl); (case q69v => first | exact rfl | assumption | ((conv => lhs; whnf); assumption)); k_whole))
  k_with "loadName" => (k_here; k_dflt (refine' lnX ?q70F ?q70v ?_ ?q70a ?q70b; (case q70F => k_asm); (case q70a => rfl); (case q70b => rfl); (case q70v => first | exact rfl | assumption | ((conv => lhs; whnf); assumption)); k_whole))
  k_with "exec For Tuple Call cons nil" => (k_here; k_dflt (refine' For_F ?_ ?q71hs; (case q71hs => (intro _; rfl)); k_whole))
  k_with "exec For Name Call cons nil" => (k_here; k_dflt (refine' For_F ?_ ?q72hs; (case q72hs => (intro _; rfl)); k_whole))
  trivial
noncomputable abbrev Tz1 : Led := [(80, tabObj #[]), (80, tabObj #[])]
noncomputable abbrev Tz2 : Led := [(87, tabObj #[]), (87, tabObj #[])]
theorem tabs_first {rest : Led} (h : ∀ q ∈ rest, 87 < q.1) : Tabs Tz1 Tz2 rest :=
  ⟨⟨_, _, _, rfl, .inl ⟨rfl, rfl, rfl⟩⟩, ⟨_, _, _, rfl, .inl ⟨rfl, rfl, rfl⟩⟩, (fun p hp q hq e => by
    simp only [List.mem_cons, List.not_mem_nil, or_false] at hp hq
    rcases hp with rfl | rfl <;> rcases hq with rfl | rfl <;> cases e), fun q hq p hp e => by
    have := h q hq
    simp only [List.mem_append, List.mem_cons, List.not_mem_nil, or_false] at hp
    rw [← e] at this
    rcases hp with (rfl | rfl) | (rfl | rfl) <;> exact absurd this (by decide)⟩
theorem use_intsT {ds : List Int} {pre9 : Led} {h₀ : Heap} {L : Addr} {m : Str → Option Value} {s : Shared} {Q : Value → Shared → Prop}
    (h : ∀ (D : Nat) (vs : List Value) (T1' T2' : Led) (h' : Heap) (tk' : Nat), IntsAre vs ds → Tabs T1' T2' ((D, W.listOf vs.toArray 0) :: pre9) → Fr h₀ L h' m → News h₀ L h' ((D, W.listOf vs.toArray 0) :: (pre9 ++ (T1' ++ T2'))) → (∀ p ∈ pre9, p.1 < D) → Q (.ref D) { s with heap := h', toks := tk' }) :
    ∀ (v : Value) (own T1' T2' : Led) (h' : Heap) (tk' : Nat), Ints ds v own → Tabs T1' T2' (own ++ pre9) → Fr h₀ L h' m → News h₀ L h' (own ++ (pre9 ++ (T1' ++ T2'))) → (∀ p ∈ pre9, ∀ q ∈ own, p.1 < q.1) → Q v { s with heap := h', toks := tk' } := by
  rintro v own T1' T2' h' tk' ⟨D, vs, rfl, rfl, hi⟩ hT F N l
  exact h D vs T1' T2' h' tk' hi hT F N fun p hp => l p hp _ (.head _)
theorem rows_L4_2 : True := by
  k_with "call ref" => (k_here; (with_reducible show wpAny _ _ (call (Value.ref 127) _) _ _ _); (rename Tabs _ _ _ => hT9); k_dflt (refine' tt_use (sizes_spec _ _ _ _ _ _ _) ?q73B ?q73F ?q73X ?q73N ?q73U ?q73T ?q73hk hT9 ?q73hp ?q73dp ?q73un (use_intsT ?_); (case q73B => k_asm); (case q73F => k_asm); (case q73X => k_asm); (case q73N => k_asm); (case q73U => exact TlA.app); (case q73T => k_asm); (case q73hk => exact rfl); (case q73hp => ((try dsimp only); omega)); (case q73dp => ktr_room); (case q73un => ktr_units); k_whole); intro _ _ _ _ _ _ _ _ _ _ _; (try dsimp only))
  trivial
theorem pow_bd {b : Int} {i : Nat} (hb : b = 2 ∨ b = 3 ∨ b = 4 ∨ b = 5) (hi : i < 4) : 1 ≤ b ^ ((i + 1 : Nat) : Int).toNat ∧ b ^ ((i + 1 : Nat) : Int).toNat ≤ 1000 := by
  have hi4 : i = 0 ∨ i = 1 ∨ i = 2 ∨ i = 3 := by omega
  rcases hb with rfl | rfl | rfl | rfl <;> rcases hi4 with rfl | rfl | rfl | rfl <;> decide
theorem rows_L4_3 : True := by
  k_with "binaryOp FloorDiv int int" => (k_here; (refine floordiv_int (by omega) ?_); (try dsimp only))
  trivial
section
variable {w : World} {lo : List Str} {mean : ExcName → Option Value} {mg mb : Str → Option Value} {h₀ : Heap} {L fa : Addr} {cd : Value} {m : Str → Option Value} {led : Led} {s : Shared} {E : Value → Shared → Prop}
set_option maxHeartbeats 4000000 in
theorem st7 {Q : Flow → Shared → Prop} {lw hg bs : Int} {t1 t2 t3 : Tok} {rest : Led} (X : (hd.heap_39 w.params).In h₀) (T : Top topProg lo mean mg mb h₀) (B : Below callerA h₀ [] h₀) (F : Fr h₀ L s.heap m) (N : News h₀ L s.heap (rest ++ (Tz1 ++ Tz2))) (hr : ∀ q ∈ rest, 87 < q.1)
    (hm1 : m (Str.ofString "low") = some (.int lw t1)) (hm2 : m (Str.ofString "high") = some (.int hg t2)) (hm3 : m (Str.ofString "base") = some (.int bs t3)) (h0 : 0 ≤ lw) (h1 : lw < hg) (h2 : hg < 32) (h3 : 2 ≤ bs) (h4 : bs ≤ 5)
    (k : ∀ h2 tk (Sz : Nat) (vs : List Value) (T1' T2' : Led), IntsAre vs (sizesF bs 5 lw hg 1 [] []) → Tabs T1' T2' ((Sz, W.listOf vs.toArray 0) :: rest) → Fr h₀ L h2 (up m "sizes" (.ref Sz)) → News h₀ L h2 ((Sz, W.listOf vs.toArray 0) :: (rest ++ (T1' ++ T2'))) → (∀ p ∈ rest, p.1 < Sz) → Q .next { s with heap := h2, toks := tk }) :
    wpAny (model P0 w) (lawA L fa cd) (exec lawS7.1 (lawEnv L fa cd)) Q E s := by
  have kf : PySem.Challenge.rw_zo0034_01 = PySem.Challenge.rw_zo0034_01 ∧ hd.heap_39 = hd.heap_39 := by
    k_fill
    exact ⟨rfl, rfl⟩
  clear kf
  unfold lawS7 lawEnv lawD
  dsimp only
  have hT9 := tabs_first hr
  k_steps
  rename_i Sz vs T1' T2' h9 tk9 hi9 hT9 l9 h10 F10 N10
  exact k _ _ _ _ _ _ hi9 hT9 F10 N10 l9
theorem st8 {Q : Flow → Shared → Prop} (F : Fr h₀ L s.heap m) (N : News h₀ L s.heap led)
    (k : ∀ h2 tk t, Fr h₀ L h2 (up m "full" (.int 0 t)) → News h₀ L h2 led → Q .next { s with heap := h2, toks := tk }) :
    wpAny (model P0 w) (lawA L fa cd) (exec lawS8.1 (lawEnv L fa cd)) Q E s := by
  unfold lawS8 lawEnv lawD
  dsimp only
  k_steps
  rename Fr _ _ _ _ => FF
  rename News _ _ _ _ => NN
  exact k _ _ _ FF NN
/-- what the powers have added up to -/
noncomputable def fullF (bs lw hg : Int) : Nat → Int
  | 0 => 0
  | i + 1 => fullF bs lw hg i + if hg.fdiv (bs ^ (i + 1)) + (-lw).fdiv (bs ^ (i + 1)) > 0 then hg.fdiv (bs ^ (i + 1)) + (-lw).fdiv (bs ^ (i + 1)) else 0
set_option maxHeartbeats 4000000 in
theorem st9 {Q : Flow → Shared → Prop} {lw hg : Int} {j : Nat} {t1 t2 t3 t4 t5 : Tok} (hj : j < 4) (X : (hd.heap_39 w.params).In h₀) (T : Top topProg lo mean mg mb h₀) (B : Below callerA h₀ [] h₀) (F : Fr h₀ L s.heap m) (N : News h₀ L s.heap led)
    (hm1 : m (Str.ofString "low") = some (.int lw t1)) (hm2 : m (Str.ofString "high") = some (.int hg t2)) (hm3 : m (Str.ofString "base") = some (.int (bsOf j) t3)) (hm4 : m (Str.ofString "places") = some (.int (plOf j) t4)) (hm5 : m (Str.ofString "full") = some (.int 0 t5)) (h0 : 0 ≤ lw) (h1 : lw < hg) (h2 : hg < 32)
    (k : ∀ m2 h2 tk t, (∀ y, y ≠ Str.ofString "full" → y ≠ Str.ofString "power" → m2 y = m y) → m2 (Str.ofString "full") = some (.int (fullF (bsOf j) lw hg (plOf j).toNat) t) → Fr h₀ L h2 m2 → News h₀ L h2 led → Q .next { s with heap := h2, toks := tk }) :
    wpAny (model P0 w) (lawA L fa cd) (exec lawS9.1 (lawEnv L fa cd)) Q E s := by
  have kf : PySem.Challenge.rw_zo0034_01 = PySem.Challenge.rw_zo0034_01 ∧ hd.heap_39 = hd.heap_39 := by
    k_fill
    exact ⟨rfl, rfl⟩
  clear kf
  unfold lawS9 lawEnv lawD
  dsimp only
  have T9 : ∀ (b : Int) (p : Nat), (b = 2 ∨ b = 3 ∨ b = 4 ∨ b = 5) → p ≤ 4 → m (Str.ofString "base") = some (.int b t3) → m (Str.ofString "places") = some (.int p t4) →
      (∀ m2 h2 tk t, (∀ y, y ≠ Str.ofString "full" → y ≠ Str.ofString "power" → m2 y = m y) → m2 (Str.ofString "full") = some (.int (fullF b lw hg p) t) → Fr h₀ L h2 m2 → News h₀ L h2 led → Q .next { s with heap := h2, toks := tk }) →
      wpAny (model P0 w) (lawA L fa cd) (exec lawS9.1 (lawEnv L fa cd)) Q E s := by
    intro b p hb hp hm3 hm4 k
    unfold lawS9 lawEnv lawD
    dsimp only
    have hp0 : (0 : Int) ≤ (p : Int) := by omega
    k_steps
    rename_i hB tkB ta tb tc hr FB NB hsz
    k_dflt (refine' iter_rangeJ (n := p) rfl rfl rfl hr ?hsm ?hn FB NB (fun i mm led' => led' = led ∧ (∀ y, y ≠ Str.ofString "full" → y ≠ Str.ofString "power" → mm y = m y) ∧ ∃ tf, mm (Str.ofString "full") = some (.int (fullF b lw hg i) tf)) ?h0 ?turn ?done)
    case hsm => exact rng_small (by omega) (by omega) (by omega) (by omega) (by omega) (by omega)
    case hn =>
      rw [rangeSize_nat]; omega
    case h0 => exact ⟨rfl, fun _ _ _ => rfl, _, hm5⟩
    case turn =>
      rintro i ti m₁ led9 I it h tk hi ⟨rfl, hmm, tf, hmf⟩ hlt F2 N2
      dsimp only at F2 N2 ⊢
      have hm1' : m₁ (Str.ofString "low") = some (.int lw t1) := (hmm _ (by decide) (by decide)).trans hm1
      have hm2' : m₁ (Str.ofString "high") = some (.int hg t2) := (hmm _ (by decide) (by decide)).trans hm2
      have hm3' : m₁ (Str.ofString "base") = some (.int b t3) := (hmm _ (by decide) (by decide)).trans hm3
      have e1 : (1 + (i : Int) * 1) = ((i + 1 : Nat) : Int) := by push_cast; omega
      rw [e1] at F2
      have hbd := pow_bd (b := b) (i := i) hb (by omega)
      obtain ⟨hbd1, hbd2⟩ := hbd
      k_steps
      show TurnE _ _ _ _ _ _ _
      rename Fr _ _ _ _ => FF
      rename News _ _ _ _ => NN
      refine TurnE.intro FF NN (.head _) (fun p hp => .tail _ hp) hlt ⟨rfl, fun y y1 y2 => ?_, _, rfl⟩
      dsimp only
      rw [if_neg y1, if_neg y2]
      exact hmm y y1 y2
    case done =>
      rintro m₁ led9 h tk ⟨rfl, hmm, tf, hmf⟩ F2 N2
      exact k _ _ _ _ hmm hmf F2 N2
  match j, hj with
  | 0, _ => exact T9 2 4 (.inl rfl) (by decide) hm3 hm4 k
  | 1, _ => exact T9 3 3 (.inr (.inl rfl)) (by decide) hm3 hm4 k
  | 2, _ => exact T9 4 2 (.inr (.inr (.inl rfl))) (by decide) hm3 hm4 k
  | 3, _ => exact T9 5 2 (.inr (.inr (.inr rfl))) (by decide) hm3 hm4 k
end
end
section
open PySem PySem.W PyProof.Rows PySem.Spec PySem.Calls
set_option maxRecDepth 100000
theorem fresh_L5 : True ∧ True := by
  w_top off
  k_with_none
  first | (walk1; done) | exact ⟨trivial, trivial⟩
theorem rows_L5_1 : True := by
  k_with "eval Name" => (k_here; k_dflt (refine' nameX_L ?q75F ?q75v ?_ ?q75a ?q75b; (case q75F => k_asm); (case q75a => rfl); (case q75b => rfl); (case q75v => first | exact rfl | assumption | ((conv => lhs; whnf); assumption)); k_whole))
  k_with "loadName" => (k_here; k_dflt (refine' lnX ?q76F ?q76v ?_ ?q76a ?q76b; (case q76F => k_asm); (case q76a => rfl); (case q76b => rfl); (case q76v => first | exact rfl | assumption | ((conv => lhs; whnf); assumption)); k_whole))
  k_with "exec For Tuple Call cons nil" => (k_here; k_dflt (refine' For_F ?_ ?q77hs; (case q77hs => (intro _; rfl)); k_whole))
  k_with "exec For Name Call cons nil" => (k_here; k_dflt (refine' For_F ?_ ?q78hs; (case q78hs => (intro _; rfl)); k_whole))
  k_with "binaryOp Mult int int" => (k_here; (refine mulB_K (by omega) (by omega) ?_); (try dsimp only))
  k_with "call builtin:len" => (k_here; (with_reducible show wpAny _ _ (call (Value.builtin "len") [Value.ref _]) _ _ _); k_dflt (refine' kst_len ?q80k1 ?q80k2 ?q80k3 ?q80k4 ?_; (case q80k1 => k_asm); (case q80k2 => k_mem); (case q80k3 => exact IntsAre.length (by assumption)); (case q80k4 => omega); k_whole))
  trivial
section
variable {w : World} {lo : List Str} {mean : ExcName → Option Value} {mg mb : Str → Option Value} {h₀ : Heap} {L fa : Addr} {cd : Value} {m : Str → Option Value} {led : Led} {s : Shared} {E : Value → Shared → Prop}
set_option maxHeartbeats 4000000 in
theorem st10 {Q : Flow → Shared → Prop} {lw hg b full : Int} {t1 t2 t3 t4 : Tok} {Sz : Addr} {vs : List Value} {nn : Nat} {sz : List Int} (X : (hd.heap_39 w.params).In h₀) (T : Top topProg lo mean mg mb h₀) (B : Below callerA h₀ [] h₀) (F : Fr h₀ L s.heap m) (N : News h₀ L s.heap led) (hS : (Sz, W.listOf vs.toArray nn) ∈ led)
    (hm1 : m (Str.ofString "low") = some (.int lw t1)) (hm2 : m (Str.ofString "high") = some (.int hg t2)) (hm3 : m (Str.ofString "base") = some (.int b t3)) (hm4 : m (Str.ofString "full") = some (.int full t4)) (hm5 : m (Str.ofString "sizes") = some (.ref Sz)) (hi : IntsAre vs sz)
    (hf0 : 0 ≤ full) (hf1 : full ≤ 100) (hlen : sz.length ≤ 60) (he : (sz.length : Int) = hg - lw - (b - 1) * full)
    (k : ∀ h2 tk, Fr h₀ L h2 m → News h₀ L h2 led → Q .next { s with heap := h2, toks := tk }) :
    wpAny (model P0 w) (lawA L fa cd) (exec lawS10.1 (lawEnv L fa cd)) Q E s := by
  have kf : PySem.Challenge.rw_zo0034_01 = PySem.Challenge.rw_zo0034_01 ∧ hd.heap_39 = hd.heap_39 := by
    k_fill
    exact ⟨rfl, rfl⟩
  clear kf
  unfold lawS10 lawEnv lawD
  dsimp only
  k_steps
  all_goals first
    | (rename Fr _ _ _ _ => FF
       rename News _ _ _ _ => NN
       exact k _ _ FF NN)
    | (exfalso; omega)
    | trace_state
theorem st11 {Q : Flow → Shared → Prop} (F : Fr h₀ L s.heap m) (N : News h₀ L s.heap led)
    (k : ∀ D h2 tk, Fr h₀ L h2 (up m "told" (.ref D)) → News h₀ L h2 ((D, W.listOf #[] 0) :: led) → (∀ p ∈ led, p.1 < D) → Q .next { s with heap := h2, toks := tk }) :
    wpAny (model P0 w) (lawA L fa cd) (exec lawS11.1 (lawEnv L fa cd)) Q E s := by
  unfold lawS11 lawEnv lawD
  dsimp only
  k_steps
  rename Fr _ _ _ _ => FF
  rename News _ _ _ _ => NN
  exact k _ _ _ FF NN (fun p hp => Heap.lt_size (N p hp).1)
end
end
local macro_rules | `(tactic| k_mem) => `(tactic| first | assumption | exact List.Mem.head _ | (refine' List.Mem.tail _ ?_; k_mem))
section
open PySem PySem.W PyProof.Rows PySem.Spec PySem.Calls
set_option maxRecDepth 100000
theorem fresh_L6 : True ∧ True := by
  w_top off
  k_with_none
  first | (walk1; done) | exact ⟨trivial, trivial⟩
theorem rows_L6_1 : True := by
  k_with "eval Name" => (k_here; k_dflt (refine' nameX_L ?q81F ?q81v ?_ ?q81a ?q81b; (case q81F => k_asm); (case q81a => rfl); (case q81b => rfl); (case q81v => first | exact rfl | assumption | ((conv => lhs; whnf); assumption)); k_whole))
  k_with "loadName" => (k_here; k_dflt (refine' lnX ?q82F ?q82v ?_ ?q82a ?q82b; (case q82F => k_asm); (case q82a => rfl); (case q82b => rfl); (case q82v => first | exact rfl | assumption | ((conv => lhs; whnf); assumption)); k_whole))
  k_with "exec For Tuple Call cons nil" => (k_here; k_dflt (refine' For_F ?_ ?q83hs; (case q83hs => (intro _; rfl)); k_whole))
  k_with "exec For Name Call cons nil" => (k_here; k_dflt (refine' For_F ?_ ?q84hs; (case q84hs => (intro _; rfl)); k_whole))
  k_with "call builtin:len" => (k_here; (with_reducible show wpAny _ _ (call (Value.builtin "len") [Value.ref _]) _ _ _); k_dflt (refine' kst_len ?q85k1 ?q85k2 ?q85k3 ?q85k4 ?_; (case q85k1 => k_asm); (case q85k2 => k_mem); (case q85k3 => exact IntsAre.length (by assumption)); (case q85k4 => omega); k_whole))
  k_with "binaryOp Add ref ref" => (k_here; k_dflt (refine' addl_K ?q86k1 ?q86k2 ?q86k3 ?q86k4 ?q86k5 ?_; (case q86k1 => k_asm); (case q86k2 => k_asm); (case q86k3 => k_mem); (case q86k4 => k_mem); (case q86k5 => ((try simp only [List.length_replicate, List.length_append]); omega)); k_whole); intro D' h' F' N' l1; (try dsimp only); (first | (revert D' h'; intros) | skip))
  k_with "call builtin:list.append" => (k_here; (with_reducible show wpAny _ _ (call (Value.builtin _) [Value.ref _, _]) _ _ _); k_dflt (refine' append_L ?q87k1 ?q87k2 ?q87k3 ?q87z ?_; (case q87k1 => k_asm); (case q87k2 => k_asm); (case q87k3 => k_upd); (case q87z => first | omega | assumption); k_whole); intro h' F' N'; (try dsimp only); (first | (revert h'; intros) | skip))
  trivial
noncomputable def zOf (r : Nat) : Bool := r == 1 || r == 3
noncomputable def toldF (sz : List Int) (z : Bool) : List Int := if z then sz ++ [sz.getLastD 0, sz.getLastD 0] else sz
theorem law_room {L fa : Addr} {cd : Value} : (lawA L fa cd).depth < recursionLimit := (show callerA.depth + 1 < recursionLimit from by decide)
theorem tail_ok {r : Nat} (hr : r < 4) : tailOk (tlOf r) (zOf r) := by
  match r, hr with
  | 0, _ => exact .inl ⟨rfl, rfl⟩
  | 1, _ => exact .inr (.inr ⟨_, rfl, rfl⟩)
  | 2, _ => exact .inr (.inl ⟨_, rfl, rfl⟩)
  | 3, _ => exact .inr (.inr ⟨_, rfl, rfl⟩)
theorem told_at {sz : List Int} {z : Bool} {j : Nat} {x : Int} (hj : j ≤ sz.length + 1) (h : exO sz z j = some x) : (toldF sz z)[j]? = some x := by
  unfold exO at h
  unfold toldF
  by_cases h1 : j < sz.length
  · rw [if_pos h1] at h
    cases z with
    | false => exact h
    | true =>
      simp only [if_true]
      rw [List.getElem?_append_left h1]; exact h
  · rw [if_neg h1] at h
    cases z with
    | false => simp at h
    | true =>
      simp only [if_true] at h ⊢
      rw [List.getElem?_append_right (by omega)]
      have e : sz.getLastD 0 = x := by rw [List.getLastD_eq_getLast?, h]; rfl
      rw [e]
      obtain h2 | h2 : j - sz.length = 0 ∨ j - sz.length = 1 := by omega
      · rw [h2]; rfl
      · rw [h2]; rfl
theorem told_snoc {sz : List Int} {z : Bool} {j : Nat} {x : Int} (hj : j ≤ sz.length + 1) (h : exO sz z j = some x) : (toldF sz z).take (j + 1) = (toldF sz z).take j ++ [x] := by
  rw [List.take_add_one, told_at hj h]; rfl
theorem told_len {sz : List Int} {z : Bool} : (toldF sz z).length = sz.length + (if z then 2 else 0) := by
  unfold toldF
  cases z <;> simp
section
variable {w : World} {lo : List Str} {mean : ExcName → Option Value} {mg mb : Str → Option Value} {h₀ : Heap} {L fa : Addr} {cd : Value} {m : Str → Option Value} {led : Led} {s : Shared} {E : Value → Shared → Prop}
set_option maxHeartbeats 4000000 in
theorem st12 {Q : Flow → Shared → Prop} {Sz TT D : Addr} {vs ts : List Value} {nn r : Nat} {sz : List Int} (X : (hd.heap_39 w.params).In h₀) (T : Top topProg lo mean mg mb h₀) (B : Below callerA h₀ [] h₀) (F : Fr h₀ L s.heap m) (N : News h₀ L s.heap ((D, W.listOf #[] 0) :: led)) (hS : (Sz, W.listOf vs.toArray nn) ∈ led) (hTl : (TT, W.listOf ts.toArray 0) ∈ led) (hlt : ∀ p ∈ led, p.1 < D)
    (hm1 : m (Str.ofString "sizes") = some (.ref Sz)) (hm2 : m (Str.ofString "tail") = some (.ref TT)) (hm3 : m (Str.ofString "told") = some (.ref D)) (hi : IntsAre vs sz) (hr : r < 4) (ht : IntsAre ts (tlOf r)) (hlen : sz.length ≤ 60) (hsz : ∀ x ∈ sz, x ≠ 0 ∧ x ≠ 127) (hne : sz ≠ []) (hg : AllBare s.gens)
    (k : ∀ m2 h2 tk G (ws : List Value) nw, (∀ y, y ≠ Str.ofString "size" → m2 y = m y) → IntsAre ws (toldF sz (zOf r)) → AllBare G → Fr h₀ L h2 m2 → News h₀ L h2 ((D, W.listOf ws.toArray nw) :: led) → Q .next { s with heap := h2, toks := tk, gens := G }) :
    wpAny (model P0 w) (lawA L fa cd) (exec lawS12.1 (lawEnv L fa cd)) Q E s := by
  have kf : PySem.Challenge.rw_zo0034_01 = PySem.Challenge.rw_zo0034_01 ∧ hd.heap_39 = hd.heap_39 := by
    k_fill
    exact ⟨rfl, rfl⟩
  clear kf
  unfold lawS12 lawEnv lawD
  dsimp only
  have hS' : (Sz, W.listOf vs.toArray nn) ∈ ((D, W.listOf #[] 0) :: led) := .tail _ hS
  have hTl' : (TT, W.listOf ts.toArray 0) ∈ ((D, W.listOf #[] 0) :: led) := .tail _ hTl
  have hvl := hi.length
  have htl := ht.length
  have htl4 : (tlOf r).length ≤ 4 := by
    match r, hr with
    | 0, _ => decide
    | 1, _ => decide
    | 2, _ => decide
    | 3, _ => decide
  k_steps
  rename_i D2 h1 F1 N1 l1
  refine gn_make F1 X N1 T law_room ?_
  intro C a oC oa h2 k2 F2 N2 lC hCa hoa hoC
  refine wpAny_pyIter_gen (hoa h2 (N2 _ (.head _)).1) ?_
  have gb : AllBare (s.gens.push (.fresh (gFunc C))) := hg.push rfl
  refine forG (led := (D2, W.listOf (vs ++ ts).toArray 0) :: (D, W.listOf #[] 0) :: led) (l := D2) (nn := 0) (z := zOf r) (sz := sz) (tl := tlOf r) (vs := vs ++ ts) (g := s.gens.size) rfl law_room rfl rfl X T (tail_ok hr) (ints_app hi ht) hsz hne F2 N2 hCa hoa hoC (by simp) gb
    (fun j mm led' => ∃ ws nw, led' = (D2, W.listOf (vs ++ ts).toArray 0) :: (D, W.listOf (List.toArray ws) nw) :: led ∧ IntsAre ws ((toldF sz (zOf r)).take j) ∧ j ≤ sz.length + 1 ∧ (∀ y, y ≠ Str.ofString "size" → mm y = m y)) ?hJl ?hJlt ?hJend ?h0 ?turn ?done
  case hJl => rintro j mm led' ⟨ws, nw, rfl, _⟩; exact .head _
  case hJlt =>
    rintro j mm led' ⟨ws, nw, rfl, _⟩ p hp
    rcases List.mem_cons.mp hp with rfl | hp
    · exact lC _ (.head _)
    rcases List.mem_cons.mp hp with rfl | hp
    · exact lC (D, W.listOf #[] 0) (.tail _ (.head _))
    · exact lC _ (.tail _ (.tail _ hp))
  case hJend => rintro mm led' ⟨ws, nw, _, _, hj, _⟩; omega
  case h0 => exact ⟨[], 0, rfl, .nil, by omega, fun _ _ => rfl⟩
  case turn =>
    rintro j xv t m₁ led9 oI oC' h tk G hxv ⟨ws, nw, rfl, hws, hj, hmm⟩ F3 N3 haS hG
    dsimp only [List.cons_append, List.nil_append] at F3 N3 haS ⊢
    have hws' := ints_snoc hws xv t
    rw [← told_snoc hj hxv] at hws'
    have hwl := hws.length
    rw [List.length_take, told_len] at hwl
    have hwl' := hws'.length
    have e5 : ((toldF sz (zOf r)).take (j + 1)).length = j + 1 := by
      rw [told_snoc hj hxv, List.length_append, List.length_take, told_len]
      have := told_at hj hxv
      have := (List.getElem?_eq_some_iff.mp this).1
      rw [told_len] at this
      simp only [List.length_singleton]
      omega
    have hm1' : m₁ (Str.ofString "sizes") = some (.ref Sz) := (hmm _ (by decide)).trans hm1
    have hm3' : m₁ (Str.ofString "told") = some (.ref D) := (hmm _ (by decide)).trans hm3
    have q1 : @LT.lt Nat _ D D2 := l1 _ (.head _)
    have q2 : @LT.lt Nat _ D2 C := lC _ (.head _)
    have q3 : @LT.lt Nat _ C a := hCa
    have q4 : @LT.lt Nat _ a h2.objs.size := haS
    have q5 : ∀ p ∈ led, p.1 ≠ D := fun p hp => Nat.ne_of_lt (hlt p hp)
    have hz2 : (if (zOf r) = true then 2 else 0) ≤ 2 := by split <;> omega
    k_steps
    · rename Fr _ _ _ _ => FF
      rename News _ _ _ _ => NN
      show Q .next _
      have ej : j = sz.length + 1 := by omega
      refine k (fun y => if y = Str.ofString "size" then some (.int xv t) else m₁ y) _ _ G _ _ (fun y hy => ?_) ?_ hG FF fun p hp => NN p (.tail _ (.tail _ (.tail _ (.tail _ hp))))
      · rw [if_neg hy]
        exact hmm y hy
      · have e6 : (toldF sz (zOf r)).take (j + 1) = toldF sz (zOf r) := List.take_of_length_le (by rw [told_len]; omega)
        rw [e6] at hws'
        exact hws'
    · rename Fr _ _ _ _ => FF
      rename News _ _ _ _ => NN
      show GTurnE _ _ _ _ _ _
      refine ⟨_, _, _, _, rfl, FF, NN, _, _, rfl, hws', by omega, fun y hy => ?_⟩
      dsimp only
      rw [if_neg hy]
      exact hmm y hy
  case done =>
    rintro m₁ led9 h tk G hz ⟨ws, nw, rfl, hws, hj, hmm⟩ F3 N3 hG
    refine k _ _ _ _ ws nw hmm ?_ hG F3 fun p hp => N3 p (.tail _ hp)
    unfold toldF at hws ⊢
    rw [hz] at hws ⊢
    simpa using hws
end
end
section
open PySem PySem.W PyProof.Rows PySem.Spec PySem.Calls
set_option maxRecDepth 100000
theorem fresh_L7 : True ∧ True := by
  w_top off
  k_with_none
  first | (walk1; done) | exact ⟨trivial, trivial⟩
theorem rows_L7_1 : True := by
  k_with "eval Name" => (k_here; k_dflt (refine' nameX_L ?q88F ?q88v ?_ ?q88a ?q88b; (case q88F => k_asm); (case q88a => rfl); (case q88b => rfl); (case q88v => first | exact rfl | assumption | ((conv => lhs; whnf); assumption)); k_whole))
  k_with "loadName" => (k_here; k_dflt (refine' lnX ?q89F ?q89v ?_ ?q89a ?q89b; (case q89F => k_asm); (case q89a => rfl); (case q89b => rfl); (case q89v => first | exact rfl | assumption | ((conv => lhs; whnf); assumption)); k_whole))
  k_with "exec For Tuple Call cons nil" => (k_here; k_dflt (refine' For_F ?_ ?q90hs; (case q90hs => (intro _; rfl)); k_whole))
  k_with "exec For Name Call cons nil" => (k_here; k_dflt (refine' For_F ?_ ?q91hs; (case q91hs => (intro _; rfl)); k_whole))
  k_with "call builtin:len" => (k_here; (with_reducible show wpAny _ _ (call (Value.builtin "len") [Value.ref _]) _ _ _); k_dflt (refine' kst_len ?q92k1 ?q92k2 ?q92k3 ?q92k4 ?_; (case q92k1 => k_asm); (case q92k2 => k_mem); (case q92k3 => exact IntsAre.length (by assumption)); (case q92k4 => omega); k_whole))
  k_with "binaryOp Add ref ref" => (k_here; k_dflt (refine' addl_K ?q93k1 ?q93k2 ?q93k3 ?q93k4 ?q93k5 ?_; (case q93k1 => k_asm); (case q93k2 => k_asm); (case q93k3 => k_mem); (case q93k4 => k_mem); (case q93k5 => ((try simp only [List.length_replicate, List.length_append]); omega)); k_whole); intro D' h' F' N' l1; (try dsimp only); (first | (revert D' h'; intros) | skip))
  trivial
section
variable {prog : Program} {w : World} {A : Around} {E : Value → Shared → Prop} {s : Shared}
theorem last_item {value slice : PySem.Expr} {h₀ : Heap} {L l : Addr} {news : Led} {vs : List Value} {nn : Nat} {u : Tok} {x : Value} {Q : Value → Shared → Prop} (N : News h₀ L s.heap news) (hm : (l, W.listOf vs.toArray nn) ∈ news) (hx : vs.getLast? = some x) (h : Q x s)
    (hs : subscripted slice false (.ref l) (.int (-1) u) = operate [.ref l, .int (-1) u] (getItem (.ref l) (.int (-1) u)) := by with_unfolding_all rfl) (hg : ∀ r, letTemporaryGo value (.ref l) r = pure () := by intro _; with_unfolding_all rfl) :
    wpAny (model prog w) A (subscriptTail value slice (.ref l) (.int (-1) u)) Q E s := by
  have hl := isl N hm
  have hn : 0 < vs.length := by
    cases vs with
    | nil => cases hx
    | cons a b => simp
  refine subscriptTail_builtin hl.typeIs slot_list_getitem.lookup (wpAny_getItem_list_neg hl (by decide) (by rw [List.size_toArray]; omega) (by decide) ?_ h) hs hg
  rw [List.getLast?_eq_getElem?] at hx
  have e : (-1 + (vs.toArray.size : Int)).toNat = vs.length - 1 := by rw [List.size_toArray]; omega
  rw [e]
  simpa using hx
theorem ints_last {vs : List Value} {ds : List Int} (h : IntsAre vs ds) (hne : ds ≠ []) : ∃ t, vs.getLast? = some (.int (ds.getLastD 0) t) := by
  have e : ds.getLast? = some (ds.getLastD 0) := by
    rw [List.getLastD_eq_getLast?]
    cases h : ds.getLast? with
    | none => exact absurd (List.getLast?_eq_none_iff.mp h) hne
    | some x => rfl
  rw [List.getLast?_eq_getElem?] at e ⊢
  rw [h.length]
  exact ints_at h e
end
theorem rows_L7_2 : True := by
  k_with "subscriptTail Name UnaryOp ref int" => (k_here; k_dflt (refine' last_item ?q94N ?q94m ?q94x ?_ ?q94s ?q94g; (case q94N => k_asm); (case q94m => k_mem); (case q94x => assumption); (case q94s => with_unfolding_all rfl); (case q94g => (intro _; with_unfolding_all rfl)); k_whole))
  trivial
section
variable {w : World} {lo : List Str} {mean : ExcName → Option Value} {mg mb : Str → Option Value} {h₀ : Heap} {L fa : Addr} {cd : Value} {m : Str → Option Value} {led : Led} {s : Shared} {E : Value → Shared → Prop}
set_option maxHeartbeats 4000000 in
theorem st13 {Q : Flow → Shared → Prop} {Sz TT : Addr} {vs ts : List Value} {nn r : Nat} {sz : List Int} (X : (hd.heap_39 w.params).In h₀) (T : Top topProg lo mean mg mb h₀) (F : Fr h₀ L s.heap m) (N : News h₀ L s.heap led) (hS : (Sz, W.listOf vs.toArray nn) ∈ led) (hTl : (TT, W.listOf ts.toArray 0) ∈ led)
    (hm1 : m (Str.ofString "sizes") = some (.ref Sz)) (hm2 : m (Str.ofString "tail") = some (.ref TT)) (hi : IntsAre vs sz) (hr : r < 4) (ht : IntsAre ts (tlOf r)) (hlen : sz.length ≤ 60) (hne : sz ≠ [])
    (k : ∀ h2 tk (Du : Nat) (vs' : List Value) n' led2, (∀ p ∈ led, p ∈ led2) → (Du, W.listOf vs'.toArray n') ∈ led2 → IntsAre vs' (toldF sz (zOf r)) → Fr h₀ L h2 (up m "due" (.ref Du)) → News h₀ L h2 led2 → Q .next { s with heap := h2, toks := tk }) :
    wpAny (model P0 w) (lawA L fa cd) (exec lawS13.1 (lawEnv L fa cd)) Q E s := by
  have kf : PySem.Challenge.rw_zo0034_01 = PySem.Challenge.rw_zo0034_01 ∧ hd.heap_39 = hd.heap_39 := by
    k_fill
    exact ⟨rfl, rfl⟩
  clear kf
  unfold lawS13 lawEnv lawD
  dsimp only
  have hvl := hi.length
  obtain ⟨tl, hlast⟩ := ints_last hi hne
  match r, hr with
  | 0, _ =>
    cases ht
    k_steps
    rename Fr _ _ _ _ => FF
    rename News _ _ _ _ => NN
    exact k _ _ _ _ _ _ (fun p hp => .tail _ (.tail _ hp)) (.tail _ (.tail _ hS)) hi FF NN
  | 1, _ =>
    obtain ⟨⟩ | ⟨_, t1, h1⟩ := ht
    cases h1
    k_steps
    rename Fr _ _ _ _ => FF
    rename News _ _ _ _ => NN
    rename IntsAre _ _ => hI9
    exact k _ _ _ _ _ _ (fun p hp => by repeat (first | exact hp | refine List.Mem.tail _ ?_)) (.head _) hI9 FF NN
  | 2, _ =>
    obtain ⟨⟩ | ⟨_, t1, h1⟩ := ht
    obtain ⟨⟩ | ⟨_, t2, h2⟩ := h1
    cases h2
    k_steps
    rename Fr _ _ _ _ => FF
    rename News _ _ _ _ => NN
    exact k _ _ _ _ _ _ (fun p hp => by repeat (first | exact hp | refine List.Mem.tail _ ?_)) (by repeat (first | exact hS | refine List.Mem.tail _ ?_)) hi FF NN
  | 3, _ =>
    obtain ⟨⟩ | ⟨_, t1, h1⟩ := ht
    obtain ⟨⟩ | ⟨_, t2, h2⟩ := h1
    cases h2
    k_steps
    rename Fr _ _ _ _ => FF
    rename News _ _ _ _ => NN
    rename IntsAre _ _ => hI9
    exact k _ _ _ _ _ _ (fun p hp => by repeat (first | exact hp | refine List.Mem.tail _ ?_)) (.head _) hI9 FF NN
set_option maxHeartbeats 4000000 in
theorem st14 {Q : Flow → Shared → Prop} {D Du : Addr} {vs ws : List Value} {n1 n2 : Nat} {ds : List Int} (X : (hd.heap_39 w.params).In h₀) (T : Top topProg lo mean mg mb h₀) (F : Fr h₀ L s.heap m) (N : News h₀ L s.heap led) (hD : (D, W.listOf vs.toArray n1) ∈ led) (hDu : (Du, W.listOf ws.toArray n2) ∈ led)
    (hm1 : m (Str.ofString "told") = some (.ref D)) (hm2 : m (Str.ofString "due") = some (.ref Du)) (hi : IntsAre vs ds) (hi2 : IntsAre ws ds) (hlen : ds.length ≤ 70)
    (k : ∀ h2 tk, Fr h₀ L h2 m → News h₀ L h2 led → Q .next { s with heap := h2, toks := tk }) :
    wpAny (model P0 w) (lawA L fa cd) (exec lawS14.1 (lawEnv L fa cd)) Q E s := by
  have kf : PySem.Challenge.rw_zo0034_01 = PySem.Challenge.rw_zo0034_01 ∧ hd.heap_39 = hd.heap_39 := by
    k_fill
    exact ⟨rfl, rfl⟩
  clear kf
  unfold lawS14 lawEnv lawD
  dsimp only
  have hl1 : s.heap.IsList D vs.toArray := isl N hD
  have hl2 : s.heap.IsList Du ws.toArray := isl N hDu
  k_steps
  exact k _ _ F N
end
end
section
open PySem PySem.W PyProof.Rows PySem.Spec PySem.Calls
set_option maxRecDepth 100000
theorem fresh_U1 : True ∧ True := by
  w_top off
  k_with_none
  first | (walk1; done) | exact ⟨trivial, trivial⟩
section
variable {prog : Program} {w : World} {A : Around} {E : Value → Shared → Prop} {s : Shared}
theorem list_iadd_look : typeLookup (.type "list") (dunderI "add") = pure (some (.builtin "list.__iadd__")) := PySem.F.slot_list_iadd.lookup
theorem inplace_list {a b : Value} {Q : Value → Shared → Prop} (ha : s.TypeIs a "list") (hb : s.TypeIs b "list")
    (hc : wpAny (model prog w) A (call (.builtin "list.__iadd__") [a, b]) Q E s) : wpAny (model prog w) A (inplaceOp .Add a b) Q E s := by
  unfold inplaceOp
  refine wpAny_holding ?_
  have hq : isSeqSlot (some (.builtin "list.__iadd__")) = true := by
    show isSeqSlotId _ = true
    decide +kernel
  have hfi : fillsInplaceSlot (.type "list") "add" (Operator.Add == .Add) = pure false := by
    unfold fillsInplaceSlot
    show (typeLookup (.type "list") (dunderI "add") >>= fun fi => pure (fi.isSome && !isSeqSlot fi)) = pure false
    rw [list_iadd_look]
    show (pure (true && !isSeqSlot (some (.builtin "list.__iadd__"))) : Sem Bool) = pure false
    rw [hq]; rfl
  have hsi : seqSlot? (.type "list") (dunderI "add") = pure (some (.builtin "list.__iadd__")) := by
    exact PySem.seqSlot_of list_iadd_look (by decide +kernel)
  refine wpAny_bind (wpAny_typeOf ha (wpAny_bind (wpAny_of_eq hfi ?_)))
  show wpAny (model prog w) A (if false = true then _ else _) Q E s
  rw [if_neg Bool.false_ne_true]
  refine wpAny_bind (wpAny_binaryOp1_none (nm := "add") ha hb noFill_list_add ?_)
  refine wpAny_bind (wpAny_of_eq hsi ?_)
  exact wpAny_bind (wpAny_rule hc)
theorem iadd_L {h₀ : Heap} {L D b : Addr} {m : Str → Option Value} {news news' : Led} {vs ws : List Value} {n n2 : Nat} {Q : Value → Shared → Prop} (F : Fr h₀ L s.heap m) (N : News h₀ L s.heap news) (hb : (b, W.listOf ws.toArray n2) ∈ news)
    (U : Upd D (W.listOf vs.toArray n) (W.listOf (vs ++ ws).toArray (n + 1)) news news') (hne : ws.length ≠ 0) (hz : vs.length + ws.length ≤ 100000)
    (h : ∀ h', Fr h₀ L h' m → News h₀ L h' news' → Q (.ref D) { s with heap := h' }) : wpAny (model prog w) A (inplaceOp .Add (.ref D) (.ref b)) Q E s := by
  obtain ⟨pre, post, rfl, rfl, a, c⟩ := U.split
  have z := N (D, W.listOf vs.toArray n) (List.mem_append.mpr (.inr (.head _)))
  have hz1 : vs.toArray.size + ws.toArray.size ≤ sizeLine := by rw [List.size_toArray, List.size_toArray, sizeLine_eq]; omega
  refine inplace_list ⟨_, z.1, rfl⟩ ⟨_, (N _ hb).1, rfl⟩ ?_
  refine call_meets PySem.F.slot_list_iadd ⟨_, z.1, rfl⟩ PySem.F.entry_list_iadd (PySem.F.args_list_iadd_2 _ _) (PySem.AutoSeq1.list___iadd___list_list_0 D vs.toArray n b ws.toArray n2 (extend_door hz1) (by omega) (by omega)) ⟨z.1, (N _ hb).1, h _ (F.change (Heap.SameBut.update ..) z.2.1 z.2.2) (kl_turn _ N a c ?_ ?_)⟩
  · simp
  · simp
    intro e
    exact hne (by simpa using congrArg List.length e)
end
end
section
open PySem PySem.W PyProof.Rows PySem.Spec PySem.Calls
set_option maxRecDepth 100000
theorem fresh_L8 : True ∧ True := by
  w_top off
  k_with_none
  first | (walk1; done) | exact ⟨trivial, trivial⟩
theorem rows_L8_1 : True := by
  k_with "eval Name" => (k_here; k_dflt (refine' nameX_L ?q95F ?q95v ?_ ?q95a ?q95b; (case q95F => k_asm); (case q95a => rfl); (case q95b => rfl); (case q95v => first | exact rfl | assumption | ((conv => lhs; whnf); assumption)); k_whole))
  k_with "loadName" => (k_here; k_dflt (refine' lnX ?q96F ?q96v ?_ ?q96a ?q96b; (case q96F => k_asm); (case q96a => rfl); (case q96b => rfl); (case q96v => first | exact rfl | assumption | ((conv => lhs; whnf); assumption)); k_whole))
  k_with "exec For Tuple Call cons nil" => (k_here; k_dflt (refine' For_F ?_ ?q97hs; (case q97hs => (intro _; rfl)); k_whole))
  k_with "exec For Name Call cons nil" => (k_here; k_dflt (refine' For_F ?_ ?q98hs; (case q98hs => (intro _; rfl)); k_whole))
  k_with "exec For Name Subscript cons nil" => (k_here; k_dflt (refine' For_F ?_ ?q99hs; (case q99hs => (intro _; rfl)); k_whole))
  k_with "call builtin:len" => (k_here; (with_reducible show wpAny _ _ (call (Value.builtin "len") [Value.ref _]) _ _ _); k_dflt (refine' kst_len ?q100k1 ?q100k2 ?q100k3 ?q100k4 ?_; (case q100k1 => k_asm); (case q100k2 => k_mem); (case q100k3 => exact IntsAre.length (by assumption)); (case q100k4 => omega); k_whole))
  trivial
theorem rows_L8_2 : True := by
  k_with "call builtin:list.append" => (k_here; (with_reducible show wpAny _ _ (call (Value.builtin _) [Value.ref _, _]) _ _ _); k_dflt (refine' append_L ?q101k1 ?q101k2 ?q101k3 ?q101z ?_; (case q101k1 => k_asm); (case q101k2 => k_asm); (case q101k3 => k_upd); (case q101z => first | omega | assumption); k_whole); intro _ _ _; (try dsimp only))
  k_with "subscriptTail Name Slice ref ref" => (k_here; (with_reducible show wpAny _ _ (subscriptTail _ (PySem.Expr.Slice none _ none _) (Value.ref _) (Value.ref _)) _ _ _); k_dflt (refine' kmk_slice_ints ?q102F ?q102N ?q102l ?q102p ?q102q ?q102i ?q102m ?q102c ?_ ?q102s ?q102t ?q102z; (case q102F => k_asm); (case q102N => k_asm); (case q102l => exact isl (by k_asm) (by k_mem)); (case q102p => exact IsPart.none); (case q102q => exact IsPart.int _ _); (case q102i => assumption); (case q102m => exact kmk_upto (by assumption) (by omega)); (case q102c => exact rfl); (case q102s => with_unfolding_all rfl); (case q102t => kmk_pure); (case q102z => (rw [List.size_toArray, sizeLine_eq]; omega))); intro _ _ _ _ _ _ _ _ _; (try dsimp only))
  k_with "inplaceOp Add ref ref" => (k_here; k_dflt (refine' iadd_L ?q103F ?q103N ?q103b ?q103U ?q103n ?q103z ?_; (case q103F => k_asm); (case q103N => k_asm); (case q103b => k_mem); (case q103U => k_upd); (case q103n => exact Nat.succ_ne_zero _); (case q103z => ((try simp only [List.length_cons, List.length_nil]); omega)); k_whole); intro _ _ _; (try dsimp only))
  trivial
noncomputable def addrsF : Int → List Int → List Int
  | _, [] => []
  | b, x :: r => b :: (b + x - 1) :: addrsF (b + x) r
theorem addrs_snoc (x : Int) : ∀ (l : List Int) (b : Int), addrsF b (l ++ [x]) = addrsF b l ++ [b + l.sum, b + l.sum + x - 1]
  | [], b => by simp [addrsF]
  | y :: r, b => by
    rw [List.cons_append, addrsF, addrs_snoc x r, addrsF, List.sum_cons]
    simp [Int.add_assoc]
theorem addrs_len : ∀ (l : List Int) (b : Int), (addrsF b l).length = 2 * l.length
  | [], b => rfl
  | y :: r, b => by
    rw [addrsF, List.length_cons, List.length_cons, addrs_len r, List.length_cons]; omega
section
variable {w : World} {lo : List Str} {mean : ExcName → Option Value} {mg mb : Str → Option Value} {h₀ : Heap} {L fa : Addr} {cd : Value} {m : Str → Option Value} {led : Led} {s : Shared} {E : Value → Shared → Prop}
set_option maxHeartbeats 4000000 in
theorem st15 {Q : Flow → Shared → Prop} (F : Fr h₀ L s.heap m) (N : News h₀ L s.heap led)
    (k : ∀ D h2 tk, Fr h₀ L h2 (up m "addresses" (.ref D)) → News h₀ L h2 ((D, W.listOf #[] 0) :: led) → (∀ p ∈ led, p.1 < D) → Q .next { s with heap := h2, toks := tk }) :
    wpAny (model P0 w) (lawA L fa cd) (exec lawS15.1 (lawEnv L fa cd)) Q E s := by
  unfold lawS15 lawEnv lawD
  dsimp only
  k_steps
  rename Fr _ _ _ _ => FF
  rename News _ _ _ _ => NN
  exact k _ _ _ FF NN (fun p hp => Heap.lt_size (N p hp).1)
set_option maxHeartbeats 4000000 in
theorem st16 {Q : Flow → Shared → Prop} {lw : Int} {t : Tok} (X : (hd.heap_39 w.params).In h₀) (T : Top topProg lo mean mg mb h₀) (F : Fr h₀ L s.heap m) (N : News h₀ L s.heap led) (hm : m (Str.ofString "low") = some (.int lw t))
    (k : ∀ h2 tk, Fr h₀ L h2 (up m "begin" (.int lw t)) → News h₀ L h2 led → Q .next { s with heap := h2, toks := tk }) :
    wpAny (model P0 w) (lawA L fa cd) (exec lawS16.1 (lawEnv L fa cd)) Q E s := by
  have kf : PySem.Challenge.rw_zo0034_01 = PySem.Challenge.rw_zo0034_01 ∧ hd.heap_39 = hd.heap_39 := by
    k_fill
    exact ⟨rfl, rfl⟩
  clear kf
  unfold lawS16 lawEnv lawD
  dsimp only
  k_steps
  rename Fr _ _ _ _ => FF
  rename News _ _ _ _ => NN
  exact k _ _ FF NN
set_option maxHeartbeats 4000000 in
theorem st17 {Q : Flow → Shared → Prop} {Sz D Ad : Addr} {vs ws : List Value} {nn nw : Nat} {sz : List Int} {z : Bool} {lw : Int} {t : Tok} (X : (hd.heap_39 w.params).In h₀) (T : Top topProg lo mean mg mb h₀) (F : Fr h₀ L s.heap m) (N : News h₀ L s.heap ((Ad, W.listOf #[] 0) :: led)) (hS : (Sz, W.listOf vs.toArray nn) ∈ led) (hD : (D, W.listOf ws.toArray nw) ∈ led) (hlt : ∀ p ∈ led, p.1 < Ad)
    (hm1 : m (Str.ofString "sizes") = some (.ref Sz)) (hm2 : m (Str.ofString "told") = some (.ref D)) (hm3 : m (Str.ofString "addresses") = some (.ref Ad)) (hm4 : m (Str.ofString "begin") = some (.int lw t)) (hi : IntsAre vs sz) (hw : IntsAre ws (toldF sz z)) (hlen : sz.length ≤ 60)
    (k : ∀ m2 h2 tk (as : List Value) na tb, (∀ y, y ≠ Str.ofString "size" → y ≠ Str.ofString "begin" → m2 y = m y) → m2 (Str.ofString "begin") = some (.int (lw + sz.sum) tb) → IntsAre as (addrsF lw sz) → Fr h₀ L h2 m2 → News h₀ L h2 ((Ad, W.listOf as.toArray na) :: led) → Q .next { s with heap := h2, toks := tk }) :
    wpAny (model P0 w) (lawA L fa cd) (exec lawS17.1 (lawEnv L fa cd)) Q E s := by
  have kf : PySem.Challenge.rw_zo0034_01 = PySem.Challenge.rw_zo0034_01 ∧ hd.heap_39 = hd.heap_39 := by
    k_fill
    exact ⟨rfl, rfl⟩
  clear kf
  unfold lawS17 lawEnv lawD
  dsimp only
  have hvl := hi.length
  have hwl := hw.length
  rw [told_len] at hwl
  have hz2 : (if z = true then 2 else 0) ≤ 2 := by split <;> omega
  k_steps
  rename_i D2 w2 h1 F1 N1 l1 hI2 hC2 hL2
  have e1 : (toldF sz z).take ((sz.length : Nat) : Int).toNat = sz := by
    rw [Int.toNat_natCast]
    unfold toldF
    cases z <;> simp
  rw [e1] at hI2
  clear hC2 hL2
  have hl2 := hI2.length
  k_dflt (refine' iter_listJ rfl rfl rfl F1 N1 (.head _) (fun i mm led' => ∃ as na tb, led' = (D2, W.listOf w2.toArray 0) :: (Ad, W.listOf (List.toArray as) na) :: led ∧ IntsAre as (addrsF lw (sz.take i)) ∧ (∀ y, y ≠ Str.ofString "size" → y ≠ Str.ofString "begin" → mm y = m y) ∧ mm (Str.ofString "begin") = some (.int (lw + (sz.take i).sum) tb)) ?hJ ?h0 ?turn ?done)
  case hJ => rintro i mm led' ⟨as, na, tb, rfl, _⟩; exact .head _
  case h0 => exact ⟨[], 0, t, rfl, .nil, fun _ _ _ => rfl, by simpa using hm4⟩
  case turn =>
    rintro i v m₁ led9 I it h tk hv ⟨as, na, tb, rfl, hIa, hmm, hmb⟩ hltI F2 N2
    obtain ⟨x, tx, rfl, hx⟩ := IntsAre.at hI2 i v hv
    dsimp only at F2 N2 ⊢
    have hil : i < sz.length := (List.getElem?_eq_some_iff.mp hx).1
    have hla := hIa.length
    rw [addrs_len, List.length_take] at hla
    have hm3' : m₁ (Str.ofString "addresses") = some (.ref Ad) := (hmm _ (by decide) (by decide)).trans hm3
    have q1 : @LT.lt Nat _ Ad D2 := l1 _ (.head _)
    have q2 : @LT.lt Nat _ D2 I := hltI _ (.head _)
    have hltJ : ∀ a9 b9, ∀ p ∈ (D2, W.listOf w2.toArray 0) :: (Ad, W.listOf a9 b9) :: led, p.1 < I := fun a9 b9 p hp => by
      rcases List.mem_cons.mp hp with rfl | hp
      · exact q2
      rcases List.mem_cons.mp hp with rfl | hp
      · exact Nat.lt_trans q1 q2
      · exact hltI _ (.tail _ (.tail _ hp))
    have q3 : ∀ p ∈ led, p.1 ≠ Ad := fun p hp => Nat.ne_of_lt (hlt p hp)
    k_steps
    rename Fr _ _ _ _ => FF
    rename News _ _ _ _ => NN
    show TurnE _ _ _ _ _ _ _
    have e3 : sz.take (i + 1) = sz.take i ++ [x] := by rw [List.take_add_one, hx]; rfl
    have e4 : lw + (sz.take i).sum + x = lw + (sz.take (i + 1)).sum := by
      rw [e3, List.sum_append, List.sum_cons, List.sum_nil, Int.add_zero, Int.add_assoc]
    refine TurnE.intro FF NN (.tail _ (.head _)) (fun p hp => .tail _ (.tail _ hp)) (hltJ _ _) ⟨_, _, _, rfl, ?_, fun y y1 y2 => ?_, congrArg (fun z => some (Value.int z _)) e4⟩
    · rw [e3, addrs_snoc]
      exact ints_app hIa (.cons _ _ (.cons _ _ .nil))
    · dsimp only
      rw [if_neg y2]
      by_cases y3 : y = Str.ofString "addresses"
      · rw [if_pos y3, y3, hm3]
      · rw [if_neg y3, if_neg y1]
        exact hmm y y1 y2
  case done =>
    rintro m₁ led9 h tk ⟨as, na, tb, rfl, hIa, hmm, hmb⟩ F2 N2
    have e2 : sz.take w2.length = sz := by rw [hl2]; simp
    rw [e2] at hIa hmb
    exact k _ _ _ _ _ _ hmm hmb hIa F2 fun p hp => N2 p (.tail _ hp)
end
end
section
open PySem PySem.W PyProof.Rows PySem.Spec PySem.Calls
set_option maxRecDepth 100000
theorem fresh_L9 : True ∧ True := by
  w_top off
  k_with_none
  first | (walk1; done) | exact ⟨trivial, trivial⟩
theorem rows_L9_1 : True := by
  k_with "eval Name" => (k_here; k_dflt (refine' nameX_L ?q104F ?q104v ?_ ?q104a ?q104b; (case q104F => k_asm); (case q104a => rfl); (case q104b => rfl); (case q104v => first | exact rfl | assumption | ((conv => lhs; whnf); assumption)); k_whole))
  k_with "loadName" => (k_here; k_dflt (refine' lnX ?q105F ?q105v ?_ ?q105a ?q105b; (case q105F => k_asm); (case q105a => rfl); (case q105b => rfl); (case q105v => first | exact rfl | assumption | ((conv => lhs; whnf); assumption)); k_whole))
  k_with "exec For Tuple Call cons nil" => (k_here; k_dflt (refine' For_F ?_ ?q106hs; (case q106hs => (intro _; rfl)); k_whole))
  k_with "exec For Name Call cons nil" => (k_here; k_dflt (refine' For_F ?_ ?q107hs; (case q107hs => (intro _; rfl)); k_whole))
  trivial
theorem rows_L9_2 : True := by
  k_with "call builtin:list.append" => (k_here; (with_reducible show wpAny _ _ (call (Value.builtin _) [Value.ref _, _]) _ _ _); k_dflt (refine' append_L ?q108k1 ?q108k2 ?q108k3 ?q108z ?_; (case q108k1 => k_asm); (case q108k2 => k_asm); (case q108k3 => k_upd); (case q108z => first | omega | assumption); k_whole); intro h' F' N'; (try dsimp only); (first | (revert h'; intros) | skip))
  trivial
section
variable {w : World} {lo : List Str} {mean : ExcName → Option Value} {mg mb : Str → Option Value} {h₀ : Heap} {L fa : Addr} {cd : Value} {m : Str → Option Value} {led : Led} {s : Shared} {E : Value → Shared → Prop}
set_option maxHeartbeats 4000000 in
theorem st18 {Q : Flow → Shared → Prop} {bg hg : Int} {t1 t2 : Tok} (X : (hd.heap_39 w.params).In h₀) (T : Top topProg lo mean mg mb h₀) (F : Fr h₀ L s.heap m) (N : News h₀ L s.heap led)
    (hm1 : m (Str.ofString "begin") = some (.int bg t1)) (hm2 : m (Str.ofString "high") = some (.int hg t2)) (he : bg = hg)
    (k : ∀ h2 tk, Fr h₀ L h2 m → News h₀ L h2 led → Q .next { s with heap := h2, toks := tk }) :
    wpAny (model P0 w) (lawA L fa cd) (exec lawS18.1 (lawEnv L fa cd)) Q E s := by
  have kf : PySem.Challenge.rw_zo0034_01 = PySem.Challenge.rw_zo0034_01 ∧ hd.heap_39 = hd.heap_39 := by
    k_fill
    exact ⟨rfl, rfl⟩
  clear kf
  unfold lawS18 lawEnv lawD
  dsimp only
  subst he
  k_steps
  all_goals first
    | (rename Fr _ _ _ _ => FF
       rename News _ _ _ _ => NN
       exact k _ _ FF NN)
    | (exfalso; omega)
    | (exfalso; simp_all; done)
    | trace_state
set_option maxHeartbeats 4000000 in
theorem st19 {Q : Flow → Shared → Prop} {lw : Int} {t1 : Tok} {Ad : Addr} {as : List Value} {na : Nat} {ads : List Int} (X : (hd.heap_39 w.params).In h₀) (T : Top topProg lo mean mg mb h₀) (F : Fr h₀ L s.heap m) (N : News h₀ L s.heap ((Ad, W.listOf as.toArray na) :: led)) (hlt : ∀ p ∈ led, p.1 < Ad)
    (hm1 : m (Str.ofString "low") = some (.int lw t1)) (hm2 : m (Str.ofString "addresses") = some (.ref Ad)) (hi : IntsAre as ads) (hlen : ads.length ≤ 200)
    (k : ∀ h2 tk as' na', IntsAre as' (ads ++ if 0 < lw then [lw - 1] else []) → Fr h₀ L h2 m → News h₀ L h2 ((Ad, W.listOf as'.toArray na') :: led) → Q .next { s with heap := h2, toks := tk }) :
    wpAny (model P0 w) (lawA L fa cd) (exec lawS19.1 (lawEnv L fa cd)) Q E s := by
  have kf : PySem.Challenge.rw_zo0034_01 = PySem.Challenge.rw_zo0034_01 ∧ hd.heap_39 = hd.heap_39 := by
    k_fill
    exact ⟨rfl, rfl⟩
  clear kf
  unfold lawS19 lawEnv lawD
  dsimp only
  have hl := hi.length
  have q3 : ∀ p ∈ led, p.1 ≠ Ad := fun p hp => Nat.ne_of_lt (hlt p hp)
  k_steps
  · rename Fr _ _ _ _ => FF
    rename News _ _ _ _ => NN
    refine k _ _ _ _ ?_ FF NN
    rw [if_pos (by assumption)]
    exact ints_snoc hi _ _
  · rename Fr _ _ _ _ => FF
    rename News _ _ _ _ => NN
    refine k _ _ _ _ ?_ FF NN
    rw [if_neg (by omega), List.append_nil]
    exact hi
set_option maxHeartbeats 4000000 in
theorem st20 {Q : Flow → Shared → Prop} {hg wh : Int} {t1 t2 : Tok} {Ad : Addr} {as : List Value} {na : Nat} {ads : List Int} (X : (hd.heap_39 w.params).In h₀) (T : Top topProg lo mean mg mb h₀) (F : Fr h₀ L s.heap m) (N : News h₀ L s.heap ((Ad, W.listOf as.toArray na) :: led)) (hlt : ∀ p ∈ led, p.1 < Ad)
    (hm1 : m (Str.ofString "high") = some (.int hg t1)) (hm3 : m (Str.ofString "whole") = some (.int wh t2)) (hm2 : m (Str.ofString "addresses") = some (.ref Ad)) (hi : IntsAre as ads) (hlen : ads.length ≤ 200)
    (k : ∀ h2 tk as' na', IntsAre as' (ads ++ if hg < wh then [hg] else []) → Fr h₀ L h2 m → News h₀ L h2 ((Ad, W.listOf as'.toArray na') :: led) → Q .next { s with heap := h2, toks := tk }) :
    wpAny (model P0 w) (lawA L fa cd) (exec lawS20.1 (lawEnv L fa cd)) Q E s := by
  have kf : PySem.Challenge.rw_zo0034_01 = PySem.Challenge.rw_zo0034_01 ∧ hd.heap_39 = hd.heap_39 := by
    k_fill
    exact ⟨rfl, rfl⟩
  clear kf
  unfold lawS20 lawEnv lawD
  dsimp only
  have hl := hi.length
  have q3 : ∀ p ∈ led, p.1 ≠ Ad := fun p hp => Nat.ne_of_lt (hlt p hp)
  k_steps
  · rename Fr _ _ _ _ => FF
    rename News _ _ _ _ => NN
    refine k _ _ _ _ ?_ FF NN
    rw [if_pos (by assumption)]
    exact ints_snoc hi _ _
  · rename Fr _ _ _ _ => FF
    rename News _ _ _ _ => NN
    refine k _ _ _ _ ?_ FF NN
    rw [if_neg (by omega), List.append_nil]
    exact hi
set_option maxHeartbeats 4000000 in
theorem st21 {Q : Flow → Shared → Prop} (F : Fr h₀ L s.heap m) (N : News h₀ L s.heap led)
    (k : ∀ D h2 tk, Fr h₀ L h2 (up m "row" (.ref D)) → News h₀ L h2 ((D, W.listOf #[] 0) :: led) → (∀ p ∈ led, p.1 < D) → Q .next { s with heap := h2, toks := tk }) :
    wpAny (model P0 w) (lawA L fa cd) (exec lawS21.1 (lawEnv L fa cd)) Q E s := by
  unfold lawS21 lawEnv lawD
  dsimp only
  k_steps
  rename Fr _ _ _ _ => FF
  rename News _ _ _ _ => NN
  exact k _ _ _ FF NN (fun p hp => Heap.lt_size (N p hp).1)
end
end
section
open PySem PySem.W PyProof.Rows PySem.Spec PySem.Calls
set_option maxRecDepth 100000
theorem fresh_LA : True ∧ True := by
  w_top off
  k_with_none
  first | (walk1; done) | exact ⟨trivial, trivial⟩
theorem rows_LA_1 : True := by
  k_with "eval Name" => (k_here; k_dflt (refine' nameX_L ?q109F ?q109v ?_ ?q109a ?q109b; (case q109F => k_asm); (case q109a => rfl); (case q109b => rfl); (case q109v => first | exact rfl | assumption | ((conv => lhs; whnf); assumption)); k_whole))
  k_with "loadName" => (k_here; k_dflt (refine' lnX ?q110F ?q110v ?_ ?q110a ?q110b; (case q110F => k_asm); (case q110a => rfl); (case q110b => rfl); (case q110v => first | exact rfl | assumption | ((conv => lhs; whnf); assumption)); k_whole))
  k_with "exec For Tuple Call cons nil" => (k_here; k_dflt (refine' For_F ?_ ?q111hs; (case q111hs => (intro _; rfl)); k_whole))
  k_with "exec For Name Call cons nil" => (k_here; k_dflt (refine' For_F ?_ ?q112hs; (case q112hs => (intro _; rfl)); k_whole))
  trivial
theorem use_intsS {ds : List Int} {h₀ : Heap} {L : Addr} {m : Str → Option Value} {s : Shared} {Q : Value → Shared → Prop} {news : Led}
    (h : ∀ (D : Nat) (vs : List Value) (h' : Heap) (tk' : Nat), IntsAre vs ds → Fr h₀ L h' m → News h₀ L h' ((D, W.listOf vs.toArray 0) :: news) → (∀ p ∈ news, p.1 < D) → Q (.ref D) { s with heap := h', toks := tk' }) :
    ∀ (v : Value) (own : Led) (h' : Heap) (tk' : Nat), Ints ds v own → Fr h₀ L h' m → News h₀ L h' (own ++ news) → (∀ p ∈ news, ∀ q ∈ own, p.1 < q.1) → Q v { s with heap := h', toks := tk' } := by
  rintro v own h' tk' ⟨D, vs, rfl, rfl, hi⟩ F N l
  exact h D vs h' tk' hi F N fun p hp => l p hp _ (.head _)
theorem rows_LA_2 : True := by
  k_with "call ref" => (k_here; (with_reducible show wpAny _ _ (call (Value.ref 134) _) _ _ _); k_dflt (refine' spec_use (oct_spec _ _ _ _ _ _ _) ?q113k1 ?q113k2 ?q113k3 ?q113k4 ?q113k5 ?q113kK ?q113kp ?q113kd ?q113ku (use_intsS ?_); (case q113k1 => k_asm); (case q113k2 => k_asm); (case q113k3 => k_asm); (case q113k4 => k_asm); (case q113k5 => k_asm); (case q113kK => exact rfl); (case q113kp => (try dsimp only); omega); (case q113kd => ktr_room); (case q113ku => ktr_units)); intro D9 vs9 h9 tk9 hI9 F9 N9 l9; (try dsimp only); (try k_lt l9); (first | (revert D9 vs9 h9 tk9; intros) | skip))
  k_with "exec For Name Name cons nil" => (k_here; k_dflt (refine' For_F ?_ ?q114hs; (case q114hs => (intro _; rfl)); k_whole))
  trivial
theorem octF_len {b : Int} {p : Nat} {n : Int} : (octF b p n).length = p := by
  unfold octF
  rw [List.length_reverse, octL_length]
theorem rows_LA_3 : True := by
  k_with "inplaceOp Add ref ref" => (k_here; k_dflt (refine' iadd_L ?q115F ?q115N ?q115b ?q115U ?q115n ?q115z ?_; (case q115F => k_asm); (case q115N => k_asm); (case q115b => k_mem); (case q115U => k_upd); (case q115n => ((have h9 := IntsAre.length (by assumption : IntsAre _ (octF _ _ _))); rw [octF_len] at h9; omega)); (case q115z => ((have h9 := IntsAre.length (by assumption : IntsAre _ (octF _ _ _))); rw [octF_len] at h9; omega)); k_whole); intro h' F' N'; (try dsimp only); (first | (revert h'; intros) | skip))
  trivial
noncomputable def rowF (b : Int) (p : Nat) (ads : List Int) : List Int := ads.flatMap (octF b p)
theorem rowF_len {b : Int} {p : Nat} : ∀ ads : List Int, (rowF b p ads).length = ads.length * p
  | [] => by simp [rowF]
  | a :: r => by
    unfold rowF
    rw [List.flatMap_cons, List.length_append, octF_len]
    have := rowF_len (b := b) (p := p) r
    unfold rowF at this
    rw [this, List.length_cons, Nat.add_mul]; omega
theorem rowF_snoc {b : Int} {p : Nat} {x : Int} (l : List Int) : rowF b p (l ++ [x]) = rowF b p l ++ octF b p x := by
  unfold rowF
  rw [List.flatMap_append]
  simp
section
variable {w : World} {lo : List Str} {mean : ExcName → Option Value} {mg mb : Str → Option Value} {h₀ : Heap} {L fa : Addr} {cd : Value} {m : Str → Option Value} {led : Led} {s : Shared} {E : Value → Shared → Prop}
set_option maxHeartbeats 4000000 in
theorem st22 {Q : Flow → Shared → Prop} {Ad Rw : Addr} {as : List Value} {na p : Nat} {ads : List Int} {b : Int} {t1 t2 : Tok} (X : (hd.heap_39 w.params).In h₀) (T : Top topProg lo mean mg mb h₀) (B : Below callerA h₀ [] h₀) (F : Fr h₀ L s.heap m) (N : News h₀ L s.heap ((Rw, W.listOf #[] 0) :: led)) (hA : (Ad, W.listOf as.toArray na) ∈ led) (hlt : ∀ p ∈ led, p.1 < Rw)
    (hm1 : m (Str.ofString "addresses") = some (.ref Ad)) (hm2 : m (Str.ofString "row") = some (.ref Rw)) (hm3 : m (Str.ofString "base") = some (.int b t1)) (hm4 : m (Str.ofString "places") = some (.int (p : Nat) t2)) (hi : IntsAre as ads) (hlen : ads.length ≤ 200) (hb : 2 ≤ b) (hb5 : b ≤ 5) (hp : 2 ≤ p) (hp4 : p ≤ 4)
    (k : ∀ m2 h2 tk rs nr, (∀ y, y ≠ Str.ofString "address" → m2 y = m y) → IntsAre rs (rowF b p ads) → Fr h₀ L h2 m2 → News h₀ L h2 ((Rw, W.listOf rs.toArray nr) :: led) → Q .next { s with heap := h2, toks := tk }) :
    wpAny (model P0 w) (lawA L fa cd) (exec lawS22.1 (lawEnv L fa cd)) Q E s := by
  have kf : PySem.Challenge.rw_zo0034_01 = PySem.Challenge.rw_zo0034_01 ∧ hd.heap_39 = hd.heap_39 := by
    k_fill
    exact ⟨rfl, rfl⟩
  clear kf
  unfold lawS22 lawEnv lawD
  dsimp only
  have hl := hi.length
  k_steps
  k_dflt (refine' iter_listJ rfl rfl rfl F N (.tail _ hA) (fun i mm led' => ∃ rs nr, led' = (Rw, W.listOf (List.toArray rs) nr) :: led ∧ IntsAre rs (rowF b p (ads.take i)) ∧ (∀ y, y ≠ Str.ofString "address" → mm y = m y)) ?hJ ?h0 ?turn ?done)
  case hJ => rintro i mm led' ⟨rs, nr, rfl, _⟩; exact .tail _ hA
  case h0 => exact ⟨[], 0, rfl, .nil, fun _ _ => rfl⟩
  case turn =>
    rintro i v m₁ led9 I it h tk hv ⟨rs, nr, rfl, hIa, hmm⟩ hltI F2 N2
    obtain ⟨x, tx, rfl, hx⟩ := IntsAre.at hi i v hv
    try dsimp only at F2 N2 ⊢
    have hil : i < ads.length := (List.getElem?_eq_some_iff.mp hx).1
    have hla := hIa.length
    rw [rowF_len, List.length_take] at hla
    have hla2 : min i ads.length * p ≤ 200 * 4 := Nat.mul_le_mul (by omega) hp4
    have hm2' : m₁ (Str.ofString "row") = some (.ref Rw) := (hmm _ (by decide)).trans hm2
    have hm3' : m₁ (Str.ofString "base") = some (.int b t1) := (hmm _ (by decide)).trans hm3
    have hm4' : m₁ (Str.ofString "places") = some (.int (p : Nat) t2) := (hmm _ (by decide)).trans hm4
    have q2 : @LT.lt Nat _ Rw I := hltI _ (.head _)
    have q3 : ∀ p ∈ led, p.1 ≠ Rw := fun p hp => Nat.ne_of_lt (hlt p hp)
    k_steps
    rename IntsAre _ (octF _ _ _) => hI9
    rename Fr _ _ _ _ => FF
    rename News _ _ _ _ => NN
    show TurnE _ _ _ _ _ _ _
    have e3 : ads.take (i + 1) = ads.take i ++ [x] := by rw [List.take_add_one, hx]; rfl
    refine TurnE.intro FF NN (.tail _ (.head _)) (fun p hp => .tail _ (.tail _ hp)) (fun p hp => ?_) ⟨_, _, rfl, ?_, fun y y1 => ?_⟩
    · rcases List.mem_cons.mp hp with rfl | hp
      · exact q2
      · exact hltI _ (.tail _ hp)
    · rw [e3, rowF_snoc]
      exact ints_app hIa hI9
    · dsimp only
      by_cases y3 : y = Str.ofString "row"
      · rw [if_pos y3, y3, hm2]
      · rw [if_neg y3, if_neg y1]
        exact hmm y y1
  case done =>
    rintro m₁ led9 h tk ⟨rs, nr, rfl, hIa, hmm⟩ F2 N2
    have e2 : ads.take as.length = ads := by rw [hl]; simp
    rw [e2] at hIa
    exact k _ _ _ _ _ hmm hIa F2 N2
end
end
section
open PySem PySem.W PyProof.Rows PySem.Spec PySem.Calls
set_option maxRecDepth 100000
theorem fresh_LB : True ∧ True := by
  w_top off
  k_with_none
  first | (walk1; done) | exact ⟨trivial, trivial⟩
theorem rows_LB_1 : True := by
  k_with "eval Name" => (k_here; k_dflt (refine' nameX_L ?q116F ?q116v ?_ ?q116a ?q116b; (case q116F => k_asm); (case q116a => rfl); (case q116b => rfl); (case q116v => first | exact rfl | assumption | ((conv => lhs; whnf); assumption)); k_whole))
  k_with "loadName" => (k_here; k_dflt (refine' lnX ?q117F ?q117v ?_ ?q117a ?q117b; (case q117F => k_asm); (case q117a => rfl); (case q117b => rfl); (case q117v => first | exact rfl | assumption | ((conv => lhs; whnf); assumption)); k_whole))
  k_with "exec For Tuple Call cons nil" => (k_here; k_dflt (refine' For_F ?_ ?q118hs; (case q118hs => (intro _; rfl)); k_whole))
  k_with "exec For Name Call cons nil" => (k_here; k_dflt (refine' For_F ?_ ?q119hs; (case q119hs => (intro _; rfl)); k_whole))
  trivial
theorem rows_LB_2 : True := by
  k_with "call type:bytes" => (k_here; (with_reducible show wpAny _ _ (call (Value.type _) [Value.ref _]) _ _ _); k_dflt (refine' bytes_K ?q120F ?q120N ?q120l ?q120i ?q120r ?q120z ?q120h ?_; (case q120F => k_asm); (case q120N => k_asm); (case q120l => exact isl (by k_asm) (by k_mem)); (case q120i => assumption); (case q120r => assumption); (case q120z => (rw [sizeLine_eq]; omega)); (case q120h => rfl); k_whole); intro h9 t9 k9 F9 N9 hB9; (try dsimp only); (first | (revert h9 t9 k9; intros) | skip))
  trivial
theorem digs_byte {b : Int} (hb : 2 ≤ b) (hb5 : b ≤ 5) : ∀ (k : Nat) (n : Int), ∀ d ∈ octL b k n, 48 ≤ d ∧ d < 53
  | 0, n, d, h => nomatch h
  | k + 1, n, d, h => by
    rw [octL] at h
    rcases List.mem_cons.mp h with rfl | h
    · have := fdm (a := n) hb hb5; omega
    · exact digs_byte hb hb5 k _ d h
theorem oct_byte {b : Int} (hb : 2 ≤ b) (hb5 : b ≤ 5) {k : Nat} {n : Int} : ∀ d ∈ octF b k n, 48 ≤ d ∧ d < 53 := fun d h => digs_byte hb hb5 k n d (List.mem_reverse.mp h)
theorem row_byte {b : Int} (hb : 2 ≤ b) (hb5 : b ≤ 5) {p : Nat} {ads : List Int} : ∀ d ∈ rowF b p ads, 0 ≤ d ∧ d < 256 := fun d h => by
  obtain ⟨a, _, h2⟩ := List.mem_flatMap.mp h
  have := oct_byte hb hb5 d h2
  omega
section
variable {w : World} {lo : List Str} {mean : ExcName → Option Value} {mg mb : Str → Option Value} {h₀ : Heap} {L fa : Addr} {cd : Value} {m : Str → Option Value} {led : Led} {s : Shared} {E : Value → Shared → Prop}
set_option maxHeartbeats 4000000 in
theorem st23 {Q : Flow → Shared → Prop} {Rw : Addr} {rs : List Value} {nr p c : Nat} {row : List Int} {t2 : Tok} (X : (hd.heap_39 w.params).In h₀) (T : Top topProg lo mean mg mb h₀) (B : Below callerA h₀ [] h₀) (F : Fr h₀ L s.heap m) (N : News h₀ L s.heap led) (hA : (Rw, W.listOf rs.toArray nr) ∈ led)
    (hm1 : m (Str.ofString "row") = some (.ref Rw)) (hm2 : m (Str.ofString "places") = some (.int (p : Nat) t2)) (hi : IntsAre rs row) (hrow : ∀ d ∈ row, 0 ≤ d ∧ d < 256) (hlen : row.length = c * p) (hmax : row.length ≤ 1000) (hp : 2 ≤ p) (hp4 : p ≤ 4)
    (k : ∀ h2 tk t, Fr h₀ L h2 (up m "turned" (.bytes (byteArr (swI row p c)) t)) → News h₀ L h2 led → Q .next { s with heap := h2, toks := tk }) :
    wpN (model P0 w) (lawA L fa cd) (exec lawS23.1 (lawEnv L fa cd)) Q (fun _ _ => False) s := by
  have kf : PySem.Challenge.rw_zo0034_01 = PySem.Challenge.rw_zo0034_01 ∧ hd.heap_39 = hd.heap_39 := by
    k_fill
    exact ⟨rfl, rfl⟩
  clear kf
  unfold lawS23 lawEnv lawD
  dsimp only
  have hl := hi.length
  refine wpN_Assign rfl (wpN_Call_Name ?_)
  k_steps
  have ho9 : ∃ o fd, (hd.heap_39 w.params).lookup 120 = some o ∧ o.data = .func fd := ⟨_, _, rfl, rfl⟩
  obtain ⟨o9, fd9, ho9, hd9⟩ := ho9
  refine callWithN_fn (o := o9) (fd := fd9) rfl (Nat.le_of_ble_eq_true rfl) (args2 rfl ?_)
  k_steps
  · rename Fr _ _ _ _ => FF
    exact (X.keeps FF.keep) _ _ ho9
  · rename Fr _ _ _ _ => FF
    rename News _ _ _ _ => NN
    refine bs_spec w row c p (by omega) (by omega) hlen (by omega) hrow _ _ _ _ _ _ _ _ _ _ _ _ _ _ _ _ _ _ _ _ _ _ _ _ _ B FF X NN T rfl (by decide) (by decide) fun t h' tk' F9 N9 => ?_
    k_steps
    rename Fr _ _ _ _ => FF
    rename News _ _ _ _ => NN
    exact k _ _ _ FF NN
set_option maxHeartbeats 4000000 in
theorem st24 {Q : Flow → Shared → Prop} {bs : Array UInt8} {t : Tok} (X : (hd.heap_39 w.params).In h₀) (T : Top topProg lo mean mg mb h₀) (F : Fr h₀ L s.heap m) (N : News h₀ L s.heap led)
    (hm1 : m (Str.ofString "turned") = some (.bytes bs t))
    (k : ∀ h2 tk, Fr h₀ L h2 m → News h₀ L h2 led → Q .next { s with heap := h2, toks := tk }) :
    wpAny (model P0 w) (lawA L fa cd) (exec lawS24.1 (lawEnv L fa cd)) Q E s := by
  have kf : PySem.Challenge.rw_zo0034_01 = PySem.Challenge.rw_zo0034_01 ∧ hd.heap_39 = hd.heap_39 := by
    k_fill
    exact ⟨rfl, rfl⟩
  clear kf
  unfold lawS24 lawEnv lawD
  dsimp only
  k_steps
  exact k _ _ F N
set_option maxHeartbeats 4000000 in
theorem st25 {Q : Flow → Shared → Prop} (X : (hd.heap_39 w.params).In h₀) (T : Top topProg lo mean mg mb h₀) (F : Fr h₀ L s.heap m) (N : News h₀ L s.heap led)
    (k : ∀ D1 D2 h2 tk, Fr h₀ L h2 (up (up m "names" (.ref D2)) "lines" (.ref D1)) → News h₀ L h2 ((D2, W.listOf #[] 0) :: (D1, W.listOf #[] 0) :: led) → (∀ p ∈ led, p.1 < D1) → D1 < D2 → Q .next { s with heap := h2, toks := tk }) :
    wpAny (model P0 w) (lawA L fa cd) (exec lawS25.1 (lawEnv L fa cd)) Q E s := by
  have kf : PySem.Challenge.rw_zo0034_01 = PySem.Challenge.rw_zo0034_01 ∧ hd.heap_39 = hd.heap_39 := by
    k_fill
    exact ⟨rfl, rfl⟩
  clear kf
  unfold lawS25 lawEnv lawD
  dsimp only
  k_steps
  rename_i D1 hh5 q1 D2 hh4 q2 D3 hh3 q3 hh2 hh1 hh FF NN
  exact k _ _ _ _ FF (fun p hp => NN p (.tail _ hp)) q1 q2.1
end
end
section
open PySem PySem.W PyProof.Rows PySem.Spec PySem.Calls
set_option maxRecDepth 100000
theorem fresh_U2 : True ∧ True := by
  w_top off
  k_with_none
  first | (walk1; done) | exact ⟨trivial, trivial⟩
open PyProof.Rows.LCg
section
variable {prog : Program} {w : World} {A : Around} {E : Value → Shared → Prop} {s : Shared} {h₀ : Heap} {L : Addr} {m : Str → Option Value} {env : Env}
noncomputable def SrcB (prog : Program) (w : World) (A : Around) (h₀ : Heap) (L : Addr) (m : Str → Option Value) (env : Env) (elt : PySem.Expr) (x : Str) (scope : Scope) (cl : List (Str × Addr)) (Fin : Shared → List Value → List (Addr × Obj) → Prop) (xv : Value) (s₁ : Shared) : Prop :=
  ∃ b t news, xv = .bytes b t ∧ A.handled = none ∧ Fr h₀ L s₁.heap m ∧ News h₀ L s₁.heap news ∧ b.size ≤ sizeLine ∧
    ∀ s₂ : Shared, (∃ h, s₂ = { s₁ with heap := h }) → CompRest prog w A h₀ L m env elt x scope cl s₂ (fun _ => True) (fun i v => ∃ c u, b[i]? = some c ∧ v = .int (c.toNat : Int) u) (Fin s₂) b.size 0 [] news
theorem bytes_st {I : Addr} {b : Array UInt8} {t : Tok} : ∀ i (h h' : Heap) (o : Obj) (nw : List (Addr × Obj)), KBw.IsBytesIter h I b t i → h.get? I = some o → h'.get? I = some o → (∀ b o, h₀.get? b = some o → h'.get? b = some o) → News h₀ L h' nw → True → KBw.IsBytesIter h' I b t i :=
  fun i h h' o nw st e e' _ _ _ => by obtain ⟨o', q, r⟩ := st; rw [e] at q; cases q; exact ⟨o, e', r⟩
/-- a list comprehension over bytes -/
theorem ListComp_B {elt iter : PySem.Expr} {x : Str} {px : Pos} {scope : Scope} {cl : List (Str × Addr)} {pos : Pos} {Q : Value → Shared → Prop} (F₀ : Fr h₀ L s.heap m)
    (hclos : closureFor scope env = pure cl) (hcell : ∀ y ∈ scope.names, y.2 ≠ .cell) (hkind : scope.kind = .function)
    (hnames : ∀ y ∈ scope.names, y.2 = .local → scope.names.lookup y.1 = some .local) (hx : scope.names.lookup x = some .local)
    (h : wpAny (model prog w) A (eval iter env) (SrcB prog w A h₀ L m env elt x scope cl (fun s₂ => FinE h₀ L m s₂ Q)) E s)
    (hs : ∀ x, foldedSetIterable iter env x = pure x := by intro _; rfl) :
    wpAny (model prog w) A (eval (.ListComp elt [⟨.Name x px, iter, [], 0⟩] scope pos) env) Q E s := by
  rw [eval_ListComp]
  refine wpAny_comprehension_free (use := none) rfl hs hclos hkind hnames (wpAny_mono h (fun xv s₁ h₁ => ?_) fun _ _ e => e)
  obtain ⟨b, t, news, rfl, hh, F, N, hsz, R⟩ := h₁
  refine KBw.pyIter_bytes ?_
  have up : ∀ b' o, s₁.heap.get? b' = some o → (s₁.heap.push { cls := .type "bytes_iterator", data := .fields #[.bytes b t, .int 0 0] }).get? b' = some o := fun b o e => Heap.get?_push_of_some _ e
  refine block_U (KBw.walks hh s₁.heap.objs.size b t) hsz (fun i h st => by obtain ⟨o, e, _⟩ := st; exact ⟨o, e⟩) bytes_st hcell hkind hx ⟨_, Heap.get?_push_size _ rfl, rfl, rfl⟩ (fun b hb => ?_)
    (F.keeps up) (N.grown up) (Nat.ne_of_lt F.ns.lt) (next_is_new F) (fun p hp => Nat.ne_of_lt (Heap.lt_size (N p hp).1)) trivial (R _ ⟨_, rfl⟩) ?_
  · rw [List.mem_singleton.mp hb]
    show s₁.heap.objs.size < (s₁.heap.push _).objs.size
    rw [Heap.size_push]; exact Nat.lt_succ_self _
  · intro D C h tk m' ys news' F' N' o1 hn hC₀ hD₀ hCL hDL hCD offC fin
    refine ⟨m', hn, fun h'' hs'' => fin D h'' tk (F'.change hs'' hCL hC₀) (fun p hp => ?_) o1⟩
    refine ⟨hs''.extBut _ _ ?_ (N' p hp).1, (N' p hp).2⟩
    rcases List.mem_cons.mp hp with rfl | hp
    · exact Ne.symm hCD
    · exact offC p hp
noncomputable def chrS (k : Int) : Str := ⟨#[k.toNat]⟩
/-- the element's end: one text, nothing newly held -/
noncomputable def ElE (h₀ : Heap) (L : Addr) (m : Str → Option Value) (s₁ : Shared) (I : Addr) (oI : Obj) (C : Addr) (oC : Obj) (D : Addr) (oD : Obj) (news : Led) (r : Str) (y : Value) (s₂ : Shared) : Prop :=
  ∃ h' tk t, s₂ = { s₁ with heap := h', toks := tk } ∧ Fr h₀ L h' m ∧ News h₀ L h' ((I, oI) :: (C, oC) :: (D, oD) :: news) ∧ y = .str r t
theorem ElE.intro {I C D : Addr} {s₁ : Shared} {oI oC oD : Obj} {news : Led} {r : Str} {t : Tok} {h' : Heap} {tk : Nat} (F : Fr h₀ L h' m) (N : News h₀ L h' ((I, oI) :: (C, oC) :: (D, oD) :: news)) :
    ElE h₀ L m s₁ I oI C oC D oD news r (.str r t) { s₁ with heap := h', toks := tk } := ⟨h', tk, t, rfl, F, N, rfl⟩
theorem elE_comp {I C D : Addr} {s₁ s₂ : Shared} {oI oC oD : Obj} {news : Led} {r : Str} {y : Value} {S : List (Addr × Obj) → Prop} (x : ElE h₀ L m s₁ I oI C oC D oD news r y s₂) (off : Off3 I C D news) (hS : S news) :
    CompEnd h₀ L m s₁ I oI C oC D oD S (fun y news' => KCtEl news r y news') y s₂ := by
  obtain ⟨h', tk, t, rfl, F, N, rfl⟩ := x
  exact ⟨h', tk, news, rfl, F, N, off, hS, rfl, t, rfl⟩
variable {elt : PySem.Expr} {x : Str} {scope : Scope} {cl : List (Str × Addr)} {Q : Value → Shared → Prop} {s₁ : Shared} {news : Led}
/-- texts of the ints of a list, by g -/
theorem csrc_list {ax : Addr} {vs : List Value} {nn : Nat} {ds : List Int} (g : Int → Str) (hh : A.handled = none) (F : Fr h₀ L s₁.heap m) (N : News h₀ L s₁.heap news) (hm : (ax, W.listOf vs.toArray nn) ∈ news) (hi : IntsAre vs ds) (hsz : ds.length ≤ 1000)
    (turn : ∀ k t I oI C oC D oD m₂ h tk (E' : Value → Shared → Prop), k ∈ ds → NsObj oC m₂ → m₂ x = some (.int k t) → Fr h₀ L h m → News h₀ L h ((I, oI) :: (C, oC) :: (D, oD) :: news) →
      wpAny (model prog w) A (eval elt (compEnvC scope cl C env)) (ElE h₀ L m { s₁ with heap := h, toks := tk } I oI C oC D oD news (g k)) E' { s₁ with heap := h, toks := tk })
    (fin : ∀ D ys h tk, CarriedAll ys (ds.map fun k => PyData.str (g k)) → Fr h₀ L h m → News h₀ L h ((D, lst ys) :: news) → (∀ p ∈ news, p.1 ≠ D) → Q (.ref D) { s₁ with heap := h, toks := tk }) :
    CompSrc prog w A h₀ L m env elt x scope cl (fun s₂ => FinE h₀ L m s₂ Q) (.ref ax) s₁ := by
  have hl := hi.length
  have hz : vs.toArray.size ≤ sizeLine := by rw [List.size_toArray, sizeLine_eq]; omega
  refine .inl ⟨ax, vs.toArray, news, rfl, hh, F, N, .inr ⟨_, hm, rfl, _, rfl⟩, hz, ?_⟩
  rintro s₂ ⟨g9, rfl⟩
  refine kct_rest (ks := ds) g (by rw [List.size_toArray]; exact hl.symm) (fun i v _ hv => by
    obtain ⟨k, t, e, hk⟩ := IntsAre.at hi i v (by simpa using hv)
    exact ⟨k, t, hk, e⟩) (fun k t I oI C oC D m₂ ys h tk E' hk hC hx F' N' off ne _ => ?_) ?_
  · exact wpAny_mono (turn k t I oI C oC D _ m₂ h tk E' hk hC hx F' N') (fun y s₃ h₃ => elE_comp h₃ off (.inr ⟨_, hm, rfl, _, rfl⟩)) fun _ _ e => e
  · intro ys hc _ D h tk F' N' o1
    exact fin D ys h tk hc F' N' (fun p hp => off1_ne o1 p hp)
where
  off1_ne {D : Addr} : ∀ {l : Led}, Off1 D l → ∀ p ∈ l, p.1 ≠ D
    | [], _, _, h => nomatch h
    | _ :: _, x, p, h => by
      rcases List.mem_cons.mp h with rfl | h
      · exact x.1
      · exact off1_ne x.2 p h
theorem csrc_bytes {b : Array UInt8} {tb : Tok} {ds : List Int} (g : Int → Str) (hh : A.handled = none) (F : Fr h₀ L s₁.heap m) (N : News h₀ L s₁.heap news) (hi : KBw.bInts b = ds) (hsz : ds.length ≤ 1000)
    (turn : ∀ k t I oI C oC D oD m₂ h tk (E' : Value → Shared → Prop), k ∈ ds → NsObj oC m₂ → m₂ x = some (.int k t) → Fr h₀ L h m → News h₀ L h ((I, oI) :: (C, oC) :: (D, oD) :: news) →
      wpAny (model prog w) A (eval elt (compEnvC scope cl C env)) (ElE h₀ L m { s₁ with heap := h, toks := tk } I oI C oC D oD news (g k)) E' { s₁ with heap := h, toks := tk })
    (fin : ∀ D ys h tk, CarriedAll ys (ds.map fun k => PyData.str (g k)) → Fr h₀ L h m → News h₀ L h ((D, lst ys) :: news) → (∀ p ∈ news, p.1 ≠ D) → Q (.ref D) { s₁ with heap := h, toks := tk }) :
    SrcB prog w A h₀ L m env elt x scope cl (fun s₂ => FinE h₀ L m s₂ Q) (.bytes b tb) s₁ := by
  have hl := KBw.ints_length b
  rw [hi] at hl
  refine ⟨b, tb, news, rfl, hh, F, N, by rw [sizeLine_eq]; omega, ?_⟩
  rintro s₂ ⟨g9, rfl⟩
  refine kct_rest (ks := ds) g hl (fun i v _ hv => by
    obtain ⟨c, u, hc, rfl⟩ := hv
    exact ⟨_, u, by rw [← hi]; exact KBw.ints_get hc, rfl⟩) (fun k t I oI C oC D m₂ ys h tk E' hk hC hx F' N' off ne _ => ?_) ?_
  · exact wpAny_mono (turn k t I oI C oC D _ m₂ h tk E' hk hC hx F' N') (fun y s₃ h₃ => elE_comp h₃ off trivial) fun _ _ e => e
  · intro ys hc _ D h tk F' N' o1
    exact fin D ys h tk hc F' N' (fun p hp => csrc_list.off1_ne o1 p hp)
end
end
section
open PySem PySem.W PyProof.Rows PySem.Spec PySem.Calls
set_option maxRecDepth 100000
theorem fresh_PJ : True ∧ True := by
  w_top off
  k_with_none
  first | (walk1; done) | exact ⟨trivial, trivial⟩
theorem s_nl : Str.ofString "\n" = ⟨#[10]⟩ := by decide +kernel
theorem s_head : Str.ofString "arpa.in-addr." = ⟨#[97, 114, 112, 97, 46, 105, 110, 45, 97, 100, 100, 114, 46]⟩ := by decide +kernel
theorem s_tail : Str.ofString ".in-addr.arpa" = ⟨#[46, 105, 110, 45, 97, 100, 100, 114, 46, 97, 114, 112, 97]⟩ := by decide +kernel
theorem few {es : List Int} {p : Nat} (h : es.length = p) (h2 : 2 ≤ p) (h4 : p ≤ 4) : (∃ a b, es = [a, b]) ∨ (∃ a b c, es = [a, b, c]) ∨ (∃ a b c d, es = [a, b, c, d]) := by
  match es, h with
  | [], h => simp at h; omega
  | [_], h => simp at h; omega
  | [a, b], _ => exact .inl ⟨a, b, rfl⟩
  | [a, b, c], _ => exact .inr (.inl ⟨a, b, c, rfl⟩)
  | [a, b, c, d], _ => exact .inr (.inr ⟨a, b, c, d, rfl⟩)
  | _ :: _ :: _ :: _ :: _ :: _, h => simp at h; omega
theorem line_eq {es : List Int} {p : Nat} (h : es.length = p) (h2 : 2 ≤ p) (h4 : p ≤ 4) :
    Str.ofString "arpa.in-addr." ++ Txt.join (Str.ofString ".") (es.map chrS) ++ Str.ofString "\n" = netF es.reverse := by
  rw [s_dot, s_nl, s_head]
  obtain ⟨a, b, rfl⟩ | ⟨a, b, c, rfl⟩ | ⟨a, b, c, d, rfl⟩ := few h h2 h4 <;> rfl
theorem str_app (a b : List Nat) : (⟨a.toArray⟩ : Str) ++ (⟨b.toArray⟩ : Str) = ⟨(a ++ b).toArray⟩ := by
  show Str.mk (a.toArray ++ b.toArray) = _
  rw [List.append_toArray]
theorem name_eq {es : List Int} {p : Nat} (h : es.length = p) (h2 : 2 ≤ p) (h4 : p ≤ 4) :
    Txt.join (Str.ofString ".") (es.map chrS) ++ Str.ofString ".in-addr.arpa" = bareF es := by
  rw [s_dot, s_tail]
  obtain ⟨a, b, rfl⟩ | ⟨a, b, c, rfl⟩ | ⟨a, b, c, d, rfl⟩ := few h h2 h4
  · have e : Txt.join ⟨#[46]⟩ ([a, b].map chrS) = ⟨[a.toNat, 46, b.toNat].toArray⟩ := rfl
    rw [e, str_app]; rfl
  · have e : Txt.join ⟨#[46]⟩ ([a, b, c].map chrS) = ⟨[a.toNat, 46, b.toNat, 46, c.toNat].toArray⟩ := rfl
    rw [e, str_app]; rfl
  · have e : Txt.join ⟨#[46]⟩ ([a, b, c, d].map chrS) = ⟨[a.toNat, 46, b.toNat, 46, c.toNat, 46, d.toNat].toArray⟩ := rfl
    rw [e, str_app]; rfl
theorem join_len {es : List Int} {p : Nat} (h : es.length = p) (h2 : 2 ≤ p) (h4 : p ≤ 4) : (Txt.join (Str.ofString ".") (es.map chrS)).length ≤ 7 := by
  have e := congrArg Str.length (name_eq h h2 h4)
  rw [Str.length_append, s_tail] at e
  have e2 : (⟨#[46, 105, 110, 45, 97, 100, 100, 114, 46, 97, 114, 112, 97]⟩ : Str).length = 13 := rfl
  have e3 : (bareF es).length ≤ 20 := by
    show (bareC es).toArray.size ≤ 20
    obtain ⟨a, b, rfl⟩ | ⟨a, b, c, rfl⟩ | ⟨a, b, c, d, rfl⟩ := few h h2 h4 <;> simp [bareC, tailC]
  omega
theorem drop_flat {b : Int} {p : Nat} : ∀ (ads : List Int) (i : Nat), i < ads.length → ((rowF b p ads).drop (i * p)).take p = octF b p (ads.getD i 0)
  | [], i, h => by simp at h
  | a :: r, 0, _ => by
    have e : (octF b p a).length = p := octF_len
    unfold rowF
    rw [Nat.zero_mul, List.drop_zero, List.flatMap_cons, List.take_append_of_le_length (by omega), List.take_of_length_le (by omega)]
    rfl
  | a :: r, i + 1, h => by
    have e : (octF b p a).length = p := octF_len
    have ih := drop_flat (b := b) (p := p) r i (by simpa using h)
    unfold rowF at ih ⊢
    rw [List.flatMap_cons, Nat.add_mul, Nat.one_mul, List.drop_append, List.drop_of_length_le (by omega), List.nil_append]
    have e2 : i * p + p - (octF b p a).length = i * p := by omega
    rw [e2, ih]
    rfl
theorem swJ_get (ds : List Int) (k i : Nat) : ∀ (n : Nat) (acc : List Int) (t : Nat), n ≤ k → i * k + k ≤ acc.length →
    (swJ ds k i n acc)[t]? = if i * k + (k - n) ≤ t ∧ t < i * k + k then some (ds.getD (i * k + (i * k + k - 1 - t)) 0) else acc[t]?
  | 0, acc, t, _, _ => by
    rw [swJ, if_neg (by omega)]
  | n + 1, acc, t, hn, ha => by
    rw [swJ, List.getElem?_set, swJ_length, swJ_get ds k i n acc t (by omega) ha]
    by_cases h1 : i * k + (k - 1 - n) = t
    · subst h1
      rw [if_pos rfl, if_pos (by omega), if_pos (by omega)]
      congr 3
      omega
    · rw [if_neg h1]
      by_cases h2 : i * k + (k - n) ≤ t ∧ t < i * k + k
      · rw [if_pos h2, if_pos (by omega)]
      · rw [if_neg h2, if_neg (by omega)]
theorem swI_get (ds : List Int) (k : Nat) : ∀ (c i q : Nat), i < c → q < k → c * k ≤ ds.length → (swI ds k c)[i * k + q]? = some (ds.getD (i * k + (k - 1 - q)) 0)
  | 0, i, q, h, _, _ => absurd h (Nat.not_lt_zero _)
  | c + 1, i, q, h, hq, hl => by
    rw [Nat.add_mul, Nat.one_mul] at hl
    rw [swI, swJ_get ds k c k _ _ (Nat.le_refl _) (by rw [swI_length]; exact hl)]
    by_cases hc : i = c
    · subst hc
      rw [if_pos (by omega)]
      congr 2
      omega
    · have h1 : (i + 1) * k ≤ c * k := Nat.mul_le_mul_right k (by omega)
      rw [Nat.add_mul, Nat.one_mul] at h1
      rw [if_neg (by omega)]
      exact swI_get ds k c i q (by omega) hq (by omega)
theorem turn_slice {b : Int} {p : Nat} (ads : List Int) {i : Nat} (hi : i < ads.length) : ((swI (rowF b p ads) p ads.length).drop (i * p)).take p = octL b p (ads.getD i 0) := by
  have hd := drop_flat (b := b) (p := p) ads i hi
  have hlen := rowF_len (b := b) (p := p) ads
  have e : octL b p (ads.getD i 0) = (octF b p (ads.getD i 0)).reverse := by unfold octF; rw [List.reverse_reverse]
  have h1 : (i + 1) * p ≤ ads.length * p := Nat.mul_le_mul_right p hi
  rw [Nat.add_mul, Nat.one_mul] at h1
  rw [e, ← hd]
  refine List.ext_getElem? fun q => ?_
  by_cases hq : q < p
  · have hl : (((rowF b p ads).drop (i * p)).take p).length = p := by rw [List.length_take, List.length_drop]; omega
    rw [List.getElem?_take_of_lt hq, List.getElem?_drop, swI_get _ _ _ _ _ hi hq (by omega), List.getElem?_reverse (by omega), hl, List.getElem?_take_of_lt (by omega), List.getElem?_drop]
    have h2 : i * p + (p - 1 - q) < (rowF b p ads).length := by omega
    rw [List.getD_eq_getElem?_getD, List.getElem?_eq_getElem h2]
    rfl
  · rw [List.getElem?_eq_none (by rw [List.length_take]; omega), List.getElem?_eq_none (by rw [List.length_reverse, List.length_take]; omega)]
end
section
open PySem PySem.W PyProof.Rows PySem.Spec PySem.Calls
set_option maxRecDepth 100000
theorem fresh_LC : True ∧ True := by
  w_top off
  k_with_none
  first | (walk1; done) | exact ⟨trivial, trivial⟩
theorem rows_LC_1 : True := by
  k_with "eval Name" => (k_here; k_dflt (refine' nameX_L ?q121F ?q121v ?_ ?q121a ?q121b; (case q121F => k_asm); (case q121a => rfl); (case q121b => rfl); (case q121v => first | exact rfl | assumption | ((conv => lhs; whnf); assumption)); k_whole))
  k_with "loadName" => (k_here; k_dflt (refine' lnX ?q122F ?q122v ?_ ?q122a ?q122b; (case q122F => k_asm); (case q122a => rfl); (case q122b => rfl); (case q122v => first | exact rfl | assumption | ((conv => lhs; whnf); assumption)); k_whole))
  k_with "exec For Tuple Call cons nil" => (k_here; k_dflt (refine' For_F ?_ ?q123hs; (case q123hs => (intro _; rfl)); k_whole))
  k_with "exec For Name Call cons nil" => (k_here; k_dflt (refine' For_F ?_ ?q124hs; (case q124hs => (intro _; rfl)); k_whole))
  trivial
theorem rows_LC_2 : True := by
  k_with "call builtin:len" => (k_here; (with_reducible show wpAny _ _ (call (Value.builtin "len") [Value.ref _]) _ _ _); k_dflt (refine' kst_len ?q125k1 ?q125k2 ?q125k3 ?q125k4 ?_; (case q125k1 => k_asm); (case q125k2 => k_mem); (case q125k3 => exact IntsAre.length (by assumption)); (case q125k4 => omega); k_whole))
  k_with "call builtin:list.append" => (k_here; (with_reducible show wpAny _ _ (call (Value.builtin _) [Value.ref _, _]) _ _ _); k_dflt (refine' append_L ?q126k1 ?q126k2 ?q126k3 ?q126z ?_; (case q126k1 => k_asm); (case q126k2 => k_asm); (case q126k3 => k_upd); (case q126z => first | omega | assumption); k_whole); intro _ _ _; (try dsimp only))
  k_with "subscriptTail Name Slice ref ref" => (k_here; (with_reducible show wpAny _ _ (subscriptTail _ (PySem.Expr.Slice (some _) (some _) none _) (Value.ref _) (Value.ref _)) _ _ _); k_dflt (refine' kmk_slice_ints ?q127F ?q127N ?q127l ?q127p ?q127q ?q127i ?q127m ?q127c ?_ ?q127s ?q127t ?q127z; (case q127F => k_asm); (case q127N => k_asm); (case q127l => exact isl (by k_asm) (by k_mem)); (case q127p => exact IsPart.int _ _); (case q127q => exact IsPart.int _ _); (case q127i => assumption); (case q127m => exact kmk_run (by assumption) (by omega) (by omega)); (case q127c => exact rfl); (case q127s => with_unfolding_all rfl); (case q127t => kmk_pure); (case q127z => (rw [List.size_toArray, sizeLine_eq]; omega))); intro _ _ _ _ _ _ _ _ _; (try dsimp only))
  k_with "eval ListComp" => (refine stop_in ?_)
  k_with "CompSrc" => (refine stop_in ?_)
  k_with "call builtin:str.join" => (refine stop_in ?_)
  k_with "SrcB" => (refine stop_in ?_)
  k_with "subscriptTail Name Slice bytes ref" => (k_here; (with_reducible show wpAny _ _ (subscriptTail _ _ (Value.bytes _ _) (Value.ref _)) _ _ _); k_dflt (refine' KBc.slice_K ?q132F ?q132N ?q132k ?q132p ?q132q ?q132z ?_ ?q132s ?q132t; (case q132F => k_asm); (case q132N => k_asm); (case q132k => assumption); (case q132p => exact IsPart.int _ _); (case q132q => exact IsPart.int _ _); (case q132z => omega); (case q132s => with_unfolding_all rfl); (case q132t => kmk_pure)); intro _ _ _ _ _ _; (try dsimp only))
  trivial
theorem swJ_all {P : Int → Prop} (h0 : P 0) {ds : List Int} (hd : ∀ d ∈ ds, P d) (k i : Nat) : ∀ (j : Nat) (acc : List Int), (∀ d ∈ acc, P d) → ∀ d ∈ swJ ds k i j acc, P d
  | 0, acc, ha => ha
  | j + 1, acc, ha => fun d h => by
    rw [swJ] at h
    rcases List.mem_or_eq_of_mem_set h with h | rfl
    · exact swJ_all h0 hd k i j acc ha d h
    · rw [List.getD_eq_getElem?_getD]
      cases h : ds[i * k + j]? with
      | none => exact h0
      | some n => exact hd n (List.mem_of_getElem? h)
theorem swI_all {P : Int → Prop} (h0 : P 0) {ds : List Int} (hd : ∀ d ∈ ds, P d) (k : Nat) : ∀ (i : Nat), ∀ d ∈ swI ds k i, P d
  | 0 => fun d h => by rw [swI] at h; rw [(List.mem_replicate.mp h).2]; exact h0
  | i + 1 => fun d h => swJ_all h0 hd k i k _ (swI_all h0 hd k i) d h
theorem bInts_byteArr {ds : List Int} (h : ∀ d ∈ ds, 0 ≤ d ∧ d < 256) : KBw.bInts (byteArr ds) = ds := by
  unfold byteArr
  rw [KBw.ints_list, List.map_map]
  conv => rhs; rw [← List.map_id ds]
  exact List.map_congr_left fun d hd => byte_back (h d hd).1 (h d hd).2
section
variable {w : World} {lo : List Str} {mean : ExcName → Option Value} {mg mb : Str → Option Value} {h₀ : Heap} {L fa : Addr} {cd : Value} {m : Str → Option Value} {led : Led} {s : Shared} {E : Value → Shared → Prop}
set_option maxHeartbeats 4000000 in
theorem st26 {Q : Flow → Shared → Prop} {Ln Nm Rw : Addr} {rs : List Value} {nr p : Nat} {ads : List Int} {b : Int} {t t2 : Tok} (X : (hd.heap_39 w.params).In h₀) (T : Top topProg lo mean mg mb h₀) (B : Below callerA h₀ [] h₀) (F : Fr h₀ L s.heap m) (N : News h₀ L s.heap ((Nm, W.listOf #[] 0) :: (Ln, W.listOf #[] 0) :: led)) (hA : (Rw, W.listOf rs.toArray nr) ∈ led) (hlt : ∀ p ∈ led, p.1 < Ln) (hLN : @LT.lt Nat _ Ln Nm)
    (hm1 : m (Str.ofString "row") = some (.ref Rw)) (hm2 : m (Str.ofString "places") = some (.int (p : Nat) t2)) (hm3 : m (Str.ofString "lines") = some (.ref Ln)) (hm4 : m (Str.ofString "names") = some (.ref Nm)) (hm5 : m (Str.ofString "turned") = some (.bytes (byteArr (swI (rowF b p ads) p ads.length)) t))
    (hi : IntsAre rs (rowF b p ads)) (hb : 2 ≤ b) (hb5 : b ≤ 5) (hlen : ads.length ≤ 200) (hp : 2 ≤ p) (hp4 : p ≤ 4)
    (k : ∀ m2 h2 tk ls ns n1 n2, (∀ y, y ≠ Str.ofString "begin" → m2 y = m y) → StrsAre ls (ads.map fun a => netF (octL b p a)) → StrsAre ns (ads.map fun a => bareF (octL b p a)) → Fr h₀ L h2 m2 → News h₀ L h2 ((Nm, W.listOf ns.toArray n2) :: (Ln, W.listOf ls.toArray n1) :: led) → Q .next { s with heap := h2, toks := tk }) :
    wpAny (model P0 w) (lawA L fa cd) (exec lawS26.1 (lawEnv L fa cd)) Q E s := by
  have kf : PySem.Challenge.rw_zo0034_01 = PySem.Challenge.rw_zo0034_01 ∧ hd.heap_39 = hd.heap_39 := by
    k_fill
    exact ⟨rfl, rfl⟩
  clear kf
  unfold lawS26 lawEnv lawD
  dsimp only
  have hl := hi.length
  have hrl := rowF_len (b := b) (p := p) ads
  have hmul : ads.length * p ≤ 200 * 4 := Nat.mul_le_mul hlen hp4
  have hbi : KBw.bInts (byteArr (swI (rowF b p ads) p ads.length)) = swI (rowF b p ads) p ads.length := bInts_byteArr (swI_all ⟨by decide, by decide⟩ (row_byte hb hb5) p _)
  have hsl := swI_length (rowF b p ads) p ads.length
  k_steps
  rename_i hB tkB ta tb tc hr FB NB hsz
  k_dflt (refine' iter_rangeJ (n := ads.length) rfl rfl rfl hr ?hsm ?hn FB NB (fun i mm led' => ∃ ls ns n1 n2, led' = (Nm, W.listOf (List.toArray ns) n2) :: (Ln, W.listOf (List.toArray ls) n1) :: led ∧ StrsAre ls ((ads.take i).map fun a => netF (octL b p a)) ∧ StrsAre ns ((ads.take i).map fun a => bareF (octL b p a)) ∧ (∀ y, y ≠ Str.ofString "begin" → mm y = m y)) ?h0 ?turn ?done)
  case hsm => exact rng_small (by omega) (by omega) (by omega) (by omega) (by omega) (by omega)
  case hn => exact bs_size (by omega) hrl
  case h0 => exact ⟨[], [], 0, 0, rfl, .nil, .nil, fun _ _ => rfl⟩
  case turn =>
    rintro i ti m₁ led9 I it h tk hi9 ⟨ls, ns, n1, n2, rfl, hl1, hl2, hmm⟩ hltI F2 N2
    try dsimp only at F2 N2 ⊢
    have hz1 := hl1.length
    have hz2 := hl2.length
    rw [List.length_map, List.length_take] at hz1 hz2
    have hm1' : m₁ (Str.ofString "row") = some (.ref Rw) := (hmm _ (by decide)).trans hm1
    have hm2' : m₁ (Str.ofString "places") = some (.int (p : Nat) t2) := (hmm _ (by decide)).trans hm2
    have hm3' : m₁ (Str.ofString "lines") = some (.ref Ln) := (hmm _ (by decide)).trans hm3
    have hm4' : m₁ (Str.ofString "names") = some (.ref Nm) := (hmm _ (by decide)).trans hm4
    have hm5' := (hmm (Str.ofString "turned") (by decide)).trans hm5
    have hipN : i * p + p ≤ ads.length * p := by
      have h1 : (i + 1) * p ≤ ads.length * p := Nat.mul_le_mul_right p hi9
      rw [Nat.add_mul, Nat.one_mul] at h1
      exact h1
    have q1 : @LT.lt Nat _ Ln Nm := hLN
    have q2 : @LT.lt Nat _ Nm I := hltI _ (.head _)
    have q3 : ∀ p ∈ led, p.1 ≠ Ln := fun p hp => Nat.ne_of_lt (hlt p hp)
    have q4 : ∀ p ∈ led, p.1 ≠ Nm := fun p hp => Nat.ne_of_lt (Nat.lt_trans (hlt p hp) hLN)
    have hip : (i : Int) * p + p ≤ (ads.length * p : Nat) := by
      have h1 : (i + 1) * p ≤ ads.length * p := Nat.mul_le_mul_right p hi9
      rw [Nat.add_mul, Nat.one_mul] at h1
      exact_mod_cast h1
    have hip0 : 0 ≤ (i : Int) * p := Int.mul_nonneg (by omega) (by omega)
    have e0 : 0 + (i : Int) * p = (i : Int) * p := Int.zero_add _
    rw [e0] at F2
    k_steps
    refine stop_out ?_
    k_dflt (refine LCg.ListComp_U (F₀ := by k_asm) (by with_unfolding_all rfl) (by decide) (by rfl) (by decide) (by rfl) ?_)
    k_steps
    refine stop_out ?_
    rename_i D2 w2 h2 F3 N3 l3 hI3 hC3 hL3
    clear hC3 hL3
    have e3 : List.take (min ((i : Int) * p + p).toNat (rowF b p ads).length - ((i : Int) * p).toNat) (List.drop ((i : Int) * p).toNat (rowF b p ads)) = octF b p (ads.getD i 0) := by
      rw [show ((i : Int) * p).toNat = i * p by rw [← Int.natCast_mul, Int.toNat_natCast], show ((i : Int) * p + p).toNat = i * p + p by rw [← Int.natCast_mul, ← Int.natCast_add, Int.toNat_natCast], show min (i * p + p) (rowF b p ads).length - i * p = p by omega]
      exact drop_flat ads i hi9
    rw [e3] at hI3
    refine csrc_list chrS rfl F3 N3 (.head _) hI3 (by rw [octF_len]; omega) (fun k t I oI C oC D oD m₂ h tk E' hk hC hx F4 N4 => ?_) (fun D ys h tk hc F4 N4 hne => ?_)
    · have hkb := oct_byte hb hb5 k hk
      k_steps
      exact ElE.intro (by k_asm) (by k_asm)
    · k_steps
      refine stop_out ?_
      refine KT.join_B 10 (isl N4 (.head _)) hc (fun a _ => by show 1 ≤ 10; decide) (by rw [octF_len]; omega) (by decide) fun t' k9 => ?_
      have hjl := join_len (octF_len (b := b) (p := p) (n := ads.getD i 0)) hp hp4
      have N5 := cb_drop N4 (news := (I, it) :: (Nm, W.listOf ns.toArray n2) :: (Ln, W.listOf ls.toArray n1) :: led) (fun p hp => .tail _ (.tail _ hp))
      clear N4
      k_steps
      refine stop_out ?_
      k_dflt (refine ListComp_B (F₀ := by k_asm) (by with_unfolding_all rfl) (by decide) (by rfl) (by decide) (by rfl) ?_)
      k_steps
      refine stop_out ?_
      rename_i h8 t8 k8 F8 N8 hB8
      have e5 : KBw.bInts (KBy.picked (byteArr (swI (rowF b p ads) p ads.length)) (some ((i : Int) * p)) (some ((i : Int) * p + p))) = octL b p (ads.getD i 0) := by
        rw [hB8, ← turn_slice ads hi9]
        show List.take (clipAt _ ((i : Int) * p + p) - clipAt _ ((i : Int) * p)) (List.drop (clipAt _ ((i : Int) * p)) _) = _
        rw [← Int.natCast_mul, ← Int.natCast_add, clipAt_nat, clipAt_nat, show min (i * p) (swI (rowF b p ads) p ads.length).length = i * p by omega, show min (i * p + p) (swI (rowF b p ads) p ads.length).length - i * p = p by omega]
      clear hB8
      refine csrc_bytes chrS rfl F8 N8 e5 (by rw [octL_length]; omega) (fun k t I oI C oC D oD m₂ h tk E' hk hC hx F4 N4 => ?_) (fun D ys h tk hc F4 N4 hne => ?_)
      · have hkb := digs_byte hb hb5 _ _ k hk
        k_steps
        exact ElE.intro (by k_asm) (by k_asm)
      · k_steps
        refine stop_out ?_
        refine KT.join_B 10 (isl N4 (.head _)) hc (fun a _ => by show 1 ≤ 10; decide) (by rw [octL_length]; omega) (by decide) fun t' k9 => ?_
        have hjl2 := join_len (octL_length b p (ads.getD i 0)) hp hp4
        have N6 := cb_drop N4 (fun p hp => .tail _ hp)
        clear N4
        k_steps
        rename Fr _ _ _ _ => FF
        rename News _ _ _ _ => NN
        show TurnE _ _ _ _ _ _ _
        have e6 : ads.take (i + 1) = ads.take i ++ [ads.getD i 0] := by
          rw [List.take_add_one, List.getD_eq_getElem?_getD, List.getElem?_eq_getElem hi9]; rfl
        refine TurnE.intro FF NN (.head _) (fun p hp => .tail _ hp) (fun p hp => ?_) ⟨_, _, _, _, rfl, ?_, ?_, fun y y1 => ?_⟩
        · rcases List.mem_cons.mp hp with rfl | hp
          · exact q2
          rcases List.mem_cons.mp hp with rfl | hp
          · exact Nat.lt_trans q1 q2
          · exact hltI _ (.tail _ (.tail _ hp))
        · rw [e6, List.map_append]
          have e7 := line_eq (octF_len (b := b) (p := p) (n := ads.getD i 0)) hp hp4
          have e8 : (octF b p (ads.getD i 0)).reverse = octL b p (ads.getD i 0) := by unfold octF; rw [List.reverse_reverse]
          rw [e7, e8]
          exact kct_snoc hl1
        · rw [e6, List.map_append, name_eq (octL_length b p (ads.getD i 0)) hp hp4]
          exact kct_snoc hl2
        · dsimp only
          rw [if_neg y1]
          exact hmm y y1
  case done =>
    rintro m₁ led9 h tk ⟨ls, ns, n1, n2, rfl, hl1, hl2, hmm⟩ F2 N2
    rw [List.take_length] at hl1 hl2
    exact k _ _ _ _ _ _ _ hmm hl1 hl2 F2 N2
end
end
section
open PySem PySem.W PyProof.Rows PySem.Spec PySem.Calls
set_option maxRecDepth 100000
theorem fresh_LD : True ∧ True := by
  w_top off
  k_with_none
  first | (walk1; done) | exact ⟨trivial, trivial⟩
theorem rows_LD_1 : True := by
  k_with "eval Name" => (k_here; k_dflt (refine' nameX_L ?q133F ?q133v ?_ ?q133a ?q133b; (case q133F => k_asm); (case q133a => rfl); (case q133b => rfl); (case q133v => first | exact rfl | assumption | ((conv => lhs; whnf); assumption)); k_whole))
  k_with "loadName" => (k_here; k_dflt (refine' lnX ?q134F ?q134v ?_ ?q134a ?q134b; (case q134F => k_asm); (case q134a => rfl); (case q134b => rfl); (case q134v => first | exact rfl | assumption | ((conv => lhs; whnf); assumption)); k_whole))
  k_with "exec For Tuple Call cons nil" => (k_here; k_dflt (refine' For_F ?_ ?q135hs; (case q135hs => (intro _; rfl)); k_whole))
  k_with "exec For Name Call cons nil" => (k_here; k_dflt (refine' For_F ?_ ?q136hs; (case q136hs => (intro _; rfl)); k_whole))
  trivial
theorem rows_LD_2 : True := by
  k_with "call builtin:len" => (k_here; (with_reducible show wpAny _ _ (call (Value.builtin "len") [Value.ref _]) _ _ _); k_dflt (refine' kst_len ?q137k1 ?q137k2 ?q137k3 ?q137k4 ?_; (case q137k1 => k_asm); (case q137k2 => k_mem); (case q137k3 => exact IntsAre.length (by assumption)); (case q137k4 => omega); k_whole))
  k_with "binaryOp Mult int int" => (k_here; (refine mulB_K (by omega) (by omega) ?_); (try dsimp only))
  trivial
theorem pick_from (vs : List Value) {x : Int} (h : 0 ≤ x) : (slicePick vs.toArray (some x) none none).toList = vs.drop x.toNat := by
  have e : sliceBounds (some x) none none vs.toArray.size = (((min x.toNat vs.toArray.size : Nat) : Int), ((vs.toArray.size : Nat) : Int), 1) := by
    simp only [sliceBounds, Option.getD_none, show (1 : Int) > 0 by decide, if_true, if_neg (show ¬ (x < 0) by omega)]
    congr 1
    omega
  rw [kmk_pick_nat _ e]
  show (vs.drop (min x.toNat vs.toArray.size)).take (vs.toArray.size - min x.toNat vs.toArray.size) = _
  rw [List.size_toArray, kmk_drop_min, List.take_of_length_le (by rw [List.length_drop]; omega)]
theorem strs_drop : ∀ {vs : List Value} {xs : List Str} (k : Nat), StrsAre vs xs → StrsAre (vs.drop k) (xs.drop k)
  | _, _, 0, h => h
  | _, _, _ + 1, .nil => .nil
  | _, _, k + 1, .cons _ _ r => strs_drop k r
theorem rows_LD_3 : True := by
  k_with "subscriptTail Name Slice ref ref" => (k_here; (with_reducible show wpAny _ _ (subscriptTail _ (PySem.Expr.Slice (some _) none none _) (Value.ref _) (Value.ref _)) _ _ _); k_dflt (refine' kmk_slice_lit ?q139F ?q139N ?q139l ?q139p ?q139q ?q139e ?_ ?q139s ?q139t ?q139z; (case q139F => k_asm); (case q139N => k_asm); (case q139l => exact isl (by k_asm) (by k_mem)); (case q139p => exact IsPart.int _ _); (case q139q => exact IsPart.none); (case q139e => exact pick_from _ (by omega)); (case q139s => with_unfolding_all rfl); (case q139t => kmk_pure); (case q139z => (rw [List.size_toArray, sizeLine_eq]; omega))); intro D' h' F' N' l1; (try dsimp only); (first | (revert D' h'; intros) | skip))
  trivial
section
variable {w : World} {lo : List Str} {mean : ExcName → Option Value} {mg mb : Str → Option Value} {h₀ : Heap} {L fa : Addr} {cd : Value} {m : Str → Option Value} {led : Led} {s : Shared} {E : Value → Shared → Prop}
set_option maxHeartbeats 4000000 in
theorem st27 {Q : Flow → Shared → Prop} {Sz Nm : Addr} {vs ns : List Value} {nn n2 : Nat} {sz : List Int} {nms : List Str} (X : (hd.heap_39 w.params).In h₀) (T : Top topProg lo mean mg mb h₀) (F : Fr h₀ L s.heap m) (N : News h₀ L s.heap led) (hS : (Sz, W.listOf vs.toArray nn) ∈ led) (hNm : (Nm, W.listOf ns.toArray n2) ∈ led)
    (hm1 : m (Str.ofString "sizes") = some (.ref Sz)) (hm2 : m (Str.ofString "names") = some (.ref Nm)) (hi : IntsAre vs sz) (hn : StrsAre ns nms) (hlen : sz.length ≤ 60) (hlen2 : nms.length ≤ 200)
    (k : ∀ h2 tk (Ar : Nat) zs, StrsAre zs (nms.drop (2 * sz.length)) → Fr h₀ L h2 (up m "around" (.ref Ar)) → News h₀ L h2 ((Ar, W.listOf zs.toArray 0) :: led) → (∀ p ∈ led, p.1 < Ar) → Q .next { s with heap := h2, toks := tk }) :
    wpAny (model P0 w) (lawA L fa cd) (exec lawS27.1 (lawEnv L fa cd)) Q E s := by
  have kf : PySem.Challenge.rw_zo0034_01 = PySem.Challenge.rw_zo0034_01 ∧ hd.heap_39 = hd.heap_39 := by
    k_fill
    exact ⟨rfl, rfl⟩
  clear kf
  unfold lawS27 lawEnv lawD
  dsimp only
  have hl := hi.length
  have hl2 := hn.length
  k_steps
  rename Fr _ _ _ _ => FF
  rename News _ _ _ _ => NN
  rename (∀ p : Addr × Obj, p ∈ _ → p.1 < _) => l1
  have e : (2 * ((sz.length : Nat) : Int)).toNat = 2 * sz.length := by omega
  rw [e] at NN
  exact k _ _ _ _ (strs_drop _ hn) FF NN l1
end
end
section
open PySem PySem.W PyProof.Rows PySem.Spec PySem.Calls
set_option maxRecDepth 100000
theorem fresh_LE : True ∧ True := by
  w_top off
  k_with_none
  first | (walk1; done) | exact ⟨trivial, trivial⟩
noncomputable def forB : Stmt → List Stmt
  | .For _ _ b _ _ => b
  | _ => []
noncomputable def lawB0 : { st : Stmt // (forB lawS28.1)[0]? = some st } := ⟨_, by rfl⟩
noncomputable def lawB1 : { st : Stmt // (forB lawS28.1)[1]? = some st } := ⟨_, by rfl⟩
noncomputable def lawB2 : { st : Stmt // (forB lawS28.1)[2]? = some st } := ⟨_, by rfl⟩
noncomputable def lawB3 : { st : Stmt // (forB lawS28.1)[3]? = some st } := ⟨_, by rfl⟩
noncomputable def lawB4 : { st : Stmt // (forB lawS28.1)[4]? = some st } := ⟨_, by rfl⟩
noncomputable def lawB5 : { st : Stmt // (forB lawS28.1)[5]? = some st } := ⟨_, by rfl⟩
noncomputable def lawB6 : { st : Stmt // (forB lawS28.1)[6]? = some st } := ⟨_, by rfl⟩
noncomputable def lawB7 : { st : Stmt // (forB lawS28.1)[7]? = some st } := ⟨_, by rfl⟩
noncomputable def lawB8 : { st : Stmt // (forB lawS28.1)[8]? = some st } := ⟨_, by rfl⟩
noncomputable def lawB9 : { st : Stmt // (forB lawS28.1)[9]? = some st } := ⟨_, by rfl⟩
noncomputable def lawB10 : { st : Stmt // (forB lawS28.1)[10]? = some st } := ⟨_, by rfl⟩
theorem law_body28 : forB lawS28.1 = [lawB0.1, lawB1.1, lawB2.1, lawB3.1, lawB4.1, lawB5.1, lawB6.1, lawB7.1, lawB8.1, lawB9.1, lawB10.1] := rfl
theorem rows_LE_1 : True := by
  k_with "eval Name" => (k_here; k_dflt (refine' nameX_L ?q140F ?q140v ?_ ?q140a ?q140b; (case q140F => k_asm); (case q140a => rfl); (case q140b => rfl); (case q140v => first | exact rfl | assumption | ((conv => lhs; whnf); assumption)); k_whole))
  k_with "loadName" => (k_here; k_dflt (refine' lnX ?q141F ?q141v ?_ ?q141a ?q141b; (case q141F => k_asm); (case q141a => rfl); (case q141b => rfl); (case q141v => first | exact rfl | assumption | ((conv => lhs; whnf); assumption)); k_whole))
  k_with "exec For Tuple Call cons nil" => (k_here; k_dflt (refine' For_F ?_ ?q142hs; (case q142hs => (intro _; rfl)); k_whole))
  k_with "exec For Name Call cons nil" => (k_here; k_dflt (refine' For_F ?_ ?q143hs; (case q143hs => (intro _; rfl)); k_whole))
  trivial
section
variable {prog : Program} {w : World} {A : Around} {E : Value → Shared → Prop} {s : Shared}
theorem item_at {value slice : PySem.Expr} {h₀ : Heap} {L l : Addr} {news : Led} {vs : List Value} {nn j : Nat} {i : Int} {u : Tok} {x : Value} {Q : Value → Shared → Prop} (N : News h₀ L s.heap news) (hm : (l, W.listOf vs.toArray nn) ∈ news) (hx : vs[j]? = some x) (hij : i = (j : Int)) (hj : j ≤ 1000) (h : Q x s)
    (hs : subscripted slice false (.ref l) (.int i u) = operate [.ref l, .int i u] (getItem (.ref l) (.int i u)) := by with_unfolding_all rfl) (hg : ∀ r, letTemporaryGo value (.ref l) r = pure () := by intro _; with_unfolding_all rfl) :
    wpAny (model prog w) A (subscriptTail value slice (.ref l) (.int i u)) Q E s := by
  subst hij
  exact item_listL (isl N hm) (by omega) (by omega) (by simpa using hx) h hs hg
theorem item_ev {value slice : PySem.Expr} {h₀ : Heap} {L l : Addr} {news : Led} {vs : List Value} {nn j : Nat} {u : Tok} {x : Value} {Q : Value → Shared → Prop} (N : News h₀ L s.heap news) (hm : (l, W.listOf vs.toArray nn) ∈ news) (hx : vs[2 * j]? = some x) (hj : j ≤ 100) (h : Q x s)
    (hs : subscripted slice false (.ref l) (.int (2 * (j : Int)) u) = operate [.ref l, .int (2 * (j : Int)) u] (getItem (.ref l) (.int (2 * (j : Int)) u))) (hg : ∀ r, letTemporaryGo value (.ref l) r = pure ()) :
    wpAny (model prog w) A (subscriptTail value slice (.ref l) (.int (2 * (j : Int)) u)) Q E s := item_at N hm hx (by push_cast; rfl) (by omega) h hs hg
theorem item_od {value slice : PySem.Expr} {h₀ : Heap} {L l : Addr} {news : Led} {vs : List Value} {nn j : Nat} {u : Tok} {x : Value} {Q : Value → Shared → Prop} (N : News h₀ L s.heap news) (hm : (l, W.listOf vs.toArray nn) ∈ news) (hx : vs[2 * j + 1]? = some x) (hj : j ≤ 100) (h : Q x s)
    (hs : subscripted slice false (.ref l) (.int (2 * (j : Int) + 1) u) = operate [.ref l, .int (2 * (j : Int) + 1) u] (getItem (.ref l) (.int (2 * (j : Int) + 1) u))) (hg : ∀ r, letTemporaryGo value (.ref l) r = pure ()) :
    wpAny (model prog w) A (subscriptTail value slice (.ref l) (.int (2 * (j : Int) + 1) u)) Q E s := item_at N hm hx (by push_cast; rfl) (by omega) h hs hg
end
theorem strs_at {vs : List Value} {xs : List Str} (h : StrsAre vs xs) {i : Nat} {d : Str} (hd : xs[i]? = some d) : ∃ t, vs[i]? = some (.str d t) := by
  induction h generalizing i with
  | nil => cases hd
  | cons x t _ ih =>
    cases i with
    | zero => cases hd; exact ⟨t, rfl⟩
    | succ i => exact ih hd
theorem rows_LE_2 : True := by
  k_with "subscriptTail Name BinOp ref int" => (k_here; (with_reducible show wpAny _ _ (subscriptTail _ _ (Value.ref _) (Value.int (2 * _) _)) _ _ _); k_dflt (refine' item_ev ?q144N ?q144m ?q144x ?q144j ?_ ?q144s ?q144g; (case q144N => k_asm); (case q144m => k_mem); (case q144x => assumption); (case q144j => omega); (case q144s => with_unfolding_all rfl); (case q144g => (intro _; with_unfolding_all rfl)); k_whole))
  k_with "subscriptTail Name BinOp ref int" => (k_here; (with_reducible show wpAny _ _ (subscriptTail _ _ (Value.ref _) (Value.int (2 * _ + 1) _)) _ _ _); k_dflt (refine' item_od ?q145N ?q145m ?q145x ?q145j ?_ ?q145s ?q145g; (case q145N => k_asm); (case q145m => k_mem); (case q145x => assumption); (case q145j => omega); (case q145s => with_unfolding_all rfl); (case q145g => (intro _; with_unfolding_all rfl)); k_whole))
  trivial
section
variable {w : World} {lo : List Str} {mean : ExcName → Option Value} {mg mb : Str → Option Value} {h₀ : Heap} {L fa : Addr} {cd : Value} {m : Str → Option Value} {led : Led} {s : Shared} {E : Value → Shared → Prop}
set_option maxHeartbeats 4000000 in
theorem b0 {Q : Flow → Shared → Prop} {Ln Nm : Addr} {ls ns : List Value} {n1 n2 i : Nat} {x1 x2 x3 : Str} {t t1 t2 t3 : Tok} {ow oz : Obj} {vz : Option Value} (X : (hd.heap_39 w.params).In h₀) (T : Top topProg lo mean mg mb h₀) (F : Fr h₀ L s.heap m) (N : News h₀ L s.heap ((L + 2, ow) :: (L + 1, oz) :: led)) (hLn : (Ln, W.listOf ls.toArray n1) ∈ led) (hNm : (Nm, W.listOf ns.toArray n2) ∈ led)
    (hq1 : ∀ p ∈ led, p.1 ≠ L + 1) (hoz : oz.data = .cell vz)
    (hm1 : m (Str.ofString "lines") = some (.ref Ln)) (hm2 : m (Str.ofString "names") = some (.ref Nm)) (hm3 : m (Str.ofString "k") = some (.int (i : Nat) t)) (hi : i ≤ 60)
    (e1 : ls[2 * i]? = some (.str x1 t1)) (e2 : ls[2 * i + 1]? = some (.str x2 t2)) (e3 : ns[2 * i]? = some (.str x3 t3))
    (k : ∀ h2 tk oz' t9, oz'.data = .cell (some (.str x3 t3)) → Fr h₀ L h2 (up (up (up m "net" (.str x1 t1)) "other" (.str x2 t2)) "worth" (.int 1 t9)) → News h₀ L h2 ((L + 2, ow) :: (L + 1, oz') :: led) → Q .next { s with heap := h2, toks := tk }) :
    wpAny (model P0 w) (lawA L fa cd) (exec lawB0.1 (lawEnv L fa cd)) Q E s := by
  have kf : PySem.Challenge.rw_zo0034_01 = PySem.Challenge.rw_zo0034_01 ∧ hd.heap_39 = hd.heap_39 := by
    k_fill
    exact ⟨rfl, rfl⟩
  clear kf
  unfold lawB0 lawEnv lawD
  dsimp only
  k_steps
  rename Fr _ _ _ _ => FF
  rename News _ _ _ _ => NN
  rename (Obj.data _ = Data.cell (some _)) => d9
  exact k _ _ _ _ d9 FF (fun p hp => NN p (.tail _ hp))
end
end
section
open PySem PySem.W PyProof.Rows PySem.Spec PySem.Calls
set_option maxRecDepth 100000
theorem fresh_LF : True ∧ True := by
  w_top off
  k_with_none
  first | (walk1; done) | exact ⟨trivial, trivial⟩
theorem rows_LF_1 : True := by
  k_with "eval Name" => (k_here; k_dflt (refine' nameX_L ?q146F ?q146v ?_ ?q146a ?q146b; (case q146F => k_asm); (case q146a => rfl); (case q146b => rfl); (case q146v => first | exact rfl | assumption | ((conv => lhs; whnf); assumption)); k_whole))
  k_with "loadName" => (k_here; k_dflt (refine' lnX ?q147F ?q147v ?_ ?q147a ?q147b; (case q147F => k_asm); (case q147a => rfl); (case q147b => rfl); (case q147v => first | exact rfl | assumption | ((conv => lhs; whnf); assumption)); k_whole))
  k_with "exec For Tuple Call cons nil" => (k_here; k_dflt (refine' For_F ?_ ?q148hs; (case q148hs => (intro _; rfl)); k_whole))
  k_with "exec For Name Call cons nil" => (k_here; k_dflt (refine' For_F ?_ ?q149hs; (case q149hs => (intro _; rfl)); k_whole))
  trivial
theorem rows_LF_2 : True := by
  k_with "call ref" => (k_here; (with_reducible show wpAny _ _ (call (Value.ref 50) [Value.str _ _]) _ _ _); k_dflt (refine' spec_use (hdn_spec _ _ _) ?q150k1 ?q150k2 ?q150k3 ?q150k4 ?q150k5 ?q150kK ?q150kp ?q150kd ?q150ku (use_bool ?_); (case q150k1 => k_asm); (case q150k2 => k_asm); (case q150k3 => k_asm); (case q150k4 => k_asm); (case q150k5 => k_asm); (case q150kK => first | exact rfl | assumption); (case q150kp => (try dsimp only); omega); (case q150kd => ktr_room); (case q150ku => ktr_units)); intro h9 tk9 F9 N9; (try dsimp only); (first | (revert h9 tk9; intros) | skip))
  k_with "call ref" => (k_here; (with_reducible show wpAny _ _ (call (Value.ref 57) [Value.str _ _, Value.str _ _]) _ _ _); k_dflt (refine' spec_use (dm_spec _ _ _ _ _) ?q151k1 ?q151k2 ?q151k3 ?q151k4 ?q151k5 ?q151kK ?q151kp ?q151kd ?q151ku (use_bool ?_); (case q151k1 => k_asm); (case q151k2 => k_asm); (case q151k3 => k_asm); (case q151k4 => k_asm); (case q151k5 => k_asm); (case q151kK => first | exact rfl | assumption); (case q151kp => (try dsimp only); assumption); (case q151kd => ktr_room); (case q151ku => ktr_units)); intro h9 tk9 F9 N9; (try dsimp only); (first | (revert h9 tk9; intros) | skip))
  k_with "call ref" => (k_here; (with_reducible show wpAny _ _ (call (Value.ref 64) [Value.str _ _]) _ _ _); k_dflt (refine' spec_use (reach_spec _ _ _) ?q152k1 ?q152k2 ?q152k3 ?q152k4 ?q152k5 ?q152kK ?q152kp ?q152kd ?q152ku (use_str ?_); (case q152k1 => k_asm); (case q152k2 => k_asm); (case q152k3 => k_asm); (case q152k4 => k_asm); (case q152k5 => k_asm); (case q152kK => first | exact rfl | assumption); (case q152kp => (try dsimp only); omega); (case q152kd => ktr_room); (case q152ku => ktr_units)); intro t9 h9 tk9 F9 N9; (try dsimp only); (first | (revert t9 h9 tk9; intros) | skip))
  k_with "subscriptTail Name BinOp ref int" => (k_here; (with_reducible show wpAny _ _ (subscriptTail _ _ (Value.ref _) (Value.int (2 * _) _)) _ _ _); k_dflt (refine' item_ev ?q153N ?q153m ?q153x ?q153j ?_ ?q153s ?q153g; (case q153N => k_asm); (case q153m => k_mem); (case q153x => assumption); (case q153j => omega); (case q153s => with_unfolding_all rfl); (case q153g => (intro _; with_unfolding_all rfl)); k_whole))
  k_with "subscriptTail Name BinOp ref int" => (k_here; (with_reducible show wpAny _ _ (subscriptTail _ _ (Value.ref _) (Value.int (2 * _ + 1) _)) _ _ _); k_dflt (refine' item_od ?q154N ?q154m ?q154x ?q154j ?_ ?q154s ?q154g; (case q154N => k_asm); (case q154m => k_mem); (case q154x => assumption); (case q154j => omega); (case q154s => with_unfolding_all rfl); (case q154g => (intro _; with_unfolding_all rfl)); k_whole))
  trivial
section
variable {w : World} {lo : List Str} {mean : ExcName → Option Value} {mg mb : Str → Option Value} {h₀ : Heap} {L fa : Addr} {cd : Value} {m : Str → Option Value} {led : Led} {s : Shared} {E : Value → Shared → Prop}
set_option maxHeartbeats 4000000 in
theorem b2 {Q : Flow → Shared → Prop} {z : Str} {tz : Tok} {ow oz : Obj} (X : (hd.heap_39 w.params).In h₀) (T : Top topProg lo mean mg mb h₀) (F : Fr h₀ L s.heap m) (N : News h₀ L s.heap ((L + 2, ow) :: (L + 1, oz) :: led))
    (hoz : oz.data = .cell (some (.str z tz))) (hz : z.length ≤ 100)
    (k : ∀ h2 tk t, Fr h₀ L h2 (up m "bare" (.str (Txt.lstripChars z (Str.ofString ".")) t)) → News h₀ L h2 ((L + 2, ow) :: (L + 1, oz) :: led) → Q .next { s with heap := h2, toks := tk }) :
    wpAny (model P0 w) (lawA L fa cd) (exec lawB2.1 (lawEnv L fa cd)) Q E s := by
  have kf : PySem.Challenge.rw_zo0034_01 = PySem.Challenge.rw_zo0034_01 ∧ hd.heap_39 = hd.heap_39 := by
    k_fill
    exact ⟨rfl, rfl⟩
  clear kf
  unfold lawB2 lawEnv lawD
  dsimp only
  k_steps
  rename Fr _ _ _ _ => FF
  rename News _ _ _ _ => NN
  exact k _ _ _ FF NN
set_option maxHeartbeats 4000000 in
theorem b4 {Q : Flow → Shared → Prop} {x : Str} {sv wh : Int} {t1 t2 t3 : Tok} (X : (hd.heap_39 w.params).In h₀) (T : Top topProg lo mean mg mb h₀) (B : Below callerA h₀ [] h₀) (F : Fr h₀ L s.heap m) (N : News h₀ L s.heap led)
    (hm1 : m (Str.ofString "net") = some (.str x t1)) (hm2 : m (Str.ofString "size") = some (.int sv t2)) (hm3 : m (Str.ofString "whole") = some (.int wh t3)) (hx : x.length ≤ 1000) (he : hdnF x = (sv == wh))
    (k : ∀ h2 tk, Fr h₀ L h2 m → News h₀ L h2 led → Q .next { s with heap := h2, toks := tk }) :
    wpAny (model P0 w) (lawA L fa cd) (exec lawB4.1 (lawEnv L fa cd)) Q E s := by
  have kf : PySem.Challenge.rw_zo0034_01 = PySem.Challenge.rw_zo0034_01 ∧ hd.heap_39 = hd.heap_39 := by
    k_fill
    exact ⟨rfl, rfl⟩
  clear kf
  unfold lawB4 lawEnv lawD
  dsimp only
  k_steps
  · rename _ = true => a9
    rw [he, bne_self_eq_false] at a9
    cases a9
  · rename Fr _ _ _ _ => FF
    rename News _ _ _ _ => NN
    exact k _ _ FF NN
set_option maxHeartbeats 4000000 in
theorem b5 {Q : Flow → Shared → Prop} {Nm : Addr} {ns : List Value} {n2 i : Nat} {x z : Str} {t t1 tz : Tok} {ow oz : Obj} (X : (hd.heap_39 w.params).In h₀) (T : Top topProg lo mean mg mb h₀) (B : Below callerA h₀ [] h₀) (F : Fr h₀ L s.heap m) (N : News h₀ L s.heap ((L + 2, ow) :: (L + 1, oz) :: led)) (hNm : (Nm, W.listOf ns.toArray n2) ∈ led)
    (hm1 : m (Str.ofString "names") = some (.ref Nm)) (hm2 : m (Str.ofString "k") = some (.int (i : Nat) t)) (hoz : oz.data = .cell (some (.str z tz))) (hi : i ≤ 60) (e1 : ns[2 * i + 1]? = some (.str x t1))
    (hp : x.length ≤ 100 ∧ z.length ≤ 100 ∧ (Txt.lower x).length ≤ 1000 ∧ (Txt.lower z).length ≤ 1000) (he : dmF x z = true)
    (k : ∀ h2 tk, Fr h₀ L h2 m → News h₀ L h2 ((L + 2, ow) :: (L + 1, oz) :: led) → Q .next { s with heap := h2, toks := tk }) :
    wpAny (model P0 w) (lawA L fa cd) (exec lawB5.1 (lawEnv L fa cd)) Q E s := by
  have kf : PySem.Challenge.rw_zo0034_01 = PySem.Challenge.rw_zo0034_01 ∧ hd.heap_39 = hd.heap_39 := by
    k_fill
    exact ⟨rfl, rfl⟩
  clear kf
  unfold lawB5 lawEnv lawD
  dsimp only
  k_steps
  · rename _ = true => a9
    rw [he, bne_self_eq_false] at a9
    cases a9
  · rename Fr _ _ _ _ => FF
    rename News _ _ _ _ => NN
    exact k _ _ FF NN
set_option maxHeartbeats 4000000 in
theorem b7 {Q : Flow → Shared → Prop} {x : Str} {t1 : Tok} {ow oz : Obj} {vw : Option Value} (X : (hd.heap_39 w.params).In h₀) (T : Top topProg lo mean mg mb h₀) (B : Below callerA h₀ [] h₀) (F : Fr h₀ L s.heap m) (N : News h₀ L s.heap ((L + 2, ow) :: (L + 1, oz) :: led))
    (hq2 : ∀ p ∈ led, p.1 ≠ L + 2) (hm1 : m (Str.ofString "bare") = some (.str x t1)) (how : ow.data = .cell vw) (hx : x.length ≤ 100)
    (k : ∀ h2 tk ow' t, ow'.data = .cell (some (.str (reachF x) t)) → Fr h₀ L h2 m → News h₀ L h2 ((L + 2, ow') :: (L + 1, oz) :: led) → Q .next { s with heap := h2, toks := tk }) :
    wpAny (model P0 w) (lawA L fa cd) (exec lawB7.1 (lawEnv L fa cd)) Q E s := by
  have kf : PySem.Challenge.rw_zo0034_01 = PySem.Challenge.rw_zo0034_01 ∧ hd.heap_39 = hd.heap_39 := by
    k_fill
    exact ⟨rfl, rfl⟩
  clear kf
  unfold lawB7 lawEnv lawD
  dsimp only
  k_steps
  rename Fr _ _ _ _ => FF
  rename News _ _ _ _ => NN
  rename (Obj.data _ = Data.cell (some _)) => d9
  exact k _ _ _ _ d9 FF NN
set_option maxHeartbeats 4000000 in
theorem b8 {Q : Flow → Shared → Prop} {x y : Str} {sv wh : Int} {t1 t2 t3 ty : Tok} {ow oz : Obj} (X : (hd.heap_39 w.params).In h₀) (T : Top topProg lo mean mg mb h₀) (F : Fr h₀ L s.heap m) (N : News h₀ L s.heap ((L + 2, ow) :: (L + 1, oz) :: led))
    (hm1 : m (Str.ofString "bare") = some (.str x t1)) (hm2 : m (Str.ofString "size") = some (.int sv t2)) (hm3 : m (Str.ofString "whole") = some (.int wh t3)) (how : ow.data = .cell (some (.str y ty))) (he : (y == x) = (sv == wh))
    (k : ∀ h2 tk, Fr h₀ L h2 m → News h₀ L h2 ((L + 2, ow) :: (L + 1, oz) :: led) → Q .next { s with heap := h2, toks := tk }) :
    wpAny (model P0 w) (lawA L fa cd) (exec lawB8.1 (lawEnv L fa cd)) Q E s := by
  have kf : PySem.Challenge.rw_zo0034_01 = PySem.Challenge.rw_zo0034_01 ∧ hd.heap_39 = hd.heap_39 := by
    k_fill
    exact ⟨rfl, rfl⟩
  clear kf
  unfold lawB8 lawEnv lawD
  dsimp only
  k_steps
  · rename _ = true => a9
    rw [he, bne_self_eq_false] at a9
    cases a9
  · exact k _ _ F N
end
end
section
open PySem PySem.W PyProof.Rows PySem.Spec PySem.Calls
set_option maxRecDepth 100000
theorem fresh_LG : True ∧ True := by
  w_top off
  k_with_none
  first | (walk1; done) | exact ⟨trivial, trivial⟩
theorem rows_LG_1 : True := by
  k_with "eval Name" => (k_here; k_dflt (refine' nameX_L ?q155F ?q155v ?_ ?q155a ?q155b; (case q155F => k_asm); (case q155a => rfl); (case q155b => rfl); (case q155v => first | exact rfl | assumption | ((conv => lhs; whnf); assumption)); k_whole))
  k_with "loadName" => (k_here; k_dflt (refine' lnX ?q156F ?q156v ?_ ?q156a ?q156b; (case q156F => k_asm); (case q156a => rfl); (case q156b => rfl); (case q156v => first | exact rfl | assumption | ((conv => lhs; whnf); assumption)); k_whole))
  k_with "exec For Tuple Call cons nil" => (k_here; k_dflt (refine' For_F ?_ ?q157hs; (case q157hs => (intro _; rfl)); k_whole))
  k_with "exec For Name Call cons nil" => (k_here; k_dflt (refine' For_F ?_ ?q158hs; (case q158hs => (intro _; rfl)); k_whole))
  trivial
theorem rows_LG_2 : True := by
  k_with "call builtin:str.join" => (refine stop_in ?_)
  trivial
theorem strs_rev {vs : List Value} {xs : List Str} (h : StrsAre vs xs) : StrsAre vs.reverse xs.reverse := by
  induction h with
  | nil => exact .nil
  | cons x t _ ih =>
    rw [List.reverse_cons, List.reverse_cons]
    exact kct_snoc ih
section
variable {w : World} {lo : List Str} {mean : ExcName → Option Value} {mg mb : Str → Option Value} {h₀ : Heap} {L fa : Addr} {cd : Value} {m : Str → Option Value} {led : Led} {s : Shared} {E : Value → Shared → Prop}
set_option maxHeartbeats 4000000 in
theorem b3 {Q : Flow → Shared → Prop} {x bb : Str} {t1 t2 t3 : Tok} (X : (hd.heap_39 w.params).In h₀) (T : Top topProg lo mean mg mb h₀) (F : Fr h₀ L s.heap m) (N : News h₀ L s.heap led)
    (hm1 : m (Str.ofString "net") = some (.str x t1)) (hm2 : m (Str.ofString "other") = some (.str x t2)) (hm3 : m (Str.ofString "bare") = some (.str bb t3)) (hb : bb.length ≤ 100) (hn : (Txt.split bb (Str.ofString ".")).length ≤ 8) (hn2 : ∀ a ∈ Txt.split bb (Str.ofString "."), a.length ≤ 14) (hx : x.length ≤ 1000)
    (he : x = Txt.join (Str.ofString ".") (Txt.split bb (Str.ofString ".")).reverse ++ Str.ofString "\n")
    (k : ∀ h2 tk, Fr h₀ L h2 m → News h₀ L h2 led → Q .next { s with heap := h2, toks := tk }) :
    wpAny (model P0 w) (lawA L fa cd) (exec lawB3.1 (lawEnv L fa cd)) Q E s := by
  have kf : PySem.Challenge.rw_zo0034_01 = PySem.Challenge.rw_zo0034_01 ∧ hd.heap_39 = hd.heap_39 := by
    k_fill
    exact ⟨rfl, rfl⟩
  clear kf
  unfold lawB3 lawEnv lawD
  dsimp only
  k_steps
  · rename (_ != _) = true => a9
    rw [bne_self_eq_false] at a9
    cases a9
  · refine stop_out ?_
    rename StrsAre _ _ => hS9
    rename (List.map _ _ = Txt.split _ _) => hl9
    rename News _ _ _ _ => N9
    rename Fr _ _ _ _ => F9
    rw [hl9] at hS9
    rw [krv_pick] at N9
    have hc := (strs_rev hS9).carried
    have hjl := congrArg Str.length he
    rw [Str.length_append] at hjl
    have e1 : (Str.ofString "\n").length = 1 := by decide +kernel
    refine KT.join_B (l := (Txt.split bb (Str.ofString ".")).reverse) (g := fun a => a) 14 ⟨_, (N9 _ (.head _)).1, rfl, _, rfl⟩ hc (fun a ha => hn2 a (List.mem_reverse.mp ha)) (by rw [List.length_reverse]; omega) (by decide) fun t' k9 => ?_
    have em : (List.map (fun a : Str => a) (Txt.split bb (Str.ofString ".")).reverse) = (Txt.split bb (Str.ofString ".")).reverse := List.map_id' _
    rw [em]
    k_steps
    · rename (_ != _) = true => a9
      rw [← he, bne_self_eq_false] at a9
      cases a9
    · exact k _ _ F9 (cb_drop N9 fun p hp => .tail _ (.tail _ hp))
end
end
section
open PySem PySem.W PyProof.Rows PySem.Spec PySem.Calls
set_option maxRecDepth 100000
theorem fresh_LH1 : True ∧ True := by
  w_top off
  k_with_none
  first | (walk1; done) | exact ⟨trivial, trivial⟩
theorem rows_LH1_1 : True := by
  k_with "eval Name" => (k_here; k_dflt (refine' nameX_L ?q160F ?q160v ?_ ?q160a ?q160b; (case q160F => k_asm); (case q160a => rfl); (case q160b => rfl); (case q160v => first | exact rfl | assumption | ((conv => lhs; whnf); assumption)); k_whole))
  k_with "loadName" => (k_here; k_dflt (refine' lnX ?q161F ?q161v ?_ ?q161a ?q161b; (case q161F => k_asm); (case q161a => rfl); (case q161b => rfl); (case q161v => first | exact rfl | assumption | ((conv => lhs; whnf); assumption)); k_whole))
  k_with "exec For Tuple Call cons nil" => (k_here; k_dflt (refine' For_F ?_ ?q162hs; (case q162hs => (intro _; rfl)); k_whole))
  k_with "exec For Name Call cons nil" => (k_here; k_dflt (refine' For_F ?_ ?q163hs; (case q163hs => (intro _; rfl)); k_whole))
  trivial
theorem rows_LH1_2 : True := by
  k_with "getMethod ref" => (k_here; (with_reducible show wpAny _ _ (getMethod (Value.ref 43) (PySem.Str.ofString "search") _) _ _ _); k_dflt (refine' search_meth ?q164k1 ?q164k2 ?_; (case q164k1 => k_asm); (case q164k2 => k_asm); k_whole))
  k_with "call builtin:re.Pattern.search" => (k_here; (with_reducible show wpAny _ _ (call (Value.builtin "re.Pattern.search") [Value.ref 43, Value.str _ _]) _ _ _); (refine stop_in ?_))
  k_with "call ref" => (k_here; (with_reducible show wpAny _ _ (call (Value.ref 64) [Value.str _ _]) _ _ _); k_dflt (refine' spec_use (reach_spec _ _ _) ?q166k1 ?q166k2 ?q166k3 ?q166k4 ?q166k5 ?q166kK ?q166kp ?q166kd ?q166ku (use_str ?_); (case q166k1 => k_asm); (case q166k2 => k_asm); (case q166k3 => k_asm); (case q166k4 => k_asm); (case q166k5 => k_asm); (case q166kK => first | exact rfl | assumption); (case q166kp => (try dsimp only); assumption); (case q166kd => ktr_room); (case q166ku => ktr_units)); intro t9 h9 tk9 F9 N9; (try dsimp only); (first | (revert t9 h9 tk9; intros) | skip))
  k_with "call ref" => (k_here; (with_reducible show wpAny _ _ (call (Value.ref 38) [Value.ref _]) _ _ _); (refine stop_in ?_))
  trivial
theorem pow_lt4 {b : Int} (hb : 2 ≤ b) (hb5 : b ≤ 5) {i p : Nat} (h : i < p) (hp : p ≤ 4) : b ^ i < b ^ p := by
  have hb4 : b = 2 ∨ b = 3 ∨ b = 4 ∨ b = 5 := by omega
  have hi : i = 0 ∨ i = 1 ∨ i = 2 ∨ i = 3 := by omega
  have hp' : p = 1 ∨ p = 2 ∨ p = 3 ∨ p = 4 := by omega
  rcases hb4 with rfl | rfl | rfl | rfl <;> rcases hi with rfl | rfl | rfl | rfl <;> rcases hp' with rfl | rfl | rfl | rfl <;> first | omega | decide
theorem mulI_K {prog : Program} {w : World} {A : Around} {E : Value → Shared → Prop} {s : Shared} {a b : Int} {t u : Tok} {Q : Value → Shared → Prop} (h0 : 0 ≤ b) (h1 : b ≤ 1000) (h : Q (.int (a * b) s.toks) { s with toks := s.toks + 1 }) :
    wpAny (model prog w) A (inplaceOp .Mult (.int a t) (.int b u)) Q E s := PySem.P.imul_int h (PySem.IntMulOk.of_right (PySem.intBits_le_64 (by omega) (by omega)))
theorem rows_LH1_3 : True := by
  k_with "inplaceOp Mult int int" => (k_here; (refine mulI_K (by omega) (by omega) ?_); (try dsimp only))
  trivial
section
variable {w : World} {lo : List Str} {mean : ExcName → Option Value} {mg mb : Str → Option Value} {h₀ : Heap} {L fa : Addr} {cd : Value} {m : Str → Option Value} {led : Led} {s : Shared} {E : Value → Shared → Prop}
set_option maxHeartbeats 4000000 in
theorem b1 {Q : Flow → Shared → Prop} {NT OT ZN : Nat → Str} {b sv : Int} {p : Nat} {t1 t2 t3 t4 t5 tz : Tok} {ow oz : Obj} (X : (hd.heap_39 w.params).In h₀) (T : Top topProg lo mean mg mb h₀) (B : Below callerA h₀ [] h₀) (F : Fr h₀ L s.heap m) (N : News h₀ L s.heap ((L + 2, ow) :: (L + 1, oz) :: led))
    (hq1 : ∀ p ∈ led, p.1 ≠ L + 1) (hm1 : m (Str.ofString "net") = some (.str (NT 0) t1)) (hm2 : m (Str.ofString "other") = some (.str (OT 0) t2)) (hm3 : m (Str.ofString "worth") = some (.int 1 t3)) (hm4 : m (Str.ofString "size") = some (.int sv t4)) (hm5 : m (Str.ofString "base") = some (.int b t5)) (hoz : oz.data = .cell (some (.str (ZN 0) tz)))
    (hb : 2 ≤ b) (hb5 : b ≤ 5) (hp : p ≤ 4) (hsv : sv = b ^ p)
    (hN : ∀ i, i < p → ∃ x y, srch (NT i).cps = some (x, y) ∧ x ≤ 1000 ∧ y ≤ 1000 ∧ unmF (NT i) x y = NT (i + 1) ∧ (NT i).length ≤ 1000)
    (hO : ∀ i, i < p → ∃ x y, srch (OT i).cps = some (x, y) ∧ x ≤ 1000 ∧ y ≤ 1000 ∧ unmF (OT i) x y = OT (i + 1) ∧ (OT i).length ≤ 1000)
    (hZ : ∀ i, i < p → reachF (Txt.lstripChars (ZN i) (Str.ofString ".")) = ZN (i + 1) ∧ (ZN i).length ≤ 100 ∧ (Txt.lstripChars (ZN i) (Str.ofString ".")).length ≤ 100)
    (k : ∀ m2 h2 tk oz' tn to tz, oz'.data = .cell (some (.str (ZN p) tz)) → m2 (Str.ofString "net") = some (.str (NT p) tn) → m2 (Str.ofString "other") = some (.str (OT p) to) →
      (∀ y, y ≠ Str.ofString "net" → y ≠ Str.ofString "other" → y ≠ Str.ofString "worth" → m2 y = m y) → Fr h₀ L h2 m2 → News h₀ L h2 ((L + 2, ow) :: (L + 1, oz') :: led) → Q .next { s with heap := h2, toks := tk }) :
    wpAny (model P0 w) (lawA L fa cd) (exec lawB1.1 (lawEnv L fa cd)) Q E s := by
  have kf : PySem.Challenge.rw_zo0034_01 = PySem.Challenge.rw_zo0034_01 ∧ hd.heap_39 = hd.heap_39 := by
    k_fill
    exact ⟨rfl, rfl⟩
  clear kf
  unfold lawB1 lawEnv lawD
  dsimp only
  refine while_J (fun n s' => ∃ (h : Heap) (tk : Nat) (mm : Str → Option Value) (oz' : Obj) (i : Nat) (tn to tw tz : Tok), s' = { s with heap := h, toks := tk } ∧ i + n = p ∧ Fr h₀ L h mm ∧ News h₀ L h ((L + 2, ow) :: (L + 1, oz') :: led) ∧
    oz'.data = .cell (some (.str (ZN i) tz)) ∧ mm (Str.ofString "net") = some (.str (NT i) tn) ∧ mm (Str.ofString "other") = some (.str (OT i) to) ∧ mm (Str.ofString "worth") = some (.int (b ^ i) tw) ∧ (∀ y, y ≠ Str.ofString "net" → y ≠ Str.ofString "other" → y ≠ Str.ofString "worth" → mm y = m y)) ?turn p ?start
  case start => exact ⟨_, _, m, oz, 0, _, _, _, _, rfl, Nat.zero_add p, F, N, hoz, hm1, hm2, by rw [Int.pow_zero]; exact hm3, fun _ _ _ _ => rfl⟩
  case turn =>
    rintro n s' ⟨h, tk, mm, oz', i, tn, to, tw, tz', rfl, hin, F1, N1, hoz', hn1, hn2, hn3, hmm⟩
    have hm4' : mm (Str.ofString "size") = some (.int sv t4) := (hmm _ (by decide) (by decide) (by decide)).trans hm4
    have hm5' : mm (Str.ofString "base") = some (.int b t5) := (hmm _ (by decide) (by decide) (by decide)).trans hm5
    k_steps
    · refine stop_out ?_
      rename _ < sv => hlt0
      have hlt : i < p := by
        rcases n with _ | n
        · have : i = p := by omega
          subst this
          omega
        · omega
      obtain ⟨x1, y1, s1, bx1, by1, u1, l1⟩ := hN i hlt
      obtain ⟨x2, y2, s2, bx2, by2, u2, l2⟩ := hO i hlt
      obtain ⟨z1, z2, z3⟩ := hZ i hlt
      refine search_K F1 N1 X (by omega) (fun hno => by rw [s1] at hno; cases hno) (fun a b' p9 q9 h9 hs9 F9 N9 lp lq => ?_)
      rw [s1] at hs9
      cases hs9
      k_steps
      refine stop_out ?_
      refine spec_use (unm_spec w (NT i) tn q9 p9 x1 y1) B F9 X N9 T rfl ⟨.head _, .tail _ (.head _), l1, bx1, by1⟩ (by ktr_room) (by ktr_units) (use_str fun t9 h8 tk8 F8 N8 => ?_)
      have N7 := cb_drop N8 (fun p hp => .tail _ (.tail _ hp))
      clear N8 N9 F9
      rw [u1]
      k_steps
      refine stop_out ?_
      rename Fr _ _ _ _ => F6
      rename News _ _ _ _ => N6
      refine search_K F6 N6 X (by omega) (fun hno => by rw [s2] at hno; cases hno) (fun a b' p8 q8 h5 hs5 F5 N5 lp5 lq5 => ?_)
      rw [s2] at hs5
      cases hs5
      k_steps
      refine stop_out ?_
      refine spec_use (unm_spec w (OT i) to q8 p8 x2 y2) B F5 X N5 T rfl ⟨.head _, .tail _ (.head _), l2, bx2, by2⟩ (by ktr_room) (by ktr_units) (use_str fun t6 h4 tk4 F4 N4 => ?_)
      have N3 := cb_drop N4 (fun p hp => .tail _ (.tail _ hp))
      clear N4 N5 F5 N6 F6
      rw [u2]
      k_steps
      rename Fr _ _ _ _ => FF
      rename News _ _ _ _ => NN
      rename (Obj.data _ = Data.cell (some _)) => d9
      rw [z1] at d9
      show ∃ m9, m9 < n ∧ _
      refine ⟨n - 1, by omega, _, _, _, _, i + 1, _, _, _, _, rfl, by omega, FF, NN, d9, rfl, rfl, congrArg (fun z => some (Value.int z _)) (Int.pow_succ b i).symm, fun y y1 y2 y3 => ?_⟩
      rw [if_neg y3, if_neg y2, if_neg y1]
      exact hmm y y1 y2 y3
    · have hip : ¬ i < p := fun hlt => by
        have := pow_lt4 hb hb5 hlt hp
        omega
      have e : i = p := by omega
      subst e
      exact k _ _ _ _ _ _ _ hoz' hn1 hn2 hmm F1 N1
end
end
section
open PySem PySem.W PyProof.Rows PySem.Spec PySem.Calls
set_option maxRecDepth 100000
theorem fresh_U3 : True ∧ True := by
  w_top off
  k_with_none
  first | (walk1; done) | exact ⟨trivial, trivial⟩
open PyProof.Rows.LCg PyProof.Rows.LCt
section
variable {prog : Program} {w : World} {A : Around} {E : Value → Shared → Prop} {s : Shared} {h₀ : Heap} {L : Addr} {m : Str → Option Value} {env : Env}
/-- nothing newly held -/
noncomputable def ElS (h₀ : Heap) (L : Addr) (m : Str → Option Value) (s₁ : Shared) (I : Addr) (oI : Obj) (C : Addr) (oC : Obj) (D : Addr) (oD : Obj) (news : Led) (s₂ : Shared) : Prop :=
  ∃ h' tk, s₂ = { s₁ with heap := h', toks := tk } ∧ Fr h₀ L h' m ∧ News h₀ L h' ((I, oI) :: (C, oC) :: (D, oD) :: news)
variable {ct elt : PySem.Expr} {x : Str} {scope : Scope} {cl : List (Str × Addr)} {s₁ : Shared} {news : Led} {Fin : Shared → List Value → Led → Prop}
/-- the texts of a list that a test lets through -/
theorem csrcT_list {ax : Addr} {vs : List Value} {nn : Nat} {xs : List Str} (P : Str → Bool) (hh : A.handled = none) (F : Fr h₀ L s₁.heap m) (N : News h₀ L s₁.heap news) (hm : (ax, W.listOf vs.toArray nn) ∈ news) (hi : StrsAre vs xs) (hsz : xs.length ≤ 1000)
    (turn : ∀ y t I oI C oC D oD m₂ h tk (E' : Value → Shared → Prop), y ∈ xs → NsObj oC m₂ → m₂ x = some (.str y t) → Fr h₀ L h m → News h₀ L h ((I, oI) :: (C, oC) :: (D, oD) :: news) →
      wpAny (model prog w) A (isTrue ct (compEnvC scope cl C env) (eval ct (compEnvC scope cl C env))) (fun ok s' => if ok = true then
        wpAny (model prog w) A (eval elt (compEnvC scope cl C env)) (fun v s'' => P y = true ∧ v = .str y t ∧ ElS h₀ L m { s₁ with heap := h, toks := tk } I oI C oC D oD news s'') E' s'
        else P y = false ∧ ElS h₀ L m { s₁ with heap := h, toks := tk } I oI C oC D oD news s') E' { s₁ with heap := h, toks := tk })
    (fin : ∀ g ys, StrsAre ys (xs.filter P) → Fin { s₁ with heap := g } ys news) :
    CompSrcT prog w A h₀ L m env ct elt x scope cl Fin (.ref ax) s₁ := by
  have hl := hi.length
  have hz : vs.toArray.size ≤ sizeLine := by rw [List.size_toArray, sizeLine_eq]; omega
  refine .inl ⟨ax, vs.toArray, news, rfl, hh, F, N, .inr ⟨_, hm, rfl, _, rfl⟩, hz, ?_⟩
  rintro s₂ ⟨g9, rfl⟩
  have key : ∀ (j i : Nat) (ys : List Value), i + j = vs.toArray.size → StrsAre ys ((xs.take i).filter P) →
      CompRestT prog w A h₀ L m env ct elt x scope cl { s₁ with heap := g9 } (SrcAt h₀ ax vs.toArray) (fun i v => vs.toArray[i]? = some v) (Fin { s₁ with heap := g9 }) j i ys news := by
    intro j
    induction j with
    | zero =>
      intro i ys hij hy
      have e : xs.take i = xs := List.take_of_length_le (by rw [List.size_toArray] at hij; omega)
      rw [e] at hy
      exact CompRestT.zero (fin g9 ys hy)
    | succ j ih =>
      intro i ys hij hy
      refine CompRestT.succ ?_
      intro v I oI C oC D m₂ h tk E' hv hC hx F' N' off ne
      have hil : i < xs.length := by rw [List.size_toArray] at hij; omega
      have hxi : xs[i]? = some xs[i] := List.getElem?_eq_getElem hil
      obtain ⟨t, ht⟩ := strs_at' hi hxi
      have hv' : v = .str xs[i] t := by
        have : vs[i]? = some v := by simpa using hv
        rw [ht] at this
        exact (Option.some.inj this).symm
      rw [hv'] at hx
      refine wpAny_mono (turn xs[i] t I oI C oC D _ m₂ h tk E' (List.getElem_mem hil) hC hx F' N') (fun ok s' hok => ?_) fun _ _ e => e
      cases ok with
      | true =>
        simp only [if_true] at hok ⊢
        refine wpAny_mono hok (fun y s'' hy' => ?_) fun _ _ e => e
        obtain ⟨hP, rfl, h', tk', rfl, F'', N''⟩ := hy'
        refine ⟨h', tk', news, rfl, F'', N'', off, .inr ⟨_, hm, rfl, _, rfl⟩, ih (i + 1) _ (by omega) ?_⟩
        rw [List.take_add_one, hxi, List.filter_append]
        have e : (Option.toList (some xs[i])).filter P = [xs[i]] := by simp [hP]
        rw [e]
        exact kct_snoc hy
      | false =>
        simp only [Bool.false_eq_true, if_false] at hok ⊢
        obtain ⟨hP, h', tk', rfl, F'', N''⟩ := hok
        refine ⟨h', tk', news, rfl, F'', N'', off, .inr ⟨_, hm, rfl, _, rfl⟩, ih (i + 1) _ (by omega) ?_⟩
        rw [List.take_add_one, hxi, List.filter_append]
        have e : (Option.toList (some xs[i])).filter P = [] := by simp [hP]
        rw [e, List.append_nil]
        exact hy
  exact key _ 0 [] (Nat.zero_add _) (by simp only [List.take_zero, List.filter_nil]; exact .nil)
where
  strs_at' : ∀ {vs : List Value} {xs : List Str}, StrsAre vs xs → ∀ {i : Nat} {d : Str}, xs[i]? = some d → ∃ t, vs[i]? = some (.str d t)
    | _, _, .nil, _, _, hd => by cases hd
    | _, _, .cons x t r, 0, _, hd => by cases hd; exact ⟨t, rfl⟩
    | _, _, .cons _ _ r, _ + 1, _, hd => strs_at' r hd
end
end
section
open PySem PySem.W PyProof.Rows PySem.Spec PySem.Calls
set_option maxRecDepth 100000
theorem fresh_LI1 : True ∧ True := by
  w_top off
  k_with_none
  first | (walk1; done) | exact ⟨trivial, trivial⟩
theorem rows_LI1_1 : True := by
  k_with "eval Name" => (k_here; k_dflt (refine' nameX_L ?q169F ?q169v ?_ ?q169a ?q169b; (case q169F => k_asm); (case q169a => rfl); (case q169b => rfl); (case q169v => first | exact rfl | assumption | ((conv => lhs; whnf); assumption)); k_whole))
  k_with "loadName" => (k_here; k_dflt (refine' lnX ?q170F ?q170v ?_ ?q170a ?q170b; (case q170F => k_asm); (case q170a => rfl); (case q170b => rfl); (case q170v => first | exact rfl | assumption | ((conv => lhs; whnf); assumption)); k_whole))
  k_with "exec For Tuple Call cons nil" => (k_here; k_dflt (refine' For_F ?_ ?q171hs; (case q171hs => (intro _; rfl)); k_whole))
  k_with "exec For Name Call cons nil" => (k_here; k_dflt (refine' For_F ?_ ?q172hs; (case q172hs => (intro _; rfl)); k_whole))
  trivial
theorem rows_LI1_2 : True := by
  k_with "call ref" => (k_here; (with_reducible show wpAny _ _ (call (Value.ref 57) [Value.str _ _, Value.str _ _]) _ _ _); k_dflt (refine' spec_use (dm_spec _ _ _ _ _) ?q173k1 ?q173k2 ?q173k3 ?q173k4 ?q173k5 ?q173kK ?q173kp ?q173kd ?q173ku (use_bool ?_); (case q173k1 => k_asm); (case q173k2 => k_asm); (case q173k3 => k_asm); (case q173k4 => k_asm); (case q173k5 => k_asm); (case q173kK => first | exact rfl | assumption); (case q173kp => (try dsimp only); assumption); (case q173kd => ktr_room); (case q173ku => ktr_units)); intro h9 tk9 F9 N9; (try dsimp only); (first | (revert h9 tk9; intros) | skip))
  k_with "eval ListComp" => (refine stop_in ?_)
  k_with "exec Assign cons ListComp" => (refine stop_in ?_)
  k_with "CompSrcT" => (refine stop_in ?_)
  trivial
noncomputable def dmP (x z : Str) : Prop := x.length ≤ 100 ∧ z.length ≤ 100 ∧ (Txt.lower x).length ≤ 1000 ∧ (Txt.lower z).length ≤ 1000
section
variable {w : World} {lo : List Str} {mean : ExcName → Option Value} {mg mb : Str → Option Value} {h₀ : Heap} {L fa : Addr} {cd : Value} {m : Str → Option Value} {led : Led} {s : Shared} {E : Value → Shared → Prop}
set_option maxHeartbeats 4000000 in
theorem b6 {Q : Flow → Shared → Prop} {Ar : Addr} {zs : List Value} {n9 : Nat} {xs : List Str} {z : Str} {tz : Tok} {ow oz : Obj} (X : (hd.heap_39 w.params).In h₀) (T : Top topProg lo mean mg mb h₀) (B : Below callerA h₀ [] h₀) (F : Fr h₀ L s.heap m) (N : News h₀ L s.heap ((L + 2, ow) :: (L + 1, oz) :: led)) (hAr : (Ar, W.listOf zs.toArray n9) ∈ led)
    (hm1 : m (Str.ofString "around") = some (.ref Ar)) (hS : StrsAre zs xs) (hlen : xs.length ≤ 100) (hoz : oz.data = .cell (some (.str z tz)))
    (hp : ∀ x ∈ xs, dmP x z) (he : ∀ x ∈ xs, dmF x z = false)
    (k : ∀ h2 tk, Fr h₀ L h2 m → News h₀ L h2 ((L + 2, ow) :: (L + 1, oz) :: led) → Q .next { s with heap := h2, toks := tk }) :
    wpAny (model P0 w) (lawA L fa cd) (exec lawB6.1 (lawEnv L fa cd)) Q E s := by
  have kf : PySem.Challenge.rw_zo0034_01 = PySem.Challenge.rw_zo0034_01 ∧ hd.heap_39 = hd.heap_39 := by
    k_fill
    exact ⟨rfl, rfl⟩
  clear kf
  unfold lawB6 lawEnv lawD
  dsimp only
  k_steps
  refine stop_out ?_
  k_dflt (refine LCt.ListComp_T (F₀ := by k_asm) (by with_unfolding_all rfl) (by decide) (by rfl) (by decide) (by rfl) ?_)
  k_steps
  refine stop_out ?_
  refine csrcT_list (fun x => dmF x z) rfl F N (.tail _ (.tail _ hAr)) hS (by omega) (fun y t I oI C oC D oD m₂ h tk E' hy hC hx F4 N4 => ?_) (fun g ys hys => ?_)
  · have hpy : y.length ≤ 100 ∧ z.length ≤ 100 ∧ (Txt.lower y).length ≤ 1000 ∧ (Txt.lower z).length ≤ 1000 := hp y hy
    k_steps
    all_goals exact ⟨_, _, rfl, by k_asm, by k_asm⟩
  · have e : xs.filter (fun x => dmF x z) = [] := List.filter_eq_nil_iff.mpr fun x hx => by simp [he x hx]
    rw [e] at hys
    cases hys
    intro D h tk F4 N4 o1
    k_steps
    rename Fr _ _ _ _ => FF
    rename News _ _ _ _ => NN
    exact k _ _ FF (cb_drop NN fun p hp => .tail _ (.tail _ hp))
set_option maxHeartbeats 4000000 in
theorem b9 {Q : Flow → Shared → Prop} {Ar : Addr} {zs : List Value} {n9 : Nat} {xs : List Str} {z : Str} {tz : Tok} {ow oz : Obj} (X : (hd.heap_39 w.params).In h₀) (T : Top topProg lo mean mg mb h₀) (B : Below callerA h₀ [] h₀) (F : Fr h₀ L s.heap m) (N : News h₀ L s.heap ((L + 2, ow) :: (L + 1, oz) :: led)) (hAr : (Ar, W.listOf zs.toArray n9) ∈ led)
    (hm1 : m (Str.ofString "around") = some (.ref Ar)) (hS : StrsAre zs xs) (hlen : xs.length ≤ 100) (how : ow.data = .cell (some (.str z tz)))
    (hp : ∀ x ∈ xs, dmP x z)
    (k : ∀ h2 tk (Wi : Nat) ys, StrsAre ys (xs.filter fun x => dmF x z) → Fr h₀ L h2 (up m "within" (.ref Wi)) → News h₀ L h2 ((Wi, LCg.lst ys) :: (L + 2, ow) :: (L + 1, oz) :: led) → Q .next { s with heap := h2, toks := tk }) :
    wpAny (model P0 w) (lawA L fa cd) (exec lawB9.1 (lawEnv L fa cd)) Q E s := by
  have kf : PySem.Challenge.rw_zo0034_01 = PySem.Challenge.rw_zo0034_01 ∧ hd.heap_39 = hd.heap_39 := by
    k_fill
    exact ⟨rfl, rfl⟩
  clear kf
  unfold lawB9 lawEnv lawD
  dsimp only
  k_steps
  refine stop_out ?_
  k_dflt (refine LCt.Assign_ListComp_T (F₀ := by k_asm) (by rfl) (by with_unfolding_all rfl) (by with_unfolding_all rfl) (by decide) (by rfl) (by decide) (by rfl) (by rfl) (by rfl) ?_)
  k_steps
  refine stop_out ?_
  refine csrcT_list (fun x => dmF x z) rfl F N (.tail _ (.tail _ hAr)) hS (by omega) (fun y t I oI C oC D oD m₂ h tk E' hy hC hx F4 N4 => ?_) (fun g ys hys => ?_)
  · have hpy : y.length ≤ 100 ∧ z.length ≤ 100 ∧ (Txt.lower y).length ≤ 1000 ∧ (Txt.lower z).length ≤ 1000 := hp y hy
    k_steps
    all_goals exact ⟨_, _, rfl, by k_asm, by k_asm⟩
  · intro D h tk F4 N4 o1
    exact k _ _ _ _ hys F4 N4
set_option maxHeartbeats 4000000 in
theorem b10n {Q : Flow → Shared → Prop} {Wi : Addr} {sv wh : Int} {t2 t3 : Tok} (X : (hd.heap_39 w.params).In h₀) (T : Top topProg lo mean mg mb h₀) (F : Fr h₀ L s.heap m) (N : News h₀ L s.heap ((Wi, LCg.lst []) :: led))
    (hm1 : m (Str.ofString "within") = some (.ref Wi)) (hm2 : m (Str.ofString "size") = some (.int sv t2)) (hm3 : m (Str.ofString "whole") = some (.int wh t3)) (he : true = (sv == wh))
    (k : ∀ h2 tk, Fr h₀ L h2 m → News h₀ L h2 led → Q .next { s with heap := h2, toks := tk }) :
    wpAny (model P0 w) (lawA L fa cd) (exec lawB10.1 (lawEnv L fa cd)) Q E s := by
  have kf : PySem.Challenge.rw_zo0034_01 = PySem.Challenge.rw_zo0034_01 ∧ hd.heap_39 = hd.heap_39 := by
    k_fill
    exact ⟨rfl, rfl⟩
  clear kf
  unfold lawB10 lawEnv lawD
  dsimp only
  k_steps
  · rename (_ != _) = true => a9
    rw [← he] at a9
    cases a9
  · rename Fr _ _ _ _ => FF
    rename News _ _ _ _ => NN
    exact k _ _ FF (cb_drop NN fun p hp => .tail _ (.tail _ hp))
theorem rows_LI1_3 : True := by
  k_with "compareOp Eq ref ref" => (k_here; (with_reducible show wpAny _ _ (compareOp CmpOp.Eq (Value.ref _) (Value.ref _)) _ _ _); (refine stop_in ?_))
  trivial
set_option maxHeartbeats 4000000 in
theorem b10c {Q : Flow → Shared → Prop} {Wi : Addr} {v9 : Value} {ys : List Value} {sv wh : Int} {t2 t3 : Tok} (X : (hd.heap_39 w.params).In h₀) (T : Top topProg lo mean mg mb h₀) (F : Fr h₀ L s.heap m) (N : News h₀ L s.heap ((Wi, LCg.lst (v9 :: ys)) :: led))
    (hm1 : m (Str.ofString "within") = some (.ref Wi)) (hm2 : m (Str.ofString "size") = some (.int sv t2)) (hm3 : m (Str.ofString "whole") = some (.int wh t3)) (he : false = (sv == wh))
    (k : ∀ h2 tk, Fr h₀ L h2 m → News h₀ L h2 led → Q .next { s with heap := h2, toks := tk }) :
    wpAny (model P0 w) (lawA L fa cd) (exec lawB10.1 (lawEnv L fa cd)) Q E s := by
  have kf : PySem.Challenge.rw_zo0034_01 = PySem.Challenge.rw_zo0034_01 ∧ hd.heap_39 = hd.heap_39 := by
    k_fill
    exact ⟨rfl, rfl⟩
  clear kf
  unfold lawB10 lawEnv lawD
  dsimp only
  k_steps
  refine stop_out ?_
  rename News _ _ _ _ => NN
  rename Fr _ _ _ _ => FF
  refine PySem.P.eq_list_lengths (NN _ (.tail _ (.head _))).1 (NN _ (.head _)).1 (by simp) (by ktr_units) ?_
  k_steps
  · rename (_ != _) = true => a9
    rw [← he] at a9
    cases a9
  · exact k _ _ FF (cb_drop NN fun p hp => .tail _ (.tail _ hp))
theorem b10 {Q : Flow → Shared → Prop} {Wi : Addr} {ys : List Value} {xs : List Str} {sv wh : Int} {t2 t3 : Tok} (X : (hd.heap_39 w.params).In h₀) (T : Top topProg lo mean mg mb h₀) (F : Fr h₀ L s.heap m) (N : News h₀ L s.heap ((Wi, LCg.lst ys) :: led)) (hS : StrsAre ys xs)
    (hm1 : m (Str.ofString "within") = some (.ref Wi)) (hm2 : m (Str.ofString "size") = some (.int sv t2)) (hm3 : m (Str.ofString "whole") = some (.int wh t3)) (he : xs.isEmpty = (sv == wh))
    (k : ∀ h2 tk, Fr h₀ L h2 m → News h₀ L h2 led → Q .next { s with heap := h2, toks := tk }) :
    wpAny (model P0 w) (lawA L fa cd) (exec lawB10.1 (lawEnv L fa cd)) Q E s := by
  cases hS with
  | nil => exact b10n X T F N hm1 hm2 hm3 he k
  | cons y t r => exact b10c X T F N hm1 hm2 hm3 he k
end
end
section
open PySem PySem.W PyProof.Rows PySem.Spec PySem.Calls
set_option maxRecDepth 100000
theorem fresh_LJ : True ∧ True := by
  w_top off
  k_with_none
  first | (walk1; done) | exact ⟨trivial, trivial⟩
theorem rows_LJ_1 : True := by
  k_with "eval Name" => (k_here; k_dflt (refine' nameX_L ?q178F ?q178v ?_ ?q178a ?q178b; (case q178F => k_asm); (case q178a => rfl); (case q178b => rfl); (case q178v => first | exact rfl | assumption | ((conv => lhs; whnf); assumption)); k_whole))
  k_with "loadName" => (k_here; k_dflt (refine' lnX ?q179F ?q179v ?_ ?q179a ?q179b; (case q179F => k_asm); (case q179a => rfl); (case q179b => rfl); (case q179v => first | exact rfl | assumption | ((conv => lhs; whnf); assumption)); k_whole))
  k_with "exec For Tuple Call cons nil" => (k_here; k_dflt (refine' For_F ?_ ?q180hs; (case q180hs => (intro _; rfl)); k_whole))
  k_with "exec For Name Call cons nil" => (k_here; k_dflt (refine' For_F ?_ ?q181hs; (case q181hs => (intro _; rfl)); k_whole))
  trivial
noncomputable abbrev dotC : Str := Str.ofString "."
/-- what a block's turn asks -/
noncomputable def TurnOk (b wh : Int) (x1 x2 x3 x4 : Str) (sv : Int) (ar : List Str) : Prop :=
  ∃ (p : Nat) (NT OT ZN : Nat → Str), p ≤ 4 ∧ sv = b ^ p ∧ NT 0 = x1 ∧ OT 0 = x2 ∧ ZN 0 = x3 ∧
    (∀ i, i < p → ∃ x y, srch (NT i).cps = some (x, y) ∧ x ≤ 1000 ∧ y ≤ 1000 ∧ unmF (NT i) x y = NT (i + 1) ∧ (NT i).length ≤ 1000) ∧
    (∀ i, i < p → ∃ x y, srch (OT i).cps = some (x, y) ∧ x ≤ 1000 ∧ y ≤ 1000 ∧ unmF (OT i) x y = OT (i + 1) ∧ (OT i).length ≤ 1000) ∧
    (∀ i, i < p → reachF (Txt.lstripChars (ZN i) dotC) = ZN (i + 1) ∧ (ZN i).length ≤ 100 ∧ (Txt.lstripChars (ZN i) dotC).length ≤ 100) ∧
    NT p = OT p ∧ (ZN p).length ≤ 100 ∧ (NT p).length ≤ 1000 ∧ (Txt.lstripChars (ZN p) dotC).length ≤ 100 ∧
    (Txt.split (Txt.lstripChars (ZN p) dotC) dotC).length ≤ 8 ∧ (∀ a ∈ Txt.split (Txt.lstripChars (ZN p) dotC) dotC, a.length ≤ 14) ∧
    NT p = Txt.join dotC (Txt.split (Txt.lstripChars (ZN p) dotC) dotC).reverse ++ Str.ofString "\n" ∧
    hdnF (NT p) = (sv == wh) ∧ dmP x4 (ZN p) ∧ dmF x4 (ZN p) = true ∧ (∀ x ∈ ar, dmP x (ZN p)) ∧ (∀ x ∈ ar, dmF x (ZN p) = false) ∧
    (reachF (Txt.lstripChars (ZN p) dotC) == Txt.lstripChars (ZN p) dotC) = (sv == wh) ∧ (∀ x ∈ ar, dmP x (reachF (Txt.lstripChars (ZN p) dotC))) ∧
    (ar.filter fun x => dmF x (reachF (Txt.lstripChars (ZN p) dotC))).isEmpty = (sv == wh)
noncomputable def othN (y : Str) : Prop := y ≠ Str.ofString "k" ∧ y ≠ Str.ofString "size" ∧ y ≠ Str.ofString "net" ∧ y ≠ Str.ofString "other" ∧ y ≠ Str.ofString "worth" ∧ y ≠ Str.ofString "bare" ∧ y ≠ Str.ofString "within"
section
variable {w : World} {lo : List Str} {mean : ExcName → Option Value} {mg mb : Str → Option Value} {h₀ : Heap} {L fa : Addr} {cd : Value} {m : Str → Option Value} {led : Led} {s : Shared} {E : Value → Shared → Prop}
set_option maxHeartbeats 4000000 in
theorem turn28 {Q : Flow → Shared → Prop} {Ln Nm Ar : Addr} {ls ns zs : List Value} {n1 n2 n9 i : Nat} {x1 x2 x3 x4 : Str} {arr : List Str} {sv wh b : Int} {t t1 t2 t3 t4 ta tb tc : Tok} {ow oz : Obj} {vw vz : Option Value} (X : (hd.heap_39 w.params).In h₀) (T : Top topProg lo mean mg mb h₀) (B : Below callerA h₀ [] h₀) (F : Fr h₀ L s.heap m) (N : News h₀ L s.heap ((L + 2, ow) :: (L + 1, oz) :: led))
    (hLn : (Ln, W.listOf ls.toArray n1) ∈ led) (hNm : (Nm, W.listOf ns.toArray n2) ∈ led) (hAr : (Ar, W.listOf zs.toArray n9) ∈ led) (hq1 : ∀ p ∈ led, p.1 ≠ L + 1) (hq2 : ∀ p ∈ led, p.1 ≠ L + 2) (how : ow.data = .cell vw) (hoz : oz.data = .cell vz)
    (hm1 : m (Str.ofString "lines") = some (.ref Ln)) (hm2 : m (Str.ofString "names") = some (.ref Nm)) (hm3 : m (Str.ofString "k") = some (.int (i : Nat) t)) (hm4 : m (Str.ofString "around") = some (.ref Ar)) (hm5 : m (Str.ofString "size") = some (.int sv ta)) (hm6 : m (Str.ofString "whole") = some (.int wh tb)) (hm7 : m (Str.ofString "base") = some (.int b tc))
    (hi : i ≤ 60) (hb : 2 ≤ b) (hb5 : b ≤ 5) (e1 : ls[2 * i]? = some (.str x1 t1)) (e2 : ls[2 * i + 1]? = some (.str x2 t2)) (e3 : ns[2 * i]? = some (.str x3 t3)) (e4 : ns[2 * i + 1]? = some (.str x4 t4)) (hS : StrsAre zs arr) (hal : arr.length ≤ 100)
    (hok : TurnOk b wh x1 x2 x3 x4 sv arr)
    (k : ∀ m2 h2 tk ow' oz' vw' vz', ow'.data = .cell vw' → oz'.data = .cell vz' → (∀ y, othN y → m2 y = m y) → Fr h₀ L h2 m2 → News h₀ L h2 ((L + 2, ow') :: (L + 1, oz') :: led) → Q .next { s with heap := h2, toks := tk }) :
    wpAny (model P0 w) (lawA L fa cd) (execs [lawB0.1, lawB1.1, lawB2.1, lawB3.1, lawB4.1, lawB5.1, lawB6.1, lawB7.1, lawB8.1, lawB9.1, lawB10.1] (lawEnv L fa cd)) Q E s := by
  obtain ⟨p, NT, OT, ZN, hp4, hsv, rfl, rfl, rfl, hN, hO, hZ, hNO, hzl, hnl, hbl, hsl, hsl2, hjoin, hhd, hd4, hdm4, hpar, hdar, hre, hpar2, hfil⟩ := hok
  refine wpAny_execs_cons (b0 X T F N hLn hNm hq1 hoz hm1 hm2 hm3 hi e1 e2 e3 fun h2 tk oz1 t9 hoz1 F1 N1 => ?_)
  refine wpAny_execs_cons (b1 (NT := NT) (OT := OT) (ZN := ZN) (sv := sv) (b := b) (p := p) X T B F1 N1 hq1 rfl rfl rfl hm5 hm7 hoz1 hb hb5 hp4 hsv hN hO hZ fun m2 h2 tk oz2 tn to tz hoz2 hn2 ho2 hmm2 F2 N2 => ?_)
  have g1 : ∀ y, othN y → m2 y = m y := fun y hy => by
    obtain ⟨y1, y2, y3, y4, y5, y6, y7⟩ := hy
    rw [hmm2 y y3 y4 y5]
    show (if y = Str.ofString "worth" then _ else if y = Str.ofString "other" then _ else if y = Str.ofString "net" then _ else m y) = m y
    rw [if_neg y5, if_neg y4, if_neg y3]
  have gk : m2 (Str.ofString "k") = some (.int (i : Nat) t) := (hmm2 _ (by decide) (by decide) (by decide)).trans hm3
  have gs : m2 (Str.ofString "size") = some (.int sv ta) := (hmm2 _ (by decide) (by decide) (by decide)).trans hm5
  have gw : m2 (Str.ofString "whole") = some (.int wh tb) := (hmm2 _ (by decide) (by decide) (by decide)).trans hm6
  have ga : m2 (Str.ofString "around") = some (.ref Ar) := (hmm2 _ (by decide) (by decide) (by decide)).trans hm4
  have gn : m2 (Str.ofString "names") = some (.ref Nm) := (hmm2 _ (by decide) (by decide) (by decide)).trans hm2
  rw [← hNO] at ho2
  refine wpAny_execs_cons (b2 X T F2 N2 hoz2 hzl fun h2 tk t9 F3 N3 => ?_)
  refine wpAny_execs_cons (b3 (x := NT p) (bb := Txt.lstripChars (ZN p) (Str.ofString ".")) X T F3 N3 hn2 ho2 rfl hbl hsl hsl2 hnl hjoin fun h2 tk F4 N4 => ?_)
  refine wpAny_execs_cons (b4 (x := NT p) (sv := sv) (wh := wh) X T B F4 N4 hn2 gs gw hnl hhd fun h2 tk F5 N5 => ?_)
  refine wpAny_execs_cons (b5 (i := i) (x := x4) (z := ZN p) X T B F5 N5 hNm gn gk hoz2 hi e4 hd4 hdm4 fun h2 tk F6 N6 => ?_)
  refine wpAny_execs_cons (b6 (z := ZN p) X T B F6 N6 hAr ga hS hal hoz2 hpar hdar fun h2 tk F7 N7 => ?_)
  refine wpAny_execs_cons (b7 (x := Txt.lstripChars (ZN p) (Str.ofString ".")) X T B F7 N7 hq2 rfl how hbl fun h2 tk ow2 t8 how2 F8 N8 => ?_)
  refine wpAny_execs_cons (b8 (sv := sv) (wh := wh) X T F8 N8 rfl gs gw how2 hre fun h2 tk F9 N9 => ?_)
  refine wpAny_execs_cons (b9 X T B F9 N9 hAr ga hS hal how2 hpar2 fun h2 tk Wi ys hys F10 N10 => ?_)
  refine wpAny_execs_cons (b10 (sv := sv) (wh := wh) X T F10 N10 hys rfl gs gw hfil fun h2 tk F11 N11 => ?_)
  refine wpAny_execs_nil ?_
  refine k _ _ _ _ _ _ _ how2 hoz2 (fun y hy => ?_) F11 N11
  have hy' := hy
  obtain ⟨y1, y2, y3, y4, y5, y6, y7⟩ := hy'
  show (if y = Str.ofString "within" then _ else if y = Str.ofString "bare" then _ else m2 y) = m y
  rw [if_neg y7, if_neg y6]
  exact g1 y hy
set_option maxHeartbeats 4000000 in
theorem st28 {Q : Flow → Shared → Prop} {Sz Ln Nm Ar : Addr} {vs ls ns zs : List Value} {nn n1 n2 n9 : Nat} {sz : List Int} {lns nms arr : List Str} {wh b : Int} {tb tc : Tok} {ow oz : Obj} {vw vz : Option Value} (X : (hd.heap_39 w.params).In h₀) (T : Top topProg lo mean mg mb h₀) (B : Below callerA h₀ [] h₀) (F : Fr h₀ L s.heap m) (N : News h₀ L s.heap ((L + 2, ow) :: (L + 1, oz) :: led))
    (hSz : (Sz, W.listOf vs.toArray nn) ∈ led) (hLn : (Ln, W.listOf ls.toArray n1) ∈ led) (hNm : (Nm, W.listOf ns.toArray n2) ∈ led) (hAr : (Ar, W.listOf zs.toArray n9) ∈ led) (hq1 : ∀ p ∈ led, p.1 ≠ L + 1) (hq2 : ∀ p ∈ led, p.1 ≠ L + 2) (how : ow.data = .cell vw) (hoz : oz.data = .cell vz)
    (hm0 : m (Str.ofString "sizes") = some (.ref Sz)) (hm1 : m (Str.ofString "lines") = some (.ref Ln)) (hm2 : m (Str.ofString "names") = some (.ref Nm)) (hm4 : m (Str.ofString "around") = some (.ref Ar)) (hm6 : m (Str.ofString "whole") = some (.int wh tb)) (hm7 : m (Str.ofString "base") = some (.int b tc))
    (hlen : sz.length ≤ 60) (hb : 2 ≤ b) (hb5 : b ≤ 5) (hV : IntsAre vs sz) (hLs : StrsAre ls lns) (hNs : StrsAre ns nms) (hS : StrsAre zs arr) (hal : arr.length ≤ 100)
    (hok : ∀ i sv, sz[i]? = some sv → ∃ x1 x2 x3 x4, lns[2 * i]? = some x1 ∧ lns[2 * i + 1]? = some x2 ∧ nms[2 * i]? = some x3 ∧ nms[2 * i + 1]? = some x4 ∧ TurnOk b wh x1 x2 x3 x4 sv arr)
    (k : ∀ m2 h2 tk ow' oz', Fr h₀ L h2 m2 → News h₀ L h2 ((L + 2, ow') :: (L + 1, oz') :: led) → Q .next { s with heap := h2, toks := tk }) :
    wpAny (model P0 w) (lawA L fa cd) (exec lawS28.1 (lawEnv L fa cd)) Q E s := by
  have kf : PySem.Challenge.rw_zo0034_01 = PySem.Challenge.rw_zo0034_01 ∧ hd.heap_39 = hd.heap_39 := by
    k_fill
    exact ⟨rfl, rfl⟩
  clear kf
  unfold lawS28 lawEnv lawD
  dsimp only
  k_steps
  rename Fr _ _ _ _ => F1
  rename News _ _ _ _ => N1
  k_dflt (refine' iter_enumJ (l := Sz) (nn := nn) (B := s.heap.objs.size) rfl rfl rfl rfl F1 N1 (fun i mm led' => ∃ ow' oz' vw' vz', led' = (L + 2, ow') :: (L + 1, oz') :: led ∧ ow'.data = .cell vw' ∧ oz'.data = .cell vz' ∧ (∀ y, othN y → mm y = m y)) ?hJl ?hJB ?hB ?h0 ?turn ?done)
  case hJl => rintro i mm led' ⟨ow', oz', vw', vz', rfl, _⟩; exact .tail _ (.tail _ hSz)
  case hJB =>
    rintro i mm led' ⟨ow', oz', vw', vz', rfl, _⟩ p hp
    rcases List.mem_cons.mp hp with rfl | hp
    · exact Heap.lt_size (N1 (L + 2, ow) (.head _)).1
    rcases List.mem_cons.mp hp with rfl | hp
    · exact Heap.lt_size (N1 (L + 1, oz) (.tail _ (.head _))).1
    · exact Heap.lt_size (N1 _ (.tail _ (.tail _ hp))).1
  case hB => exact Nat.le_refl _
  case h0 => exact ⟨_, _, _, _, rfl, how, hoz, fun _ _ => rfl⟩
  case turn =>
    rintro i v t m₁ led9 e it oe oi h tk hv ⟨ow', oz', vw', vz', rfl, how', hoz', hmm⟩ hBi hie F2 N2
    obtain ⟨sv, ta, rfl, hx⟩ := IntsAre.at hV i v hv
    have hil : i < sz.length := (List.getElem?_eq_some_iff.mp hx).1
    obtain ⟨x1, x2, x3, x4, g1, g2, g3, g4, hT⟩ := hok i sv hx
    obtain ⟨t1, e1⟩ := strs_at hLs g1
    obtain ⟨t2, e2⟩ := strs_at hLs g2
    obtain ⟨t3, e3⟩ := strs_at hNs g3
    obtain ⟨t4, e4⟩ := strs_at hNs g4
    have hBi' : @LE.le Nat _ s.heap.objs.size it := hBi
    have hie' : @LT.lt Nat _ it e := hie
    have l2 : @LT.lt Nat _ (L + 2) s.heap.objs.size := Heap.lt_size (N1 (L + 2, ow) (.head _)).1
    have nh : ∀ p ∈ [(e, oe), (it, oi)] ++ led, p.1 ≠ L + 1 ∧ p.1 ≠ L + 2 := fun p hp => by
      rcases List.mem_append.mp hp with hp | hp
      · rcases List.mem_cons.mp hp with rfl | hp
        · show e ≠ L + 1 ∧ e ≠ L + 2
          exact ⟨Nat.ne_of_gt (by omega), Nat.ne_of_gt (by omega)⟩
        · rw [List.mem_singleton.mp hp]
          show it ≠ L + 1 ∧ it ≠ L + 2
          exact ⟨Nat.ne_of_gt (by omega), Nat.ne_of_gt (by omega)⟩
      · exact ⟨hq1 p hp, hq2 p hp⟩
    refine turn28 (led := [(e, oe), (it, oi)] ++ led) (ow := ow') (oz := oz') (i := i) (t := t) (sv := sv) (ta := ta) (arr := arr) X T B F2 (cb_drop N2 fun p hp => ?_) (List.mem_append_right _ hLn) (List.mem_append_right _ hNm) (List.mem_append_right _ hAr) (fun p hp => (nh p hp).1) (fun p hp => (nh p hp).2) how' hoz'
      ((hmm _ (by unfold othN; decide)).trans hm1) ((hmm _ (by unfold othN; decide)).trans hm2) rfl ((hmm _ (by unfold othN; decide)).trans hm4) rfl ((hmm _ (by unfold othN; decide)).trans hm6) ((hmm _ (by unfold othN; decide)).trans hm7) (by omega) hb hb5 e1 e2 e3 e4 hS hal hT ?_
    · rcases List.mem_cons.mp hp with rfl | hp
      · exact .tail _ (.tail _ (.head _))
      rcases List.mem_cons.mp hp with rfl | hp
      · exact .tail _ (.tail _ (.tail _ (.head _)))
      rcases List.mem_append.mp hp with hp | hp
      · exact List.mem_append_left _ hp
      · exact List.mem_append_right _ (.tail _ (.tail _ hp))
    · intro m2 h2 tk ow2 oz2 vw2 vz2 how2 hoz2 hmm2 F3 N3
      show GTurnE _ _ _ _ _ _
      refine ⟨_, _, _, _, rfl, F3, ?_, ow2, oz2, vw2, vz2, rfl, how2, hoz2, fun y hy => ?_⟩
      · refine cb_drop N3 fun p hp => ?_
        rcases List.mem_append.mp hp with hp | hp
        · exact .tail _ (.tail _ (List.mem_append_left _ hp))
        rcases List.mem_cons.mp hp with rfl | hp
        · exact .head _
        rcases List.mem_cons.mp hp with rfl | hp
        · exact .tail _ (.head _)
        · exact .tail _ (.tail _ (List.mem_append_right _ hp))
      · rw [hmm2 y hy]
        have hy' := hy
        obtain ⟨y1, y2, _⟩ := hy'
        show (if y = Str.ofString "size" then _ else if y = Str.ofString "k" then _ else m₁ y) = m y
        rw [if_neg y2, if_neg y1]
        exact hmm y hy
  case done =>
    rintro m₁ led9 h tk ⟨ow', oz', vw', vz', rfl, how', hoz', hmm⟩ F2 N2
    exact k _ _ _ _ _ F2 N2
end
end
section
set_option maxRecDepth 100000
open PySem PySem.W PyProof.Rows PySem.Spec PySem.Calls
theorem fresh_P5 : True ∧ True := by
  w_top off
  k_with_none
  first | (walk1; done) | exact ⟨trivial, trivial⟩
/-- the neighbours of the stretch -/
noncomputable def arF (lw hg wh : Int) : List Int := (if 0 < lw then [lw - 1] else []) ++ (if hg < wh then [hg] else [])
noncomputable def findP (bs sv : Int) : Nat → Nat
  | 0 => 0
  | k + 1 => if bs ^ (k + 1) = sv then k + 1 else findP bs sv k
noncomputable def blk (j : Nat) (ar : List Int) (b sv : Int) : Bool :=
  let p := findP (bsN j : Nat) sv (plN j)
  let L0 := oc j b
  decide (sv = ((bsN j : Nat) : Int) ^ p) && decide (p ≤ plN j) && decide (0 ≤ b) && decide (b + sv - 1 < (whN j : Nat)) && ((oc j (b + sv - 1)).drop p == L0.drop p) && decide (sv ≠ 127) && decide (1 ≤ sv) &&
  ((sv == ((whN j : Nat) : Int)) == (p == plN j)) &&
  (if p = plN j then ar.isEmpty else ar.any fun a => (oc j a).drop (p + 1) == L0.drop (p + 1)) &&
  ar.all fun a => decide (0 ≤ a) && decide (a < (whN j : Nat)) && !((oc j a).drop p == L0.drop p)
theorem oc_len (j : Nat) (a : Int) : (oc j a).length = plN j := octL_length ..
theorem oc_nonneg {j : Nat} (hj : j < 4) (a : Int) : ∀ x ∈ oc j a, 0 ≤ x := fun x hx => by
  have h2 : 2 ≤ ((bsN j : Nat) : Int) ∧ ((bsN j : Nat) : Int) ≤ 5 := four (P := fun j => 2 ≤ ((bsN j : Nat) : Int) ∧ ((bsN j : Nat) : Int) ≤ 5) (by decide) (by decide) (by decide) (by decide) j hj
  have := digs_byte h2.1 h2.2 _ _ x hx
  omega
theorem pl_le {j : Nat} (hj : j < 4) : plN j ≤ 4 ∧ 2 ≤ plN j := four (P := fun j => plN j ≤ 4 ∧ 2 ≤ plN j) (by decide) (by decide) (by decide) (by decide) j hj
theorem block_turn {j : Nat} (hj : j < 4) {ar : List Int} {b sv : Int} (h : blk j ar b sv = true) :
    TurnOk ((bsN j : Nat) : Int) ((whN j : Nat) : Int) (netF (oc j b)) (netF (oc j (b + sv - 1))) (bareF (oc j b)) (bareF (oc j (b + sv - 1))) sv (ar.map fun a => bareF (oc j a)) := by
  unfold blk at h
  generalize findP ((bsN j : Nat) : Int) sv (plN j) = p at h
  simp only [Bool.and_eq_true, decide_eq_true_eq, beq_iff_eq] at h
  obtain ⟨⟨⟨⟨⟨⟨⟨⟨⟨h1, h2⟩, h3⟩, h4⟩, h5⟩, _⟩, h7⟩, h8⟩, h9⟩, h10⟩ := h
  have hpl := pl_le hj
  have hb1 : b < (whN j : Nat) := by omega
  have k0 : ∀ i, i ≤ plN j → OkD ((oc j b).drop i) := fun i hi => ds_ok hj (dr_mem hj h3 hb1 hi)
  have k1 : ∀ i, i ≤ plN j → OkD ((oc j (b + sv - 1)).drop i) := fun i hi => ds_ok hj (dr_mem hj (by omega) h4 hi)
  have ka : ∀ a ∈ ar, 0 ≤ a ∧ a < (whN j : Nat) ∧ (oc j a).drop p ≠ (oc j b).drop p := fun a ha => by
    have := List.all_eq_true.mp h10 a ha
    simp only [Bool.and_eq_true, decide_eq_true_eq, Bool.not_eq_true', beq_eq_false_iff_ne] at this
    exact ⟨this.1.1, this.1.2, this.2⟩
  have ko : ∀ a : Int, 0 ≤ a → a < (whN j : Nat) → OkD (oc j a) := fun a a0 a1 => ds_ok hj (dr_mem hj a0 a1 (i := 0) (Nat.zero_le _))
  have c0 : ∀ i, i < plN j → ∃ d, (oc j b).drop i = d :: (oc j b).drop (i + 1) := fun i hi => ⟨_, List.drop_eq_getElem_cons (by rw [oc_len]; exact hi)⟩
  have c1 : ∀ i, i < plN j → ∃ d, (oc j (b + sv - 1)).drop i = d :: (oc j (b + sv - 1)).drop (i + 1) := fun i hi => ⟨_, List.drop_eq_getElem_cons (by rw [oc_len]; exact hi)⟩
  -- the zone's own text without its dot
  have zb : ∀ i, i ≤ plN j → Txt.lstripChars (if i = 0 then bareF (oc j b) else zoneF ((oc j b).drop i)) dotC = bareF ((oc j b).drop i) := fun i hi => by
    by_cases h0 : i = 0
    · subst h0
      rw [if_pos rfl]
      exact (k0 0 hi).ls1
    · rw [if_neg h0]
      exact (k0 i hi).ls2
  have zlen : ∀ i, i ≤ plN j → (if i = 0 then bareF (oc j b) else zoneF ((oc j b).drop i)).length ≤ 31 := fun i hi => by
    by_cases h0 : i = 0
    · rw [if_pos h0]
      have := (k0 0 (Nat.zero_le _)).bl
      rw [List.drop_zero] at this
      omega
    · rw [if_neg h0]
      exact zl (k0 i hi)
  have zlow : ∀ i, i ≤ plN j → Txt.lower (if i = 0 then bareF (oc j b) else zoneF ((oc j b).drop i)) = (if i = 0 then bareF (oc j b) else zoneF ((oc j b).drop i)) := fun i hi => by
    by_cases h0 : i = 0
    · rw [if_pos h0]
      exact (k0 0 (Nat.zero_le _)).lowb
    · rw [if_neg h0]
      exact (k0 i hi).lowz
  -- who lies in the zone
  have dm : ∀ a : Int, 0 ≤ a → a < (whN j : Nat) → dmF (bareF (oc j a)) (if p = 0 then bareF (oc j b) else zoneF ((oc j b).drop p)) = ((oc j a).drop p == (oc j b).drop p) := fun a a0 a1 => by
    by_cases h0 : p = 0
    · rw [if_pos h0, h0, List.drop_zero, List.drop_zero]
      have o0 : OkD (oc j b) := ko b h3 hb1
      rw [dm_bare (ko a a0 a1) o0, Bool.eq_iff_iff, beq_iff_eq, beq_iff_eq]
      exact ⟨bareC_inj (by rw [oc_len, oc_len]) (oc_nonneg hj a) (oc_nonneg hj b), fun e => by rw [e]⟩
    · rw [if_neg h0, dm_zone (ko a a0 a1) (k0 p h2), zm_eq hj a0 a1 (dr_mem hj h3 hb1 h2) (by rw [List.length_drop, oc_len]; omega), List.length_drop, oc_len, show plN j - (plN j - p) = p by omega]
  have hsz : (sv == ((whN j : Nat) : Int)) = (p == plN j) := h8
  have hbare := zb p h2
  have lena : ∀ a : Int, 0 ≤ a → a < (whN j : Nat) → (bareF (oc j a)).length ≤ 100 ∧ (Txt.lower (bareF (oc j a))).length ≤ 1000 := fun a a0 a1 => by
    have o := ko a a0 a1
    have := o.bl
    exact ⟨by omega, by rw [o.lowb]; omega⟩
  refine ⟨p, fun i => netF ((oc j b).drop i), fun i => netF ((oc j (b + sv - 1)).drop i), fun i => if i = 0 then bareF (oc j b) else zoneF ((oc j b).drop i), by omega, h1, rfl, rfl, rfl, fun i hi => ?_, fun i hi => ?_, fun i hi => ?_, ?_, ?_, ?_, ?_, ?_, ?_, ?_, ?_, ?_, ?_, ?_, ?_, ?_, ?_, ?_⟩
  · obtain ⟨d, e⟩ := c0 i (by omega)
    obtain ⟨_, _, x, y, g1, g2, g3, g4⟩ := (k0 i (by omega)).rec9 _ _ e
    have := (k0 i (by omega)).nl
    exact ⟨x, y, g1, g2, g3, g4, Nat.le_trans this (by decide)⟩
  · obtain ⟨d, e⟩ := c1 i (by omega)
    obtain ⟨_, _, x, y, g1, g2, g3, g4⟩ := (k1 i (by omega)).rec9 _ _ e
    have := (k1 i (by omega)).nl
    exact ⟨x, y, g1, g2, g3, g4, Nat.le_trans this (by decide)⟩
  · obtain ⟨d, e⟩ := c0 i (by omega)
    obtain ⟨g1, _⟩ := (k0 i (by omega)).rec9 _ _ e
    have g2 := zb i (by omega)
    have g3 := zlen i (by omega)
    have g4 := (k0 i (by omega)).bl
    refine ⟨?_, Nat.le_trans g3 (by decide), ?_⟩
    · show reachF (Txt.lstripChars (if i = 0 then bareF (oc j b) else zoneF ((oc j b).drop i)) dotC) = if i + 1 = 0 then bareF (oc j b) else zoneF ((oc j b).drop (i + 1))
      rw [g2, if_neg (Nat.succ_ne_zero i), g1]
    · show (Txt.lstripChars (if i = 0 then bareF (oc j b) else zoneF ((oc j b).drop i)) dotC).length ≤ 100
      rw [g2]; omega
  · show netF ((oc j b).drop p) = netF ((oc j (b + sv - 1)).drop p)
    rw [h5]
  · exact Nat.le_trans (zlen p h2) (by omega)
  · exact Nat.le_trans (k0 p h2).nl (by omega)
  · show (Txt.lstripChars (if p = 0 then bareF (oc j b) else zoneF ((oc j b).drop p)) dotC).length ≤ 100
    rw [hbare]
    exact Nat.le_trans (k0 p h2).bl (by omega)
  · show (Txt.split (Txt.lstripChars (if p = 0 then bareF (oc j b) else zoneF ((oc j b).drop p)) dotC) dotC).length ≤ 8
    rw [hbare]
    exact (k0 p h2).sp
  · show ∀ a ∈ Txt.split (Txt.lstripChars (if p = 0 then bareF (oc j b) else zoneF ((oc j b).drop p)) dotC) dotC, a.length ≤ 14
    rw [hbare]
    exact (k0 p h2).sp2
  · show netF ((oc j b).drop p) = Txt.join dotC (Txt.split (Txt.lstripChars (if p = 0 then bareF (oc j b) else zoneF ((oc j b).drop p)) dotC) dotC).reverse ++ Str.ofString "\n"
    rw [hbare]
    exact (k0 p h2).jn
  · show hdnF (netF ((oc j b).drop p)) = _
    rw [(k0 p h2).hn, hsz, Bool.eq_iff_iff, List.isEmpty_iff, beq_iff_eq, List.drop_eq_nil_iff, oc_len]
    omega
  · have g := lena (b + sv - 1) (by omega) h4
    have g3 := zlen p h2
    exact ⟨g.1, Nat.le_trans g3 (by omega), g.2, by show (Txt.lower (if p = 0 then bareF (oc j b) else zoneF ((oc j b).drop p))).length ≤ 1000; rw [zlow p h2]; omega⟩
  · show dmF (bareF (oc j (b + sv - 1))) (if p = 0 then bareF (oc j b) else zoneF ((oc j b).drop p)) = true
    rw [dm _ (by omega) h4, h5, beq_self_eq_true]
  · intro x hx
    obtain ⟨a, ha, rfl⟩ := List.mem_map.mp hx
    obtain ⟨a0, a1, _⟩ := ka a ha
    have g := lena a a0 a1
    have g3 := zlen p h2
    exact ⟨g.1, Nat.le_trans g3 (by omega), g.2, by show (Txt.lower (if p = 0 then bareF (oc j b) else zoneF ((oc j b).drop p))).length ≤ 1000; rw [zlow p h2]; omega⟩
  · intro x hx
    obtain ⟨a, ha, rfl⟩ := List.mem_map.mp hx
    obtain ⟨a0, a1, a2⟩ := ka a ha
    show dmF (bareF (oc j a)) (if p = 0 then bareF (oc j b) else zoneF ((oc j b).drop p)) = false
    rw [dm a a0 a1, beq_eq_false_iff_ne]
    exact a2
  · show (reachF (Txt.lstripChars (if p = 0 then bareF (oc j b) else zoneF ((oc j b).drop p)) dotC) == Txt.lstripChars (if p = 0 then bareF (oc j b) else zoneF ((oc j b).drop p)) dotC) = _
    rw [hbare, hsz]
    by_cases hp : p = plN j
    · rw [(k0 p h2).ren (List.drop_eq_nil_iff.mpr (by rw [oc_len]; omega)), beq_self_eq_true, hp, beq_self_eq_true]
    · obtain ⟨d, e⟩ := c0 p (by omega)
      obtain ⟨g1, g2, _⟩ := (k0 p h2).rec9 _ _ e
      rw [g1, beq_eq_false_iff_ne.mpr g2, beq_eq_false_iff_ne.mpr hp]
  · show ∀ x ∈ ar.map (fun a => bareF (oc j a)), dmP x (reachF (Txt.lstripChars (if p = 0 then bareF (oc j b) else zoneF ((oc j b).drop p)) dotC))
    rw [hbare]
    intro x hx
    obtain ⟨a, ha, rfl⟩ := List.mem_map.mp hx
    obtain ⟨a0, a1, _⟩ := ka a ha
    have g := lena a a0 a1
    by_cases hp : p = plN j
    · rw [(k0 p h2).ren (List.drop_eq_nil_iff.mpr (by rw [oc_len]; omega))]
      have := (k0 p h2).bl
      exact ⟨g.1, by omega, g.2, by rw [(k0 p h2).lowb]; omega⟩
    · obtain ⟨d, e⟩ := c0 p (by omega)
      obtain ⟨g1, g2, _⟩ := (k0 p h2).rec9 _ _ e
      rw [g1]
      have o := k0 (p + 1) (by omega)
      have := zl o
      exact ⟨g.1, by omega, g.2, by rw [o.lowz]; omega⟩
  · show ((ar.map fun a => bareF (oc j a)).filter fun x => dmF x (reachF (Txt.lstripChars (if p = 0 then bareF (oc j b) else zoneF ((oc j b).drop p)) dotC))).isEmpty = _
    rw [hbare, hsz]
    by_cases hp : p = plN j
    · rw [if_pos hp] at h9
      have : ar = [] := List.isEmpty_iff.mp h9
      rw [this, hp, beq_self_eq_true]
      rfl
    · rw [if_neg hp] at h9
      obtain ⟨a, ha, hae⟩ := List.any_eq_true.mp h9
      have hae := eq_of_beq hae
      obtain ⟨a0, a1, _⟩ := ka a ha
      obtain ⟨d, e⟩ := c0 p (by omega)
      obtain ⟨g1, g2, _⟩ := (k0 p h2).rec9 _ _ e
      rw [g1, beq_eq_false_iff_ne.mpr hp, List.isEmpty_eq_false_iff]
      intro hf
      have hm : bareF (oc j a) ∈ (ar.map fun a => bareF (oc j a)).filter fun x => dmF x (zoneF ((oc j b).drop (p + 1))) := by
        refine List.mem_filter.mpr ⟨List.mem_map.mpr ⟨a, ha, rfl⟩, ?_⟩
        show dmF (bareF (oc j a)) (zoneF ((oc j b).drop (p + 1))) = true
        rw [dm_zone (ko a a0 a1) (k0 (p + 1) (by omega)), zm_eq hj a0 a1 (dr_mem hj h3 hb1 (by omega)) (by rw [List.length_drop, oc_len]; omega), List.length_drop, oc_len, show plN j - (plN j - (p + 1)) = p + 1 by omega, hae, beq_self_eq_true]
      rw [hf] at hm
      cases hm
end
section
set_option maxRecDepth 100000
open PySem PySem.W PyProof.Rows PySem.Spec PySem.Calls
theorem fresh_P6 : True ∧ True := by
  w_top off
  k_with_none
  first | (walk1; done) | exact ⟨trivial, trivial⟩
noncomputable def blks (j : Nat) (ar : List Int) : Int → List Int → Bool
  | _, [] => true
  | b, x :: r => blk j ar b x && blks j ar (b + x) r
noncomputable def caseOk (j : Nat) (lw hg : Int) : Bool :=
  let sz := sizesF ((bsN j : Nat) : Int) 5 lw hg 1 [] []
  let full := fullF ((bsN j : Nat) : Int) lw hg (plN j)
  decide (sz.length ≤ 30) && !sz.isEmpty && decide ((sz.length : Int) = hg - lw - (((bsN j : Nat) : Int) - 1) * full) && decide (0 ≤ full) && decide (full ≤ 100) && decide (lw + sz.sum = hg) &&
  blks j (arF lw hg ((whN j : Nat) : Int)) lw sz
noncomputable def allOk (j : Nat) : Bool := (List.range (whN j)).all fun lw => (List.range (whN j - lw)).all fun d => caseOk j ((lw : Nat) : Int) ((lw + 1 + d : Nat) : Int)
theorem all0 : allOk 0 = true := by decide +kernel
theorem all1 : allOk 1 = true := by decide +kernel
theorem all2 : allOk 2 = true := by decide +kernel
theorem all3 : allOk 3 = true := by decide +kernel
theorem case_ok {j : Nat} (hj : j < 4) {lw hg : Int} (h0 : 0 ≤ lw) (h1 : lw < hg) (h2 : hg ≤ (whN j : Nat)) : caseOk j lw hg = true := by
  have key : allOk j = true := four (P := fun j => allOk j = true) all0 all1 all2 all3 j hj
  have h := List.all_eq_true.mp key lw.toNat (List.mem_range.mpr (by omega))
  have h := List.all_eq_true.mp h (hg - lw - 1).toNat (List.mem_range.mpr (by omega))
  have e1 : ((lw.toNat : Nat) : Int) = lw := Int.toNat_of_nonneg h0
  have e2 : ((lw.toNat + 1 + (hg - lw - 1).toNat : Nat) : Int) = hg := by omega
  rw [e1, e2] at h
  exact h
theorem blks_at {j : Nat} {ar : List Int} : ∀ (sz : List Int) (b : Int), blks j ar b sz = true → ∀ i sv, sz[i]? = some sv → blk j ar (b + (sz.take i).sum) sv = true
  | [], _, _, i, sv, h => by simp at h
  | x :: r, b, h, 0, sv, hs => by
    unfold blks at h
    rw [Bool.and_eq_true] at h
    have e : x = sv := by simpa using hs
    rw [← e]
    simpa using h.1
  | x :: r, b, h, i + 1, sv, hs => by
    unfold blks at h
    rw [Bool.and_eq_true] at h
    have := blks_at r (b + x) h.2 i sv (by simpa using hs)
    rw [List.take_succ_cons, List.sum_cons, ← Int.add_assoc]
    exact this
theorem addrs_at : ∀ (sz : List Int) (b : Int) (i : Nat) (sv : Int), sz[i]? = some sv → (addrsF b sz)[2 * i]? = some (b + (sz.take i).sum) ∧ (addrsF b sz)[2 * i + 1]? = some (b + (sz.take i).sum + sv - 1)
  | [], _, i, sv, h => by simp at h
  | x :: r, b, 0, sv, hs => by
    have e : x = sv := by simpa using hs
    rw [← e]
    simp [addrsF]
  | x :: r, b, i + 1, sv, hs => by
    have := addrs_at r (b + x) i sv (by simpa using hs)
    rw [List.take_succ_cons, List.sum_cons, ← Int.add_assoc]
    rw [show 2 * (i + 1) = 2 * i + 1 + 1 by omega, addrsF]
    exact this
/-- what the law asks of a stretch -/
structure CaseOk (j : Nat) (lw hg : Int) (sz : List Int) : Prop where
  len : sz.length ≤ 30
  ne : sz ≠ []
  cnt : (sz.length : Int) = hg - lw - (((bsN j : Nat) : Int) - 1) * fullF ((bsN j : Nat) : Int) lw hg (plN j)
  f0 : 0 ≤ fullF ((bsN j : Nat) : Int) lw hg (plN j)
  f1 : fullF ((bsN j : Nat) : Int) lw hg (plN j) ≤ 100
  sum : lw + sz.sum = hg
  small : ∀ x ∈ sz, x ≠ 0 ∧ x ≠ 127
  turn : ∀ i sv, sz[i]? = some sv → TurnOk ((bsN j : Nat) : Int) ((whN j : Nat) : Int) (netF (oc j (lw + (sz.take i).sum))) (netF (oc j (lw + (sz.take i).sum + sv - 1))) (bareF (oc j (lw + (sz.take i).sum))) (bareF (oc j (lw + (sz.take i).sum + sv - 1))) sv ((arF lw hg ((whN j : Nat) : Int)).map fun a => bareF (oc j a))
theorem the_case {j : Nat} (hj : j < 4) {lw hg : Int} (h0 : 0 ≤ lw) (h1 : lw < hg) (h2 : hg ≤ (whN j : Nat)) : CaseOk j lw hg (sizesF ((bsN j : Nat) : Int) 5 lw hg 1 [] []) := by
  have h := case_ok hj h0 h1 h2
  unfold caseOk at h
  simp only [Bool.and_eq_true, decide_eq_true_eq, Bool.not_eq_true'] at h
  obtain ⟨⟨⟨⟨⟨⟨g1, g2⟩, g3⟩, g4⟩, g5⟩, g6⟩, g7⟩ := h
  refine ⟨g1, List.isEmpty_eq_false_iff.mp g2, g3, g4, g5, g6, fun x hx => ?_, fun i sv hs => block_turn hj (blks_at _ _ g7 i sv hs)⟩
  obtain ⟨i, hi⟩ := List.getElem?_of_mem hx
  have hb := blks_at _ _ g7 i x hi
  unfold blk at hb
  simp only [Bool.and_eq_true, decide_eq_true_eq] at hb
  obtain ⟨⟨⟨⟨⟨_, b6⟩, b7⟩, _⟩, _⟩, _⟩ := hb
  exact ⟨by omega, b6⟩
end
section
open PySem PySem.W PyProof.Rows PySem.Spec PySem.Calls
set_option maxRecDepth 100000
theorem fresh_LK : True ∧ True := by
  w_top off
  k_with_none
  first | (walk1; done) | exact ⟨trivial, trivial⟩
theorem rows_LK_1 : True := by
  k_with "eval Name" => (k_here; k_dflt (refine' nameX_L ?q182F ?q182v ?_ ?q182a ?q182b; (case q182F => k_asm); (case q182a => rfl); (case q182b => rfl); (case q182v => first | exact rfl | assumption | ((conv => lhs; whnf); assumption)); k_whole))
  k_with "loadName" => (k_here; k_dflt (refine' lnX ?q183F ?q183v ?_ ?q183a ?q183b; (case q183F => k_asm); (case q183a => rfl); (case q183b => rfl); (case q183v => first | exact rfl | assumption | ((conv => lhs; whnf); assumption)); k_whole))
  k_with "exec For Tuple Call cons nil" => (k_here; k_dflt (refine' For_F ?_ ?q184hs; (case q184hs => (intro _; rfl)); k_whole))
  k_with "exec For Name Call cons nil" => (k_here; k_dflt (refine' For_F ?_ ?q185hs; (case q185hs => (intro _; rfl)); k_whole))
  trivial
section
variable {w : World} {lo : List Str} {mean : ExcName → Option Value} {mg mb : Str → Option Value} {h₀ : Heap} {L fa : Addr} {cd : Value} {m : Str → Option Value} {led : Led} {s : Shared} {E : Value → Shared → Prop}
set_option maxHeartbeats 4000000 in
theorem st29 {Q : Flow → Shared → Prop} (F : Fr h₀ L s.heap m) (N : News h₀ L s.heap led)
    (k : Q (.ret (.bool true)) s) :
    wpAny (model P0 w) (lawA L fa cd) (exec lawS29.1 (lawEnv L fa cd)) Q E s := by
  unfold lawS29 lawEnv lawD
  dsimp only
  k_steps
  exact k
end
theorem cfg {j : Nat} (hj : j < 4) : bsOf j = ((bsN j : Nat) : Int) ∧ plOf j = ((plN j : Nat) : Int) ∧ whoF j = ((whN j : Nat) : Int) ∧ 2 ≤ ((bsN j : Nat) : Int) ∧ ((bsN j : Nat) : Int) ≤ 5 ∧ 2 ≤ plN j ∧ plN j ≤ 4 ∧ 16 ≤ ((whN j : Nat) : Int) ∧ ((whN j : Nat) : Int) ≤ 27 :=
  four (P := fun j => bsOf j = ((bsN j : Nat) : Int) ∧ plOf j = ((plN j : Nat) : Int) ∧ whoF j = ((whN j : Nat) : Int) ∧ 2 ≤ ((bsN j : Nat) : Int) ∧ ((bsN j : Nat) : Int) ≤ 5 ∧ 2 ≤ plN j ∧ plN j ≤ 4 ∧ 16 ≤ ((whN j : Nat) : Int) ∧ ((whN j : Nat) : Int) ≤ 27) (by decide) (by decide) (by decide) (by decide) j hj
end
section
open PySem PySem.W PyProof.Rows PySem.Spec PySem.Calls
set_option maxRecDepth 100000
theorem fresh_LZ : True ∧ True := by
  w_top off
  k_with_none
  first | (walk1; done) | exact ⟨trivial, trivial⟩
theorem mem1 {α : Type} {a b : α} {l : List α} (h : a ∈ l) : a ∈ b :: l := .tail _ h
set_option maxHeartbeats 4000000 in
theorem law_body : LawBody := by
  intro w lo mean mg mb h₀ L fa l cd ns vs0 o1 o2 s₁ h₁ tk0 X T B C1 C2 hl hI hlen F0 N0 d1 d2 h87 hgens
  show wpN (model P0 w) (lawA L fa cd) (execs lawD.1.2.1 (lawEnv L fa cd)) (LawEnd h₀ s₁) (fun _ _ => False) { s₁ with heap := h₁, toks := tk0 }
  rw [law_list]
  -- the sums
  refine wpN_execs_one ?_
  refine @st0 _ _ _ _ _ _ _ _ _ _ _ _ _ _ X T B F0 N0 ?_
  intro Ds h2 tk v5 hi5 F1 N1 l1
  show wpN (model P0 w) (lawA L fa cd) (execs _ (lawEnv L fa cd)) (LawEnd h₀ s₁) (fun _ _ => False) { s₁ with heap := h2, toks := tk }
  refine wpN_execs_one ?_
  refine @st1 _ _ _ _ _ _ _ _ _ _ _ _ _ _ _ _ _ _ _ _ X T B F1 N1 hl hI hlen rfl rfl hi5 l1 ?_
  intro m2 h2 tk vs2 ds n2 _ hi2 hl2 hb2 hm2 F2 N2
  show wpN (model P0 w) (lawA L fa cd) (execs _ (lawEnv L fa cd)) (LawEnd h₀ s₁) (fun _ _ => False) { s₁ with heap := h2, toks := tk }
  refine wpN_execs_one ?_
  refine @st2 _ _ _ _ _ _ _ _ _ _ _ _ _ _ _ _ _ _ X T B F2 N2 hm2 hi2 hl2 l1 ?_
  intro j h2 tk tb tp hj F3 N3
  show wpN (model P0 w) (lawA L fa cd) (execs _ (lawEnv L fa cd)) (LawEnd h₀ s₁) (fun _ _ => False) { s₁ with heap := h2, toks := tk }
  obtain ⟨eb, ep, ew, c1, c2, c3, c4, c5, c6⟩ := cfg hj
  have hds : ∀ i, 0 ≤ ds.getD i 0 ∧ ds.getD i 0 ≤ 100000000 := fun i => by
    rw [List.getD_eq_getElem?_getD]
    cases h : ds[i]? with
    | none => exact ⟨by decide, by decide⟩
    | some n => exact hb2 n (List.mem_of_getElem? h)
  refine wpN_execs_one ?_
  refine @st3 _ _ _ _ _ _ _ _ _ _ _ _ _ _ _ _ _ _ X T B F3 N3 hm2 hi2 hl2 hb2 l1 ?_
  intro r h2 tk TT ts hr ht F4 N4 lTT
  show wpN (model P0 w) (lawA L fa cd) (execs _ (lawEnv L fa cd)) (LawEnd h₀ s₁) (fun _ _ => False) { s₁ with heap := h2, toks := tk }
  refine wpN_execs_one ?_
  refine @st4 _ _ _ _ _ _ _ _ _ _ _ _ _ _ _ _ _ hj X T B F4 N4 rfl rfl ?_
  intro h2 tk tw F5 N5
  show wpN (model P0 w) (lawA L fa cd) (execs _ (lawEnv L fa cd)) (LawEnd h₀ s₁) (fun _ _ => False) { s₁ with heap := h2, toks := tk }
  rw [ew] at F5
  refine wpN_execs_one ?_
  refine @st5 _ _ _ _ _ _ _ _ _ _ _ _ _ _ _ _ _ _ _ _ X T B F5 N5 (.tail _ (.head _)) hm2 rfl hi2 hl2 hb2 c5 c6 ?_
  intro h2 tk tl F6 N6
  show wpN (model P0 w) (lawA L fa cd) (execs _ (lawEnv L fa cd)) (LawEnd h₀ s₁) (fun _ _ => False) { s₁ with heap := h2, toks := tk }
  have lw0 : 0 ≤ (ds.getD 1 0).fmod ((whN j : Nat) : Int) ∧ (ds.getD 1 0).fmod ((whN j : Nat) : Int) < ((whN j : Nat) : Int) := ⟨Int.fmod_nonneg_of_pos _ (by omega), Int.fmod_lt_of_pos _ (by omega)⟩
  generalize hlw : (ds.getD 1 0).fmod ((whN j : Nat) : Int) = lw at F6 lw0
  obtain ⟨lw1, lw2⟩ := lw0
  refine wpN_execs_one ?_
  refine @st6 _ _ _ _ _ _ _ _ _ _ _ _ _ _ _ _ _ _ _ _ _ _ X T B F6 N6 (.tail _ (.head _)) hm2 rfl rfl hi2 hl2 hb2 c5 c6 lw1 lw2 ?_
  intro h2 tk th F7 N7
  show wpN (model P0 w) (lawA L fa cd) (execs _ (lawEnv L fa cd)) (LawEnd h₀ s₁) (fun _ _ => False) { s₁ with heap := h2, toks := tk }
  have hg0 : 0 ≤ (ds.getD 2 0).fmod (((whN j : Nat) : Int) - lw) ∧ (ds.getD 2 0).fmod (((whN j : Nat) : Int) - lw) < ((whN j : Nat) : Int) - lw := ⟨Int.fmod_nonneg_of_pos _ (by omega), Int.fmod_lt_of_pos _ (by omega)⟩
  obtain ⟨hg, hhg⟩ : ∃ hg, hg = lw + 1 + (ds.getD 2 0).fmod (((whN j : Nat) : Int) - lw) := ⟨_, rfl⟩
  rw [← hhg] at F7
  have hg1 : lw < hg := by omega
  have hg2 : hg ≤ ((whN j : Nat) : Int) := by omega
  clear hhg hg0 hlw
  have CO := the_case hj lw1 hg1 hg2
  rw [eb, ep] at F7
  -- the sizes
  have hr7 : ∀ q ∈ [(TT, W.listOf ts.toArray 0), (L + 2, o2), (L + 1, o1)], 87 < q.1 := fun q hq => by
    have q1 : @LT.lt Nat _ (L + 2) Ds := l1 _ (.head _)
    have q2 : @LT.lt Nat _ Ds TT := lTT
    have q3 : @LT.lt Nat _ 87 L := h87
    rcases List.mem_cons.mp hq with rfl | hq
    · show @LT.lt Nat _ 87 TT
      omega
    rcases List.mem_cons.mp hq with rfl | hq
    · show @LT.lt Nat _ 87 (L + 2)
      omega
    rw [List.mem_singleton.mp hq]
    show @LT.lt Nat _ 87 (L + 1)
    omega
  have N7' := cb_drop (news := [(TT, W.listOf ts.toArray 0), (L + 2, o2), (L + 1, o1)] ++ (Tz1 ++ Tz2)) N7 (fun p hp => by
    simp only [List.cons_append, List.nil_append, List.mem_cons, List.not_mem_nil, or_false] at hp ⊢
    rcases hp with rfl | rfl | rfl | rfl | rfl | rfl | rfl <;> simp)
  refine wpN_execs_one ?_
  refine @st7 _ _ _ _ _ _ _ _ _ _ _ _ _ _ _ _ _ _ _ _ X T B F7 N7' hr7 rfl rfl rfl lw1 hg1 (by omega) c1 c2 ?_
  intro h2 tk Sz vs T1' T2' hV hT F8 N8 lSz
  show wpN (model P0 w) (lawA L fa cd) (execs _ (lawEnv L fa cd)) (LawEnd h₀ s₁) (fun _ _ => False) { s₁ with heap := h2, toks := tk }
  obtain ⟨ps1, cc1, oo1, rfl, _⟩ := hT.t1
  obtain ⟨ps2, cc2, oo2, rfl, _⟩ := hT.t2
  generalize sizesF ((bsN j : Nat) : Int) 5 lw hg 1 [] [] = sz at hV CO
  have hszl : sz.length ≤ 60 := Nat.le_trans CO.len (by decide)
  have N9 := cb_drop (news := [(Sz, W.listOf vs.toArray 0), (TT, W.listOf ts.toArray 0), (L + 2, o2), (L + 1, o1), (87, tabObj ps2), (80, tabObj ps1)]) N8 (fun p hp => by
    simp only [List.cons_append, List.nil_append, List.mem_cons, List.not_mem_nil, or_false] at hp ⊢
    rcases hp with rfl | rfl | rfl | rfl | rfl | rfl <;> simp)
  clear N8
  refine wpN_execs_one ?_
  refine @st8 _ _ _ _ _ _ _ _ _ _ F8 N9 ?_
  intro h2 tk t8 F9 N10
  show wpN (model P0 w) (lawA L fa cd) (execs _ (lawEnv L fa cd)) (LawEnd h₀ s₁) (fun _ _ => False) { s₁ with heap := h2, toks := tk }
  have ef : fullF (bsOf j) lw hg (plOf j).toNat = fullF ((bsN j : Nat) : Int) lw hg (plN j) := by rw [eb, ep, Int.toNat_natCast]
  refine wpN_execs_one ?_
  refine @st9 _ _ _ _ _ _ _ _ _ _ _ _ _ _ _ _ _ _ _ _ _ _ hj X T B F9 N10 rfl rfl (congrArg (fun z => some (Value.int z _)) eb.symm) (congrArg (fun z => some (Value.int z _)) ep.symm) rfl lw1 hg1 (by omega) ?_
  intro m9 h2 tk t9 hm9 hf9 F10 N11
  show wpN (model P0 w) (lawA L fa cd) (execs _ (lawEnv L fa cd)) (LawEnd h₀ s₁) (fun _ _ => False) { s₁ with heap := h2, toks := tk }
  rw [ef] at hf9
  have a_low := (hm9 (Str.ofString "low") (by decide) (by decide)).trans rfl
  have a_high := (hm9 (Str.ofString "high") (by decide) (by decide)).trans rfl
  have a_base := (hm9 (Str.ofString "base") (by decide) (by decide)).trans rfl
  have a_places := (hm9 (Str.ofString "places") (by decide) (by decide)).trans rfl
  have a_sizes := (hm9 (Str.ofString "sizes") (by decide) (by decide)).trans rfl
  have a_tail := (hm9 (Str.ofString "tail") (by decide) (by decide)).trans rfl
  have a_whole := (hm9 (Str.ofString "whole") (by decide) (by decide)).trans rfl
  refine wpN_execs_one ?_
  refine @st10 _ _ _ _ _ _ _ _ _ _ _ _ _ _ _ _ _ _ _ _ _ _ _ _ _ _ X T B F10 N11 (.head _) a_low a_high a_base hf9 a_sizes hV CO.f0 CO.f1 hszl CO.cnt ?_
  intro h2 tk F11 N12
  show wpN (model P0 w) (lawA L fa cd) (execs _ (lawEnv L fa cd)) (LawEnd h₀ s₁) (fun _ _ => False) { s₁ with heap := h2, toks := tk }
  refine wpN_execs_one ?_
  refine @st11 _ _ _ _ _ _ _ _ _ _ F11 N12 ?_
  intro Dt h2 tk F12 N13 l13
  show wpN (model P0 w) (lawA L fa cd) (execs _ (lawEnv L fa cd)) (LawEnd h₀ s₁) (fun _ _ => False) { s₁ with heap := h2, toks := tk }
  refine wpN_execs_one ?_
  refine @st12 _ _ _ _ _ _ _ _ _ _ _ _ _ _ _ _ _ _ _ _ _ _ X T B F12 N13 (.head _) (.tail _ (.head _)) l13 a_sizes a_tail rfl hV hr ht hszl CO.small CO.ne (.of_eq hgens) ?_
  intro m12 h2 tk G ws nw hm12 hws hG F14 N15
  show wpN (model P0 w) (lawA L fa cd) (execs _ (lawEnv L fa cd)) (LawEnd h₀ s₁) (fun _ _ => False) { s₁ with heap := h2, toks := tk, gens := G }
  have b_low := (hm12 (Str.ofString "low") (by decide)).trans a_low
  have b_high := (hm12 (Str.ofString "high") (by decide)).trans a_high
  have b_base := (hm12 (Str.ofString "base") (by decide)).trans a_base
  have b_places := (hm12 (Str.ofString "places") (by decide)).trans a_places
  have b_sizes := (hm12 (Str.ofString "sizes") (by decide)).trans a_sizes
  have b_tail := (hm12 (Str.ofString "tail") (by decide)).trans a_tail
  have b_whole := (hm12 (Str.ofString "whole") (by decide)).trans a_whole
  have b_told := (hm12 (Str.ofString "told") (by decide)).trans rfl
  refine wpN_execs_one ?_
  refine @st13 _ _ _ _ _ _ _ _ _ _ _ _ _ _ _ _ _ _ _ _ _ X T F14 N15 (.tail _ (.head _)) (.tail _ (.tail _ (.head _))) b_sizes b_tail hV hr ht hszl CO.ne ?_
  intro h2 tk Du vs' n' led2 hsub hDu hIu F16 N17
  show wpN (model P0 w) (lawA L fa cd) (execs _ (lawEnv L fa cd)) (LawEnd h₀ s₁) (fun _ _ => False) { s₁ with heap := h2, toks := tk, gens := G }
  have htl : (toldF sz (zOf r)).length ≤ 70 := by
    rw [told_len]
    have : (if zOf r = true then 2 else 0) ≤ 2 := by split <;> omega
    omega
  refine wpN_execs_one ?_
  refine @st14 _ _ _ _ _ _ _ _ _ _ _ _ _ _ _ _ _ _ _ _ _ X T F16 N17 (hsub _ (.head _)) hDu b_told rfl hws hIu htl ?_
  intro h2 tk F18 N19
  show wpN (model P0 w) (lawA L fa cd) (execs _ (lawEnv L fa cd)) (LawEnd h₀ s₁) (fun _ _ => False) { s₁ with heap := h2, toks := tk, gens := G }
  have N20 := cb_drop (news := [(Dt, W.listOf ws.toArray nw), (Sz, W.listOf vs.toArray 0), (L + 2, o2), (L + 1, o1), (87, tabObj ps2), (80, tabObj ps1)]) N19 (fun p hp => hsub p (by
    simp only [List.mem_cons, List.not_mem_nil, or_false] at hp ⊢
    rcases hp with rfl | rfl | rfl | rfl | rfl | rfl <;> simp))
  clear N19 N17 hsub hDu hIu
  refine wpN_execs_one ?_
  refine @st15 _ _ _ _ _ _ _ _ _ _ F18 N20 ?_
  intro Ad h2 tk F21 N21 l21
  show wpN (model P0 w) (lawA L fa cd) (execs _ (lawEnv L fa cd)) (LawEnd h₀ s₁) (fun _ _ => False) { s₁ with heap := h2, toks := tk, gens := G }
  refine wpN_execs_one ?_
  refine @st16 _ _ _ _ _ _ _ _ _ _ _ _ _ _ _ _ X T F21 N21 b_low ?_
  intro h2 tk F22 N22
  show wpN (model P0 w) (lawA L fa cd) (execs _ (lawEnv L fa cd)) (LawEnd h₀ s₁) (fun _ _ => False) { s₁ with heap := h2, toks := tk, gens := G }
  refine wpN_execs_one ?_
  refine @st17 _ _ _ _ _ _ _ _ _ _ _ _ _ _ _ _ _ _ _ _ _ _ _ _ _ X T F22 N22 (.tail _ (.head _)) (.head _) l21 b_sizes b_told rfl rfl hV hws hszl ?_
  intro m17 h2 tk as na tg hm17 hb17 hIa F23 N23
  show wpN (model P0 w) (lawA L fa cd) (execs _ (lawEnv L fa cd)) (LawEnd h₀ s₁) (fun _ _ => False) { s₁ with heap := h2, toks := tk, gens := G }
  have c_low := (hm17 (Str.ofString "low") (by decide) (by decide)).trans b_low
  have c_high := (hm17 (Str.ofString "high") (by decide) (by decide)).trans b_high
  have c_base := (hm17 (Str.ofString "base") (by decide) (by decide)).trans b_base
  have c_places := (hm17 (Str.ofString "places") (by decide) (by decide)).trans b_places
  have c_sizes := (hm17 (Str.ofString "sizes") (by decide) (by decide)).trans b_sizes
  have c_whole := (hm17 (Str.ofString "whole") (by decide) (by decide)).trans b_whole
  have c_addr := (hm17 (Str.ofString "addresses") (by decide) (by decide)).trans rfl
  refine wpN_execs_one ?_
  refine @st18 _ _ _ _ _ _ _ _ _ _ _ _ _ _ _ _ _ _ X T F23 N23 hb17 c_high CO.sum ?_
  intro h2 tk F24 N24
  show wpN (model P0 w) (lawA L fa cd) (execs _ (lawEnv L fa cd)) (LawEnd h₀ s₁) (fun _ _ => False) { s₁ with heap := h2, toks := tk, gens := G }
  have hal1 : (addrsF lw sz).length ≤ 60 := by
    have := CO.len
    rw [addrs_len]; omega
  refine wpN_execs_one ?_
  refine @st19 _ _ _ _ _ _ _ _ _ _ _ _ _ _ _ _ _ _ _ _ X T F24 N24 l21 c_low c_addr hIa (by omega) ?_
  intro h2 tk as1 na1 hIa1 F25 N25
  show wpN (model P0 w) (lawA L fa cd) (execs _ (lawEnv L fa cd)) (LawEnd h₀ s₁) (fun _ _ => False) { s₁ with heap := h2, toks := tk, gens := G }
  have hal2 : (addrsF lw sz ++ if 0 < lw then [lw - 1] else []).length ≤ 61 := by
    rw [List.length_append]
    split <;> simp <;> omega
  refine wpN_execs_one ?_
  refine @st20 _ _ _ _ _ _ _ _ _ _ _ _ _ _ _ _ _ _ _ _ _ _ X T F25 N25 l21 c_high c_whole c_addr hIa1 (by omega) ?_
  intro h2 tk as2 na2 hIa2 F26 N26
  show wpN (model P0 w) (lawA L fa cd) (execs _ (lawEnv L fa cd)) (LawEnd h₀ s₁) (fun _ _ => False) { s₁ with heap := h2, toks := tk, gens := G }
  have hal3 : ((addrsF lw sz ++ if 0 < lw then [lw - 1] else []) ++ if hg < ((whN j : Nat) : Int) then [hg] else []).length ≤ 62 := by
    rw [List.length_append]
    have : (if hg < ((whN j : Nat) : Int) then [hg] else []).length ≤ 1 := by split <;> simp
    omega
  have hads : ((addrsF lw sz ++ if 0 < lw then [lw - 1] else []) ++ if hg < ((whN j : Nat) : Int) then [hg] else []) = addrsF lw sz ++ arF lw hg ((whN j : Nat) : Int) := by
    unfold arF
    rw [List.append_assoc]
  obtain ⟨ads, hadv⟩ : ∃ ads, ads = addrsF lw sz ++ arF lw hg ((whN j : Nat) : Int) := ⟨_, rfl⟩
  have hal4 : ads.length ≤ 62 := Eq.mp (congrArg (fun l : List Int => l.length ≤ 62) (hads.trans hadv.symm)) hal3
  have hIa4 : IntsAre as2 ads := Eq.mp (congrArg (IntsAre as2) (hads.trans hadv.symm)) hIa2
  clear hads hal2 hal3 hIa2 hIa1 hIa
  refine wpN_execs_one ?_
  refine @st21 _ _ _ _ _ _ _ _ _ _ F26 N26 ?_
  intro Rw h2 tk F27 N27 l27
  show wpN (model P0 w) (lawA L fa cd) (execs _ (lawEnv L fa cd)) (LawEnd h₀ s₁) (fun _ _ => False) { s₁ with heap := h2, toks := tk, gens := G }
  refine wpN_execs_one ?_
  refine @st22 _ _ _ _ _ _ _ _ _ _ _ _ _ _ _ _ _ _ _ _ _ _ _ X T B F27 N27 (.head _) l27 c_addr rfl c_base c_places hIa4 (by omega) c1 c2 c3 c4 ?_
  intro m22 h2 tk rs nr hm22 hIr F28 N28
  show wpN (model P0 w) (lawA L fa cd) (execs _ (lawEnv L fa cd)) (LawEnd h₀ s₁) (fun _ _ => False) { s₁ with heap := h2, toks := tk, gens := G }
  have d_base := (hm22 (Str.ofString "base") (by decide)).trans c_base
  have d_places := (hm22 (Str.ofString "places") (by decide)).trans c_places
  have d_sizes := (hm22 (Str.ofString "sizes") (by decide)).trans c_sizes
  have d_whole := (hm22 (Str.ofString "whole") (by decide)).trans c_whole
  have d_row := (hm22 (Str.ofString "row") (by decide)).trans rfl
  have hrl := rowF_len (b := ((bsN j : Nat) : Int)) (p := plN j) ads
  have hrl2 : ads.length * plN j ≤ 62 * 4 := Nat.mul_le_mul hal4 c4
  refine wpN_execs_cons ?_
  refine @st23 _ _ _ _ _ _ _ _ _ _ _ _ _ _ _ _ _ _ _ _ X T B F28 N28 (.head _) d_row d_places hIr (row_byte c1 c2) hrl (by omega) c3 c4 ?_
  intro h2 tk tt F29 N29
  show wpN (model P0 w) (lawA L fa cd) (execs _ (lawEnv L fa cd)) (LawEnd h₀ s₁) (fun _ _ => False) { s₁ with heap := h2, toks := tk, gens := G }
  refine wpN_of ?_
  refine wpAny_execs_cons ?_
  refine @st24 _ _ _ _ _ _ _ _ _ _ _ _ _ _ _ _ X T F29 N29 rfl ?_
  intro h2 tk F30 N30
  show wpAny (model P0 w) (lawA L fa cd) (execs _ (lawEnv L fa cd)) (LawEnd h₀ s₁) (fun _ _ => False) { s₁ with heap := h2, toks := tk, gens := G }
  refine wpAny_execs_cons ?_
  refine @st25 _ _ _ _ _ _ _ _ _ _ _ _ _ _ X T F30 N30 ?_
  intro Ln Nm h2 tk F31 N31 l31 lLN
  show wpAny (model P0 w) (lawA L fa cd) (execs _ (lawEnv L fa cd)) (LawEnd h₀ s₁) (fun _ _ => False) { s₁ with heap := h2, toks := tk, gens := G }
  refine wpAny_execs_cons ?_
  refine @st26 _ _ _ _ _ _ _ _ _ _ _ _ _ _ _ _ _ _ _ _ _ _ _ _ X T B F31 N31 (.head _) l31 lLN d_row d_places rfl rfl rfl hIr c1 c2 (by omega) c3 c4 ?_
  intro m26 h2 tk ls ns n1 n3 hm26 hLs hNs F32 N32
  show wpAny (model P0 w) (lawA L fa cd) (execs _ (lawEnv L fa cd)) (LawEnd h₀ s₁) (fun _ _ => False) { s₁ with heap := h2, toks := tk, gens := G }
  have e_base := (hm26 (Str.ofString "base") (by decide)).trans d_base
  have e_sizes := (hm26 (Str.ofString "sizes") (by decide)).trans d_sizes
  have e_whole := (hm26 (Str.ofString "whole") (by decide)).trans d_whole
  have e_lines := (hm26 (Str.ofString "lines") (by decide)).trans rfl
  have e_names := (hm26 (Str.ofString "names") (by decide)).trans rfl
  refine wpAny_execs_cons ?_
  refine @st27 _ _ _ _ _ _ _ _ _ _ _ _ _ _ _ _ _ _ _ _ _ _ X T F32 N32 (.tail _ (.tail _ (.tail _ (.tail _ (.tail _ (.head _)))))) (.head _) e_sizes e_names hV hNs hszl (by rw [List.length_map]; omega) ?_
  intro h2 tk Ar zs hZs F33 N33 l33
  show wpAny (model P0 w) (lawA L fa cd) (execs _ (lawEnv L fa cd)) (LawEnd h₀ s₁) (fun _ _ => False) { s₁ with heap := h2, toks := tk, gens := G }
  have N34 := cb_drop (news := [(L + 2, o2), (L + 1, o1), (Sz, W.listOf vs.toArray 0), (Ln, W.listOf ls.toArray n1), (Nm, W.listOf ns.toArray n3), (Ar, W.listOf zs.toArray 0), (87, tabObj ps2), (80, tabObj ps1)]) N33 (fun p hp => by
    simp only [List.mem_cons, List.not_mem_nil, or_false] at hp ⊢
    rcases hp with rfl | rfl | rfl | rfl | rfl | rfl | rfl | rfl <;> simp)
  have hq : ∀ p ∈ [(Sz, W.listOf vs.toArray 0), (Ln, W.listOf ls.toArray n1), (Nm, W.listOf ns.toArray n3), (Ar, W.listOf zs.toArray 0), (87, tabObj ps2), (80, tabObj ps1)], p.1 ≠ L + 1 ∧ p.1 ≠ L + 2 := fun p hp => by
    have q1 : @LT.lt Nat _ (L + 2) Sz := lSz (L + 2, o2) (.tail _ (.head _))
    have q2 : @LT.lt Nat _ (L + 2) Ln := l31 (L + 2, o2) (.tail _ (.tail _ (.tail _ (.tail _ (.head _)))))
    have q3 : @LT.lt Nat _ Ln Nm := lLN
    have q4 : @LT.lt Nat _ Nm Ar := l33 _ (.head _)
    have q5 : @LT.lt Nat _ 87 L := h87
    simp only [List.mem_cons, List.not_mem_nil, or_false] at hp
    rcases hp with rfl | rfl | rfl | rfl | rfl | rfl
    · exact ⟨Nat.ne_of_gt (show @LT.lt Nat _ (L + 1) Sz by omega), Nat.ne_of_gt (show @LT.lt Nat _ (L + 2) Sz by omega)⟩
    · exact ⟨Nat.ne_of_gt (show @LT.lt Nat _ (L + 1) Ln by omega), Nat.ne_of_gt (show @LT.lt Nat _ (L + 2) Ln by omega)⟩
    · exact ⟨Nat.ne_of_gt (show @LT.lt Nat _ (L + 1) Nm by omega), Nat.ne_of_gt (show @LT.lt Nat _ (L + 2) Nm by omega)⟩
    · exact ⟨Nat.ne_of_gt (show @LT.lt Nat _ (L + 1) Ar by omega), Nat.ne_of_gt (show @LT.lt Nat _ (L + 2) Ar by omega)⟩
    · exact ⟨Nat.ne_of_lt (show @LT.lt Nat _ 87 (L + 1) by omega), Nat.ne_of_lt (show @LT.lt Nat _ 87 (L + 2) by omega)⟩
    · exact ⟨Nat.ne_of_lt (show @LT.lt Nat _ 80 (L + 1) by omega), Nat.ne_of_lt (show @LT.lt Nat _ 80 (L + 2) by omega)⟩
  have hdrop : (ads.map fun a => bareF (octL ((bsN j : Nat) : Int) (plN j) a)).drop (2 * sz.length) = (arF lw hg ((whN j : Nat) : Int)).map fun a => bareF (oc j a) := by
    rw [← List.map_drop, hadv, List.drop_left' (addrs_len sz lw)]
  rw [hdrop] at hZs
  have harl : ((arF lw hg ((whN j : Nat) : Int)).map fun a => bareF (oc j a)).length ≤ 100 := by
    rw [List.length_map]
    have : (addrsF lw sz ++ arF lw hg ((whN j : Nat) : Int)).length ≤ 62 := hadv ▸ hal4
    rw [List.length_append] at this
    omega
  have hget : ∀ q x, (addrsF lw sz)[q]? = some x → ads[q]? = some x := fun q x h => by
    rw [hadv, List.getElem?_append_left (List.getElem?_eq_some_iff.mp h).1]
    exact h
  have hok : ∀ i sv, sz[i]? = some sv → ∃ x1 x2 x3 x4, (ads.map fun a => netF (octL ((bsN j : Nat) : Int) (plN j) a))[2 * i]? = some x1 ∧ (ads.map fun a => netF (octL ((bsN j : Nat) : Int) (plN j) a))[2 * i + 1]? = some x2 ∧ (ads.map fun a => bareF (octL ((bsN j : Nat) : Int) (plN j) a))[2 * i]? = some x3 ∧ (ads.map fun a => bareF (octL ((bsN j : Nat) : Int) (plN j) a))[2 * i + 1]? = some x4 ∧ TurnOk ((bsN j : Nat) : Int) ((whN j : Nat) : Int) x1 x2 x3 x4 sv ((arF lw hg ((whN j : Nat) : Int)).map fun a => bareF (oc j a)) := fun i sv hs => by
    obtain ⟨g1, g2⟩ := addrs_at sz lw i sv hs
    have g1 := hget _ _ g1
    have g2 := hget _ _ g2
    refine ⟨_, _, _, _, ?_, ?_, ?_, ?_, CO.turn i sv hs⟩
    · rw [List.getElem?_map, g1]; rfl
    · rw [List.getElem?_map, g2]; rfl
    · rw [List.getElem?_map, g1]; rfl
    · rw [List.getElem?_map, g2]; rfl
  refine wpAny_execs_cons ?_
  refine @st28 _ _ _ _ _ _ _ _ _ _ _ _ _ _ _ _ _ _ _ _ _ _ _ _ _ _ _ _ _ _ _ _ _ _ _ _ _ _ X T B F33 N34 (.head _) (.tail _ (.head _)) (.tail _ (.tail _ (.head _))) (.tail _ (.tail _ (.tail _ (.head _)))) (fun p hp => (hq p hp).1) (fun p hp => (hq p hp).2) d2 d1 e_sizes e_lines e_names rfl e_whole e_base hszl c1 c2 hV hLs hNs hZs harl hok ?_
  intro m2 h2 tk ow' oz' F35 N35
  show wpAny (model P0 w) (lawA L fa cd) (execs _ (lawEnv L fa cd)) (LawEnd h₀ s₁) (fun _ _ => False) { s₁ with heap := h2, toks := tk, gens := G }
  refine wpAny_execs_cons ?_
  refine @st29 _ _ _ _ _ _ _ _ _ _ F35 N35 ?_
  exact ⟨rfl, rfl, hG, F35.keep, ⟨_, (N35 (87, tabObj ps2) (.tail _ (.tail _ (.tail _ (.tail _ (.tail _ (.tail _ (.head _)))))))).1⟩, ⟨_, (N35 (80, tabObj ps1) (.tail _ (.tail _ (.tail _ (.tail _ (.tail _ (.tail _ (.tail _ (.head _))))))))).1⟩, trivial⟩
end
end
end Mine
end
theorem PySem.Challenge.cw_zo0034_01_holds : PySem.Challenge.rw_zo0034_01.Holds :=
  Mine.law_reduce Mine.law_body
