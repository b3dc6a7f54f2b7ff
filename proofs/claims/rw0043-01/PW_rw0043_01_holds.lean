import PyProof.Rows.All
import Wide.All
import OpenK.AllK
import Wide.FinOn
import PySem.Challenge.RW_rw0043_01
set_option Elab.async false
set_option maxRecDepth 100000
set_option maxHeartbeats 0
set_option linter.all false
set_option rowWalk.seconds 0
section
open PySem PySem.Sre PySem.Builtin.Re PyProof.Rows PySem.Calls PySem.W PySem.F
namespace Mine
/-! R1 -/
section
/-! the pattern of the dots: a search -/
noncomputable def code1 : Array Nat := #[14, 4, 0, 1, 1, 6, 1, 16, 46, 1]
noncomputable def at1 (t : Array Nat) (s : Nat) (o : Bool) (sn : Sre.Seen) : Sre.M :=
  { code := code1, text := t, lim := t.size, start := s, lastStart := t.size, pc := 5, pos := s, handed := s, outermost := o, marks := #[], frames := [{ wait := .nextStart, pc := 5, pos := s, outermost := o }], weight := 1, seen := sn }
theorem search1 (t : Array Nat) (s : Nat) (h : s < t.size) : Sre.forSearch code1 t 0 s t.size false = at1 t s true ((({} : Sre.Seen)).add 14) := by
  have hc : ¬ ((decide (s > t.size) || decide (t.size - s < 1)) = true) := by simp; omega
  unfold Sre.forSearch
  exact (if_neg hc).trans rfl
theorem miss1 (t : Array Nat) (s : Nat) (o : Bool) (sn : Sre.Seen) (h : s < t.size) (hb : (s == 0 || t.getD (s - 1) 0 == 10) = false) : (at1 t s o sn).runFor 2 = at1 t (s + 1) false ((sn.add 6).add 44) := by
  have e1 : (at1 t s o sn).exec = (if (s == 0 || t.getD (s - 1) 0 == 10) = true then { at1 t s o ((sn.add 6).add 44) with pc := 7 } else { at1 t s o ((sn.add 6).add 44) with answer := some false }) := rfl
  rw [hb] at e1
  have e2 : (at1 t s o sn).runFor 2 = ((at1 t s o sn).exec).runFor 1 := by kernel_rfl
  rw [e2, e1]
  have e3 : Sre.M.runFor 1 ({ at1 t s o ((sn.add 6).add 44) with answer := some false } : Sre.M) = (if s < t.size then at1 t (s + 1) false ((sn.add 6).add 44) else { at1 t s o ((sn.add 6).add 44) with frames := [], weight := 0, answer := some false }) := rfl
  exact e3.trans (if_pos h)
theorem line1 (t : Array Nat) (s : Nat) (o : Bool) (sn : Sre.Seen) (hb : (s == 0 || t.getD (s - 1) 0 == 10) = true) : (at1 t s o sn).runFor 1 = { at1 t s o ((sn.add 6).add 44) with pc := 7 } := by
  have e1 : (at1 t s o sn).runFor 1 = (if (s == 0 || t.getD (s - 1) 0 == 10) = true then { at1 t s o ((sn.add 6).add 44) with pc := 7 } else { at1 t s o ((sn.add 6).add 44) with answer := some false }) := rfl
  exact e1.trans (if_pos hb)
theorem char1 (t : Array Nat) (s : Nat) (o : Bool) (sn : Sre.Seen) (h : s < t.size) (hc : (t.getD s 0 == 46) = true) : (({ at1 t s o sn with pc := 7 } : Sre.M).runFor 4).outcome = some .matched ∧ (({ at1 t s o sn with pc := 7 } : Sre.M).runFor 4).start = s ∧ (({ at1 t s o sn with pc := 7 } : Sre.M).runFor 4).handed = s + 1 := by
  have e1 : ({ at1 t s o sn with pc := 7 } : Sre.M).runFor 4 = (if s ≥ t.size then { at1 t s o (sn.add 16) with pc := 7, answer := some false } else
      match t.getD s 0 == 46 with | true => { at1 t s o (sn.add 16) with pc := 9, pos := s + 1 } | false => { at1 t s o (sn.add 16) with pc := 7, answer := some false } : Sre.M).runFor 3 := by kernel_rfl
  rw [e1, if_neg (by omega), hc]
  cases o <;> exact ⟨rfl, rfl, rfl⟩
theorem other1 (t : Array Nat) (s : Nat) (o : Bool) (sn : Sre.Seen) (h : s < t.size) (hc : (t.getD s 0 == 46) = false) : ({ at1 t s o sn with pc := 7 } : Sre.M).runFor 2 = at1 t (s + 1) false (sn.add 16) := by
  have e1 : ({ at1 t s o sn with pc := 7 } : Sre.M).runFor 2 = (if s ≥ t.size then { at1 t s o (sn.add 16) with pc := 7, answer := some false } else
      match t.getD s 0 == 46 with | true => { at1 t s o (sn.add 16) with pc := 9, pos := s + 1 } | false => { at1 t s o (sn.add 16) with pc := 7, answer := some false } : Sre.M).runFor 1 := by kernel_rfl
  rw [e1, if_neg (by omega), hc]
  have e3 : Sre.M.runFor 1 ({ at1 t s o (sn.add 16) with pc := 7, answer := some false } : Sre.M) = (if s < t.size then at1 t (s + 1) false (sn.add 16) else { at1 t s o (sn.add 16) with frames := [], weight := 0, answer := some false }) := rfl
  exact e3.trans (if_pos h)
theorem over1 (t : Array Nat) (o : Bool) (sn : Sre.Seen) : ∃ n, n ≤ 5 ∧ ((at1 t t.size o sn).runFor n).outcome = some .failed := by
  cases hb : (t.size == 0 || t.getD (t.size - 1) 0 == 10)
  · refine ⟨3, by decide, ?_⟩
    have e1 : (at1 t t.size o sn).runFor 3 = (if (t.size == 0 || t.getD (t.size - 1) 0 == 10) = true then { at1 t t.size o ((sn.add 6).add 44) with pc := 7 } else { at1 t t.size o ((sn.add 6).add 44) with answer := some false } : Sre.M).runFor 2 := by kernel_rfl
    rw [e1, hb]
    have e3 : Sre.M.runFor 2 ({ at1 t t.size o ((sn.add 6).add 44) with answer := some false } : Sre.M) = (if t.size < t.size then at1 t (t.size + 1) false ((sn.add 6).add 44) else { at1 t t.size o ((sn.add 6).add 44) with frames := [], weight := 0, answer := some false }).runFor 1 := by kernel_rfl
    rw [if_neg (by decide), e3, if_neg (by omega)]
    rfl
  · refine ⟨4, by decide, ?_⟩
    have e0 : (at1 t t.size o sn).runFor 4 = ((at1 t t.size o sn).runFor 1).runFor 3 := by kernel_rfl
    rw [e0, line1 _ _ _ _ hb]
    have e1 : ({ at1 t t.size o ((sn.add 6).add 44) with pc := 7 } : Sre.M).runFor 3 = (if t.size ≥ t.size then { at1 t t.size o (((sn.add 6).add 44).add 16) with pc := 7, answer := some false } else
      match t.getD t.size 0 == 46 with | true => { at1 t t.size o (((sn.add 6).add 44).add 16) with pc := 9, pos := t.size + 1 } | false => { at1 t t.size o (((sn.add 6).add 44).add 16) with pc := 7, answer := some false } : Sre.M).runFor 2 := by kernel_rfl
    rw [e1, if_pos (Nat.le_refl _)]
    have e3 : Sre.M.runFor 2 ({ at1 t t.size o (((sn.add 6).add 44).add 16) with pc := 7, answer := some false } : Sre.M) = (if t.size < t.size then at1 t (t.size + 1) false (((sn.add 6).add 44).add 16) else { at1 t t.size o (((sn.add 6).add 44).add 16) with frames := [], weight := 0, answer := some false }).runFor 1 := by kernel_rfl
    rw [e3, if_neg (by omega)]
    rfl
theorem runFor_done : ∀ (n : Nat) {m : Sre.M}, m.outcome.isSome = true → m.runFor n = m
  | 0, _, _ => rfl
  | n + 1, m, h => by unfold Sre.M.runFor; rw [if_pos h]
theorem runFor_add : ∀ (a b : Nat) (m : Sre.M), m.runFor (a + b) = (m.runFor a).runFor b
  | 0, b, m => by rw [Nat.zero_add]; rfl
  | a + 1, b, m => by
    cases h : m.outcome.isSome
    · rw [Nat.add_right_comm]
      show (if m.outcome.isSome = true then m else (m.step).runFor (a + b)) = (if m.outcome.isSome = true then m else (m.step).runFor a).runFor b
      rw [h, if_neg (by decide), if_neg (by decide)]
      exact runFor_add a b _
    · rw [runFor_done (a + 1 + b) h, runFor_done (a + 1) h, runFor_done b h]
/-- what a search comes to -/
noncomputable def Ends (m : Sre.M) (n : Nat) (r : Option (Nat × Nat)) : Prop := match r with
  | none => (m.runFor n).outcome = some .failed
  | some p => (m.runFor n).outcome = some .matched ∧ (m.runFor n).start = p.1 ∧ (m.runFor n).handed = p.2
theorem Ends.after {m m' : Sre.M} {a n : Nat} {r : Option (Nat × Nat)} (h : m.runFor a = m') (e : Ends m' n r) : Ends m (a + n) r := by
  unfold Ends at e ⊢
  rw [runFor_add, h]
  exact e
noncomputable def dot (t : Array Nat) (i : Nat) : Bool := (i == 0 || t.getD (i - 1) 0 == 10) && t.getD i 0 == 46
noncomputable def next1 (t : Array Nat) : Nat → Nat → Option (Nat × Nat)
  | 0, _ => none
  | k + 1, s => if dot t s = true then some (s, s + 1) else next1 t k (s + 1)
theorem run1 (t : Array Nat) : ∀ (k s : Nat) (o : Bool) (sn : Sre.Seen), s + k = t.size → ∃ n, n ≤ 5 * k + 5 ∧ Ends (at1 t s o sn) n (next1 t k s)
  | 0, s, o, sn, h => by
    have e : s = t.size := by omega
    subst e
    obtain ⟨n, hn, e⟩ := over1 t o sn
    exact ⟨n, by omega, e⟩
  | k + 1, s, o, sn, h => by
    have hs : s < t.size := by omega
    unfold next1
    cases hb : (s == 0 || t.getD (s - 1) 0 == 10)
    · have hd : dot t s = false := by unfold dot; rw [hb]; rfl
      rw [hd, if_neg (by decide)]
      obtain ⟨n, hn, e⟩ := run1 t k (s + 1) false ((sn.add 6).add 44) (by omega)
      exact ⟨2 + n, by omega, .after (miss1 t s o sn hs hb) e⟩
    · cases hc : (t.getD s 0 == 46)
      · have hd : dot t s = false := by unfold dot; rw [hb, hc]; rfl
        rw [hd, if_neg (by decide)]
        obtain ⟨n, hn, e⟩ := run1 t k (s + 1) false (((sn.add 6).add 44).add 16) (by omega)
        exact ⟨1 + (2 + n), by omega, .after (line1 t s o sn hb) (.after (other1 t s o _ hs hc) e)⟩
      · have hd : dot t s = true := by unfold dot; rw [hb, hc]; rfl
        rw [hd, if_pos rfl]
        exact ⟨1 + 4, by omega, .after (line1 t s o sn hb) (char1 t s o _ hs hc)⟩
/-- a search of the first pattern -/
theorem find1 (t : Array Nat) (s : Nat) (h : s ≤ t.size) : ∃ n, n ≤ 5 * t.size + 5 ∧ Ends (Sre.forSearch code1 t 0 s t.size false) n (next1 t (t.size - s) s) := by
  by_cases hs : s < t.size
  · rw [search1 t s hs]
    obtain ⟨n, hn, e⟩ := run1 t (t.size - s) s true _ (by omega)
    exact ⟨n, by omega, e⟩
  · have e : s = t.size := by omega
    subst e
    rw [Nat.sub_self]
    refine ⟨1, by omega, ?_⟩
    have hc : (decide (t.size > t.size) || decide (t.size - t.size < 1)) = true := by simp
    unfold Ends Sre.forSearch
    show (Sre.M.runFor 1 (if (decide (t.size > t.size) || decide (t.size - t.size < 1)) = true then _ else _)).outcome = _
    rw [if_pos hc]
    rfl
end
/-! R2 -/
section
/-! the pattern of the line ends: a search -/
noncomputable def code2 : Array Nat := #[14, 9, 4, 1, 2, 16, 10, 16, 13, 0, 7, 7, 16, 13, 16, 10, 15, 18, 5, 16, 10, 15, 13, 11, 16, 13, 5, 5, 0, 16, 10, 1, 15, 2, 0, 1]
noncomputable def at2 (t : Array Nat) (s : Nat) (sn : Sre.Seen) : Sre.M :=
  { code := code2, text := t, lim := t.size, start := s, lastStart := t.size, pc := 10, pos := s, handed := s, outermost := true, marks := #[], frames := [{ wait := .nextStart, pc := 10, pos := s, outermost := true }], weight := 1, seen := sn }
noncomputable def isNl (c : Nat) : Bool := c == 10 || c == 13
theorem set2 (c : Nat) (sn : Sre.Seen) : ∃ sn', Sre.inSet code2 c code2.size 5 true sn = .ok (isNl c, sn') := by
  have e : Sre.inSet code2 c code2.size 5 true sn = (if (c == 10) = true then .ok (true, sn.add 16) else if (c == 13) = true then .ok (true, (sn.add 16).add 16) else .ok (false, ((sn.add 16).add 16).add 0)) := by kernel_rfl
  rw [e]
  unfold isNl
  cases c == 10
  · cases c == 13
    · exact ⟨_, rfl⟩
    · exact ⟨_, rfl⟩
  · exact ⟨_, rfl⟩
/-- the first line end, from a place on -/
noncomputable def nl (t : Array Nat) : Nat → Nat → Option Nat
  | 0, _ => none
  | k + 1, s => if isNl (t.getD s 0) = true then some s else nl t k (s + 1)
theorem admit2 (t : Array Nat) (m : Sre.M) (hc : m.code = code2) (ht : m.text = t) (hl : m.lim = t.size) : ∀ (k s : Nat) (sn : Sre.Seen), s + k = t.size → ∃ sn', Sre.M.admitted m (k + 1) s sn = .ok (nl t k s, sn')
  | 0, s, sn, h => by
    refine ⟨sn, ?_⟩
    unfold Sre.M.admitted
    rw [if_pos (by rw [hl]; omega)]
    rfl
  | k + 1, s, sn, h => by
    obtain ⟨sn1, e1⟩ := set2 (t.getD s 0) sn
    unfold Sre.M.admitted
    rw [if_neg (by rw [hl]; omega), hc, ht, e1]
    unfold nl
    cases isNl (t.getD s 0)
    · obtain ⟨sn2, e2⟩ := admit2 t m hc ht hl k (s + 1) sn1 (by omega)
      exact ⟨sn2, e2⟩
    · exact ⟨sn1, rfl⟩
theorem search2 (t : Array Nat) (s : Nat) (h : s < t.size) : ∃ sn, Sre.forSearch code2 t 0 s t.size false = match nl t (t.size - s) s with
    | some i => at2 t i sn
    | none => { at2 t s sn with frames := [], weight := 0, answer := some false } := by
  have hc : ¬ ((decide (s > t.size) || decide (t.size - s < 1)) = true) := by simp; omega
  unfold Sre.forSearch
  let m0 : Sre.M := { at2 t s (({} : Sre.Seen).add 14) with frames := [], weight := 0 }
  obtain ⟨sn, e⟩ := admit2 t m0 rfl rfl rfl (t.size - s) s (({} : Sre.Seen).add 14) (by omega)
  refine ⟨sn, ?_⟩
  have e2 : m0.attemptFrom s true = (match Sre.M.admitted m0 (t.size + 1 - s) s (({} : Sre.Seen).add 14) with
    | .ok (some s, seen) => ({ m0 with mustAdvance := false, seen } : Sre.M).attemptAt s true
    | .ok (none, seen) => ({ m0 with seen } : Sre.M).say false
    | .error why => m0.stick why) := rfl
  refine (if_neg hc).trans ?_
  show m0.attemptFrom s true = _
  rw [e2, show t.size + 1 - s = t.size - s + 1 by omega, e]
  cases nl t (t.size - s) s with
  | none => rfl
  | some i => rfl
noncomputable def fS (i : Nat) : Sre.Frame := { wait := .nextStart, pc := 10, pos := i, outermost := true }
noncomputable def fB (i p : Nat) : Sre.Frame := { wait := .nextBranch, pc := p, pos := i, outermost := true }
noncomputable def fN (i : Nat) : Sre.Frame := { wait := .lookNot, pc := 26, pos := i + 1, outermost := true }
noncomputable def mk2 (t : Array Nat) (i : Nat) (fr : List Sre.Frame) (wt pc pos handed : Nat) (o : Bool) (ans : Option Bool) (sn : Sre.Seen) : Sre.M :=
  { code := code2, text := t, lim := t.size, start := i, lastStart := t.size, pc, pos, handed, outermost := o, marks := #[], frames := fr, weight := wt, answer := ans, seen := sn }
section
variable (t : Array Nat) (i : Nat) (sn : Sre.Seen)
theorem b2_start : (at2 t i sn).runFor 1 = mk2 t i [fB i 11, fS i] 2 12 i i true none (sn.add 7) := rfl
theorem b2_lit (fr : List Sre.Frame) (wt pos h : Nat) (o : Bool) : 
    (∀ pc v, (pc = 12 ∧ v = 13) ∨ (pc = 14 ∧ v = 10) ∨ (pc = 19 ∧ v = 10) ∨ (pc = 24 ∧ v = 13) ∨ (pc = 29 ∧ v = 10) → (mk2 t i fr wt pc pos h o none sn).runFor 1 = (if pos ≥ t.size then mk2 t i fr wt pc pos h o (some false) (sn.add 16) else
      match t.getD pos 0 == v with | true => mk2 t i fr wt (pc + 2) (pos + 1) h o none (sn.add 16) | false => mk2 t i fr wt pc pos h o (some false) (sn.add 16))) := by
  rintro pc v (⟨rfl, rfl⟩ | ⟨rfl, rfl⟩ | ⟨rfl, rfl⟩ | ⟨rfl, rfl⟩ | ⟨rfl, rfl⟩)
  · kernel_rfl
  · kernel_rfl
  · kernel_rfl
  · kernel_rfl
  · kernel_rfl
theorem b2_yes {fr : List Sre.Frame} {wt pos h : Nat} {o : Bool} {pc v : Nat} (hp : (pc = 12 ∧ v = 13) ∨ (pc = 14 ∧ v = 10) ∨ (pc = 19 ∧ v = 10) ∨ (pc = 24 ∧ v = 13) ∨ (pc = 29 ∧ v = 10)) (hi : pos < t.size) (hc : (t.getD pos 0 == v) = true) :
    (mk2 t i fr wt pc pos h o none sn).runFor 1 = mk2 t i fr wt (pc + 2) (pos + 1) h o none (sn.add 16) := by
  rw [b2_lit t i sn fr wt pos h o pc v hp, if_neg (by omega), hc]
theorem b2_no {fr : List Sre.Frame} {wt pos h : Nat} {o : Bool} {pc v : Nat} (hp : (pc = 12 ∧ v = 13) ∨ (pc = 14 ∧ v = 10) ∨ (pc = 19 ∧ v = 10) ∨ (pc = 24 ∧ v = 13) ∨ (pc = 29 ∧ v = 10)) (hc : pos < t.size → (t.getD pos 0 == v) = false) :
    (mk2 t i fr wt pc pos h o none sn).runFor 1 = mk2 t i fr wt pc pos h o (some false) (sn.add 16) := by
  rw [b2_lit t i sn fr wt pos h o pc v hp]
  by_cases g : pos ≥ t.size
  · rw [if_pos g]
  · rw [if_neg g, hc (by omega)]
theorem b2_next1 (pc pos h : Nat) : (mk2 t i [fB i 11, fS i] 2 pc pos h true (some false) sn).runFor 1 = mk2 t i [fB i 18, fS i] 2 19 i i true none sn := rfl
theorem b2_next2 (pc pos h : Nat) : (mk2 t i [fB i 18, fS i] 2 pc pos h true (some false) sn).runFor 1 = mk2 t i [fB i 23, fS i] 2 24 i i true none sn := rfl
theorem b2_not (h : Nat) : (mk2 t i [fB i 23, fS i] 2 26 (i + 1) h true none sn).runFor 1 = mk2 t i [fN i, fB i 23, fS i] 3 29 (i + 1) (i + 1) false none (sn.add 5) := by kernel_rfl
theorem b2_back (pc pos h : Nat) : (mk2 t i [fN i, fB i 23, fS i] 3 pc pos h false (some false) sn).runFor 1 = mk2 t i [fB i 23, fS i] 2 32 (i + 1) h true none sn := by kernel_rfl
theorem b2_jump (p pc pos h : Nat) (hp : pc = 16 ∨ pc = 21 ∨ pc = 32) : (mk2 t i [fB i p, fS i] 2 pc pos h true none sn).runFor 1 = mk2 t i [fB i p, fS i] 2 35 pos h true none (sn.add 15) := by
  rcases hp with rfl | rfl | rfl <;> rfl
theorem b2_end (p pos h : Nat) : Ends (mk2 t i [fB i p, fS i] 2 35 pos h true none sn) 4 (some (i, pos)) := ⟨rfl, rfl, rfl⟩
end
/-- where the line end at i is over -/
noncomputable def nlEnd (t : Array Nat) (i : Nat) : Nat := if t.getD i 0 = 13 ∧ i + 1 < t.size ∧ t.getD (i + 1) 0 = 10 then i + 2 else i + 1
theorem match2 (t : Array Nat) (i : Nat) (sn : Sre.Seen) (hi : i < t.size) (hn : isNl (t.getD i 0) = true) : ∃ n, n ≤ 20 ∧ Ends (at2 t i sn) n (some (i, nlEnd t i)) := by
  cases h13 : (t.getD i 0 == 13)
  · have h10 : (t.getD i 0 == 10) = true := by
      unfold isNl at hn
      rw [h13, Bool.or_false] at hn
      exact hn
    have e : nlEnd t i = i + 1 := by
      unfold nlEnd
      rw [if_neg]
      rintro ⟨h, _⟩
      rw [h] at h13
      exact absurd h13 (by decide)
    rw [e]
    exact ⟨_, by decide, .after (b2_start t i sn) (.after (b2_no t i _ (.inl ⟨rfl, rfl⟩) (fun _ => h13)) (.after (b2_next1 t i _ _ _ _) (.after (b2_yes t i _ (.inr (.inr (.inl ⟨rfl, rfl⟩))) hi h10) (.after (b2_jump t i _ _ _ _ _ (.inr (.inl rfl))) (b2_end t i _ _ _ _)))))⟩
  · by_cases hb : i + 1 < t.size ∧ t.getD (i + 1) 0 = 10
    · have e : nlEnd t i = i + 2 := by
        unfold nlEnd
        rw [if_pos ⟨by simpa using h13, hb⟩]
      rw [e]
      exact ⟨_, by decide, .after (b2_start t i sn) (.after (b2_yes t i _ (.inl ⟨rfl, rfl⟩) hi h13) (.after (b2_yes t i _ (.inr (.inl ⟨rfl, rfl⟩)) hb.1 (by rw [hb.2]; rfl)) (.after (b2_jump t i _ _ _ _ _ (.inl rfl)) (b2_end t i _ _ _ _))))⟩
    · have e : nlEnd t i = i + 1 := by
        unfold nlEnd
        rw [if_neg (fun h => hb h.2)]
      rw [e]
      have hno : i + 1 < t.size → (t.getD (i + 1) 0 == 10) = false := fun g => by
        apply Bool.eq_false_iff.mpr
        intro h
        exact hb ⟨g, by simpa using h⟩
      have h10 : (t.getD i 0 == 10) = false := by
        have : t.getD i 0 = 13 := by simpa using h13
        rw [this]
        rfl
      exact ⟨_, by decide, .after (b2_start t i sn) (.after (b2_yes t i _ (.inl ⟨rfl, rfl⟩) hi h13) (.after (b2_no t i _ (.inr (.inl ⟨rfl, rfl⟩)) hno) (.after (b2_next1 t i _ _ _ _) (.after (b2_no t i _ (.inr (.inr (.inl ⟨rfl, rfl⟩))) (fun _ => h10)) (.after (b2_next2 t i _ _ _ _)
        (.after (b2_yes t i _ (.inr (.inr (.inr (.inl ⟨rfl, rfl⟩)))) hi h13) (.after (b2_not t i _ _) (.after (b2_no t i _ (.inr (.inr (.inr (.inr ⟨rfl, rfl⟩)))) hno) (.after (b2_back t i _ _ _ _) (.after (b2_jump t i _ _ _ _ _ (.inr (.inr rfl))) (b2_end t i _ _ _ _)))))))))))⟩
noncomputable def next2 (t : Array Nat) (s : Nat) : Option (Nat × Nat) := (nl t (t.size - s) s).map fun i => (i, nlEnd t i)
theorem nl_some (t : Array Nat) : ∀ (k s : Nat) {i : Nat}, nl t k s = some i → s ≤ i ∧ i < s + k ∧ isNl (t.getD i 0) = true
  | 0, _, _, h => nomatch h
  | k + 1, s, i, h => by
    unfold nl at h
    by_cases g : isNl (t.getD s 0) = true
    · rw [if_pos g] at h
      cases h
      exact ⟨Nat.le_refl _, by omega, g⟩
    · rw [if_neg g] at h
      have := nl_some t k (s + 1) h
      exact ⟨by omega, by omega, this.2.2⟩
/-- a search of the second pattern -/
theorem find2 (t : Array Nat) (s : Nat) (h : s ≤ t.size) : ∃ n, n ≤ 20 ∧ Ends (Sre.forSearch code2 t 0 s t.size false) n (next2 t s) := by
  by_cases hs : s < t.size
  · obtain ⟨sn, e⟩ := search2 t s hs
    rw [e]
    unfold next2
    cases hn : nl t (t.size - s) s with
    | none => exact ⟨1, by decide, rfl⟩
    | some i =>
      have g := nl_some t _ _ hn
      exact match2 t i sn (by omega) g.2.2
  · have e : s = t.size := by omega
    subst e
    refine ⟨1, by omega, ?_⟩
    have hc : (decide (t.size > t.size) || decide (t.size - t.size < 1)) = true := by simp
    have e0 : next2 t t.size = none := by
      unfold next2
      rw [Nat.sub_self]
      rfl
    rw [e0]
    unfold Ends Sre.forSearch
    show (Sre.M.runFor 1 (if (decide (t.size > t.size) || decide (t.size - t.size < 1)) = true then _ else _)).outcome = _
    rw [if_pos hc]
    rfl
end
/-! R3 -/
section
section
variable {M : Model} {A : Around} {E : Value → Shared → Prop} {s : Shared}
theorem runFor_same {m : Sre.M} {a b : Nat} (ha : (m.runFor a).outcome.isSome = true) (hb : (m.runFor b).outcome.isSome = true) : m.runFor a = m.runFor b := by
  have h1 : m.runFor (a + b) = m.runFor a := by rw [runFor_add, runFor_done b ha]
  have h2 : m.runFor (b + a) = m.runFor b := by rw [runFor_add, runFor_done a hb]
  rw [← h1, Nat.add_comm, h2]
theorem wp_drive {Q : Sre.M → Shared → Prop} : ∀ (turns : Nat) (m : Sre.M) (n : Nat), 0 < n → n ≤ 4 * turns → (m.runFor n).outcome.isSome = true → Q (m.runFor n) s → wpAny M A (reDrive turns m) Q E s
  | 0, m, n, h0, hn, _, _ => absurd hn (by omega)
  | turns + 1, m, n, h0, hn, ho, hq => by
    unfold reDrive
    show wpAny M A (if (m.runFor 4).outcome.isSome = true then pure (m.runFor 4) else _) Q E s
    by_cases h4 : (m.runFor 4).outcome.isSome = true
    · rw [if_pos h4]
      rw [runFor_same h4 ho]
      exact wpAny_pure hq
    · rw [if_neg h4]
      have hlt : 4 < n := by
        apply Classical.byContradiction
        intro hc
        apply h4
        rw [show (4 : Nat) = n + (4 - n) by omega, runFor_add, runFor_done _ ho]
        exact ho
      have e : m.runFor n = (m.runFor 4).runFor (n - 4) := by rw [← runFor_add, show 4 + (n - 4) = n by omega]
      refine wpAny_bind (wpAny_rule ?_)
      exact wp_drive turns (m.runFor 4) (n - 4) (by omega) (by omega) (by rw [← e]; exact ho) (by rw [← e]; exact hq)
theorem wp_rules (c : Nat → Bool) (f : Nat → String) {Q : PUnit → Shared → Prop} (h : Q PUnit.unit s) : ∀ l : List Nat,
    wpAny M A (forIn l PUnit.unit fun i _ => if c i = true then do rule (f i); pure (ForInStep.yield PUnit.unit) else pure (ForInStep.yield PUnit.unit)) Q E s
  | [] => by rw [List.forIn_nil]; exact wpAny_pure h
  | i :: l => by
    rw [List.forIn_cons]
    refine wpAny_bind ?_
    by_cases hc : c i = true
    · rw [if_pos hc]
      exact wpAny_bind (wpAny_rule (wpAny_pure (wp_rules c f h l)))
    · rw [if_neg hc]
      exact wpAny_pure (wp_rules c f h l)
theorem wp_toEnd {Q : Option Sre.M → Shared → Prop} {m : Sre.M} {n : Nat} {r : Option (Nat × Nat)} (e : Ends m n r) (h0 : 0 < n) (hn : n ≤ 2 ^ 64)
    (h : match r with | none => Q none s | some p => ∀ m', m'.start = p.1 → m'.handed = p.2 → Q (some m') s) : wpAny M A (reRunToEnd m) Q E s := by
  unfold reRunToEnd
  have ho : (m.runFor n).outcome.isSome = true := by
    unfold Ends at e
    cases r with
    | none => rw [show (m.runFor n).outcome = some .failed from e]; rfl
    | some p => rw [e.1]; rfl
  refine wpAny_bind (wp_drive (2 ^ 64) m n h0 (by omega) ho ?_)
  refine wpAny_bind (wp_rules _ _ ?_ _)
  cases r with
  | none =>
    rw [show (m.runFor n).outcome = some .failed from e]
    exact wpAny_pure h
  | some p =>
    rw [e.1]
    exact wpAny_pure (h _ e.2.1 e.2.2)
end
end
/-! R4 -/
section
theorem plainAttrs_pat : PlainAttrs "re.Pattern" :=
  ⟨⟨"object.__getattribute__", by rw [typeLookup_type, builtinLookup_eq_fast]; kernel_rfl, by decide +kernel⟩, by rw [typeLookup_type, builtinLookup_eq_fast]; kernel_rfl⟩
theorem owner_pat : Manifest.owners.lookup (String.ofList ['n', 'r', 'e', 't', 't', 'a', 'P', '.', 'e', 'r'].reverse) = some Manifest.sig_re_Pattern := by kernel_rfl
theorem slot_pat_sub : Slot "re.Pattern" "sub" "re.Pattern.sub" :=
  .of (owner := "re.Pattern") (n := "sub") (by rw [typeLookup_type, builtinLookup_eq_fast]; kernel_rfl) (by decide +kernel) (by decide +kernel) (by decide +kernel)
    (by first | exact .inl (by decide +kernel) | exact .inr (by decide +kernel)) (by rw [isSubtype_type]; kernel_rfl)
theorem type_pat_sub : typeOf (.builtin "re.Pattern.sub") = pure (.type "method_descriptor") := by show builtinType _ = _; rw [builtinType_eq_fast]; kernel_rfl
theorem entry_pat_sub : entryFor table "re.Pattern.sub" = some Builtin.«re.Pattern.sub» := entryFor_of_tree (by kernel_rfl)
theorem entry_pat_loop : entryFor table "re.Pattern.sub.loop" = some Builtin.«re.Pattern.sub.loop» := entryFor_of_tree (by kernel_rfl)
theorem plain_pat_loop : plainId "re.Pattern.sub.loop" = true := by decide +kernel
theorem args_pat_sub (a b c : Value) : argsOk "re.Pattern.sub" ⟨[a, b, c], []⟩ := by
  unfold argsOk; rw [signature?_of (id := "re.Pattern.sub") (n := ['b', 'u', 's']) (o := ['n', 'r', 'e', 't', 't', 'a', 'P', '.', 'e', 'r']) (by kernel_rfl) owner_pat]; kernel_rfl
end
/-! R5 -/
section
section
variable {prog : Program} {w : World} {A : Around} {E : Value → Shared → Prop} {s : Shared}
theorem whole1 {pa ca : Addr} {v0 v1 v3 v4 : Value} {its : Array Value} {n : Nat} {tg tk : Tok} {bs : Array UInt8} {tb : Tok} {Q : ReTarget → Shared → Prop}
    (hp : s.heap.get? pa = some { cls := .type "re.Pattern", data := .fields #[v0, v1, .int 0 tg, v3, v4, .ref ca, .int 1 tk] })
    (hc : s.heap.get? ca = some { cls := .type "tuple", data := .seq its n })
    (h : Q { pattern := .ref pa, string := .bytes bs tb, code := (its.map reRawOf).map (·.toNat), text := bs.map (·.toNat), kind := 1, groups := 0, pos := 0, lim := (bs.map (·.toNat)).size } s) :
    wpAny (model prog w) A (reWholeTarget (.ref pa) (.bytes bs tb)) Q E s := by
  have hT := typeIs_bytes s bs tb
  have hC : s.TypeIs (.ref ca) "tuple" := ⟨_, hc, rfl⟩
  have qe : Builtin.Bytes.bufferQuiet? "_sre" (.bytes bs tb) = pure (some bs) := KBy.quiet_eq
  have hsub : isSubtype (.type "bytes") (.type "bytes") = pure true := by rw [isSubtype_type]; kernel_rfl
  unfold reWholeTarget
  wp_walk using wpAny_of_eq qe, wpAny_of_eq hsub
  exact h
theorem whole2 {pa ca : Addr} {v0 v1 v3 v4 : Value} {its : Array Value} {n : Nat} {tg tk : Tok} {st : Str} {ts : Tok} {Q : ReTarget → Shared → Prop}
    (hp : s.heap.get? pa = some { cls := .type "re.Pattern", data := .fields #[v0, v1, .int 0 tg, v3, v4, .ref ca, .int 0 tk] })
    (hc : s.heap.get? ca = some { cls := .type "tuple", data := .seq its n })
    (h : Q { pattern := .ref pa, string := .str st ts, code := (its.map reRawOf).map (·.toNat), text := st.cps, kind := 0, groups := 0, pos := 0, lim := st.cps.size } s) :
    wpAny (model prog w) A (reWholeTarget (.ref pa) (.str st ts)) Q E s := by
  have hC : s.TypeIs (.ref ca) "tuple" := ⟨_, hc, rfl⟩
  unfold reWholeTarget
  wp_walk
  exact h
end
end
/-! R6 -/
section
section
variable {prog : Program} {w : World} {A : Around} {E : Value → Shared → Prop} {s : Shared}
noncomputable def patObj (v0 v1 : Value) (tg : Tok) (v3 v4 : Value) (ca : Addr) (k : Int) (tk : Tok) : Obj := { cls := .type "re.Pattern", data := .fields #[v0, v1, .int 0 tg, v3, v4, .ref ca, .int k tk] }
theorem Ends.more {m : Sre.M} {n : Nat} {r : Option (Nat × Nat)} (e : Ends m n r) : Ends m (n + 1) r := by
  have ho : (m.runFor n).outcome.isSome = true := by
    unfold Ends at e
    cases r with
    | none => rw [show (m.runFor n).outcome = some .failed from e]; rfl
    | some p => rw [e.1]; rfl
  unfold Ends at e ⊢
  rw [runFor_add, runFor_done 1 ho]
  exact e
theorem wp_next1 {pv sv : Value} {its : Array Value} {t : Array Nat} {dn : Nat} {Q : Option Sre.M → Shared → Prop} (hcode : (its.map reRawOf).map (·.toNat) = code1) (hdn : dn ≤ t.size) (hsz : t.size ≤ 1000)
    (h : match next1 t (t.size - dn) dn with | none => Q none s | some p => ∀ m', m'.start = p.1 → m'.handed = p.2 → Q (some m') s) :
    wpAny (model prog w) A (reNextFound { pattern := pv, string := sv, code := (its.map reRawOf).map (·.toNat), text := t, kind := 1, groups := 0, pos := 0, lim := t.size } ((dn : Int)).toNat false) Q E s := by
  unfold reNextFound
  rw [hcode, Int.toNat_natCast]
  obtain ⟨m, hm, he⟩ := find1 t dn hdn
  exact wp_toEnd he.more (Nat.succ_pos _) (by omega) h
theorem wp_next2 {pv sv : Value} {its : Array Value} {t : Array Nat} {dn : Nat} {Q : Option Sre.M → Shared → Prop} (hcode : (its.map reRawOf).map (·.toNat) = code2) (hdn : dn ≤ t.size)
    (h : match next2 t dn with | none => Q none s | some p => ∀ m', m'.start = p.1 → m'.handed = p.2 → Q (some m') s) :
    wpAny (model prog w) A (reNextFound { pattern := pv, string := sv, code := (its.map reRawOf).map (·.toNat), text := t, kind := 0, groups := 0, pos := 0, lim := t.size } ((dn : Int)).toNat false) Q E s := by
  unfold reNextFound
  rw [hcode, Int.toNat_natCast]
  obtain ⟨m, hm, he⟩ := find2 t dn hdn
  exact wp_toEnd he.more (Nat.succ_pos _) (by omega) h
theorem wp_sliceB {t : Array Nat} {a b : Nat} {Q : Value → Shared → Prop} (hsz : t.size ≤ 1000) (h : Q (.bytes ((t.extract a b).map (·.toUInt8)) s.toks) { s with toks := s.toks + 1 }) : wpAny (model prog w) A (reSlice t 1 a b) Q E s := by
  have hle : ¬ ((t.extract a b).map (·.toUInt8)).size > sizeLine := by
    rw [sizeLine_eq, Array.size_map, Array.size_extract]
    omega
  unfold reSlice
  rw [if_neg (by decide)]
  unfold mkBytes
  rw [if_neg hle]
  exact wpAny_bind (wpAny_fresh' (wpAny_pure h))
theorem wp_push {D : Addr} {ps : Array Value} {nd : Nat} {v : Value} {Q : Unit → Shared → Prop} (hD : s.heap.get? D = some { cls := .type "list", data := .seq ps nd }) (hz : ps.size ≤ 5000)
    (h : ∀ h', Heap.SameBut D s.heap h' → h'.get? D = some { cls := .type "list", data := .seq (ps.push v) (nd + 1) } → Q () { s with heap := h' }) : wpAny (model prog w) A (updateSeq D fun x => x.push v) Q E s := by
  refine wpAny_updateSeq hD rfl (h _ (Heap.SameBut.update ..) ?_) (by rw [sizeLine_eq]; omega) (by rw [sizeLine_eq, Array.size_push]; omega)
  rw [Heap.get?_update_self _ hD rfl]
  simp [Obj.mapSeq]
/-- a turn that finds something -/
theorem loop_some1 {pa ca D : Addr} {v0 v1 v3 v4 : Value} {its ps : Array Value} {n nd cnt dn : Nat} {tg tk : Tok} {bs rp : Array UInt8} {tb tr : Tok} {R : Result → Shared → Prop} {p : Nat × Nat}
    (hp : s.heap.get? pa = some { cls := .type "re.Pattern", data := .fields #[v0, v1, .int 0 tg, v3, v4, .ref ca, .int 1 tk] })
    (hc : s.heap.get? ca = some { cls := .type "tuple", data := .seq its n })
    (hcode : (its.map reRawOf).map (·.toNat) = code1)
    (hD : s.heap.get? D = some { cls := .type "list", data := .seq ps nd })
    (hdn : dn ≤ (bs.map (·.toNat)).size) (hsz : (bs.map (·.toNat)).size ≤ 1000) (hps : ps.size ≤ 4000)
    (hn : next1 (bs.map (·.toNat)) ((bs.map (·.toNat)).size - dn) dn = some p) (hne2 : (p.2 == p.1) = false)
    (h : ∀ h' tk' ps' nd', Heap.SameBut D s.heap h' → h'.get? D = some { cls := .type "list", data := .seq ps' nd' } →
      (if dn < p.1 then ∃ t1, ps' = (ps.push (.bytes (((bs.map (·.toNat)).extract dn p.1).map (·.toUInt8)) t1)).push (.bytes rp tr) else ps' = ps.push (.bytes rp tr)) →
      codeAny (model prog w) A (.builtin "re.Pattern.sub.loop" ⟨[.ref pa, .bytes bs tb, .bytes rp tr, rawInt 0, rawInt 0, rawInt ((cnt + 1 : Nat)), rawInt p.2, rawInt p.2, .bool false, .ref D, .bool false], []⟩) R { s with heap := h', toks := tk' }) :
    codeAny (model prog w) A (.builtin "re.Pattern.sub.loop" ⟨[.ref pa, .bytes bs tb, .bytes rp tr, rawInt 0, rawInt 0, rawInt cnt, rawInt dn, rawInt dn, .bool false, .ref D, .bool false], []⟩) R s := by
  refine codeAny_builtin entry_pat_loop ?_
  have hsub : isSubtype (.type "bytes") (.type "bytes") = pure true := by rw [isSubtype_type]; kernel_rfl
  have hT := typeIs_bytes s rp tr
  unfold Builtin.«re.Pattern.sub.loop»
  wp_walk using (whole1 hp hc), wpAny_of_eq hsub, (wp_next1 hcode hdn hsz)
  rw [hn]
  intro m' hs hh
  dsimp only
  rw [hs, hh, hne2]
  have hne : (Value.bytes rp tr != Value.none) = true := rfl
  by_cases hlt : ((dn : Int)).toNat < p.1
  · rw [if_pos hlt]
    refine wpAny_bind (wp_sliceB hsz ?_)
    refine wpAny_bind (wp_push hD (by omega) (fun h1 sb1 hD1 => ?_))
    rw [if_pos (by decide)]
    refine wpAny_bind (wpAny_pure ?_)
    rw [if_pos hne]
    refine wpAny_bind (wp_push hD1 (by rw [Array.size_push]; omega) (fun h2 sb2 hD2 => ?_))
    refine wpAny_pure ⟨plainId_quiet plain_pat_loop _, ?_⟩
    rw [Int.toNat_natCast] at hlt hD2
    refine h h2 _ _ _ (sb1.trans sb2) hD2 ?_
    rw [if_pos hlt]
    exact ⟨_, rfl⟩
  · rw [if_neg hlt]
    rw [if_pos (by decide)]
    refine wpAny_bind (wpAny_pure ?_)
    rw [if_pos hne]
    refine wpAny_bind (wp_push hD (by omega) (fun h2 sb2 hD2 => ?_))
    refine wpAny_pure ⟨plainId_quiet plain_pat_loop _, ?_⟩
    rw [Int.toNat_natCast] at hlt
    refine h h2 _ _ _ sb2 hD2 ?_
    rw [if_neg hlt]
end
end
/-! R7 -/
section
theorem take_eq {id : String} {b : Array UInt8} {t : Tok} : Builtin.Bytes.takeBufferQuiet? id (.bytes b t) 0 = pure (some (b, none)) := by
  unfold Builtin.Bytes.takeBufferQuiet? Builtin.Bytes.takeBuffer?
  rw [KBy.special_eq KBy.look_buffer, KBy.own_buffer, show ((0 : Int) == Builtin.Bytes.fullReadOnly) = false from by decide, KBy.buffer_eq]
  kernel_rfl
theorem plain_join : plainId "bytes.join" = true := by decide +kernel
theorem entry_bytes_join : entryFor table "bytes.join" = some Builtin.«bytes.join» := entryFor_of_tree (by kernel_rfl)
theorem slot_bytes_join : Slot "bytes" "join" "bytes.join" :=
  .of (owner := "bytes") (n := "join") (by rw [typeLookup_type, builtinLookup_eq_fast]; kernel_rfl) (by decide +kernel) (by decide +kernel) (by decide +kernel)
    (by first | exact .inl (by decide +kernel) | exact .inr (by decide +kernel)) (by rw [isSubtype_type]; kernel_rfl)
theorem owner_bytes' : Manifest.owners.lookup (String.ofList ['s', 'e', 't', 'y', 'b'].reverse) = some Manifest.sig_bytes := by kernel_rfl
theorem args_bytes_join (a b : Value) : argsOk "bytes.join" ⟨[a, b], []⟩ := by
  unfold argsOk; rw [signature?_of (id := "bytes.join") (n := ['n', 'i', 'o', 'j']) (o := ['s', 'e', 't', 'y', 'b']) (by kernel_rfl) owner_bytes']; kernel_rfl
section
variable {prog : Program} {w : World} {A : Around} {E : Value → Shared → Prop} {s : Shared}
theorem wp_range {β : Type} (I : Nat → β → Prop) (n : Nat) (f : Nat → β → Sem (ForInStep β)) {b₀ : β} {Q : β → Shared → Prop} (h0 : I 0 b₀)
    (step : ∀ i b, i < n → I i b → wpAny (model prog w) A (f i b) (fun r s' => ∃ b', r = .yield b' ∧ s' = s ∧ I (i + 1) b') E s) (fin : ∀ b, I n b → Q b s) :
    wpAny (model prog w) A (forIn [:n] b₀ f) Q E s := by
  rw [Std.Legacy.Range.forIn_eq_forIn_range']
  have key : ∀ (k i : Nat) (b : β), i + k = n → I i b → wpAny (model prog w) A (forIn (List.range' i k 1) b f) Q E s := by
    intro k
    induction k with
    | zero =>
      intro i b e hi
      have : i = n := by omega
      subst this
      exact wpAny_pure (fin b hi)
    | succ k ih =>
      intro i b e hi
      rw [List.range'_succ, List.forIn_cons]
      refine wpAny_bind (wpAny_mono (step i b (by omega) hi) (fun r s' hr => ?_) fun _ _ e => e)
      obtain ⟨b', rfl, rfl, hb⟩ := hr
      exact ih (i + 1) b' (by omega) hb
  have e : ([:n] : Std.Legacy.Range).size = n := by simp [Std.Legacy.Range.size]
  have := key n 0 b₀ (by omega) h0
  rw [← e] at this
  exact this
theorem joined_nil : ∀ (ps : List (Array UInt8)) (k : Nat) (acc : Array UInt8), (ps.zipIdx k).foldl (fun out (x : Array UInt8 × Nat) => (if x.2 > 0 then out ++ #[] else out) ++ x.1) acc = ps.foldl (fun a b => a ++ b) acc
  | [], _, _ => rfl
  | p :: ps, k, acc => by
    rw [List.zipIdx_cons, List.foldl_cons, List.foldl_cons, joined_nil ps (k + 1)]
    simp
theorem sizes_sum : ∀ (ys : List (Array UInt8 × Tok)) (a : Nat), (ys.map (·.1)).foldl (fun x1 x2 => x1 + x2.size) a = a + (ys.map (·.1.size)).sum
  | [], a => by simp
  | y :: ys, a => by
    rw [List.map_cons, List.foldl_cons, sizes_sum ys]
    simp [Nat.add_assoc]
theorem wp_letGo {keep : List Value} {Q : Unit → Shared → Prop} (h : Q () s) : ∀ ys : List (Array UInt8 × Tok), wpAny (model prog w) A (Builtin.Bytes.joinLetGo (ys.map fun p => (Value.bytes p.1 p.2, none)) keep) Q E s
  | [] => wpAny_pure h
  | y :: ys => by
    have ih := wp_letGo (keep := keep) h ys
    rw [List.map_cons]
    unfold Builtin.Bytes.joinLetGo
    wp_walk
    exact ih
theorem joined_is (ys : List (Array UInt8 × Tok)) : Builtin.Bytes.joined #[] (ys.map (·.1)) = ys.foldl (fun a p => a ++ p.1) #[] := by
  unfold Builtin.Bytes.joined
  rw [joined_nil, List.foldl_map]
theorem joined_size : ∀ (ys : List (Array UInt8 × Tok)) (a : Array UInt8), (ys.foldl (fun a p => a ++ p.1) a).size = a.size + (ys.map (·.1.size)).sum
  | [], a => by simp
  | y :: ys, a => by
    rw [List.foldl_cons, joined_size ys]
    simp [Nat.add_assoc]
theorem wpAny_of_cast {α : Type} {t t' : Sem α} {Q : α → Shared → Prop} (e : t = t') (h : wpAny (model prog w) A t' Q E s) : wpAny (model prog w) A t Q E s := e ▸ h
theorem wp_join {D : Addr} {xs : List (Array UInt8 × Tok)} {nd : Nat} {t0 : Tok} {Q : Value → Shared → Prop}
    (hD : s.heap.get? D = some { cls := .type "list", data := .seq (xs.map fun p => Value.bytes p.1 p.2).toArray nd }) (hx : xs ≠ [])
    (hz : (xs.map (·.1.size)).sum ≤ 5000)
    (h : ∀ t tk, Q (.bytes (xs.foldl (fun a p => a ++ p.1) #[]) t) { s with toks := tk }) :
    wpAny (model prog w) A (call (.builtin "bytes.join") [.bytes #[] t0, .ref D]) Q E s := by
  refine wpAny_call_entry slot_bytes_join (typeIs_bytes s _ _) entry_bytes_join ?_ (args_bytes_join _ _)
  have hT : s.TypeIs (.ref D) "list" := ⟨_, hD, rfl⟩
  have hsub : isSubtype (.type "bytes") (.type "bytes") = pure true := by rw [isSubtype_type]; kernel_rfl
  unfold Builtin.«bytes.join»
  wp_walk using wpAny_of_eq hsub
  match xs, hx with
  | [p], _ =>
    have hT2 := typeIs_bytes s p.1 p.2
    dsimp only [List.map]
    wp_walk
    have h1 := h p.2 s.toks
    simp only [List.foldl, Array.empty_append] at h1
    exact ⟨_, rfl, h1⟩
  | p :: q :: r, _ =>
    have hne : ∀ x, (List.map (fun p => Value.bytes p.1 p.2) (p :: q :: r)).toArray ≠ #[x] := fun x e => by
      have := congrArg Array.size e
      simp at this
    generalize harr : (List.map (fun p => Value.bytes p.1 p.2) (p :: q :: r)).toArray = arr at hD hne ⊢
    have key : ∀ (a : Array Value) (T1 : Value → Sem Fin) (T2 : Sem Fin), (∀ x, a ≠ #[x]) → (match a with | #[x] => T1 x | _ => T2) = T2 := by
      intro a T1 T2 ha
      obtain ⟨l⟩ := a
      match l, ha with
      | [], _ => rfl
      | [x], ha => exact absurd rfl (ha x)
      | x :: y :: r, _ => rfl
    refine wpAny_of_cast (key arr _ _ hne) ?_
    generalize hxs : p :: q :: r = ys at harr hz h
    have hsz : arr.size = ys.length := by rw [← harr]; simp
    refine wpAny_bind (wp_range (fun i (st : Array (Array UInt8) × List (Value × Option Value)) => st.1 = ((ys.take i).map (·.1)).toArray ∧ st.2 = (ys.take i).map (fun p => (Value.bytes p.1 p.2, none))) _ _ ⟨rfl, rfl⟩ ?_ ?_)
    · rintro i ⟨ps, tk⟩ hi ⟨h1, h2⟩
      dsimp only at h1 h2 ⊢
      obtain ⟨y, hy⟩ : ∃ y, ys[i]? = some y := ⟨ys[i]'(by omega), List.getElem?_eq_getElem (by omega)⟩
      have hget : arr.getD i Value.none = Value.bytes y.1 y.2 := by
        rw [← harr]
        simp [hy]
      have hany : (tk.any fun x => x.1.onHeap) = false := by
        rw [h2, List.any_map]
        simp [Value.onHeap]
      wp_walk
      rw [if_neg (by rw [hany]; decide), hget]
      wp_walk using wpAny_of_eq take_eq
      exact ⟨_, rfl, rfl, by rw [List.take_add_one, hy, h1]; simp, by rw [List.take_add_one, hy, h2]; simp⟩
    · rintro ⟨ps, tk⟩ ⟨h1, h2⟩
      dsimp only at h1 h2 ⊢
      wp_walk
      have hlong : Builtin.Bytes.tooLong (Array.foldl (fun x1 x2 => x1 + x2.size) ((#[] : Array UInt8).size * (ps.size - 1)) ps) = false := by
        refine KBy.tooLong_not ?_
        rw [h1, List.take_of_length_le (by omega)]
        have e := sizes_sum ys ((#[] : Array UInt8).size * (((ys.map (·.1)).toArray).size - 1))
        simp only [List.foldl_toArray] at e ⊢
        rw [e]
        simp
        omega
      rw [if_neg (by rw [hlong]; decide)]
      wp_walk
      have hj : Builtin.Bytes.joined #[] ps.toList = ys.foldl (fun a p => a ++ p.1) #[] := by
        rw [h1, List.take_of_length_le (by omega)]
        exact joined_is ys
      have htk : tk = ys.map fun p => (Value.bytes p.1 p.2, none) := by rw [h2, List.take_of_length_le (by omega)]
      rw [hj, if_neg (by rw [joined_size, sizeLine_eq]; simp; omega), htk]
      wp_walk using (wp_letGo (ys := ys))
      exact ⟨_, rfl, h _ _⟩
end
end
/-! R8 -/
section
section
variable {prog : Program} {w : World} {A : Around} {E : Value → Shared → Prop} {s : Shared}
noncomputable def glue (xs : List (Array UInt8 × Tok)) : Array UInt8 := xs.foldl (fun a p => a ++ p.1) #[]
theorem glue_snoc (xs : List (Array UInt8 × Tok)) (p : Array UInt8 × Tok) : glue (xs ++ [p]) = glue xs ++ p.1 := by
  unfold glue
  rw [List.foldl_append]
  rfl
theorem wp_items {D : Addr} {ps : Array Value} {nd : Nat} {Q : Option (Array Value) → Shared → Prop} (hD : s.heap.get? D = some { cls := .type "list", data := .seq ps nd }) (h : Q (some ps) s) : wpAny (model prog w) A (seqItems? (.ref D)) Q E s := by
  wp_walk
  exact h
theorem wp_join' {D : Addr} {xs : List (Array UInt8 × Tok)} {nd : Nat} {t0 : Tok} {b0 : Array UInt8} {Q : Value → Shared → Prop} (h0 : b0 = #[])
    (hD : s.heap.get? D = some { cls := .type "list", data := .seq (xs.map fun p => Value.bytes p.1 p.2).toArray nd }) (hx : xs ≠ [])
    (hz : (xs.map (·.1.size)).sum ≤ 5000)
    (h : ∀ t tk, Q (.bytes (glue xs) t) { s with toks := tk }) :
    wpAny (model prog w) A (call (.builtin (if ((1 : Nat) == 0) = true then "str.join" else "bytes.join")) [.bytes b0 t0, .ref D]) Q E s := by
  subst h0
  rw [if_neg (by decide)]
  exact wp_join hD hx hz h
/-- the last turn -/
theorem loop_none1 {pa ca D : Addr} {v0 v1 v3 v4 : Value} {its : Array Value} {n nd cnt dn : Nat} {tg tk : Tok} {bs rp : Array UInt8} {tb tr : Tok} {R : Result → Shared → Prop} {xs : List (Array UInt8 × Tok)}
    (hp : s.heap.get? pa = some { cls := .type "re.Pattern", data := .fields #[v0, v1, .int 0 tg, v3, v4, .ref ca, .int 1 tk] })
    (hc : s.heap.get? ca = some { cls := .type "tuple", data := .seq its n })
    (hcode : (its.map reRawOf).map (·.toNat) = code1)
    (hD : s.heap.get? D = some { cls := .type "list", data := .seq (xs.map fun p => Value.bytes p.1 p.2).toArray nd })
    (hdn : dn ≤ (bs.map (·.toNat)).size) (hsz : (bs.map (·.toNat)).size ≤ 1000) (hps : xs.length ≤ 4000) (hz : (xs.map (·.1.size)).sum ≤ 3000)
    (hn : next1 (bs.map (·.toNat)) ((bs.map (·.toNat)).size - dn) dn = none)
    (h : ∀ h' tk' t ps' nd', Heap.SameBut D s.heap h' → h'.get? D = some { cls := .type "list", data := .seq ps' nd' } →
      R (.ok (.ret (.bytes (glue xs ++ ((bs.map (·.toNat)).extract dn (bs.map (·.toNat)).size).map (·.toUInt8)) t))) { s with heap := h', toks := tk' }) :
    codeAny (model prog w) A (.builtin "re.Pattern.sub.loop" ⟨[.ref pa, .bytes bs tb, .bytes rp tr, rawInt 0, rawInt 0, rawInt cnt, rawInt dn, rawInt dn, .bool false, .ref D, .bool false], []⟩) R s := by
  refine codeAny_builtin entry_pat_loop ?_
  have hsub : isSubtype (.type "bytes") (.type "bytes") = pure true := by rw [isSubtype_type]; kernel_rfl
  have hT := typeIs_bytes s rp tr
  have hsz2 : bs.size ≤ 1000 := by simpa using hsz
  unfold Builtin.«re.Pattern.sub.loop»
  wp_walk using (whole1 hp hc), wpAny_of_eq hsub, (wp_next1 hcode hdn hsz)
  rw [hn]
  dsimp only
  by_cases hlt : ((dn : Int)).toNat < (bs.map (·.toNat)).size
  · rw [if_pos hlt]
    refine wpAny_bind (wp_sliceB hsz ?_)
    refine wpAny_bind (wp_push hD (by simp; omega) (fun h1 sb1 hD1 => ?_))
    refine wpAny_bind (wp_sliceB hsz ?_)
    have e1 : ((xs.map fun p => Value.bytes p.1 p.2).toArray.push (Value.bytes (((bs.map (·.toNat)).extract ((dn : Int)).toNat (bs.map (·.toNat)).size).map (·.toUInt8)) s.toks)) = ((xs ++ [((((bs.map (·.toNat)).extract ((dn : Int)).toNat (bs.map (·.toNat)).size).map (·.toUInt8)), s.toks)]).map fun p => Value.bytes p.1 p.2).toArray := by simp
    rw [e1] at hD1
    refine wpAny_bind (wp_items hD1 ?_)
    rw [if_neg (by simp)]
    refine wpAny_bind (wp_join' (by simp) hD1 (by simp) (by simp; omega) (fun t tk' => ?_))
    rw [if_neg (by decide)]
    refine wpAny_pure ?_
    rw [Int.toNat_natCast] at hD1
    rw [Int.toNat_natCast, glue_snoc]
    exact h h1 tk' t _ _ sb1 hD1
  · rw [if_neg hlt]
    refine wpAny_bind (wp_sliceB hsz ?_)
    refine wpAny_bind (wp_items hD ?_)
    have e2 : (bs.map (·.toNat)).extract dn (bs.map (·.toNat)).size = #[] := by
      apply Array.eq_empty_of_size_eq_zero
      rw [Array.size_extract]
      omega
    rw [e2] at h
    by_cases hx : xs = []
    · subst hx
      rw [if_pos (by rfl)]
      refine wpAny_bind (wpAny_pure ?_)
      rw [if_neg (by decide)]
      refine wpAny_pure ?_
      have := h s.heap (s.toks + 1) s.toks _ _ (Heap.SameBut.refl _ _) hD
      simpa [glue] using this
    · rw [if_neg (by simpa using hx)]
      refine wpAny_bind (wp_join' (by simp) hD hx (by omega) (fun t tk' => ?_))
      rw [if_neg (by decide)]
      refine wpAny_pure ?_
      have := h s.heap tk' t _ _ (Heap.SameBut.refl _ _) hD
      simpa using this
end
end
/-! R9 -/
section
/-- what the substitution makes of the text from a place on -/
noncomputable def out1 (t : Array Nat) (rp : Array UInt8) : Nat → Nat → Array UInt8
  | 0, dn => (t.extract dn t.size).map (·.toUInt8)
  | k + 1, dn => match next1 t (t.size - dn) dn with
    | none => (t.extract dn t.size).map (·.toUInt8)
    | some p => (t.extract dn p.1).map (·.toUInt8) ++ (rp ++ out1 t rp k p.2)
theorem next1_some (t : Array Nat) : ∀ (k s : Nat) {p : Nat × Nat}, next1 t k s = some p → s ≤ p.1 ∧ p.1 < s + k ∧ p.2 = p.1 + 1
  | 0, _, _, h => nomatch h
  | k + 1, s, p, h => by
    unfold next1 at h
    by_cases g : dot t s = true
    · rw [if_pos g] at h
      cases h
      exact ⟨Nat.le_refl _, by omega, rfl⟩
    · rw [if_neg g] at h
      have := next1_some t k (s + 1) h
      omega
section
variable {prog : Program} {w : World} {A : Around} {E : Value → Shared → Prop} {s : Shared}
theorem loop1 {pa ca D : Addr} {v0 v1 v3 v4 : Value} {its : Array Value} {n : Nat} {tg tk : Tok} {bs rp : Array UInt8} {tb tr : Tok} {R : Result → Shared → Prop}
    (hcode : (its.map reRawOf).map (·.toNat) = code1) (hpD : pa ≠ D) (hcD : ca ≠ D) (hsz : (bs.map (·.toNat)).size ≤ 100) (hrp : rp.size ≤ 4) :
    ∀ (k : Nat) {s : Shared} {dn cnt nd : Nat} {xs : List (Array UInt8 × Tok)}, (bs.map (·.toNat)).size ≤ dn + k → dn ≤ (bs.map (·.toNat)).size → xs.length ≤ 2 * dn → (xs.map (·.1.size)).sum ≤ 5 * dn →
    (s.heap.get? pa = some { cls := .type "re.Pattern", data := .fields #[v0, v1, .int 0 tg, v3, v4, .ref ca, .int 1 tk] }) →
    (s.heap.get? ca = some { cls := .type "tuple", data := .seq its n }) →
    (s.heap.get? D = some { cls := .type "list", data := .seq (xs.map fun p => Value.bytes p.1 p.2).toArray nd }) →
    (∀ h' tk' t ps' nd', Heap.SameBut D s.heap h' → h'.get? D = some { cls := .type "list", data := .seq ps' nd' } →
      R (.ok (.ret (.bytes (glue xs ++ out1 (bs.map (·.toNat)) rp k dn) t))) { s with heap := h', toks := tk' }) →
    codeAny (model prog w) A (.builtin "re.Pattern.sub.loop" ⟨[.ref pa, .bytes bs tb, .bytes rp tr, rawInt 0, rawInt 0, rawInt cnt, rawInt dn, rawInt dn, .bool false, .ref D, .bool false], []⟩) R s := by
  intro k
  induction k with
  | zero =>
    intro s dn cnt nd xs h1 h2 h3 h4 hp hc hD h
    have e : dn = (bs.map (·.toNat)).size := by omega
    refine loop_none1 hp hc hcode hD h2 (by omega) (by omega) (by omega) ?_ ?_
    · rw [← e, Nat.sub_self]; rfl
    · exact h
  | succ k ih =>
    intro s dn cnt nd xs h1 h2 h3 h4 hp hc hD h
    unfold out1 at h
    cases hn : next1 (bs.map (·.toNat)) ((bs.map (·.toNat)).size - dn) dn with
    | none =>
      rw [hn] at h
      exact loop_none1 hp hc hcode hD h2 (by omega) (by omega) (by omega) hn h
    | some p =>
      rw [hn] at h
      have g := next1_some _ _ _ hn
      have hne : (p.2 == p.1) = false := by
        rw [beq_eq_false_iff_ne]
        omega
      refine loop_some1 hp hc hcode hD h2 (by omega) (by simp; omega) hn hne (fun h' tk' ps' nd' sb hD' hps => ?_)
      have hp' := (sb.2 pa hpD).trans hp
      have hc' := (sb.2 ca hcD).trans hc
      by_cases hlt : dn < p.1
      · rw [if_pos hlt] at hps
        obtain ⟨t1, rfl⟩ := hps
        have e1 : ((xs.map fun p => Value.bytes p.1 p.2).toArray.push (.bytes (((bs.map (·.toNat)).extract dn p.1).map (·.toUInt8)) t1)).push (.bytes rp tr) = ((xs ++ [(((bs.map (·.toNat)).extract dn p.1).map (·.toUInt8), t1), (rp, tr)]).map fun p => Value.bytes p.1 p.2).toArray := by simp
        rw [e1] at hD'
        refine ih (s := { s with heap := h', toks := tk' }) (by omega) (by omega) ?_ ?_ hp' hc' hD' (fun h2 tk2 t ps2 nd2 sb2 hD2 => ?_)
        · simp; omega
        · simp; omega
        · have := h h2 tk2 t ps2 nd2 (sb.trans sb2) hD2
          have e2 : glue (xs ++ [(((bs.map (·.toNat)).extract dn p.1).map (·.toUInt8), t1), (rp, tr)]) = glue xs ++ (((bs.map (·.toNat)).extract dn p.1).map (·.toUInt8)) ++ rp := by
            rw [show xs ++ [(((bs.map (·.toNat)).extract dn p.1).map (·.toUInt8), t1), (rp, tr)] = (xs ++ [(((bs.map (·.toNat)).extract dn p.1).map (·.toUInt8), t1)]) ++ [(rp, tr)] by simp, glue_snoc, glue_snoc]
          rw [e2, Array.append_assoc, Array.append_assoc]
          exact this
      · rw [if_neg hlt] at hps
        subst hps
        have e1 : ((xs.map fun p => Value.bytes p.1 p.2).toArray.push (.bytes rp tr)) = ((xs ++ [(rp, tr)]).map fun p => Value.bytes p.1 p.2).toArray := by simp
        rw [e1] at hD'
        refine ih (s := { s with heap := h', toks := tk' }) (by omega) (by omega) ?_ ?_ hp' hc' hD' (fun h2 tk2 t ps2 nd2 sb2 hD2 => ?_)
        · simp; omega
        · simp; omega
        · have := h h2 tk2 t ps2 nd2 (sb.trans sb2) hD2
          have e0 : (bs.map (·.toNat)).extract dn p.1 = #[] := by
            apply Array.eq_empty_of_size_eq_zero
            rw [Array.size_extract]
            omega
          dsimp only at this
          rw [e0] at this
          rw [glue_snoc, Array.append_assoc]
          simpa using this
end
end
/-! R10 -/
section
section
theorem ql_bytes : typeLookup (.type "bytes") (Str.ofString "__call__") = pure none := by rw [typeLookup_type, builtinLookup_eq_fast]; kernel_rfl
/-- a builtin that hands on to another -/
theorem wpAny_call_again {prog : Program} {w : World} {A : Around} {E : Value → Shared → Prop} {s : Shared} {T : String} {name : Str}
    {id : String} {b : Builtin} {self : Value} {rest : List Value} {Q : Value → Shared → Prop} (h : Slot T name id) (hT : s.TypeIs self T)
    (hb : entryFor table id = some b)
    (hc : wpAny (model prog w) A.in1 (b ⟨self :: rest, []⟩) (fun fin s' => ∃ c', fin = .again c' ∧ c'.quiet = true ∧ codeAny (model prog w) A c' (fun r s₂ => match r with | .ok (.ret v) => Q v s₂ | .error e => E e s₂ | _ => False) s') E s)
    (ha : argsOk id ⟨self :: rest, []⟩ := by rfl) :
    wpAny (model prog w) A (call (.builtin id) (self :: rest)) Q E s := by
  refine wpAny_call (codeAny_call_builtin h.plain hb (h.check _ _ _ _ _ _ _ _ hT ha (wpAny_mono hc (fun fin s' h' => ?_) fun _ _ h' => h')))
  obtain ⟨c', rfl, hq, hv⟩ := h'
  refine ⟨hq, codeAny_mono hv fun r s₂ hr => ?_⟩
  match r, hr with
  | .ok (.ret v), hr => exact hr
  | .ok .next, hr => exact hr.elim
  | .ok .brk, hr => exact hr.elim
  | .ok .cont, hr => exact hr.elim
  | .error e, hr => exact hr
end
section
variable {prog : Program} {w : World} {A : Around} {E : Value → Shared → Prop} {s : Shared}
end
end
/-! R11 -/
section
section
variable {prog : Program} {w : World} {A : Around} {E : Value → Shared → Prop} {s : Shared}
theorem named3 (a b : Value) : reNamed "re.Pattern.sub" "sub" ["repl", "string", "count"] 2 [a, b] [] = pure [some a, some b, none] := by kernel_rfl
/-- the dots' substitution -/
theorem sub1 {h₀ : Heap} {L : Addr} {m : Str → Option Value} {news : List (Addr × Obj)} {pa ca : Addr} {v0 v1 v3 v4 : Value} {its : Array Value} {n : Nat} {tg tk : Tok} {bs rp : Array UInt8} {tb tr : Tok} {Q : Value → Shared → Prop}
    (hcode : (its.map reRawOf).map (·.toNat) = code1) (hsz : bs.size ≤ 100) (hrp : rp.size ≤ 4) (hsl : rp.contains 92 = false)
    (F : Fr h₀ L s.heap m) (N : News h₀ L s.heap news)
    (hp : s.heap.get? pa = some { cls := .type "re.Pattern", data := .fields #[v0, v1, .int 0 tg, v3, v4, .ref ca, .int 1 tk] })
    (hc : s.heap.get? ca = some { cls := .type "tuple", data := .seq its n })
    (h : ∀ h' tk' t, Fr h₀ L h' m → News h₀ L h' news → Q (.bytes (out1 (bs.map (·.toNat)) rp bs.size 0) t) { s with heap := h', toks := tk' }) :
    wpAny (model prog w) A (call (.builtin "re.Pattern.sub") [.ref pa, .bytes rp tr, .bytes bs tb]) Q E s := by
  have hP : s.TypeIs (.ref pa) "re.Pattern" := ⟨_, hp, rfl⟩
  have hT := typeIs_bytes s rp tr
  have qe : Builtin.Bytes.bufferQuiet? "re.Pattern.sub" (.bytes rp tr) = pure (some rp) := KBy.quiet_eq
  refine wpAny_call_again slot_pat_sub hP entry_pat_sub ?_ (args_pat_sub _ _ _)
  unfold Builtin.«re.Pattern.sub» reSubstitute
  refine wpAny_bind (wpAny_of_eq (named3 _ _) ?_)
  wp_walk using wpAny_of_eq ql_bytes, wpAny_of_eq qe
  rw [if_pos (by rw [hsl]; rfl)]
  wp_walk using (whole1 hp hc)
  refine ⟨_, rfl, plainId_quiet plain_pat_loop _, ?_⟩
  have F1 := F.push { cls := .type "list", data := .seq #[] }
  have N1 := N.push F { cls := .type "list", data := .seq #[] }
  have hsz' : (bs.map (·.toNat)).size = bs.size := Array.size_map
  refine loop1 (xs := []) (nd := 0) (dn := 0) (cnt := 0) hcode (Nat.ne_of_lt (Heap.lt_size hp)) (Nat.ne_of_lt (Heap.lt_size hc)) (by omega) hrp bs.size (by omega) (by omega) (by simp) (by simp) (Heap.get?_push_of_some _ hp) (Heap.get?_push_of_some _ hc) (N1 _ (.head _)).1 ?_
  intro h' tk' t ps' nd' sb hD
  have hne := (N1 _ (.head _)).2
  have := h h' tk' t (F1.change sb hne.1 hne.2) (fun p hp => (News.setHead N1 N.apart sb hD) p (.tail _ hp))
  simpa [glue] using this
end
end
/-! R12 -/
section
section
variable {prog : Program} {w : World} {A : Around} {E : Value → Shared → Prop} {s : Shared}
theorem wp_sliceS {t : Array Nat} {a b : Nat} {Q : Value → Shared → Prop} (hsz : t.size ≤ 1000) (h : Q (.str ⟨t.extract a b⟩ s.toks) { s with toks := s.toks + 1 }) : wpAny (model prog w) A (reSlice t 0 a b) Q E s := by
  have hle : ¬ (Str.length ⟨t.extract a b⟩) > sizeLine := by
    rw [sizeLine_eq]
    show ¬ (t.extract a b).size > _
    rw [Array.size_extract]
    omega
  unfold reSlice
  rw [if_pos (by decide)]
  exact wpAny_mkStr h (Nat.not_lt.mp hle)
/-- a turn that finds something -/
theorem loop_some2 {pa ca D : Addr} {v0 v1 v3 v4 : Value} {its ps : Array Value} {n nd cnt dn : Nat} {tg tk : Tok} {st rp : Str} {tb tr : Tok} {R : Result → Shared → Prop} {p : Nat × Nat}
    (hp : s.heap.get? pa = some { cls := .type "re.Pattern", data := .fields #[v0, v1, .int 0 tg, v3, v4, .ref ca, .int 0 tk] })
    (hc : s.heap.get? ca = some { cls := .type "tuple", data := .seq its n })
    (hcode : (its.map reRawOf).map (·.toNat) = code2)
    (hD : s.heap.get? D = some { cls := .type "list", data := .seq ps nd })
    (hdn : dn ≤ st.cps.size) (hsz : st.cps.size ≤ 1000) (hps : ps.size ≤ 4000)
    (hn : next2 st.cps dn = some p) (hne2 : (p.2 == p.1) = false)
    (h : ∀ h' tk' ps' nd', Heap.SameBut D s.heap h' → h'.get? D = some { cls := .type "list", data := .seq ps' nd' } →
      (if dn < p.1 then ∃ t1, ps' = (ps.push (.str ⟨st.cps.extract dn p.1⟩ t1)).push (.str rp tr) else ps' = ps.push (.str rp tr)) →
      codeAny (model prog w) A (.builtin "re.Pattern.sub.loop" ⟨[.ref pa, .str st tb, .str rp tr, rawInt 0, rawInt 0, rawInt ((cnt + 1 : Nat)), rawInt p.2, rawInt p.2, .bool false, .ref D, .bool false], []⟩) R { s with heap := h', toks := tk' }) :
    codeAny (model prog w) A (.builtin "re.Pattern.sub.loop" ⟨[.ref pa, .str st tb, .str rp tr, rawInt 0, rawInt 0, rawInt cnt, rawInt dn, rawInt dn, .bool false, .ref D, .bool false], []⟩) R s := by
  refine codeAny_builtin entry_pat_loop ?_
  unfold Builtin.«re.Pattern.sub.loop»
  wp_walk using (whole2 hp hc), (wp_next2 hcode hdn)
  rw [hn]
  intro m' hs hh
  dsimp only
  rw [hs, hh, hne2]
  have hne : (Value.str rp tr != Value.none) = true := rfl
  by_cases hlt : ((dn : Int)).toNat < p.1
  · rw [if_pos hlt]
    refine wpAny_bind (wp_sliceS hsz ?_)
    refine wpAny_bind (wp_push hD (by omega) (fun h1 sb1 hD1 => ?_))
    rw [if_pos (by decide)]
    refine wpAny_bind (wpAny_pure ?_)
    rw [if_pos hne]
    refine wpAny_bind (wp_push hD1 (by rw [Array.size_push]; omega) (fun h2 sb2 hD2 => ?_))
    refine wpAny_pure ⟨plainId_quiet plain_pat_loop _, ?_⟩
    rw [Int.toNat_natCast] at hlt hD2
    refine h h2 _ _ _ (sb1.trans sb2) hD2 ?_
    rw [if_pos hlt]
    exact ⟨_, rfl⟩
  · rw [if_neg hlt]
    rw [if_pos (by decide)]
    refine wpAny_bind (wpAny_pure ?_)
    rw [if_pos hne]
    refine wpAny_bind (wp_push hD (by omega) (fun h2 sb2 hD2 => ?_))
    refine wpAny_pure ⟨plainId_quiet plain_pat_loop _, ?_⟩
    rw [Int.toNat_natCast] at hlt
    refine h h2 _ _ _ sb2 hD2 ?_
    rw [if_neg hlt]
end
end
/-! R13 -/
section
section
variable {prog : Program} {w : World} {A : Around} {E : Value → Shared → Prop} {s : Shared}
noncomputable def glueS (xs : List (Str × Tok)) : Array Nat := xs.foldl (fun a p => a ++ p.1.cps) #[]
theorem glueS_snoc (xs : List (Str × Tok)) (p : Str × Tok) : glueS (xs ++ [p]) = glueS xs ++ p.1.cps := by
  unfold glueS
  rw [List.foldl_append]
  rfl
theorem glued_is : ∀ xs : List (Str × Tok), (Builtin.Str.glued ⟨#[]⟩ (xs.map (·.1))).cps = glueS xs
  | [] => rfl
  | p :: xs => by
    unfold Builtin.Str.glued glueS
    simp only [List.map_cons, List.drop_succ_cons, List.drop_zero, List.headD_cons, List.foldl_cons, Array.append_empty, Array.empty_append, List.foldl_map]
theorem wp_joinS {D : Addr} {xs : List (Str × Tok)} {nd : Nat} {t0 : Tok} {b0 : Str} {Q : Value → Shared → Prop} (h0 : b0 = ⟨#[]⟩)
    (hD : s.heap.get? D = some { cls := .type "list", data := .seq (strValues xs).toArray nd })
    (hz : (xs.map (·.1.length)).sum ≤ 5000)
    (h : ∀ t tk, Q (.str ⟨glueS xs⟩ t) { s with toks := tk }) :
    wpAny (model prog w) A (call (.builtin (if ((0 : Nat) == 0) = true then "str.join" else "bytes.join")) [.str b0 t0, .ref D]) Q E s := by
  subst h0
  rw [if_pos (by decide)]
  refine SC.join (l := xs) ⟨_, hD, rfl, _, rfl⟩ rfl (joinOk_of ?_) (fun t' k => ?_)
  · rw [List.map_map]
    show (xs.map (·.1.length)).sum + (xs.map (·.1)).length * 0 ≤ _
    omega
  · have e : Txt.join ⟨#[]⟩ (xs.map (·.1)) = ⟨glueS xs⟩ := by
      rw [← glued_is]; rfl
    rw [e]
    exact h t' k
/-- the last turn -/
theorem loop_none2 {pa ca D : Addr} {v0 v1 v3 v4 : Value} {its : Array Value} {n nd cnt dn : Nat} {tg tk : Tok} {st rp : Str} {tb tr : Tok} {R : Result → Shared → Prop} {xs : List (Str × Tok)}
    (hp : s.heap.get? pa = some { cls := .type "re.Pattern", data := .fields #[v0, v1, .int 0 tg, v3, v4, .ref ca, .int 0 tk] })
    (hc : s.heap.get? ca = some { cls := .type "tuple", data := .seq its n })
    (hcode : (its.map reRawOf).map (·.toNat) = code2)
    (hD : s.heap.get? D = some { cls := .type "list", data := .seq (strValues xs).toArray nd })
    (hdn : dn ≤ st.cps.size) (hsz : st.cps.size ≤ 1000) (hps : xs.length ≤ 4000) (hz : (xs.map (·.1.length)).sum ≤ 3000)
    (hn : next2 st.cps dn = none)
    (h : ∀ h' tk' t ps' nd', Heap.SameBut D s.heap h' → h'.get? D = some { cls := .type "list", data := .seq ps' nd' } →
      R (.ok (.ret (.str ⟨glueS xs ++ st.cps.extract dn st.cps.size⟩ t))) { s with heap := h', toks := tk' }) :
    codeAny (model prog w) A (.builtin "re.Pattern.sub.loop" ⟨[.ref pa, .str st tb, .str rp tr, rawInt 0, rawInt 0, rawInt cnt, rawInt dn, rawInt dn, .bool false, .ref D, .bool false], []⟩) R s := by
  refine codeAny_builtin entry_pat_loop ?_
  unfold Builtin.«re.Pattern.sub.loop»
  wp_walk using (whole2 hp hc), (wp_next2 hcode hdn)
  rw [hn]
  dsimp only
  by_cases hlt : ((dn : Int)).toNat < st.cps.size
  · rw [if_pos hlt]
    refine wpAny_bind (wp_sliceS hsz ?_)
    refine wpAny_bind (wp_push hD (by simp [strValues]; omega) (fun h1 sb1 hD1 => ?_))
    refine wpAny_bind (wp_sliceS hsz ?_)
    have e1 : ((strValues xs).toArray.push (Value.str ⟨st.cps.extract ((dn : Int)).toNat st.cps.size⟩ s.toks)) = (strValues (xs ++ [(⟨st.cps.extract ((dn : Int)).toNat st.cps.size⟩, s.toks)])).toArray := by simp [strValues]
    rw [e1] at hD1
    refine wpAny_bind (wp_items hD1 ?_)
    rw [if_neg (by simp [strValues])]
    refine wpAny_bind (wp_joinS (by simp) hD1 (by simp [Str.length]; simp only [Str.length] at hz; omega) (fun t tk' => ?_))
    rw [if_neg (by decide)]
    refine wpAny_pure ?_
    rw [Int.toNat_natCast] at hD1
    rw [Int.toNat_natCast, glueS_snoc]
    exact h h1 tk' t _ _ sb1 hD1
  · rw [if_neg hlt]
    refine wpAny_bind (wp_sliceS hsz ?_)
    refine wpAny_bind (wp_items hD ?_)
    have e2 : st.cps.extract dn st.cps.size = #[] := by
      apply Array.eq_empty_of_size_eq_zero
      rw [Array.size_extract]
      omega
    rw [e2] at h
    by_cases hx : xs = []
    · subst hx
      rw [if_pos (by rfl)]
      refine wpAny_bind (wpAny_pure ?_)
      rw [if_neg (by decide)]
      refine wpAny_pure ?_
      have := h s.heap (s.toks + 1) s.toks _ _ (Heap.SameBut.refl _ _) hD
      simpa [glueS] using this
    · rw [if_neg (by simpa [strValues] using hx)]
      refine wpAny_bind (wp_joinS (by simp) hD (by omega) (fun t tk' => ?_))
      rw [if_neg (by decide)]
      refine wpAny_pure ?_
      have := h s.heap tk' t _ _ (Heap.SameBut.refl _ _) hD
      simpa using this
end
end
/-! R14 -/
section
/-- what the substitution makes of the text from a place on -/
noncomputable def out2 (t : Array Nat) (rp : Array Nat) : Nat → Nat → Array Nat
  | 0, dn => t.extract dn t.size
  | k + 1, dn => match next2 t dn with
    | none => t.extract dn t.size
    | some p => t.extract dn p.1 ++ (rp ++ out2 t rp k p.2)
theorem next2_some (t : Array Nat) {s : Nat} (hs : s ≤ t.size) {p : Nat × Nat} (h : next2 t s = some p) : s ≤ p.1 ∧ p.1 < p.2 ∧ p.2 ≤ t.size := by
  unfold next2 at h
  cases hn : nl t (t.size - s) s with
  | none => rw [hn] at h; cases h
  | some i =>
    rw [hn] at h
    cases h
    have g := nl_some t _ _ hn
    refine ⟨g.1, ?_, ?_⟩
    · show i < nlEnd t i
      unfold nlEnd
      split <;> omega
    · show nlEnd t i ≤ t.size
      unfold nlEnd
      split <;> omega
section
variable {prog : Program} {w : World} {A : Around} {E : Value → Shared → Prop} {s : Shared}
theorem loop2 {pa ca D : Addr} {v0 v1 v3 v4 : Value} {its : Array Value} {n : Nat} {tg tk : Tok} {st rp : Str} {tb tr : Tok} {R : Result → Shared → Prop}
    (hcode : (its.map reRawOf).map (·.toNat) = code2) (hpD : pa ≠ D) (hcD : ca ≠ D) (hsz : st.cps.size ≤ 100) (hrp : rp.length ≤ 4) :
    ∀ (k : Nat) {s : Shared} {dn cnt nd : Nat} {xs : List (Str × Tok)}, st.cps.size ≤ dn + k → dn ≤ st.cps.size → xs.length ≤ 2 * dn → (xs.map (·.1.length)).sum ≤ 5 * dn →
    (s.heap.get? pa = some { cls := .type "re.Pattern", data := .fields #[v0, v1, .int 0 tg, v3, v4, .ref ca, .int 0 tk] }) →
    (s.heap.get? ca = some { cls := .type "tuple", data := .seq its n }) →
    (s.heap.get? D = some { cls := .type "list", data := .seq (strValues xs).toArray nd }) →
    (∀ h' tk' t ps' nd', Heap.SameBut D s.heap h' → h'.get? D = some { cls := .type "list", data := .seq ps' nd' } →
      R (.ok (.ret (.str ⟨glueS xs ++ out2 st.cps rp.cps k dn⟩ t))) { s with heap := h', toks := tk' }) →
    codeAny (model prog w) A (.builtin "re.Pattern.sub.loop" ⟨[.ref pa, .str st tb, .str rp tr, rawInt 0, rawInt 0, rawInt cnt, rawInt dn, rawInt dn, .bool false, .ref D, .bool false], []⟩) R s := by
  intro k
  induction k with
  | zero =>
    intro s dn cnt nd xs h1 h2 h3 h4 hp hc hD h
    have e : dn = st.cps.size := by omega
    refine loop_none2 hp hc hcode hD h2 (by omega) (by omega) (by omega) ?_ ?_
    · rw [e]
      unfold next2
      rw [Nat.sub_self]; rfl
    · exact h
  | succ k ih =>
    intro s dn cnt nd xs h1 h2 h3 h4 hp hc hD h
    unfold out2 at h
    cases hn : next2 st.cps dn with
    | none =>
      rw [hn] at h
      exact loop_none2 hp hc hcode hD h2 (by omega) (by omega) (by omega) hn h
    | some p =>
      rw [hn] at h
      have g := next2_some _ h2 hn
      have hne : (p.2 == p.1) = false := by
        rw [beq_eq_false_iff_ne]
        omega
      refine loop_some2 hp hc hcode hD h2 (by omega) (by simp [strValues]; omega) hn hne (fun h' tk' ps' nd' sb hD' hps => ?_)
      have hp' := (sb.2 pa hpD).trans hp
      have hc' := (sb.2 ca hcD).trans hc
      by_cases hlt : dn < p.1
      · rw [if_pos hlt] at hps
        obtain ⟨t1, rfl⟩ := hps
        have e1 : ((strValues xs).toArray.push (.str ⟨st.cps.extract dn p.1⟩ t1)).push (.str rp tr) = (strValues (xs ++ [(⟨st.cps.extract dn p.1⟩, t1), (rp, tr)])).toArray := by simp [strValues]
        rw [e1] at hD'
        refine ih (s := { s with heap := h', toks := tk' }) (by omega) (by omega) ?_ ?_ hp' hc' hD' (fun h2 tk2 t ps2 nd2 sb2 hD2 => ?_)
        · simp; omega
        · have e3 : (Str.length ⟨st.cps.extract dn p.1⟩) = p.1 - dn := by
            show (st.cps.extract dn p.1).size = _
            rw [Array.size_extract]
            omega
          simp only [List.map_append, List.map_cons, List.map_nil, List.sum_append, List.sum_cons, List.sum_nil, e3]
          omega
        · have := h h2 tk2 t ps2 nd2 (sb.trans sb2) hD2
          have e2 : glueS (xs ++ [(⟨st.cps.extract dn p.1⟩, t1), (rp, tr)]) = glueS xs ++ st.cps.extract dn p.1 ++ rp.cps := by
            rw [show xs ++ [((⟨st.cps.extract dn p.1⟩ : Str), t1), (rp, tr)] = (xs ++ [(⟨st.cps.extract dn p.1⟩, t1)]) ++ [(rp, tr)] by simp, glueS_snoc, glueS_snoc]
          rw [e2, Array.append_assoc, Array.append_assoc]
          exact this
      · rw [if_neg hlt] at hps
        subst hps
        have e1 : ((strValues xs).toArray.push (.str rp tr)) = (strValues (xs ++ [(rp, tr)])).toArray := by simp [strValues]
        rw [e1] at hD'
        refine ih (s := { s with heap := h', toks := tk' }) (by omega) (by omega) ?_ ?_ hp' hc' hD' (fun h2 tk2 t ps2 nd2 sb2 hD2 => ?_)
        · simp; omega
        · simp; omega
        · have := h h2 tk2 t ps2 nd2 (sb.trans sb2) hD2
          have e0 : st.cps.extract dn p.1 = #[] := by
            apply Array.eq_empty_of_size_eq_zero
            rw [Array.size_extract]
            omega
          dsimp only at this
          rw [e0] at this
          rw [glueS_snoc, Array.append_assoc]
          simpa using this
theorem ql_str : typeLookup (.type "str") (Str.ofString "__call__") = pure none := by rw [typeLookup_type, builtinLookup_eq_fast]; kernel_rfl
/-- the line ends' substitution -/
theorem sub2 {h₀ : Heap} {L : Addr} {m : Str → Option Value} {news : List (Addr × Obj)} {pa ca : Addr} {v0 v1 v3 v4 : Value} {its : Array Value} {n : Nat} {tg tk : Tok} {st rp : Str} {tb tr : Tok} {Q : Value → Shared → Prop}
    (hcode : (its.map reRawOf).map (·.toNat) = code2) (hsz : st.length ≤ 100) (hrp : rp.length ≤ 4) (hsl : rp.cps.contains 92 = false)
    (F : Fr h₀ L s.heap m) (N : News h₀ L s.heap news)
    (hp : s.heap.get? pa = some { cls := .type "re.Pattern", data := .fields #[v0, v1, .int 0 tg, v3, v4, .ref ca, .int 0 tk] })
    (hc : s.heap.get? ca = some { cls := .type "tuple", data := .seq its n })
    (h : ∀ h' tk' t, Fr h₀ L h' m → News h₀ L h' news → Q (.str ⟨out2 st.cps rp.cps st.length 0⟩ t) { s with heap := h', toks := tk' }) :
    wpAny (model prog w) A (call (.builtin "re.Pattern.sub") [.ref pa, .str rp tr, .str st tb]) Q E s := by
  have hP : s.TypeIs (.ref pa) "re.Pattern" := ⟨_, hp, rfl⟩
  have hT := typeIs_str s rp tr
  refine wpAny_call_again slot_pat_sub hP entry_pat_sub ?_ (args_pat_sub _ _ _)
  unfold Builtin.«re.Pattern.sub» reSubstitute
  refine wpAny_bind (wpAny_of_eq (named3 _ _) ?_)
  wp_walk using wpAny_of_eq ql_str
  rw [if_pos (by rw [hsl]; rfl)]
  wp_walk using (whole2 hp hc)
  refine ⟨_, rfl, plainId_quiet plain_pat_loop _, ?_⟩
  have F1 := F.push { cls := .type "list", data := .seq #[] }
  have N1 := N.push F { cls := .type "list", data := .seq #[] }
  have hsz' : st.cps.size = st.length := rfl
  refine loop2 (xs := []) (nd := 0) (dn := 0) (cnt := 0) hcode (Nat.ne_of_lt (Heap.lt_size hp)) (Nat.ne_of_lt (Heap.lt_size hc)) (by omega) hrp st.length (by omega) (by omega) (by simp) (by simp) (Heap.get?_push_of_some _ hp) (Heap.get?_push_of_some _ hc) (N1 _ (.head _)).1 ?_
  intro h' tk' t ps' nd' sb hD
  have hne := (N1 _ (.head _)).2
  have := h h' tk' t (F1.change sb hne.1 hne.2) (fun p hp => (News.setHead N1 N.apart sb hD) p (.tail _ hp))
  simpa [glueS] using this
end
end
end Mine
end
section
open PySem PySem.W PyProof.Rows PySem.Spec PySem.Calls
namespace Mine
open_top hd for PySem.Challenge.rw_rw0043_01
/-! A1 -/
/-! the text's nested defs as terms -/
noncomputable def topStmt (i : Nat) : Stmt := PySem.Challenge.pw_rw0043_01.main.body.getD i (.Pass ⟨0,0,0,0⟩)
noncomputable def defIn (st : Stmt) (j : Nat) : Stmt := match st with
  | .FunctionDef _ _ body .. => body.getD j (.Pass ⟨0,0,0,0⟩)
  | _ => st
noncomputable def bodyOf (st : Stmt) : List Stmt := match st with
  | .FunctionDef _ _ body .. => body
  | _ => []
noncomputable def argsOf (st : Stmt) : Arguments := match st with
  | .FunctionDef _ a .. => a
  | _ => { posonlyargs := [], args := [], vararg := none, kwonlyargs := [], kw_defaults := [], kwarg := none, defaults := [] }
noncomputable def scopeOf (st : Stmt) : Scope := match st with
  | .FunctionDef (scope := s) .. => s
  | _ => { kind := .module, names := [], isGenerator := false, isCoroutine := false, more := [] }
noncomputable def lit {α : Type} {a : α} (b : α) (_ : b = a) : α := b
noncomputable def d2iBody : List Stmt := lit (a := bodyOf (defIn (topStmt 6) 0)) _ (by conv => rhs; whnf)
noncomputable def d2iArgs : Arguments := lit (a := argsOf (defIn (topStmt 6) 0)) _ (by conv => rhs; whnf)
noncomputable def d2iScope : Scope := lit (a := scopeOf (defIn (topStmt 6) 0)) _ (by conv => rhs; whnf)
noncomputable def i2dBody : List Stmt := lit (a := bodyOf (defIn (topStmt 5) 1)) _ (by conv => rhs; whnf)
noncomputable def i2dArgs : Arguments := lit (a := argsOf (defIn (topStmt 5) 1)) _ (by conv => rhs; whnf)
noncomputable def i2dScope : Scope := lit (a := scopeOf (defIn (topStmt 5) 1)) _ (by conv => rhs; whnf)
noncomputable def qual1 : Str := (Str.ofString "_digits2int" ++ Str.ofString ".<locals>.") ++ Str.ofString "inner"
noncomputable def qual2 : Str := (Str.ofString "_int2digits" ++ Str.ofString ".<locals>.") ++ Str.ofString "inner"
/-! ledgers with a tail -/
theorem allNe {d L' : Addr} : ∀ {l : List (Addr × Obj)}, AllLt L' l → (@LE.le Nat _ L' d) → ∀ p ∈ l, p.1 ≠ d
  | [], _, _ => fun _ h => nomatch h
  | _ :: _, h, hl => List.forall_mem_cons.mpr ⟨Nat.ne_of_lt (Nat.lt_of_lt_of_le h.1 hl), allNe h.2 hl⟩
theorem allLt_mem {d : Addr} : ∀ {l : List (Addr × Obj)}, AllLt d l → ∀ p ∈ l, p.1 < d
  | [], _, _, h => nomatch h
  | _ :: _, x, p, h => by
    rcases List.mem_cons.mp h with rfl | h
    · exact x.1
    · exact allLt_mem x.2 p h
/-! a list of digits as a number, the lowest first -/
noncomputable def val (k : Int) : List Int → Int
  | [] => 0
  | d :: r => d + 2 ^ k.toNat * val k r
theorem val_append (k : Int) : ∀ xs ys : List Int, val k (xs ++ ys) = val k xs + 2 ^ (k.toNat * xs.length) * val k ys
  | [], ys => by simp [val]
  | d :: r, ys => by
    simp only [List.cons_append, val, val_append k r ys, List.length_cons, Nat.mul_add, Nat.mul_one, Int.pow_add, Int.mul_add]
    rw [Int.add_assoc, Int.mul_comm (2 ^ (k.toNat * r.length)) (2 ^ k.toNat), Int.mul_assoc]
noncomputable def seg (ns : List Int) (L R : Int) : List Int := (ns.drop L.toNat).take (R - L).toNat
theorem seg_one {ns : List Int} {L : Int} (h0 : 0 ≤ L) (h1 : L < ns.length) : seg ns L (L + 1) = [ns.getD L.toNat 0] := by
  unfold seg
  have : (L + 1 - L).toNat = 1 := by omega
  rw [this]
  have hl : L.toNat < ns.length := by omega
  rw [List.take_one, List.head?_drop, List.getD_eq_getElem?_getD, List.getElem?_eq_getElem hl]
  rfl
theorem seg_split {ns : List Int} {L M R : Int} (h0 : 0 ≤ L) (h1 : L ≤ M) (h2 : M ≤ R) (h3 : R ≤ ns.length) : seg ns L R = seg ns L M ++ seg ns M R := by
  unfold seg
  have e1 : (R - L).toNat = (M - L).toNat + (R - M).toNat := by omega
  have e2 : M.toNat = L.toNat + (M - L).toNat := by omega
  rw [e1, List.take_add, List.drop_drop, e2]
theorem seg_length {ns : List Int} {L R : Int} (h0 : 0 ≤ L) (h2 : L ≤ R) (h3 : R ≤ ns.length) : (seg ns L R).length = (R - L).toNat := by
  unfold seg
  simp only [List.length_take, List.length_drop]
  omega
theorem seg_all (ns : List Int) : seg ns 0 ns.length = ns := by
  unfold seg
  simp
theorem val_split {k : Int} {ns : List Int} {L M R : Int} (hk : 0 ≤ k) (h0 : 0 ≤ L) (h1 : L ≤ M) (h2 : M ≤ R) (h3 : R ≤ ns.length) :
    val k (seg ns M R) * 2 ^ ((M - L) * k).toNat + val k (seg ns L M) = val k (seg ns L R) := by
  rw [seg_split h0 h1 h2 h3, val_append, seg_length h0 h1 (by omega), Int.mul_comm, Int.add_comm]
  have : ((M - L) * k).toNat = k.toNat * (M - L).toNat := by
    rw [Int.toNat_mul (by omega) hk, Nat.mul_comm]
  rw [this]
theorem val_bound {k : Int} (hk : k ≤ 9) {b : Nat} : ∀ {ns : List Int}, (∀ d ∈ ns, 0 ≤ d ∧ d < 2 ^ b) → 0 ≤ val k ns ∧ val k ns < 2 ^ (b + 10 * ns.length)
  | [], _ => ⟨Int.le_refl _, by show (0 : Int) < 2 ^ (b + 10 * 0); exact Int.pow_pos (by decide)⟩
  | d :: r, h => by
    have ih := val_bound (k := k) hk (ns := r) fun d hd => h d (.tail _ hd)
    have hd := h d (.head _)
    have hp : (0 : Int) < 2 ^ k.toNat := Int.pow_pos (by decide)
    have hp9 : (2 : Int) ^ k.toNat ≤ 512 := by
      have h1 : k.toNat ≤ 9 := by omega
      have := Nat.pow_le_pow_right (n := 2) (by decide) h1
      exact_mod_cast this
    have hq : (2 : Int) ^ b ≤ 2 ^ (b + 10 * r.length) := by
      have := Nat.pow_le_pow_right (n := 2) (by decide) (Nat.le_add_right b (10 * r.length))
      exact_mod_cast this
    have e : (2 : Int) ^ (b + 10 * (d :: r).length) = 1024 * 2 ^ (b + 10 * r.length) := by
      rw [List.length_cons, Nat.mul_add, ← Nat.add_assoc, Int.pow_add, Int.mul_comm]; rfl
    constructor
    · exact Int.add_nonneg hd.1 (Int.mul_nonneg (Int.le_of_lt hp) ih.1)
    · show d + 2 ^ k.toNat * val k r < _
      rw [e]
      have h1 : 2 ^ k.toNat * val k r ≤ 512 * val k r := Int.mul_le_mul_of_nonneg_right hp9 ih.1
      omega
theorem seg_mem {ns : List Int} {L R : Int} {d : Int} (h : d ∈ seg ns L R) : d ∈ ns := List.mem_of_mem_drop (List.mem_of_mem_take h)
theorem bits_of {x : Int} {m : Nat} (h0 : 0 ≤ x) (h : x < 2 ^ m) : Builtin.Int.intBits x ≤ m := by
  rw [intBits_le_iff]
  have e : (x.natAbs : Int) = x := by omega
  have : (x.natAbs : Int) < ((2 ^ m : Nat) : Int) := by rw [e]; simpa using h
  exact_mod_cast this
theorem val_bits {k : Int} (hk : k ≤ 9) {ns : List Int} (h : ∀ d ∈ ns, 0 ≤ d ∧ d < 2 ^ 20) (hl : ns.length ≤ 32) (L R : Int) : Builtin.Int.intBits (val k (seg ns L R)) ≤ 340 := by
  have hb := val_bound hk (ns := seg ns L R) (b := 20) fun d hd => h d (seg_mem hd)
  refine Nat.le_trans (bits_of hb.1 hb.2) ?_
  have : (seg ns L R).length ≤ ns.length := by
    unfold seg
    simp only [List.length_take, List.length_drop]
    omega
  omega
theorem shl_fits {a n : Int} {m : Nat} (ha : Builtin.Int.intBits a ≤ m) (hm : m ≤ 1000) (hn : n ≤ 1000) : (Builtin.Int.intBits a : Int) + n ≤ 2 ^ 27 := by
  have e : (2 : Int) ^ 27 = 134217728 := by decide
  rw [e]
  omega
theorem mid_facts {x y : Int} (h0 : 0 ≤ x) (h1 : x < y) (h2 : x + 1 ≠ y) : x < (x + y).fdiv (2 ^ Int.toNat 1) ∧ (x + y).fdiv (2 ^ Int.toNat 1) < y := by
  have e : (2 : Int) ^ Int.toNat 1 = 2 := rfl
  rw [e, Int.fdiv_eq_ediv_of_nonneg _ (by decide)]
  omega
theorem shift_facts {x y k : Int} (h : x ≤ y) (hd : y - x ≤ 32) (hk0 : 0 ≤ k) (hk9 : k ≤ 9) : 0 ≤ (y - x) * k ∧ (y - x) * k ≤ 1000 := by
  refine ⟨Int.mul_nonneg (by omega) hk0, ?_⟩
  have h1 : (y - x) * k ≤ 32 * k := Int.mul_le_mul_of_nonneg_right hd hk0
  omega
theorem val_one {k : Int} {ns : List Int} {x y : Int} (h0 : 0 ≤ x) (h1 : x < y) (h2 : y ≤ ns.length) (e : x + 1 = y) : ns.getD x.toNat 0 = val k (seg ns x y) := by
  subst e
  rw [seg_one h0 (by omega)]
  simp [val]
theorem item_ints {prog : Program} {w : World} {A : Around} {E : Value → Shared → Prop} {s : Shared} {Q : Value → Shared → Prop} {value slice : PySem.Expr} {l : Addr} {vs : List Value} {ns : List Int} {i : Int} {u : Tok}
    (hl : s.heap.IsList l vs.toArray) (hi : IntsAre vs ns) (h0 : 0 ≤ i) (h1 : i < ns.length) (hn : ns.length < 2 ^ 62) (h : ∀ t, Q (.int (ns.getD i.toNat 0) t) s)
    (hs : subscripted slice false (.ref l) (.int i u) = operate [.ref l, .int i u] (getItem (.ref l) (.int i u)) := by with_unfolding_all rfl) :
    wpAny (model prog w) A (subscriptTail value slice (.ref l) (.int i u)) Q E s := by
  have hj : i.toNat < ns.length := by omega
  obtain ⟨t, ht⟩ := hi.get i.toNat (ns.getD i.toNat 0) (by rw [List.getD_eq_getElem?_getD, List.getElem?_eq_getElem hj]; rfl)
  exact tail_any hl.typeIs slot_list_getitem.lookup (wpAny_getItem_list hl h0 (by omega) (by simpa using ht) (h t)) hs
section
variable {prog : Program} {w : World} {A : Around} {E : Value → Shared → Prop} {s : Shared} {l : Addr} {vs : List Value} {ns : List Int}
theorem truthy_ints {Q : Bool → Shared → Prop} (hl : s.heap.IsList l vs.toArray) (hi : IntsAre vs ns) (hn : ns.length < 2 ^ 62) (h : Q (decide (0 < ns.length)) { s with toks := s.toks + 1 + 1 }) : wpAny (model prog w) A (truthy (.ref l)) Q E s := by
  have hv := hi.length
  refine wpAny_truthy_list hl (by rw [List.size_toArray, hv]; omega) ?_
  have e : (!vs.toArray.isEmpty) = decide (0 < ns.length) := by
    rw [← hv]
    cases vs <;> simp
  rw [e]
  exact h
theorem len_ints {Q : Value → Shared → Prop} (hl : s.heap.IsList l vs.toArray) (hi : IntsAre vs ns) (hn : ns.length < 2 ^ 62) (h : Q (.int (ns.length : Nat) (s.toks + 1)) { s with toks := s.toks + 1 + 1 }) : wpAny (model prog w) A (call (.builtin "len") [.ref l]) Q E s := by
  have hv := hi.length
  refine len_list hl (by rw [List.size_toArray, hv]; omega) ?_
  rw [List.size_toArray, hv]
  exact h
end
/-! A2 -/
/-! a number's digits, the lowest first -/
noncomputable def digs (k : Int) : Nat → Int → List Int
  | 0, _ => []
  | c + 1, x => x % 2 ^ k.toNat :: digs k c (x / 2 ^ k.toNat)
theorem pow_pos' (n : Nat) : (0 : Int) < 2 ^ n := Int.pow_pos (by decide)
theorem digs_length (k : Int) : ∀ (c : Nat) (x : Int), (digs k c x).length = c
  | 0, _ => rfl
  | c + 1, x => by simp [digs, digs_length k c]
theorem digs_mem {k : Int} : ∀ {c : Nat} {x d : Int}, d ∈ digs k c x → 0 ≤ d ∧ d < 2 ^ k.toNat
  | 0, _, _, h => nomatch h
  | c + 1, x, d, h => by
    rcases List.mem_cons.mp h with e | h
    · subst e
      exact ⟨Int.emod_nonneg _ (Int.ne_of_gt (pow_pos' _)), Int.emod_lt_of_pos _ (pow_pos' _)⟩
    · exact digs_mem h
theorem digs_zero (k : Int) : ∀ c : Nat, digs k c 0 = List.replicate c 0
  | 0 => rfl
  | c + 1 => by simp [digs, digs_zero k c, List.replicate_succ]
theorem digs_one {k x : Int} (h0 : 0 ≤ x) (h1 : x < 2 ^ k.toNat) : digs k 1 x = [x] := by
  simp [digs, Int.emod_eq_of_lt h0 h1]
theorem pow_split (a b : Nat) : (2 : Int) ^ (a + b) = 2 ^ a * 2 ^ b := Int.pow_add _ _ _
theorem lt_div {x : Int} {a b : Nat} (h : x < 2 ^ (a + b)) : x / 2 ^ a < 2 ^ b := by
  rw [pow_split] at h
  exact Int.ediv_lt_of_lt_mul (pow_pos' _) (by rw [Int.mul_comm]; exact h)
theorem val_digs {k : Int} : ∀ {c : Nat} {x : Int}, 0 ≤ x → x < 2 ^ (k.toNat * c) → val k (digs k c x) = x
  | 0, x, h0, h1 => by simp at h1; show (0 : Int) = x; omega
  | c + 1, x, h0, h1 => by
    show x % 2 ^ k.toNat + 2 ^ k.toNat * val k (digs k c (x / 2 ^ k.toNat)) = x
    rw [val_digs (Int.ediv_nonneg h0 (Int.le_of_lt (pow_pos' _))) (lt_div (by rw [Nat.add_comm, ← Nat.mul_succ]; exact h1))]
    exact Int.emod_add_mul_ediv x (2 ^ k.toNat)
theorem digs_val {k : Int} : ∀ {ds : List Int}, (∀ d ∈ ds, 0 ≤ d ∧ d < 2 ^ k.toNat) → digs k ds.length (val k ds) = ds
  | [], _ => rfl
  | d :: r, h => by
    have hd := h d (.head _)
    show (d + 2 ^ k.toNat * val k r) % 2 ^ k.toNat :: digs k r.length ((d + 2 ^ k.toNat * val k r) / 2 ^ k.toNat) = d :: r
    rw [Int.add_mul_emod_self_left, Int.emod_eq_of_lt hd.1 hd.2, Int.add_mul_ediv_left _ _ (Int.ne_of_gt (pow_pos' _)), Int.ediv_eq_zero_of_lt hd.1 hd.2, Int.zero_add, digs_val fun d hd => h d (.tail _ hd)]
theorem digs_append {k : Int} : ∀ (a b : Nat) (x : Int), digs k (a + b) x = digs k a (x % 2 ^ (k.toNat * a)) ++ digs k b (x / 2 ^ (k.toNat * a))
  | 0, b, x => by simp [digs]
  | a + 1, b, x => by
    rw [Nat.succ_add]
    show x % 2 ^ k.toNat :: digs k (a + b) (x / 2 ^ k.toNat) = x % 2 ^ (k.toNat * (a + 1)) % 2 ^ k.toNat :: (digs k a (x % 2 ^ (k.toNat * (a + 1)) / 2 ^ k.toNat) ++ _)
    rw [digs_append a b]
    have e : (2 : Int) ^ (k.toNat * (a + 1)) = 2 ^ k.toNat * 2 ^ (k.toNat * a) := by rw [Nat.mul_succ, Nat.add_comm, pow_split]
    have h1 : x % 2 ^ (k.toNat * (a + 1)) % 2 ^ k.toNat = x % 2 ^ k.toNat := by
      rw [e]; exact Int.emod_emod_of_dvd x (Int.dvd_mul_right _ _)
    have h2 : x % 2 ^ (k.toNat * (a + 1)) / 2 ^ k.toNat = x / 2 ^ k.toNat % 2 ^ (k.toNat * a) := by
      rw [e]
      have hp := pow_pos' k.toNat
      generalize (2 : Int) ^ k.toNat = p at *
      generalize (2 : Int) ^ (k.toNat * a) = q at *
      rw [Int.emod_def, ← Int.ediv_ediv_of_nonneg (Int.le_of_lt hp), Int.emod_def, Int.mul_assoc, Int.sub_eq_add_neg, ← Int.mul_neg, Int.add_mul_ediv_left _ _ (Int.ne_of_gt hp), Int.sub_eq_add_neg]
    have h3 : x / 2 ^ (k.toNat * (a + 1)) = x / 2 ^ k.toNat / 2 ^ (k.toNat * a) := by
      rw [e, Int.ediv_ediv_of_nonneg (Int.le_of_lt (pow_pos' _))]
    rw [h1, h2, h3]
theorem digs_pad {k : Int} {c d : Nat} {x : Int} (h0 : 0 ≤ x) (h1 : x < 2 ^ (k.toNat * c)) : digs k (c + d) x = digs k c x ++ List.replicate d 0 := by
  rw [digs_append, Int.emod_eq_of_lt h0 h1, Int.ediv_eq_zero_of_lt h0 h1, digs_zero]
/-- xs laid over ds from place p on -/
noncomputable def put (ds : List Int) (p : Int) (xs : List Int) : List Int := ds.take p.toNat ++ (xs ++ ds.drop (p.toNat + xs.length))
theorem put_length {ds xs : List Int} {p : Int} (h : p.toNat + xs.length ≤ ds.length) : (put ds p xs).length = ds.length := by
  unfold put
  simp only [List.length_append, List.length_take, List.length_drop]
  omega
theorem put_one {ds : List Int} {p x : Int} (h : p.toNat < ds.length) : ds.set p.toNat x = put ds p [x] := by
  unfold put
  rw [List.set_eq_take_append_cons_drop, if_pos h]
  rfl
theorem put_put {ds xs ys : List Int} {p q : Int} (h0 : 0 ≤ p) (hq : q = p + xs.length) (h : p.toNat + xs.length + ys.length ≤ ds.length) : put (put ds p xs) q ys = put ds p (xs ++ ys) := by
  subst hq
  unfold put
  have e : (p + (xs.length : Int)).toNat = p.toNat + xs.length := by omega
  rw [e]
  have hl : (ds.take p.toNat).length = p.toNat := by simp only [List.length_take]; omega
  have e1 : (ds.take p.toNat ++ (xs ++ ds.drop (p.toNat + xs.length))).take (p.toNat + xs.length) = ds.take p.toNat ++ xs := by
    rw [← List.append_assoc, List.take_append_of_le_length (by simp only [List.length_append, hl]; omega), List.take_of_length_le (by simp only [List.length_append, hl]; omega)]
  have e2 : (ds.take p.toNat ++ (xs ++ ds.drop (p.toNat + xs.length))).drop (p.toNat + xs.length + ys.length) = ds.drop (p.toNat + (xs ++ ys).length) := by
    rw [← List.append_assoc, List.drop_append, List.drop_of_length_le (by simp only [List.length_append, hl]; omega), List.nil_append, List.drop_drop]
    congr 1
    simp only [List.length_append, hl]
    omega
  rw [e1, e2, List.append_assoc, List.append_assoc]
theorem put_all {ds xs : List Int} (h : xs.length = ds.length) : put ds 0 xs = xs := by
  unfold put
  simp [h]
theorem and_high (x s : Nat) : x &&& ((x >>> s) <<< s) = (x >>> s) <<< s := by
  apply Nat.eq_of_testBit_eq
  intro i
  simp only [Nat.testBit_and, Nat.testBit_shiftLeft, Nat.testBit_shiftRight]
  by_cases h : i ≥ s
  · have : s + (i - s) = i := by omega
    simp [h, this]
  · simp [h]
theorem lower_is {x : Int} {s : Nat} (h0 : 0 ≤ x) : Builtin.bitXor x (x / 2 ^ s * 2 ^ s) = x % 2 ^ s := by
  have hu : (0 : Int) ≤ x / 2 ^ s * 2 ^ s := Int.mul_nonneg (Int.ediv_nonneg h0 (Int.le_of_lt (pow_pos' _))) (Int.le_of_lt (pow_pos' _))
  have hx : (x.toNat : Int) = x := Int.toNat_of_nonneg h0
  have e : x / 2 ^ s * 2 ^ s = (((x.toNat >>> s) <<< s : Nat) : Int) := by
    rw [Nat.shiftLeft_eq, Nat.shiftRight_eq_div_pow]
    rw [Int.natCast_mul, Int.natCast_ediv, hx]
    simp
  rw [bitXor_and, bitAnd_pp h0 hu]
  have e2 : (x / 2 ^ s * 2 ^ s).toNat = (x.toNat >>> s) <<< s := by rw [e]; exact Int.toNat_natCast _
  rw [e2, and_high, ← e, Int.emod_def]
  rw [Int.mul_comm (2 ^ s) (x / 2 ^ s)]
  omega
theorem i2d_split {z x y k mid : Int} {ds : List Int} (hk0 : 0 ≤ k) (hk9 : k ≤ 9) (h0 : 0 ≤ x) (h1 : x < mid) (h2 : mid < y) (hy : y ≤ ds.length) (h32 : y - x ≤ 32) (hz0 : 0 ≤ z) (hz : z < 2 ^ (k.toNat * (y - x).toNat)) :
    (0 ≤ Builtin.bitXor z (z.fdiv (2 ^ ((mid - x) * k).toNat) * 2 ^ ((mid - x) * k).toNat) ∧ Builtin.bitXor z (z.fdiv (2 ^ ((mid - x) * k).toNat) * 2 ^ ((mid - x) * k).toNat) < 2 ^ (k.toNat * (mid - x).toNat)) ∧
    (0 ≤ z.fdiv (2 ^ ((mid - x) * k).toNat) ∧ z.fdiv (2 ^ ((mid - x) * k).toNat) < 2 ^ (k.toNat * (y - mid).toNat)) ∧ Builtin.Int.intBits (z.fdiv (2 ^ ((mid - x) * k).toNat)) ≤ 340 ∧
    put (put ds x (digs k (mid - x).toNat (Builtin.bitXor z (z.fdiv (2 ^ ((mid - x) * k).toNat) * 2 ^ ((mid - x) * k).toNat)))) mid (digs k (y - mid).toNat (z.fdiv (2 ^ ((mid - x) * k).toNat))) = put ds x (digs k (y - x).toNat z) := by
  have eS : ((mid - x) * k).toNat = k.toNat * (mid - x).toNat := by rw [Int.toNat_mul (by omega) hk0, Nat.mul_comm]
  have eL : (y - x).toNat = (mid - x).toNat + (y - mid).toNat := by omega
  rw [eS]
  have hz2 := hz
  rw [eL, Nat.mul_add] at hz2
  have ef : z.fdiv (2 ^ (k.toNat * (mid - x).toNat)) = z / 2 ^ (k.toNat * (mid - x).toNat) := Int.fdiv_eq_ediv_of_nonneg _ (Int.le_of_lt (pow_pos' _))
  rw [ef, lower_is hz0]
  have hu0 : 0 ≤ z / 2 ^ (k.toNat * (mid - x).toNat) := Int.ediv_nonneg hz0 (Int.le_of_lt (pow_pos' _))
  have hu1 := lt_div hz2
  refine ⟨⟨Int.emod_nonneg _ (Int.ne_of_gt (pow_pos' _)), Int.emod_lt_of_pos _ (pow_pos' _)⟩, ⟨hu0, hu1⟩, ?_, ?_⟩
  · refine Nat.le_trans (bits_of hu0 hu1) ?_
    have h9 : k.toNat ≤ 9 := by omega
    have h3 : (y - mid).toNat ≤ 32 := by omega
    have := Nat.mul_le_mul h9 h3
    omega
  · rw [put_put h0 (by rw [digs_length]; omega) (by rw [digs_length, digs_length]; omega), eL, digs_append]
theorem i2d_len {a k : Int} (h0 : 0 ≤ a) (hk : 1 ≤ k) : 0 ≤ (((Builtin.Int.intBits a : Nat) : Int) + k - 1).fdiv k ∧ a < 2 ^ (k.toNat * ((((Builtin.Int.intBits a : Nat) : Int) + k - 1).fdiv k).toNat) ∧
    ∀ N : Nat, a < 2 ^ (k.toNat * N) → ((((Builtin.Int.intBits a : Nat) : Int) + k - 1).fdiv k).toNat ≤ N := by
  rw [Int.fdiv_eq_ediv_of_nonneg _ (by omega)]
  have hc0 : 0 ≤ (((Builtin.Int.intBits a : Nat) : Int) + k - 1) / k := Int.ediv_nonneg (by omega) (by omega)
  have e1 := Int.mul_ediv_add_emod (((Builtin.Int.intBits a : Nat) : Int) + k - 1) k
  have e2 := Int.emod_lt_of_pos (((Builtin.Int.intBits a : Nat) : Int) + k - 1) (show 0 < k by omega)
  have e3 := Int.emod_nonneg (((Builtin.Int.intBits a : Nat) : Int) + k - 1) (show k ≠ 0 by omega)
  refine ⟨hc0, ?_, fun N hN => ?_⟩
  · have hb : a.natAbs < 2 ^ Builtin.Int.intBits a := intBits_le_iff.mp (Nat.le_refl _)
    have hle : Builtin.Int.intBits a ≤ k.toNat * ((((Builtin.Int.intBits a : Nat) : Int) + k - 1) / k).toNat := by
      have : ((Builtin.Int.intBits a : Nat) : Int) ≤ k * ((((Builtin.Int.intBits a : Nat) : Int) + k - 1) / k) := by omega
      have e : ((k.toNat * ((((Builtin.Int.intBits a : Nat) : Int) + k - 1) / k).toNat : Nat) : Int) = k * ((((Builtin.Int.intBits a : Nat) : Int) + k - 1) / k) := by
        rw [Int.natCast_mul, Int.toNat_of_nonneg (by omega), Int.toNat_of_nonneg hc0]
      exact_mod_cast e ▸ this
    have h2 := Nat.lt_of_lt_of_le hb (Nat.pow_le_pow_right (by decide) hle)
    have h3 : ((a.natAbs : Nat) : Int) < ((2 ^ (k.toNat * ((((Builtin.Int.intBits a : Nat) : Int) + k - 1) / k).toNat) : Nat) : Int) := by exact_mod_cast h2
    have h4 : ((a.natAbs : Nat) : Int) = a := by omega
    rw [h4] at h3
    simpa using h3
  · have hb := bits_of h0 hN
    have hb' : ((Builtin.Int.intBits a : Nat) : Int) ≤ k * (N : Int) := by
      have e : ((k.toNat * N : Nat) : Int) = k * (N : Int) := by rw [Int.natCast_mul, Int.toNat_of_nonneg (by omega)]
      rw [← e]
      exact_mod_cast hb
    have h1 : (((Builtin.Int.intBits a : Nat) : Int) + k - 1) / k < (N : Int) + 1 := Int.ediv_lt_of_lt_mul (by omega) (by rw [Int.add_mul, Int.one_mul, Int.mul_comm (N : Int) k]; omega)
    omega
theorem rep_items (v : Value) (c : Nat) : List.foldl (fun x1 x2 => x1 ++ x2) (#[] : Array Value) (List.replicate c #[v]) = (List.replicate c v).toArray := by
  have key : ∀ (c : Nat) (acc : Array Value), List.foldl (fun x1 x2 => x1 ++ x2) acc (List.replicate c #[v]) = acc ++ (List.replicate c v).toArray := by
    intro c
    induction c with
    | zero => intro acc; simp
    | succ c ih =>
      intro acc
      rw [List.replicate_succ, List.foldl_cons, ih, List.replicate_succ]
      apply Array.toList_inj.mp
      simp
  rw [key]
  simp
section
variable {prog : Program} {w : World} {A : Around} {E : Value → Shared → Prop} {s : Shared} {h₀ : Heap} {L : Addr} {m : Str → Option Value} {news : List (Addr × Obj)}
theorem allLt_size {h : Heap} : ∀ {l : List (Addr × Obj)}, (∀ p ∈ l, h.get? p.1 = some p.2) → AllLt h.objs.size l
  | [], _ => trivial
  | p :: _, H => ⟨Heap.lt_size (H p (.head _)), allLt_size fun q hq => H q (.tail _ hq)⟩
theorem mul_rep {l : Addr} {v : Value} {n : Nat} {x : Int} {u : Tok} {Q : Value → Shared → Prop} (F : Fr h₀ L s.heap m) (N : News h₀ L s.heap news) (hm : (l, listOf #[v] n) ∈ news) (h0 : 0 ≤ x) (hx : x ≤ 10000)
    (h : ∀ l' h', Fr h₀ L h' m → News h₀ L h' ((l', listOf (List.replicate x.toNat v).toArray 0) :: news) → AllLt l' news → Q (.ref l') { s with heap := h' }) :
    wpAny (model prog w) A (binaryOp .Mult (.ref l) (.int x u)) Q E s := by
  refine mul_list F N (N _ hm).1 (by omega) (by omega) (by show 1 * x.toNat ≤ 2 ^ 24; omega) fun h' F' N' => ?_
  have e : (if (#[v] : Array Value).isEmpty = true then 0 else x.toNat) = x.toNat := rfl
  rw [e, rep_items] at N'
  exact h _ h' F' N' (allLt_size fun p hp => (N p hp).1)
end
theorem news_two {h₀ h : Heap} {L : Addr} {x y : Addr × Obj} {r : List (Addr × Obj)} (N : News h₀ L h (x :: y :: r)) : News h₀ L h (y :: x :: r) := fun p hp => N p (by
  rcases List.mem_cons.mp hp with rfl | hp
  · exact .tail _ (.head _)
  · rcases List.mem_cons.mp hp with rfl | hp
    · exact .head _
    · exact .tail _ (.tail _ hp))
theorem news_three {h₀ h : Heap} {L : Addr} {x y z : Addr × Obj} {r : List (Addr × Obj)} (N : News h₀ L h (x :: y :: z :: r)) : News h₀ L h (z :: x :: y :: r) := fun p hp => N p (by
  rcases List.mem_cons.mp hp with rfl | hp
  · exact .tail _ (.tail _ (.head _))
  · rcases List.mem_cons.mp hp with rfl | hp
    · exact .head _
    · rcases List.mem_cons.mp hp with rfl | hp
      · exact .tail _ (.head _)
      · exact .tail _ (.tail _ (.tail _ hp)))
theorem ints_rep (i : Int) (t : Tok) : ∀ c : Nat, IntsAre (List.replicate c (.int i t)) (List.replicate c i)
  | 0 => .nil
  | c + 1 => .cons i t (ints_rep i t c)
/-! A3 -/
theorem ints_app : ∀ {vs : List Value} {xs : List Int} {ws : List Value} {ys : List Int}, IntsAre vs xs → IntsAre ws ys → IntsAre (vs ++ ws) (xs ++ ys)
  | _, _, _, _, .nil, h => h
  | _, _, _, _, .cons n t h, h2 => .cons n t (ints_app h h2)
theorem ints_rev : ∀ {vs : List Value} {xs : List Int}, IntsAre vs xs → IntsAre vs.reverse xs.reverse
  | _, _, .nil => .nil
  | _, _, .cons n t h => by
    rw [List.reverse_cons, List.reverse_cons]
    exact ints_app (ints_rev h) (.cons n t .nil)
theorem off1_all {D : Addr} : ∀ {l : List (Addr × Obj)}, LCg.Off1 D l → ∀ p ∈ l, p.1 ≠ D
  | [], _, _, h => nomatch h
  | _ :: _, x, p, h => by
    rcases List.mem_cons.mp h with rfl | h
    · exact x.1
    · exact off1_all x.2 p h
theorem srcAt_news {h₀ : Heap} {ax : Addr} {its : Array Value} {n : Nat} {news : List (Addr × Obj)} (h : (ax, listOf its n) ∈ news) : LCg.SrcAt h₀ ax its news := .inr ⟨_, h, rfl, _, rfl⟩
theorem fm_pos (x : Int) {k : Int} (hk : 0 ≤ k) : x.fmod k = x % k := Int.fmod_eq_emod_of_nonneg _ hk
theorem fd_pos (x : Int) {k : Int} (hk : 0 ≤ k) : x.fdiv k = x / k := Int.fdiv_eq_ediv_of_nonneg _ hk
theorem offI_lt {I : Addr} {it : Obj} : ∀ {l : List (Addr × Obj)}, (∀ p ∈ l, p.1 < I) → OffI I it l
  | [], _ => trivial
  | p :: _, h => ⟨.inl (Nat.ne_of_lt (h p (.head _))), offI_lt fun q hq => h q (.tail _ hq)⟩
section
variable {prog : Program} {w : World} {A : Around} {E : Value → Shared → Prop} {s : Shared} {env : Env} {h₀ : Heap} {x : Str} {body : List Stmt} {Q : Flow → Shared → Prop} {I : Addr} {lp : Addr × Obj}
theorem rev_ind (J : List Int → (Str → Option Value) → List (Addr × Obj) → Prop)
    (turn : ∀ d rs t m news it h tk, J (d :: rs) m news → it.cls = .type "list_reverseiterator" → Fr h₀ env.locals h (fun y => if y = x then some (.int d t) else m y) → News h₀ env.locals h ((I, it) :: news) →
      wpAny (model prog w) A (execs body env) (UnrPost h₀ env.locals { s with heap := h, toks := tk } I it (fun m' n' => lp ∈ n' ∧ J rs m' n') Q) E { s with heap := h, toks := tk })
    (done : ∀ m news h tk, J [] m news → Fr h₀ env.locals h m → News h₀ env.locals h news → Q .next { s with heap := h, toks := tk }) :
    ∀ {vs : List Value} {rs : List Int} {m : Str → Option Value} {news : List (Addr × Obj)}, IntsAre vs rs → J rs m news → RevRest prog w A E h₀ env x body Q s I lp vs m news := by
  intro vs rs m news hi
  induction hi generalizing m news with
  | nil => exact fun hj => RevRest.zero fun h tk F N => done m news h tk hj F N
  | @cons n t vs ns _ ih =>
    intro hj
    refine RevRest.succ fun it h tk hit F N => wpAny_mono (turn n ns t m news it h tk hj hit F N) (fun f s₂ q => ?_) fun _ _ e => e
    have key : UnrEnd h₀ env.locals { s with heap := h, toks := tk } I it (fun m' n' => lp ∈ n' ∧ J ns m' n') s₂ → UnrEnd h₀ env.locals { s with heap := h, toks := tk } I it (fun m' n' => lp ∈ n' ∧ RevRest prog w A E h₀ env x body Q s I lp vs m' n') s₂ := by
      rintro ⟨h', tk', m', news', e, F', N', off, hl, hJ⟩
      exact ⟨h', tk', m', news', e, F', N', off, hl, ih hJ⟩
    cases f with
    | ret v => exact q
    | brk => exact q
    | next => exact key q
    | cont => exact key q
theorem list_ind (J : List Int → (Str → Option Value) → List (Addr × Obj) → Prop)
    (turn : ∀ d rs t m news it h tk, J (d :: rs) m news → it.cls = .type "list_iterator" → Fr h₀ env.locals h (fun y => if y = x then some (.int d t) else m y) → News h₀ env.locals h ((I, it) :: news) →
      wpAny (model prog w) A (execs body env) (UnrPost h₀ env.locals { s with heap := h, toks := tk } I it (fun m' n' => lp ∈ n' ∧ J rs m' n') Q) E { s with heap := h, toks := tk })
    (done : ∀ m news h tk, J [] m news → Fr h₀ env.locals h m → News h₀ env.locals h news → Q .next { s with heap := h, toks := tk }) :
    ∀ {vs : List Value} {rs : List Int} {m : Str → Option Value} {news : List (Addr × Obj)}, IntsAre vs rs → J rs m news → ListRest prog w A E h₀ env x body Q s I lp vs m news := by
  intro vs rs m news hi
  induction hi generalizing m news with
  | nil => exact fun hj => ListRest.zero fun h tk F N => done m news h tk hj F N
  | @cons n t vs ns _ ih =>
    intro hj
    refine ListRest.succ fun it h tk hit F N => wpAny_mono (turn n ns t m news it h tk hj hit F N) (fun f s₂ q => ?_) fun _ _ e => e
    have key : UnrEnd h₀ env.locals { s with heap := h, toks := tk } I it (fun m' n' => lp ∈ n' ∧ J ns m' n') s₂ → UnrEnd h₀ env.locals { s with heap := h, toks := tk } I it (fun m' n' => lp ∈ n' ∧ ListRest prog w A E h₀ env x body Q s I lp vs m' n') s₂ := by
      rintro ⟨h', tk', m', news', e, F', N', off, hl, hJ⟩
      exact ⟨h', tk', m', news', e, F', N', off, hl, ih hJ⟩
    cases f with
    | ret v => exact q
    | brk => exact q
    | next => exact key q
    | cont => exact key q
end
section
variable {prog : Program} {w : World} {A : Around} {E : Value → Shared → Prop} {s : Shared} {env : Env} {h₀ : Heap} {x : Str} {body : List Stmt} {Q : Flow → Shared → Prop} {I : Addr}
theorem range_ind {a : Int} {n : Nat} (J : Nat → (Str → Option Value) → List (Addr × Obj) → Prop)
    (turn : ∀ i t m news it h tk, i < n → J i m news → it.cls = .type "range_iterator" → Fr h₀ env.locals h (fun y => if y = x then some (.int (a + (i : Int)) t) else m y) → News h₀ env.locals h ((I, it) :: news) →
      wpAny (model prog w) A (execs body env) (UnrPost h₀ env.locals { s with heap := h, toks := tk } I it (J (i + 1)) Q) E { s with heap := h, toks := tk })
    (done : ∀ m news h tk, J n m news → Fr h₀ env.locals h m → News h₀ env.locals h news → Q .next { s with heap := h, toks := tk }) :
    ∀ {k i : Nat} {m : Str → Option Value} {news : List (Addr × Obj)}, k + i = n → J i m news → RangeRest prog w A E h₀ env x body Q s I a n k i m news := by
  intro k
  induction k with
  | zero =>
    intro i m news e hj
    have : i = n := by omega
    subst this
    exact RangeRest.zero fun h tk F N => done m news h tk hj F N
  | succ k ih =>
    intro i m news e hj
    refine RangeRest.succ fun t h tk F N => wpAny_mono (turn i t m news _ h tk (by omega) hj rfl F N) (fun f s₂ q => ?_) fun _ _ e => e
    have key : UnrEnd h₀ env.locals { s with heap := h, toks := tk } I (itR (a + ((i + 1 : Nat) : Int)) ((n : Int) - ((i + 1 : Nat) : Int))) (J (i + 1)) s₂ →
        UnrEnd h₀ env.locals { s with heap := h, toks := tk } I (itR (a + ((i + 1 : Nat) : Int)) ((n : Int) - ((i + 1 : Nat) : Int))) (RangeRest prog w A E h₀ env x body Q s I a n k (i + 1)) s₂ := by
      rintro ⟨h', tk', m', news', e, F', N', off, hJ⟩
      exact ⟨h', tk', m', news', e, F', N', off, ih (by omega) hJ⟩
    cases f with
    | ret v => exact q
    | brk => exact q
    | next => exact key q
    | cont => exact key q
end
/-! Horner, the highest first -/
noncomputable def hv (k : Int) (acc : Int) (ds : List Int) : Int := ds.foldl (fun acc d => acc * 2 ^ k.toNat + d) acc
theorem hv_snoc (k acc q : Int) (qs : List Int) : hv k acc (qs ++ [q]) = hv k acc qs * 2 ^ k.toNat + q := by
  unfold hv
  rw [List.foldl_append]
  rfl
theorem hv_rev (k : Int) : ∀ ds : List Int, hv k 0 ds.reverse = val k ds
  | [] => rfl
  | d :: r => by
    rw [List.reverse_cons, hv_snoc, hv_rev k r]
    show val k r * 2 ^ k.toNat + d = d + 2 ^ k.toNat * val k r
    rw [Int.mul_comm, Int.add_comm]
theorem val_rev (k : Int) (qs : List Int) : val k qs.reverse = hv k 0 qs := by
  rw [← hv_rev, List.reverse_reverse]
theorem div_step {k b r d h : Int} {rs : List Int} (_hb : 0 < b) : hv k (b * (h * 2 ^ k.toNat + (r * 2 ^ k.toNat + d) / b) + (r * 2 ^ k.toNat + d) % b) rs = hv k (b * h + r) (d :: rs) := by
  show _ = hv k ((b * h + r) * 2 ^ k.toNat + d) rs
  congr 1
  have e := Int.mul_ediv_add_emod (r * 2 ^ k.toNat + d) b
  rw [Int.mul_add, Int.add_mul, ← Int.mul_assoc]
  omega
theorem div_size {k b r d : Int} (hk : k.toNat ≤ 9) (hb0 : 0 < b) (hb : b < 2 ^ 9) (hr0 : 0 ≤ r) (hr : r < b) (hd0 : 0 ≤ d) (hd : d < 2 ^ k.toNat) :
    (0 ≤ r * 2 ^ k.toNat + d ∧ r * 2 ^ k.toNat + d < 2 ^ 19) ∧ (0 ≤ (r * 2 ^ k.toNat + d) / b ∧ (r * 2 ^ k.toNat + d) / b < 2 ^ 20) ∧ (0 ≤ (r * 2 ^ k.toNat + d) % b ∧ (r * 2 ^ k.toNat + d) % b < b) := by
  have hp := pow_pos' k.toNat
  have hp9 : (2 : Int) ^ k.toNat ≤ 512 := by
    have := Nat.pow_le_pow_right (n := 2) (by decide) hk
    exact_mod_cast this
  generalize (2 : Int) ^ k.toNat = q at *
  have h1 : r * q ≤ 511 * q := Int.mul_le_mul_of_nonneg_right (by omega) (by omega)
  have h0 : 0 ≤ r * q := Int.mul_nonneg hr0 (by omega)
  have hx : 0 ≤ r * q + d := by omega
  refine ⟨⟨hx, by omega⟩, ⟨Int.ediv_nonneg hx (by omega), ?_⟩, Int.emod_nonneg _ (by omega), Int.emod_lt_of_pos _ hb0⟩
  have := Int.ediv_le_self b hx
  omega
theorem div_end {a b h r : Int} (e : b * h + r = a) (h0 : 0 ≤ r) (h1 : r < b) : h = a / b ∧ r = a % b := by
  subst e
  rw [Int.add_comm, Int.add_mul_emod_self_left, Int.emod_eq_of_lt h0 h1, Int.add_mul_ediv_left _ _ (by omega), Int.ediv_eq_zero_of_lt h0 h1, Int.zero_add]
  exact ⟨rfl, rfl⟩
/-! M1 -/
/-! the law's word in plain Lean -/
noncomputable def stepF (r : Int × Int × Int × Int) (o : Int) : Int × Int × Int × Int :=
  ((-64 * (r.2.2.2 + o)) % 257, (r.1 + 120 * (r.2.2.2 + o)) % 257, (r.2.1 - 70 * (r.2.2.2 + o)) % 257, (r.2.2.1 + 15 * (r.2.2.2 + o)) % 257)
/-- xs: the highest first -/
noncomputable def rems (xs : List Int) : Int × Int × Int × Int := xs.foldl stepF (0, 0, 0, 0)
noncomputable def checks (r : Int × Int × Int × Int) : List Int := [(-r.1) % 257, (-r.2.1) % 257, (-r.2.2.1) % 257, (-r.2.2.2) % 257]
noncomputable def wordOf (f : Int) (os : List Int) : List Int := checks (rems (f :: os).reverse) ++ f :: os
noncomputable def Small (r : Int × Int × Int × Int) : Prop := (0 ≤ r.1 ∧ r.1 < 257) ∧ (0 ≤ r.2.1 ∧ r.2.1 < 257) ∧ (0 ≤ r.2.2.1 ∧ r.2.2.1 < 257) ∧ (0 ≤ r.2.2.2 ∧ r.2.2.2 < 257)
theorem small_step (r : Int × Int × Int × Int) (o : Int) : Small (stepF r o) := by
  unfold Small stepF
  dsimp only
  omega
theorem small_fold : ∀ (xs : List Int) (r : Int × Int × Int × Int), Small r → Small (xs.foldl stepF r)
  | [], _, h => h
  | o :: xs, r, _ => small_fold xs (stepF r o) (small_step r o)
theorem small_rems (xs : List Int) : Small (rems xs) := small_fold xs _ (by unfold Small; decide)
theorem checks_mem {r : Int × Int × Int × Int} {d : Int} (h : d ∈ checks r) : 0 ≤ d ∧ d < 257 := by
  simp only [checks, List.mem_cons, List.not_mem_nil, or_false] at h
  omega
theorem wordOf_mem {f d : Int} {os : List Int} (hf : 0 ≤ f ∧ f < 257) (hos : ∀ d ∈ os, 0 ≤ d ∧ d < 257) (h : d ∈ wordOf f os) : 0 ≤ d ∧ d < 257 := by
  rcases List.mem_append.mp h with h | h
  · exact checks_mem h
  · rcases List.mem_cons.mp h with rfl | h
    · exact hf
    · exact hos d h
theorem wordOf_length (f : Int) (os : List Int) : (wordOf f os).length = os.length + 5 := by
  simp [wordOf, checks]
/-! one of the five fillers will do -/
theorem rems_filler (f : Int) (os : List Int) : rems (f :: os).reverse = stepF (rems os.reverse) f := by
  unfold rems
  rw [List.reverse_cons, List.foldl_append]
  rfl
/-- a check figure that is 256 for two of the fillers -/
theorem once {c x f g : Int} (hc : c = 64 ∨ c = 120 ∨ c = 70 ∨ c = 15) (hf : 0 ≤ f ∧ f ≤ 4) (hg : 0 ≤ g ∧ g ≤ 4) (h1 : (x + c * f) % 257 = 1) (h2 : (x + c * g) % 257 = 1) : f = g := by
  rcases hc with rfl | rfl | rfl | rfl <;> omega
theorem bad_at {f : Int} {r : Int × Int × Int × Int} (h : ¬ ∀ d ∈ checks (stepF r f), d < 256) :
    (-64 * (r.2.2.2 + f)) % 257 = 1 ∨ (r.1 + 120 * (r.2.2.2 + f)) % 257 = 1 ∨ (r.2.1 - 70 * (r.2.2.2 + f)) % 257 = 1 ∨ (r.2.2.1 + 15 * (r.2.2.2 + f)) % 257 = 1 := by
  apply Classical.byContradiction
  intro q
  apply h
  intro d hd
  simp only [checks, stepF, List.mem_cons, List.not_mem_nil, or_false] at hd
  omega
theorem one_good (r : Int × Int × Int × Int) : ∃ f : Nat, f < 5 ∧ ∀ d ∈ checks (stepF r f), d < 256 := by
  apply Classical.byContradiction
  intro q
  have h : ∀ f : Nat, f < 5 → ¬ ∀ d ∈ checks (stepF r f), d < 256 := fun f hf hd => q ⟨f, hf, hd⟩
  have b0 := bad_at (h 0 (by decide))
  have b1 := bad_at (h 1 (by decide))
  have b2 := bad_at (h 2 (by decide))
  have b3 := bad_at (h 3 (by decide))
  have b4 := bad_at (h 4 (by decide))
  have o1 : ∀ f g : Int, 0 ≤ f ∧ f ≤ 4 → 0 ≤ g ∧ g ≤ 4 → (-64 * (r.2.2.2 + f)) % 257 = 1 → (-64 * (r.2.2.2 + g)) % 257 = 1 → f = g := by intro f g hf hg h1 h2; omega
  have o2 : ∀ f g : Int, 0 ≤ f ∧ f ≤ 4 → 0 ≤ g ∧ g ≤ 4 → (r.1 + 120 * (r.2.2.2 + f)) % 257 = 1 → (r.1 + 120 * (r.2.2.2 + g)) % 257 = 1 → f = g := by intro f g hf hg h1 h2; omega
  have o3 : ∀ f g : Int, 0 ≤ f ∧ f ≤ 4 → 0 ≤ g ∧ g ≤ 4 → (r.2.1 - 70 * (r.2.2.2 + f)) % 257 = 1 → (r.2.1 - 70 * (r.2.2.2 + g)) % 257 = 1 → f = g := by intro f g hf hg h1 h2; omega
  have o4 : ∀ f g : Int, 0 ≤ f ∧ f ≤ 4 → 0 ≤ g ∧ g ≤ 4 → (r.2.2.1 + 15 * (r.2.2.2 + f)) % 257 = 1 → (r.2.2.1 + 15 * (r.2.2.2 + g)) % 257 = 1 → f = g := by intro f g hf hg h1 h2; omega
  let P : Nat → Int → Prop := fun k f => match k with
    | 0 => (-64 * (r.2.2.2 + f)) % 257 = 1
    | 1 => (r.1 + 120 * (r.2.2.2 + f)) % 257 = 1
    | 2 => (r.2.1 - 70 * (r.2.2.2 + f)) % 257 = 1
    | _ => (r.2.2.1 + 15 * (r.2.2.2 + f)) % 257 = 1
  have once' : ∀ (k : Nat) (f g : Int), 0 ≤ f ∧ f ≤ 4 → 0 ≤ g ∧ g ≤ 4 → P k f → P k g → f = g := by
    intro k f g hf hg h1 h2
    match k with
    | 0 => exact o1 f g hf hg h1 h2
    | 1 => exact o2 f g hf hg h1 h2
    | 2 => exact o3 f g hf hg h1 h2
    | _ + 3 => exact o4 f g hf hg h1 h2
  have some4 : ∀ f : Nat, f < 5 → ∃ k : Nat, k < 4 ∧ P k f := by
    intro f hf
    rcases bad_at (h f hf) with b | b | b | b
    · exact ⟨0, by decide, b⟩
    · exact ⟨1, by decide, b⟩
    · exact ⟨2, by decide, b⟩
    · exact ⟨3, by decide, b⟩
  obtain ⟨k0, l0, p0⟩ := some4 0 (by decide)
  obtain ⟨k1, l1, p1⟩ := some4 1 (by decide)
  obtain ⟨k2, l2, p2⟩ := some4 2 (by decide)
  obtain ⟨k3, l3, p3⟩ := some4 3 (by decide)
  obtain ⟨k4, l4, p4⟩ := some4 4 (by decide)
  have ne : ∀ (i j : Nat) (a b : Nat), i < 5 → j < 5 → i ≠ j → P a i → P b j → a ≠ b := by
    intro i j a b hi hj hij ha hb e
    subst e
    have := once' a i j (by omega) (by omega) ha hb
    omega
  have n01 := ne 0 1 k0 k1 (by decide) (by decide) (by decide) p0 p1
  have n02 := ne 0 2 k0 k2 (by decide) (by decide) (by decide) p0 p2
  have n03 := ne 0 3 k0 k3 (by decide) (by decide) (by decide) p0 p3
  have n04 := ne 0 4 k0 k4 (by decide) (by decide) (by decide) p0 p4
  have n12 := ne 1 2 k1 k2 (by decide) (by decide) (by decide) p1 p2
  have n13 := ne 1 3 k1 k3 (by decide) (by decide) (by decide) p1 p3
  have n14 := ne 1 4 k1 k4 (by decide) (by decide) (by decide) p1 p4
  have n23 := ne 2 3 k2 k3 (by decide) (by decide) (by decide) p2 p3
  have n24 := ne 2 4 k2 k4 (by decide) (by decide) (by decide) p2 p4
  have n34 := ne 3 4 k3 k4 (by decide) (by decide) (by decide) p3 p4
  omega
theorem word_good {os : List Int} (hos : ∀ d ∈ os, 0 ≤ d ∧ d < 256) : ∃ f : Nat, f < 5 ∧ ∀ d ∈ wordOf f os, d < 256 := by
  obtain ⟨f, hf, hg⟩ := one_good (rems os.reverse)
  refine ⟨f, hf, fun d hd => ?_⟩
  rcases List.mem_append.mp hd with hd | hd
  · rw [rems_filler] at hd
    exact hg d hd
  · rcases List.mem_cons.mp hd with rfl | hd
    · omega
    · exact (hos d hd).2
/-! M2 -/
/-! the code's law: a word's polynomial vanishes at 1, 2, 4 and 8 -/
noncomputable def ev (r : Int × Int × Int × Int) (x : Int) : Int := r.1 + x * (r.2.1 + x * (r.2.2.1 + x * r.2.2.2))
theorem two_pows : ((2 : Int) ^ (0 : Int).toNat = 1 ∧ (2 : Int) ^ (1 : Int).toNat = 2 ∧ (2 : Int) ^ (2 : Int).toNat = 4 ∧ (2 : Int) ^ (3 : Int).toNat = 8) ∧
    ((2 : Int) ^ ((0 : Int).toNat * 4) = 1 ∧ (2 : Int) ^ ((1 : Int).toNat * 4) = 16 ∧ (2 : Int) ^ ((2 : Int).toNat * 4) = 256 ∧ (2 : Int) ^ ((3 : Int).toNat * 4) = 4096) := by decide
theorem ev_word (k : Int) (hk : k = 0 ∨ k = 1 ∨ k = 2 ∨ k = 3) : ∀ ys : List Int, (ev (rems ys.reverse) (2 ^ k.toNat) - 2 ^ (k.toNat * 4) * val k ys) % 257 = 0
  | [] => by
    rcases hk with rfl | rfl | rfl | rfl <;> simp [rems, ev, val]
  | y :: ys => by
    have ih := ev_word k hk ys
    rw [rems_filler]
    unfold val
    generalize rems ys.reverse = r at ih ⊢
    obtain ⟨⟨a0, a1, a2, a3⟩, b0, b1, b2, b3⟩ := two_pows
    rcases hk with rfl | rfl | rfl | rfl <;> simp only [ev, stepF, a0, a1, a2, a3, b0, b1, b2, b3] at ih ⊢ <;> omega
theorem word_zero (k : Int) (hk : k = 0 ∨ k = 1 ∨ k = 2 ∨ k = 3) (f : Int) (os : List Int) : val k (wordOf f os) % 257 = 0 := by
  have h := ev_word k hk (f :: os)
  unfold wordOf
  rw [val_append]
  generalize rems (f :: os).reverse = r at h ⊢
  obtain ⟨⟨a0, a1, a2, a3⟩, b0, b1, b2, b3⟩ := two_pows
  show (val k (checks r) + 2 ^ (k.toNat * 4) * val k (f :: os)) % 257 = 0
  generalize val k (f :: os) = x at h ⊢
  rcases hk with rfl | rfl | rfl | rfl <;> simp only [ev, checks, val, a0, a1, a2, a3, b0, b1, b2, b3] at h ⊢ <;> omega
/-! a place changed -/
theorem val_set (k : Int) : ∀ (ws : List Int) (p : Nat) (a : Int), p < ws.length → val k (ws.set p a) = val k ws + (a - ws.getD p 0) * 2 ^ (k.toNat * p)
  | d :: ws, 0, a, _ => by
    simp only [List.set_cons_zero, val, List.getD_cons_zero, Nat.mul_zero, Int.pow_zero]
    omega
  | d :: ws, p + 1, a, h => by
    have ih := val_set k ws p a (by simpa using h)
    simp only [List.set_cons_succ, val, ih, List.getD_cons_succ]
    rw [Nat.mul_add, Nat.mul_one, Int.pow_add]
    generalize (2 : Int) ^ k.toNat = z
    generalize (2 : Int) ^ (k.toNat * p) = y
    grind
/-! congruences by 257 -/
theorem cadd {a b x y : Int} (h : a % 257 = x % 257) (g : b % 257 = y % 257) : (a + b) % 257 = (x + y) % 257 := by rw [Int.add_emod, h, g, ← Int.add_emod]
theorem csub {a b x y : Int} (h : a % 257 = x % 257) (g : b % 257 = y % 257) : (a - b) % 257 = (x - y) % 257 := by rw [Int.sub_emod, h, g, ← Int.sub_emod]
theorem cmul {a b x y : Int} (h : a % 257 = x % 257) (g : b % 257 = y % 257) : (a * b) % 257 = (x * y) % 257 := by rw [Int.mul_emod, h, g, ← Int.mul_emod]
theorem cop257 : ∀ x : Nat, x < 257 → x ≠ 0 → Nat.gcd 257 x = 1 := by decide +kernel
theorem czero {a b : Int} (h : (a * b) % 257 = 0) : a % 257 = 0 ∨ b % 257 = 0 := by
  by_cases ha : a % 257 = 0
  · exact .inl ha
  · right
    have h1 : ((a % 257) * (b % 257)) % 257 = 0 := by rw [← Int.mul_emod]; exact h
    obtain ⟨x, hx⟩ := Int.eq_ofNat_of_zero_le (Int.emod_nonneg a (by decide : (257 : Int) ≠ 0))
    obtain ⟨y, hy⟩ := Int.eq_ofNat_of_zero_le (Int.emod_nonneg b (by decide : (257 : Int) ≠ 0))
    have hx' : x < 257 := by have := Int.emod_lt_of_pos a (by decide : (0 : Int) < 257); omega
    have hy' : y < 257 := by have := Int.emod_lt_of_pos b (by decide : (0 : Int) < 257); omega
    rw [hx, hy] at h1
    have h2 : (x * y) % 257 = 0 := by exact_mod_cast h1
    have h3 : 257 ∣ x * y := Nat.dvd_of_mod_eq_zero h2
    have h4 := Nat.Coprime.dvd_of_dvd_mul_left (cop257 x hx' (by omega)) h3
    have h5 : y = 0 := Nat.eq_zero_of_dvd_of_lt h4 hy'
    omega
theorem pows_apart : ∀ p : Nat, p < 16 → ∀ q : Nat, q < 16 → ((2 : Int) ^ p - 2 ^ q) % 257 = 0 → p = q := by decide +kernel
theorem syn_of {ws : List Int} {p q : Nat} {a b : Int} (hz : ∀ k : Int, k = 0 ∨ k = 1 ∨ k = 2 ∨ k = 3 → val k ws % 257 = 0) (hpq : p < q) (hq : q < ws.length) (k : Int) (hk : k = 0 ∨ k = 1 ∨ k = 2 ∨ k = 3) :
    val k ((ws.set p a).set q b) % 257 = ((a - ws.getD p 0) * (2 ^ p) ^ k.toNat + (b - ws.getD q 0) * (2 ^ q) ^ k.toNat) % 257 := by
  have e : (ws.set p a).getD q 0 = ws.getD q 0 := by
    rw [List.getD_eq_getElem?_getD, List.getD_eq_getElem?_getD, List.getElem?_set_ne (by omega)]
  rw [val_set k _ q b (by simpa using hq), val_set k ws p a (by omega), e, Nat.mul_comm k.toNat p, Nat.mul_comm k.toNat q, Int.pow_mul, Int.pow_mul]
  have := hz k hk
  omega
/-- what the four rests say -/
structure Rests (s0 s1 s2 s3 e1 e2 x y : Int) : Prop where
  h0 : s0 % 257 = (e1 + e2) % 257
  h1 : s1 % 257 = (e1 * x + e2 * y) % 257
  h2 : s2 % 257 = (e1 * x ^ 2 + e2 * y ^ 2) % 257
  h3 : s3 % 257 = (e1 * x ^ 3 + e2 * y ^ 3) % 257
section
variable {s0 s1 s2 s3 e1 e2 x y : Int}
theorem Rests.lead (h : Rests s0 s1 s2 s3 e1 e2 x y) : (s0 * s2 - s1 * s1) % 257 = (e1 * e2 * ((x - y) * (x - y))) % 257 := by
  rw [csub (cmul h.h0 h.h2) (cmul h.h1 h.h1)]
  congr 1
  grind
theorem Rests.middle (h : Rests s0 s1 s2 s3 e1 e2 x y) : (s0 * s3 - s1 * s2) % 257 = (e1 * e2 * ((x - y) * (x - y)) * (x + y)) % 257 := by
  rw [csub (cmul h.h0 h.h3) (cmul h.h1 h.h2)]
  congr 1
  grind
theorem Rests.last (h : Rests s0 s1 s2 s3 e1 e2 x y) : (s1 * s3 - s2 * s2) % 257 = (e1 * e2 * ((x - y) * (x - y)) * (x * y)) % 257 := by
  rw [csub (cmul h.h1 h.h3) (cmul h.h2 h.h2)]
  congr 1
  grind
theorem Rests.root (h : Rests s0 s1 s2 s3 e1 e2 x y) (z : Int) : (((s0 * s2 - s1 * s1) % 257) * (z * z) - (s0 * s3 - s1 * s2) * z + (s1 * s3 - s2 * s2)) % 257 = (e1 * e2 * ((x - y) * (x - y)) * ((z - x) * (z - y))) % 257 := by
  rw [cadd (csub (cmul ((Int.emod_emod_of_dvd _ (Int.dvd_refl 257)).trans h.lead) (rfl : (z * z) % 257 = (z * z) % 257)) (cmul h.middle (rfl : z % 257 = z % 257))) h.last]
  congr 1
  grind
theorem Rests.none (h : Rests 0 0 s2 s3 e1 e2 x y) (hd : (x - y) % 257 ≠ 0) : e1 % 257 = 0 ∧ e2 % 257 = 0 := by
  have g : (e1 * (x - y)) % 257 = 0 := by
    have q := csub h.h1 (cmul h.h0 (rfl : y % 257 = y % 257))
    rw [show e1 * x + e2 * y - (e1 + e2) * y = e1 * (x - y) by grind] at q
    rw [← q]; simp
  rcases czero g with g | g
  · refine ⟨g, ?_⟩
    have := h.h0
    omega
  · exact absurd g hd
theorem Rests.one (h : Rests s0 s1 s2 s3 e1 e2 x y) (hd : (x - y) % 257 ≠ 0) (hl : (s0 * s2 - s1 * s1) % 257 = 0) : e1 % 257 = 0 ∨ e2 % 257 = 0 := by
  rw [h.lead] at hl
  rcases czero hl with g | g
  · exact czero g
  · rcases czero g with g | g <;> exact absurd g hd
theorem Rests.much (h : Rests s0 s1 s2 s3 e1 e2 x y) {u : Int} (hu : (u * (x - y)) % 257 = 1) : ((s1 - s0 * y) * u) % 257 = e1 % 257 := by
  rw [cmul (csub h.h1 (cmul h.h0 (rfl : y % 257 = y % 257))) (rfl : u % 257 = u % 257)]
  rw [show (e1 * x + e2 * y - (e1 + e2) * y) * u = e1 * (u * (x - y)) by grind]
  rw [cmul (rfl : e1 % 257 = e1 % 257) (show (u * (x - y)) % 257 = (1 : Int) % 257 from hu), Int.mul_one]
end
theorem fold_if {P : Int → Prop} [DecidablePred P] : ∀ (ws l : List Int), ws.foldl (fun l d => if P d then l ++ [d] else l) l = l ++ ws.filter (fun d => decide (P d))
  | [], l => by simp
  | d :: ws, l => by
    rw [List.foldl_cons, fold_if ws]
    by_cases h : P d
    · simp [h]
    · simp [h]
theorem two_left : ∀ n : Nat, n < 17 → ∀ q : Nat, q < n → ∀ p : Nat, p < q → (rangeKs 0 n).filter (fun k => decide (k = (p : Int) ∨ k = (q : Int))) = [(p : Int), (q : Int)] := by decide +kernel
theorem one_left : ∀ n : Nat, n < 17 → ∀ p : Nat, p < n → (rangeKs 0 n).filter (fun k => decide (k = (p : Int))) = [(p : Int)] := by decide +kernel
/-- a word of the code, two of its places harmed -/
structure Harm (ws hs : List Int) (p q : Nat) (a b : Int) : Prop where
  z : ∀ k : Int, k = 0 ∨ k = 1 ∨ k = 2 ∨ k = 3 → val k ws % 257 = 0
  w : ∀ d ∈ ws, 0 ≤ d ∧ d < 256
  n : ws.length ≤ 16
  pq : p < q
  ql : q < ws.length
  ra : 0 ≤ a ∧ a < 256
  rb : 0 ≤ b ∧ b < 256
  e : hs = (ws.set p a).set q b
section
variable {ws hs : List Int} {p q : Nat} {a b : Int}
noncomputable def S (k : Int) (hs : List Int) : Int := val k hs % 257
theorem getD_mem {ws : List Int} {p : Nat} (h : p < ws.length) : ws.getD p 0 ∈ ws := by
  rw [List.getD_eq_getElem?_getD, List.getElem?_eq_getElem h]
  exact List.getElem_mem h
theorem Harm.rests (h : Harm ws hs p q a b) : Rests (S 0 hs) (S 1 hs) (S 2 hs) (S 3 hs) (a - ws.getD p 0) (b - ws.getD q 0) (2 ^ p) (2 ^ q) := by
  have f := fun k hk => syn_of (a := a) (b := b) h.z h.pq h.ql k hk
  rw [← h.e] at f
  have f0 := f 0 (by decide)
  have f1 := f 1 (by decide)
  have f2 := f 2 (by decide)
  have f3 := f 3 (by decide)
  refine ⟨?_, ?_, ?_, ?_⟩ <;> unfold S <;> rw [Int.emod_emod_of_dvd _ (Int.dvd_refl 257)]
  · rw [f0]; simp
  · rw [f1, show Int.toNat 1 = 1 from rfl, Int.pow_one, Int.pow_one]
  · exact f2
  · exact f3
theorem Harm.apart (h : Harm ws hs p q a b) : ((2 : Int) ^ p - 2 ^ q) % 257 ≠ 0 := fun g => absurd (pows_apart p (by have := h.n; have := h.ql; have := h.pq; omega) q (by have := h.n; have := h.ql; omega) g) (Nat.ne_of_lt h.pq)
theorem Harm.wp (h : Harm ws hs p q a b) : 0 ≤ ws.getD p 0 ∧ ws.getD p 0 < 256 := h.w _ (getD_mem (Nat.lt_trans h.pq h.ql))
theorem Harm.wq (h : Harm ws hs p q a b) : 0 ≤ ws.getD q 0 ∧ ws.getD q 0 < 256 := h.w _ (getD_mem h.ql)
theorem set_self {ws : List Int} {p : Nat} (h : p < ws.length) : ws.set p (ws.getD p 0) = ws := by
  rw [List.getD_eq_getElem?_getD, List.getElem?_eq_getElem h]
  exact List.set_getElem_self h
theorem Harm.length (h : Harm ws hs p q a b) : hs.length = ws.length := by rw [h.e]; simp
theorem Harm.hp (h : Harm ws hs p q a b) : hs.getD p 0 = a := by
  rw [h.e, List.getD_eq_getElem?_getD, List.getElem?_set_ne (Ne.symm (Nat.ne_of_lt h.pq)), List.getElem?_set_self (Nat.lt_trans h.pq h.ql)]; rfl
theorem Harm.hq (h : Harm ws hs p q a b) : hs.getD q 0 = b := by
  rw [h.e, List.getD_eq_getElem?_getD, List.getElem?_set_self (by simpa using h.ql)]; rfl
theorem Harm.back (h : Harm ws hs p q a b) : (hs.set p (ws.getD p 0)).set q (ws.getD q 0) = ws := by
  rw [h.e, List.set_comm b _ (Ne.symm (Nat.ne_of_lt h.pq)), List.set_set, List.set_set, set_self (Nat.lt_trans h.pq h.ql), set_self h.ql]
theorem Harm.e1 (h : Harm ws hs p q a b) (g : (a - ws.getD p 0) % 257 = 0) : a = ws.getD p 0 := by
  have := h.wp; have := h.ra; omega
theorem Harm.e2 (h : Harm ws hs p q a b) (g : (b - ws.getD q 0) % 257 = 0) : b = ws.getD q 0 := by
  have := h.wq; have := h.rb; omega
theorem Harm.mem (h : Harm ws hs p q a b) : ∀ d ∈ hs, 0 ≤ d ∧ d < 256 := by
  intro d hd
  rw [h.e] at hd
  rcases List.mem_or_eq_of_mem_set hd with hd | rfl
  · rcases List.mem_or_eq_of_mem_set hd with hd | rfl
    · exact h.w d hd
    · exact h.ra
  · exact h.rb
/-- nothing was harmed -/
theorem Harm.same (h : Harm ws hs p q a b) (g0 : S 0 hs = 0) (g1 : S 1 hs = 0) : hs = ws := by
  have r := h.rests
  rw [g0, g1] at r
  obtain ⟨x, y⟩ := r.none h.apart
  have b1 := h.back
  rw [← h.e1 x, ← h.e2 y] at b1
  have s1 : hs.set p a = hs := by
    have g := set_self (ws := hs) (p := p) (by rw [h.length]; exact Nat.lt_trans h.pq h.ql)
    rw [h.hp] at g
    exact g
  have s2 : hs.set q b = hs := by
    have g := set_self (ws := hs) (p := q) (by rw [h.length]; exact h.ql)
    rw [h.hq] at g
    exact g
  rw [s1, s2] at b1
  exact b1
/-- one place was harmed -/
theorem Harm.single (h : Harm ws hs p q a b) (hne : ¬ (S 0 hs = 0 ∧ S 1 hs = 0)) (hl : (S 0 hs * S 2 hs - S 1 hs * S 1 hs) % 257 = 0) :
    ∃ j : Nat, j < ws.length ∧ (rangeKs 0 ws.length).foldl (fun l k => if (S 0 hs * 2 ^ k.toNat - S 1 hs) % 257 = 0 then l ++ [k] else l) [] = [(j : Int)] ∧ hs.set j ((hs.getD j 0 - S 0 hs) % 257) = ws := by
  have r := h.rests
  have key : ∀ (j : Nat) (e : Int), j < ws.length → S 0 hs % 257 = e % 257 → S 1 hs % 257 = (e * 2 ^ j) % 257 → e % 257 ≠ 0 →
      (rangeKs 0 ws.length).foldl (fun l k => if (S 0 hs * 2 ^ k.toNat - S 1 hs) % 257 = 0 then l ++ [k] else l) [] = [(j : Int)] := by
    intro j e hj k0 k1 he
    rw [fold_if, List.nil_append, ← one_left ws.length (by have := h.n; omega) j hj]
    refine List.filter_congr fun k hk => ?_
    have hk' := mem_rangeKs hk
    refine decide_eq_decide.mpr ⟨fun g => ?_, fun g => ?_⟩
    · rw [csub (cmul k0 (rfl : (2 : Int) ^ k.toNat % 257 = 2 ^ k.toNat % 257)) k1, ← Int.mul_sub] at g
      rcases czero g with g | g
      · exact absurd g he
      · have := pows_apart k.toNat (by have := h.n; omega) j (by have := h.n; omega) g
        omega
    · subst g
      rw [Int.toNat_natCast, csub (cmul k0 (rfl : (2 : Int) ^ j % 257 = 2 ^ j % 257)) k1, Int.sub_self]
      rfl
  have hap := h.apart
  have wp := h.wp
  have wq := h.wq
  have ha := h.ra
  have hb := h.rb
  by_cases x : (a - ws.getD p 0) % 257 = 0
  · have xa := h.e1 x
    have k0 := r.h0
    have k1 := r.h1
    rw [xa, Int.sub_self, Int.zero_add] at k0
    rw [xa, Int.sub_self, Int.zero_mul, Int.zero_add] at k1
    have hee : (b - ws.getD q 0) % 257 ≠ 0 := by
      intro g
      apply hne
      have z0 : S 0 hs % 257 = S 0 hs := Int.emod_emod_of_dvd _ (Int.dvd_refl 257)
      have z1 : S 1 hs % 257 = S 1 hs := Int.emod_emod_of_dvd _ (Int.dvd_refl 257)
      rw [h.e2 g, Int.sub_self] at k0 k1
      rw [Int.zero_mul] at k1
      exact ⟨by rw [← z0, k0]; rfl, by rw [← z1, k1]; rfl⟩
    refine ⟨q, h.ql, key q _ h.ql k0 k1 hee, ?_⟩
    rw [h.hq, show (b - S 0 hs) % 257 = ws.getD q 0 by omega]
    have b1 := h.back
    rw [← xa, ← h.hp, set_self (by rw [h.length]; exact Nat.lt_trans h.pq h.ql)] at b1
    exact b1
  · have y : (b - ws.getD q 0) % 257 = 0 := by
      rcases r.one hap hl with g | g
      · exact absurd g x
      · exact g
    have xb := h.e2 y
    have k0 := r.h0
    have k1 := r.h1
    rw [xb, Int.sub_self, Int.add_zero] at k0
    rw [xb, Int.sub_self, Int.zero_mul, Int.add_zero] at k1
    refine ⟨p, Nat.lt_trans h.pq h.ql, key p _ (Nat.lt_trans h.pq h.ql) k0 k1 x, ?_⟩
    rw [h.hp, show (a - S 0 hs) % 257 = ws.getD p 0 by omega]
    have b1 := h.back
    rw [List.set_comm _ _ (Nat.ne_of_lt h.pq), ← xb, ← h.hq, set_self (by rw [h.length]; exact h.ql)] at b1
    exact b1
/-- two places were harmed -/
theorem Harm.double (h : Harm ws hs p q a b) (hl : (S 0 hs * S 2 hs - S 1 hs * S 1 hs) % 257 ≠ 0) :
    (rangeKs 0 ws.length).foldl (fun l k => if ((S 0 hs * S 2 hs - S 1 hs * S 1 hs) % 257 * 4 ^ k.toNat - (S 0 hs * S 3 hs - S 1 hs * S 2 hs) * 2 ^ k.toNat + (S 1 hs * S 3 hs - S 2 hs * S 2 hs)) % 257 = 0 then l ++ [k] else l) [] = [(p : Int), (q : Int)] := by
  have r := h.rests
  have hap := h.apart
  rw [fold_if, List.nil_append, ← two_left ws.length (by have := h.n; omega) q h.ql p h.pq]
  refine List.filter_congr fun k hk => ?_
  have hk' := mem_rangeKs hk
  have hn := h.n
  have hq := h.ql
  have hp := h.pq
  refine decide_eq_decide.mpr ?_
  rw [show (4 : Int) ^ k.toNat = 2 ^ k.toNat * 2 ^ k.toNat by rw [← Int.mul_pow]; rfl, r.root]
  rw [r.lead] at hl
  constructor
  · intro g
    rcases czero g with g | g
    · exact absurd g hl
    · rcases czero g with g | g
      · have := pows_apart k.toNat (by omega) p (by omega) g
        omega
      · have := pows_apart k.toNat (by omega) q (by omega) g
        omega
  · rintro (rfl | rfl)
    · rw [Int.toNat_natCast, Int.sub_self, Int.zero_mul, Int.mul_zero]; rfl
    · rw [Int.toNat_natCast, Int.sub_self, Int.mul_zero, Int.mul_zero]; rfl
theorem Harm.mend (h : Harm ws hs p q a b) {u : Int} (hu : (u * (2 ^ p - 2 ^ q)) % 257 = 1) :
    (hs.set p ((hs.getD p 0 - (S 1 hs - S 0 hs * 2 ^ q) * u) % 257)).set q (((hs.set p ((hs.getD p 0 - (S 1 hs - S 0 hs * 2 ^ q) * u) % 257)).getD q 0 - S 0 hs + (S 1 hs - S 0 hs * 2 ^ q) * u) % 257) = ws := by
  have r := h.rests
  have m := r.much hu
  have k0 := r.h0
  have wp := h.wp
  have wq := h.wq
  have ha := h.ra
  have hb := h.rb
  generalize (S 1 hs - S 0 hs * 2 ^ q) * u = v at m ⊢
  rw [show (hs.set p ((hs.getD p 0 - v) % 257)).getD q 0 = b by rw [List.getD_eq_getElem?_getD, List.getElem?_set_ne (Nat.ne_of_lt h.pq), ← List.getD_eq_getElem?_getD, h.hq]]
  rw [h.hp, show (a - v) % 257 = ws.getD p 0 by omega, show (b - S 0 hs + v) % 257 = ws.getD q 0 by omega]
  exact h.back
end
/-! M3 -/
theorem S_range (k : Int) (hs : List Int) : 0 ≤ S k hs ∧ S k hs ≤ 256 := by
  unfold S
  have h1 := Int.emod_nonneg (val k hs) (by decide : (257 : Int) ≠ 0)
  have h2 := Int.emod_lt_of_pos (val k hs) (by decide : (0 : Int) < 257)
  omega
theorem prod_le {a b : Int} (ha : 0 ≤ a ∧ a ≤ 256) (hb : 0 ≤ b ∧ b ≤ 256) : 0 ≤ a * b ∧ a * b ≤ 65536 :=
  ⟨Int.mul_nonneg ha.1 hb.1, by
    have h1 : a * b ≤ 256 * b := Int.mul_le_mul_of_nonneg_right ha.2 hb.1
    omega⟩
theorem fold_not {ws l : List Int} : ws.foldl (fun l d => if ¬ d = 0 then l ++ [d] else l) l = l ++ ws.filter (fun d => decide (¬ d = 0)) := fold_if ws l
theorem rests_none {a b c d : Int} : [a, b, c, d].foldl (fun l d => if ¬ d = 0 then l ++ [d] else l) [] = [] ↔ a = 0 ∧ b = 0 ∧ c = 0 ∧ d = 0 := by
  rw [fold_not]
  simp [List.filter_eq_nil_iff]
theorem Harm.some {ws hs : List Int} {p q : Nat} {a b : Int} (h : Harm ws hs p q a b) (hne : ¬ (S 0 hs = 0 ∧ S 1 hs = 0 ∧ S 2 hs = 0 ∧ S 3 hs = 0)) : ¬ (S 0 hs = 0 ∧ S 1 hs = 0) := by
  rintro ⟨h0, h1⟩
  apply hne
  have e := h.same h0 h1
  subst e
  refine ⟨h0, h1, h.z 2 (.inr (.inr (.inl rfl))), h.z 3 (.inr (.inr (.inr rfl)))⟩
/-! A4 -/
section
variable {prog : Program} {w : World} {A : Around} {E : Value → Shared → Prop} {s : Shared} {env : Env} {test : PySem.Expr} {body orelse : List Stmt} {Q : Flow → Shared → Prop} {h₀ : Heap} {L : Addr} {news : List (Addr × Obj)}
/-- how a turn of mine ends -/
noncomputable def TurnEnd (h₀ : Heap) (L : Addr) (news : List (Addr × Obj)) (J : Nat → (Str → Option Value) → Prop) (n : Nat) (s : Shared) (Q : Flow → Shared → Prop) (f : Flow) (s' : Shared) : Prop :=
  match f with
  | .brk => Q .next s'
  | .ret v => Q (.ret v) s'
  | _ => ∃ n' m' h' tk', n' < n ∧ J n' m' ∧ Fr h₀ L h' m' ∧ News h₀ L h' news ∧ s' = { s with heap := h', toks := tk' }
theorem whl_ind (J : Nat → (Str → Option Value) → Prop) (hE : PassesOwn (model prog w) A env E)
    (turn : ∀ n m h tk, J n m → Fr h₀ L h m → News h₀ L h news →
      wpAny (model prog w) A (isTrue test env (eval test env)) (fun b s₂ => WhlIf b (wpAny (model prog w) A (execs body env) (TurnEnd h₀ L news J n s Q) E s₂) (wpAny (model prog w) A (execs orelse env) Q E s₂)) E { s with heap := h, toks := tk }) :
    ∀ (n : Nat) {m : Str → Option Value} {h : Heap} {tk : Nat}, J n m → Fr h₀ L h m → News h₀ L h news → ∀ k, WhlRest prog w A E env test body orelse Q k { s with heap := h, toks := tk } := by
  intro n
  induction n using Nat.strongRecOn with
  | _ n ih =>
    intro m h tk hj F N k
    refine (whl_turn (k := k) hE (wpAny_mono (turn n m h tk hj F N) (fun b s₂ hb => ?_) fun _ _ e => e) : WhlRest prog w A E env test body orelse Q (k + 1) _)
    cases b with
    | false => exact hb
    | true =>
      have hb' : wpAny (model prog w) A (execs body env) (TurnEnd h₀ L news J n s Q) E s₂ := hb
      refine WhlIf.yes rfl (wpAny_mono hb' (fun f s₃ hf => ?_) fun _ _ e => e)
      cases f with
      | next => obtain ⟨n', m', h', tk', hlt, hj', F', N', rfl⟩ := hf; exact ih n' hlt hj' F' N' k
      | cont => obtain ⟨n', m', h', tk', hlt, hj', F', N', rfl⟩ := hf; exact ih n' hlt hj' F' N' k
      | brk => exact hf
      | ret v => exact hf
end
theorem news_gen {h₀ h : Heap} {L : Addr} {l : List (Addr × Obj)} {P : Prop} (N : News h₀ L h l) (k : ∀ l', News h₀ L h l' → (∀ p ∈ l, p ∈ l') → (∀ p ∈ l', p ∈ l) → P) : P := k l N (fun _ h => h) (fun _ h => h)
/-- Euclid's run -/
structure Run (B : Int) (x y : Nat) (u v : Int) : Prop where
  hx : x ≤ 257
  hy : y < 257
  i : ((x : Int) - u * B) % 257 = 0
  j : ((y : Int) - v * B) % 257 = 0
  g : Nat.gcd x y = 1
theorem Run.step {B u v : Int} {x y : Nat} (h : Run B x y u v) (hy : y ≠ 0) : Run B y (x % y) v (u - ((x / y : Nat) : Int) * v) where
  hx := Nat.le_of_lt h.hy
  hy := Nat.lt_trans (Nat.mod_lt _ (Nat.pos_of_ne_zero hy)) h.hy
  i := h.j
  j := by
    have e : ((x % y : Nat) : Int) = (x : Int) - ((x / y : Nat) : Int) * (y : Int) := by
      have := Nat.div_add_mod x y
      have h2 : ((y * (x / y) + x % y : Nat) : Int) = (x : Int) := by rw [this]
      push_cast at h2
      have h3 : (y : Int) * ((x / y : Nat) : Int) = ((x / y : Nat) : Int) * (y : Int) := Int.mul_comm _ _
      push_cast
      push_cast at h3
      omega
    rw [e]
    generalize ((x / y : Nat) : Int) = q
    rw [show (x : Int) - q * (y : Int) - (u - q * v) * B = ((x : Int) - u * B) - q * ((y : Int) - v * B) by grind]
    rw [csub (show ((x : Int) - u * B) % 257 = (0 : Int) % 257 from h.i) (cmul (rfl : q % 257 = q % 257) (show ((y : Int) - v * B) % 257 = (0 : Int) % 257 from h.j))]
    simp
  g := by
    rw [← h.g, Nat.gcd_comm x y, Nat.gcd_rec y x, Nat.gcd_comm]
theorem Run.over {B u v : Int} {x : Nat} (h : Run B x 0 u v) : (u * B) % 257 = 1 := by
  have e : x = 1 := by
    have := h.g
    simpa using this
  have := h.i
  subst e
  omega
theorem Run.start {B : Int} (h : B % 257 ≠ 0) : Run B 257 (B % 257).toNat 0 1 where
  hx := Nat.le_refl _
  hy := by have := Int.emod_lt_of_pos B (by decide : (0 : Int) < 257); omega
  i := by simp
  j := by
    have := Int.emod_nonneg B (by decide : (257 : Int) ≠ 0)
    omega
  g := by
    have h1 := Int.emod_lt_of_pos B (by decide : (0 : Int) < 257)
    have h2 := Int.emod_nonneg B (by decide : (257 : Int) ≠ 0)
    exact cop257 _ (by omega) (by omega)
/-! M4 -/
theorem val_lt {k : Int} : ∀ {ds : List Int}, (∀ d ∈ ds, 0 ≤ d ∧ d < 2 ^ k.toNat) → 0 ≤ val k ds ∧ val k ds < 2 ^ (k.toNat * ds.length)
  | [], _ => ⟨Int.le_refl _, by show (0 : Int) < 2 ^ (k.toNat * 0); simp⟩
  | d :: r, h => by
    have ih := val_lt (k := k) (ds := r) fun d hd => h d (.tail _ hd)
    have hd := h d (.head _)
    have hp := pow_pos' k.toNat
    show 0 ≤ d + 2 ^ k.toNat * val k r ∧ d + 2 ^ k.toNat * val k r < _
    rw [List.length_cons, Nat.mul_add, Nat.mul_one, Int.pow_add, Int.mul_comm (2 ^ (k.toNat * r.length))]
    generalize (2 : Int) ^ k.toNat = z at *
    generalize (2 : Int) ^ (k.toNat * r.length) = y at *
    have h1 : z * (val k r + 1) ≤ z * y := Int.mul_le_mul_of_nonneg_left (by omega) (by omega)
    have h2 : 0 ≤ z * val k r := Int.mul_nonneg (by omega) ih.1
    rw [Int.mul_add, Int.mul_one] at h1
    constructor <;> omega
theorem pad {hs : List Int} {c : Nat} (h : ∀ d ∈ hs, 0 ≤ d ∧ d < 256) (hc : c ≤ hs.length) (hv : val 8 hs < 2 ^ ((8 : Int).toNat * c)) : digs 8 c (val 8 hs) ++ List.replicate (hs.length - c) 0 = hs := by
  have h' : ∀ d ∈ hs, 0 ≤ d ∧ d < 2 ^ (8 : Int).toNat := h
  have e := digs_val h'
  have e0 := (val_lt h').1
  have e2 : digs 8 (c + (hs.length - c)) (val 8 hs) = hs := by rw [show c + (hs.length - c) = hs.length by omega]; exact e
  rw [digs_append, Int.emod_eq_of_lt e0 hv, Int.ediv_eq_zero_of_lt e0 hv, digs_zero] at e2
  exact e2
/-- how far a word is harmed -/
noncomputable def Hurt (ws hs : List Int) : Nat → Prop
  | 0 => hs = ws
  | 1 => ∃ p a, p < ws.length ∧ (0 ≤ a ∧ a < 256) ∧ hs = ws.set p a
  | _ => ∃ p q a b, p < ws.length ∧ q < ws.length ∧ (0 ≤ a ∧ a < 256) ∧ (0 ≤ b ∧ b < 256) ∧ hs = (ws.set p a).set q b
theorem Hurt.length {ws hs : List Int} : ∀ {k : Nat}, Hurt ws hs k → hs.length = ws.length
  | 0, h => by rw [show hs = ws from h]
  | 1, h => by obtain ⟨p, a, _, _, rfl⟩ := h; simp
  | _ + 2, h => by obtain ⟨p, q, a, b, _, _, _, _, rfl⟩ := h; simp
theorem Hurt.more {ws hs : List Int} {p : Nat} {a : Int} (hp : p < ws.length) (ha : 0 ≤ a ∧ a < 256) : ∀ {k : Nat}, k ≤ 1 → Hurt ws hs k → Hurt ws (hs.set p a) (k + 1)
  | 0, _, h => by
    rw [show hs = ws from h]
    exact ⟨p, a, hp, ha, rfl⟩
  | 1, _, h => by
    obtain ⟨q, b, hq, hb, rfl⟩ := h
    exact ⟨q, p, b, a, hq, hp, hb, ha, rfl⟩
  | _ + 2, h, _ => absurd h (by omega)
theorem harm_two {ws : List Int} {p q : Nat} {a b : Int} (z : ∀ k : Int, k = 0 ∨ k = 1 ∨ k = 2 ∨ k = 3 → val k ws % 257 = 0) (w : ∀ d ∈ ws, 0 ≤ d ∧ d < 256) (n : ws.length ≤ 16)
    (hpq : p ≠ q) (hp : p < ws.length) (hq : q < ws.length) (ha : 0 ≤ a ∧ a < 256) (hb : 0 ≤ b ∧ b < 256) : ∃ p' q' a' b', Harm ws ((ws.set p a).set q b) p' q' a' b' := by
  by_cases h : p < q
  · exact ⟨p, q, a, b, z, w, n, h, hq, ha, hb, rfl⟩
  · exact ⟨q, p, b, a, z, w, n, by omega, hp, hb, ha, by rw [List.set_comm _ _ hpq]⟩
theorem harm_one {ws : List Int} {q : Nat} {b : Int} (z : ∀ k : Int, k = 0 ∨ k = 1 ∨ k = 2 ∨ k = 3 → val k ws % 257 = 0) (w : ∀ d ∈ ws, 0 ≤ d ∧ d < 256) (n : ws.length ≤ 16) (n2 : 2 ≤ ws.length)
    (hq : q < ws.length) (hb : 0 ≤ b ∧ b < 256) : ∃ p' q' a' b', Harm ws (ws.set q b) p' q' a' b' := by
  obtain ⟨r, hr, hne⟩ : ∃ r, r < ws.length ∧ r ≠ q := by
    by_cases h : q = 0
    · exact ⟨1, by omega, by omega⟩
    · exact ⟨0, by omega, by omega⟩
  have g := harm_two (a := ws.getD r 0) (b := b) z w n hne hr hq (w _ (getD_mem hr)) hb
  rw [set_self hr] at g
  exact g
theorem Hurt.harm {ws hs : List Int} (z : ∀ k : Int, k = 0 ∨ k = 1 ∨ k = 2 ∨ k = 3 → val k ws % 257 = 0) (w : ∀ d ∈ ws, 0 ≤ d ∧ d < 256) (n : ws.length ≤ 16) (n2 : 2 ≤ ws.length) :
    ∀ {k : Nat}, 1 ≤ k → Hurt ws hs k → ∃ p q a b, Harm ws hs p q a b
  | 1, _, h => by
    obtain ⟨p, a, hp, ha, rfl⟩ := h
    exact harm_one z w n n2 hp ha
  | _ + 2, _, h => by
    obtain ⟨p, q, a, b, hp, hq, ha, hb, rfl⟩ := h
    by_cases e : p = q
    · subst e
      rw [List.set_set]
      exact harm_one z w n n2 hp hb
    · exact harm_two z w n e hp hq ha hb
/-! L1 -/
/-! comprehensions, the kinds of their items free -/
inductive Are {α : Type} (K : α → Value → Prop) : List Value → List α → Prop
  | nil : Are K [] []
  | cons {a : α} {v : Value} {vs : List Value} {as : List α} : K a v → Are K vs as → Are K (v :: vs) (a :: as)
theorem Are.snoc {α : Type} {K : α → Value → Prop} {a : α} {v : Value} (h : K a v) : ∀ {vs : List Value} {as : List α}, Are K vs as → Are K (vs ++ [v]) (as ++ [a])
  | _, _, .nil => .cons h .nil
  | _, _, .cons x r => .cons x (Are.snoc h r)
theorem Are.length {α : Type} {K : α → Value → Prop} : ∀ {vs : List Value} {as : List α}, Are K vs as → vs.length = as.length
  | _, _, .nil => rfl
  | _, _, .cons _ r => by rw [List.length_cons, List.length_cons, r.length]
theorem Are.at {α : Type} {K : α → Value → Prop} : ∀ {vs : List Value} {as : List α}, Are K vs as → ∀ (i : Nat) (v : Value), vs[i]? = some v → ∃ a, as[i]? = some a ∧ K a v
  | _, _, .nil, _, _, h => by simp at h
  | _, _, .cons x r, 0, v, h => by
    simp only [List.getElem?_cons_zero, Option.some.injEq] at h
    subst h
    exact ⟨_, rfl, x⟩
  | _, _, .cons x r, i + 1, v, h => by
    simp only [List.getElem?_cons_succ] at h ⊢
    exact r.at i v h
noncomputable def KI (k : Int) (v : Value) : Prop := ∃ t : Tok, v = .int k t
noncomputable def KS (k : Str) (v : Value) : Prop := ∃ t : Tok, v = .str k t
/-- the sign of a code -/
noncomputable def sgn (c : Nat) : Str := ⟨#[c]⟩
noncomputable def KC (c : Nat) (v : Value) : Prop := ∃ t : Tok, v = .str (sgn c) t
theorem Are.ints : ∀ {vs : List Value} {as : List Int}, Are KI vs as → IntsAre vs as
  | _, _, .nil => .nil
  | _, _, .cons h r => by obtain ⟨t, rfl⟩ := h; exact .cons _ t r.ints
theorem are_ints : ∀ {vs : List Value} {as : List Int}, IntsAre vs as → Are KI vs as
  | _, _, .nil => .nil
  | _, _, .cons n t r => .cons ⟨t, rfl⟩ (are_ints r)
theorem Are.strs : ∀ {vs : List Value} {as : List Str}, Are KS vs as → StrsAre vs as
  | _, _, .nil => .nil
  | _, _, .cons h r => by obtain ⟨t, rfl⟩ := h; exact .cons _ t r.strs
theorem are_strs : ∀ {vs : List Value} {as : List Str}, StrsAre vs as → Are KS vs as
  | _, _, .nil => .nil
  | _, _, .cons n t r => .cons ⟨t, rfl⟩ (are_strs r)
section
variable {prog : Program} {w : World} {A : Around} {h₀ : Heap} {L : Addr} {m : Str → Option Value} {env : Env} {elt : PySem.Expr} {x : Str} {scope : Scope} {cl : List (Str × Addr)} {s : Shared} {S : List (Addr × Obj) → Prop} {P : Nat → Value → Prop} {Fin : List Value → List (Addr × Obj) → Prop} {news : List (Addr × Obj)}
theorem kcg_rest {α β : Type} {KA : α → Value → Prop} {n : Nat} {ks : List α} (KB : β → Value → Prop) (g : α → β) (hks : ks.length = n) (hP : ∀ i v, i < n → P i v → ∃ k, ks[i]? = some k ∧ KA k v)
    (turn : ∀ k v I oI C oC D m₂ ys h tk (E' : Value → Shared → Prop), k ∈ ks → KA k v → LCg.NsObj oC m₂ → m₂ x = some v → Fr h₀ L h m → News h₀ L h ((I, oI) :: (C, oC) :: (D, LCg.lst ys) :: news) → LCg.Off3 I C D news → ((@Ne Nat I C) ∧ (@Ne Nat I D) ∧ (@Ne Nat C D)) →
      wpAny (model prog w) A (eval elt (compEnvC scope cl C env)) (LCg.CompEnd h₀ L m { s with heap := h, toks := tk } I oI C oC D (LCg.lst ys) S (fun y news' => news' = news ∧ KB (g k) y)) E' { s with heap := h, toks := tk })
    (fin : ∀ ys, Are KB ys (ks.map g) → Fin ys news) : LCg.CompRest prog w A h₀ L m env elt x scope cl s S P Fin n 0 [] news := by
  have key : ∀ (j i : Nat) (ys : List Value), i + j = n → Are KB ys ((ks.take i).map g) → LCg.CompRest prog w A h₀ L m env elt x scope cl s S P Fin j i ys news := by
    intro j
    induction j with
    | zero =>
      intro i ys hi hy
      have e : i = ks.length := by omega
      subst e
      rw [List.take_length] at hy
      exact LCg.CompRest.zero (fin ys hy)
    | succ j ih =>
      intro i ys hi hy
      refine LCg.CompRest.succ ?_
      intro v I oI C oC D m₂ h tk E' hv hC hx F N off ne
      obtain ⟨k, hk, hv'⟩ := hP i v (by omega) hv
      refine wpAny_mono (turn k v I oI C oC D m₂ ys h tk E' (List.mem_of_getElem? hk) hv' hC hx F N off ne) (fun y s₂ hq => ?_) fun _ _ e => e
      obtain ⟨h', tk', nw, e, F', N', off', hS, hn, hy'⟩ := hq
      rw [hn] at N' off' hS
      refine ⟨h', tk', news, e, F', N', off', hS, ih (i + 1) _ (by omega) ?_⟩
      rw [List.take_add_one, hk]
      simpa using Are.snoc hy' hy
  exact key n 0 [] (by omega) (by simp only [List.take_zero, List.map_nil]; exact .nil)
/-- over a list of the ledger's or of the ground's -/
theorem kcg_list {α β : Type} {KA : α → Value → Prop} {vs : List Value} {ks : List α} (KB : β → Value → Prop) (g : α → β) (hi : Are KA vs ks)
    (turn : ∀ k v I oI C oC D m₂ ys h tk (E' : Value → Shared → Prop), k ∈ ks → KA k v → LCg.NsObj oC m₂ → m₂ x = some v → Fr h₀ L h m → News h₀ L h ((I, oI) :: (C, oC) :: (D, LCg.lst ys) :: news) → LCg.Off3 I C D news → ((@Ne Nat I C) ∧ (@Ne Nat I D) ∧ (@Ne Nat C D)) →
      wpAny (model prog w) A (eval elt (compEnvC scope cl C env)) (LCg.CompEnd h₀ L m { s with heap := h, toks := tk } I oI C oC D (LCg.lst ys) S (fun y news' => news' = news ∧ KB (g k) y)) E' { s with heap := h, toks := tk })
    (fin : ∀ ys, Are KB ys (ks.map g) → Fin ys news) : LCg.CompRest prog w A h₀ L m env elt x scope cl s S (fun i v => vs.toArray[i]? = some v) Fin vs.toArray.size 0 [] news :=
  kcg_rest KB g (by rw [List.size_toArray]; exact hi.length.symm) (fun i v _ hv => hi.at i v (by simpa using hv)) turn fin
theorem kcg_range {β : Type} {n : Nat} {a : Int} (KB : β → Value → Prop) (g : Int → β)
    (turn : ∀ k v I oI C oC D m₂ ys h tk (E' : Value → Shared → Prop), k ∈ rangeKs a n → KI k v → LCg.NsObj oC m₂ → m₂ x = some v → Fr h₀ L h m → News h₀ L h ((I, oI) :: (C, oC) :: (D, LCg.lst ys) :: news) → LCg.Off3 I C D news → ((@Ne Nat I C) ∧ (@Ne Nat I D) ∧ (@Ne Nat C D)) →
      wpAny (model prog w) A (eval elt (compEnvC scope cl C env)) (LCg.CompEnd h₀ L m { s with heap := h, toks := tk } I oI C oC D (LCg.lst ys) S (fun y news' => news' = news ∧ KB (g k) y)) E' { s with heap := h, toks := tk })
    (fin : ∀ ys, Are KB ys ((rangeKs a n).map g) → Fin ys news) : LCg.CompRest prog w A h₀ L m env elt x scope cl s S (fun i v => ∃ t, v = .int (a + (i : Int)) t) Fin n 0 [] news :=
  kcg_rest KB g (rangeKs_length a n) (fun i v hi hv => by
    obtain ⟨t, e⟩ := hv
    exact ⟨a + (i : Int), by simp [rangeKs, hi], t, e⟩) turn fin
theorem kcg_signs {β : Type} {y : Str} (KB : β → Value → Prop) (g : Nat → β)
    (turn : ∀ k v I oI C oC D m₂ ys h tk (E' : Value → Shared → Prop), k ∈ y.cps.toList → KC k v → LCg.NsObj oC m₂ → m₂ x = some v → Fr h₀ L h m → News h₀ L h ((I, oI) :: (C, oC) :: (D, LCg.lst ys) :: news) → LCg.Off3 I C D news → ((@Ne Nat I C) ∧ (@Ne Nat I D) ∧ (@Ne Nat C D)) →
      wpAny (model prog w) A (eval elt (compEnvC scope cl C env)) (LCg.CompEnd h₀ L m { s with heap := h, toks := tk } I oI C oC D (LCg.lst ys) S (fun y news' => news' = news ∧ KB (g k) y)) E' { s with heap := h, toks := tk })
    (fin : ∀ ys, Are KB ys (y.cps.toList.map g) → Fin ys news) : LCg.CompRest prog w A h₀ L m env elt x scope cl s S (SignAt y) Fin y.cps.size 0 [] news :=
  kcg_rest KB g (by simp) (fun i v hi hv => by
    obtain ⟨c, u, hc, e⟩ := hv
    exact ⟨c, by simpa using hc, u, e⟩) turn fin
end
section
variable {prog : Program} {w : World} {A : Around} {E : Value → Shared → Prop} {s : Shared} {h₀ : Heap} {L : Addr} {m : Str → Option Value} {env : Env}
/-- a comprehension over the signs of a text -/
noncomputable def SrcS (prog : Program) (w : World) (A : Around) (h₀ : Heap) (L : Addr) (m : Str → Option Value) (env : Env) (elt : PySem.Expr) (x : Str) (scope : Scope) (cl : List (Str × Addr)) (Fin : Shared → List Value → List (Addr × Obj) → Prop) (xv : Value) (s₁ : Shared) : Prop :=
  ∃ y t news, xv = .str y t ∧ A.handled = none ∧ Fr h₀ L s₁.heap m ∧ News h₀ L s₁.heap news ∧ y.cps.size ≤ sizeLine ∧
    ∀ s₂ : Shared, (∃ h, s₂ = { s₁ with heap := h }) → LCg.CompRest prog w A h₀ L m env elt x scope cl s₂ (fun _ => True) (SignAt y) (Fin s₂) y.cps.size 0 [] news
theorem ListComp_S {elt iter : PySem.Expr} {x : Str} {px : Pos} {scope : Scope} {cl : List (Str × Addr)} {pos : Pos} {Q : Value → Shared → Prop} (_F₀ : Fr h₀ L s.heap m)
    (hclos : closureFor scope env = pure cl) (hcell : ∀ y ∈ scope.names, y.2 ≠ .cell) (hkind : scope.kind = .function)
    (hnames : ∀ y ∈ scope.names, y.2 = .local → scope.names.lookup y.1 = some .local) (hx : scope.names.lookup x = some .local)
    (h : wpAny (model prog w) A (eval iter env) (SrcS prog w A h₀ L m env elt x scope cl (fun s₂ => LCg.FinE h₀ L m s₂ Q)) E s)
    (hs : ∀ x, foldedSetIterable iter env x = pure x := by intro _; rfl) :
    wpAny (model prog w) A (eval (.ListComp elt [⟨.Name x px, iter, [], 0⟩] scope pos) env) Q E s := by
  rw [eval_ListComp]
  refine wpAny_comprehension_free (use := none) rfl hs hclos hkind hnames (wpAny_mono h (fun xv s₁ h₁ => ?_) fun _ _ e => e)
  obtain ⟨y, t, news, rfl, hh, F, N, hsz, R⟩ := h₁
  cases ha : y.cps.all (· < 128)
  · refine wpAny_pyIter_wide ha ?_
    refine LCg.block_U (S := fun _ => True) (Walks.strWide hh _ y t) hsz (fun i h st => let ⟨o, e, _⟩ := st; ⟨o, e⟩) (fun i h h' o' nw st e e' _ _ _ => by
        obtain ⟨o, q, r⟩ := st
        rw [e] at q
        cases q
        exact ⟨o', e', r⟩) hcell hkind hx ⟨_, Heap.get?_push_size _ rfl, rfl, rfl⟩ (fun b hb => ?_)
      (F.keeps fun _ _ e => Heap.get?_push_of_some _ e) (N.grown fun _ _ e => Heap.get?_push_of_some _ e) (Nat.ne_of_lt F.ns.lt) (next_is_new F) (fun p hp => Nat.ne_of_lt (Heap.lt_size (N p hp).1)) trivial (R _ ⟨_, rfl⟩) ?_
    · rw [List.mem_singleton.mp hb]
      show s₁.heap.objs.size < (s₁.heap.push _).objs.size
      rw [Heap.size_push]; exact Nat.lt_succ_self _
    · intro D C h tk m' ys news' F' N' o1 hn hC₀ hD₀ hCL hDL hCD offC fin
      refine ⟨m', hn, fun h'' hs'' => fin D h'' tk (F'.change hs'' hCL hC₀) (fun p hp => ?_) o1⟩
      refine ⟨hs''.extBut _ _ ?_ (N' p hp).1, (N' p hp).2⟩
      rcases List.mem_cons.mp hp with rfl | hp
      · exact Ne.symm hCD
      · exact offC p hp
  · refine wpAny_pyIter_ascii ha ?_
    refine LCg.block_U (S := fun _ => True) (Walks.strAscii hh _ y t) hsz (fun i h st => let ⟨o, e, _⟩ := st; ⟨o, e⟩) (fun i h h' o' nw st e e' _ _ _ => by
        obtain ⟨o, q, r⟩ := st
        rw [e] at q
        cases q
        exact ⟨o', e', r⟩) hcell hkind hx ⟨_, Heap.get?_push_size _ rfl, rfl, rfl⟩ (fun b hb => ?_)
      (F.keeps fun _ _ e => Heap.get?_push_of_some _ e) (N.grown fun _ _ e => Heap.get?_push_of_some _ e) (Nat.ne_of_lt F.ns.lt) (next_is_new F) (fun p hp => Nat.ne_of_lt (Heap.lt_size (N p hp).1)) trivial (R _ ⟨_, rfl⟩) ?_
    · rw [List.mem_singleton.mp hb]
      show s₁.heap.objs.size < (s₁.heap.push _).objs.size
      rw [Heap.size_push]; exact Nat.lt_succ_self _
    · intro D C h tk m' ys news' F' N' o1 hn hC₀ hD₀ hCL hDL hCD offC fin
      refine ⟨m', hn, fun h'' hs'' => fin D h'' tk (F'.change hs'' hCL hC₀) (fun p hp => ?_) o1⟩
      refine ⟨hs''.extBut _ _ ?_ (N' p hp).1, (N' p hp).2⟩
      rcases List.mem_cons.mp hp with rfl | hp
      · exact Ne.symm hCD
      · exact offC p hp
end
/-! L2 -/
section
variable {prog : Program} {w : World} {A : Around} {E : Value → Shared → Prop} {s : Shared}
theorem bytes_len : typeLookup (.type "bytes") (Str.ofString "__len__") = pure (some (.builtin "bytes.__len__")) := by rw [typeLookup_type, builtinLookup_eq_fast]; kernel_rfl
noncomputable def ByteAt (b : Array UInt8) (i : Nat) (v : Value) : Prop := ∃ c u, b[i]? = some c ∧ v = .int (c.toNat : Int) u
theorem extend_bytes {R : Result → Shared → Prop} (hh : A.handled = none) (x : Array UInt8) (t : Tok) (S : Addr) (res : Value) (c₀ : Nat) (hS : s.heap.get? S = some { cls := .type "list", data := .seq #[] c₀ })
    (hR : ∀ h' tk acc' c', (∀ b o, b ≠ S → s.heap.get? b = some o → h'.get? b = some o) → h'.get? S = some { cls := .type "list", dict := none, data := .seq acc' c', slots := #[] } →
      ItemsOf (ByteAt x) acc' x.size → R (.ok (.ret res)) { s with heap := h', toks := tk }) (hn : x.size ≤ sizeLine) :
    wpAny (model prog w) A.in1 (Builtin.List.listExtendWith (.ref S) (.bytes x t) res)
      (fun fin s' => match fin with | .done f => R (.ok f) s' | .again c' => c'.quiet = true ∧ codeAny (model prog w) A c' R s') (fun e s' => R (.error e) s') s := by
  have hSI : S ≠ s.heap.objs.size := Nat.ne_of_lt (Heap.lt_size hS)
  have hSf : S ∉ [s.heap.objs.size] := fun hm => hSI (List.mem_singleton.mp hm)
  have h1 : Builtin.List.listSameRef (.ref S) (.bytes x t) = false := rfl
  have h2 : (Value.type "bytes" == Value.type "list") = false := by decide
  have h3 : (Value.type "bytes" == Value.type "tuple") = false := by decide
  unfold Builtin.List.listExtendWith
  refine wpAny_bind (wpAny_typeOf (T := "bytes") (PySem.W.typeIs_bytes _ x t) ?_)
  simp only [h1, h2, h3, Bool.or_false, Bool.false_eq_true, if_false]
  refine wpAny_bind (KBw.pyIter_bytes ?_)
  refine wpAny_bind (wpAny_holding ?_)
  unfold Builtin.List.listLengthHint
  refine wpAny_bind (wpAny_specialOf (T := "bytes") (PySem.W.typeIs_bytes _ x t) bytes_len ?_)
  wp_delta
  refine wpAny_bind (wpAny_isInstance (T := "bytes") (b := true) (PySem.W.typeIs_bytes _ x t) (by rw [isSubtype_type]; kernel_rfl) ?_)
  show wpAny _ _ (typeOf (Value.bytes x t) >>= _) _ _ _
  refine wpAny_bind (wpAny_typeOf (T := "bytes") (PySem.W.typeIs_bytes _ x t) ?_)
  refine wpAny_pure ?_
  rw [if_neg (by decide)]
  refine wpAny_pure ⟨plainId_quiet F.plain_extend_loop _, codeAny_extend_loopS (KBw.walks (prog := prog) (w := w) (A := A.in1) hh s.heap.objs.size x t).toS hn _ hSf _ x.size 0 _ _ _ rfl (Nat.zero_le _) ⟨_, Heap.get?_push_size _ rfl, rfl, rfl⟩ (Heap.get?_push_of_some _ hS) (ItemsOf.nil _) fun s' acc' c' hm hS' hacc => ?_⟩
  rw [Moved.eq_with hm]
  refine hR s'.heap s'.toks acc' c' (fun b ob hb e => hm.heap b ob (fun hmem => ?_) (Heap.get?_push_of_some _ e)) hS' hacc
  rcases List.mem_cons.mp hmem with e' | hmem
  · exact hb e'
  · exact absurd (Heap.lt_size e) (by rw [List.mem_singleton.mp hmem]; exact Nat.lt_irrefl _)
theorem list_init_bytes {R : Result → Shared → Prop} (hh : A.handled = none) (x : Array UInt8) (t : Tok) (S : Addr) (hS : s.heap.get? S = some { cls := .type "list", data := .seq #[] })
    (hR : ∀ h' tk acc' c', (∀ b o, b ≠ S → s.heap.get? b = some o → h'.get? b = some o) → h'.get? S = some { cls := .type "list", dict := none, data := .seq acc' c', slots := #[] } →
      ItemsOf (ByteAt x) acc' x.size → R (.ok (.ret .none)) { s with heap := h', toks := tk }) (hn : x.size ≤ sizeLine) :
    wpAny (model prog w) A.in1 (Builtin.«list.__init__» ⟨[.ref S, .bytes x t], []⟩)
      (fun fin s' => match fin with | .done f => R (.ok f) s' | .again c' => c'.quiet = true ∧ codeAny (model prog w) A c' R s') (fun e s' => R (.error e) s') s := by
  show wpAny _ _ (do let old ← Builtin.List.listItems (.ref S); Builtin.List.listUpdate (.ref S) (fun _ => #[]); letGo old.toList.reverse; Builtin.List.listExtendWith (.ref S) (.bytes x t) .none) _ _ s
  refine wpAny_bind ?_
  unfold Builtin.List.listItems
  refine wpAny_bind (wpAny_seqItems hS rfl (wpAny_pure ?_))
  show wpAny _ _ (updateSeq S (fun _ => #[]) >>= fun _ => letGo (#[] : Array Value).toList.reverse >>= fun _ => Builtin.List.listExtendWith (.ref S) (.bytes x t) .none) _ _ s
  refine wpAny_bind (wpAny_updateSeq hS rfl ?_)
  have hS₂ := Heap.get?_update_self (Obj.mapSeq (fun _ => (#[] : Array Value))) hS rfl
  have oth : ∀ b o, b ≠ S → s.heap.get? b = some o → (s.heap.update S (Obj.mapSeq (fun _ => (#[] : Array Value)))).get? b = some o :=
    fun b o hb e => (Heap.get?_update_other _ _ (Ne.symm hb)).trans e
  refine wpAny_bind (wpAny_letGo ?_)
  refine extend_bytes (hn := hn) hh x t S .none _ hS₂ fun h' tk acc' c' hk hS' hacc => ?_
  exact hR h' tk acc' c' (fun b o hb e => hk b o hb (oth b o hb e)) hS' hacc
theorem ints_items {x : Array UInt8} : ∀ {vs : List Value} {k : Nat}, (∀ j v, vs[j]? = some v → ByteAt x (k + j) v) → vs.length + k = x.size → IntsAre vs ((KBw.bInts x).drop k)
  | [], k, _, hl => by
    rw [List.drop_eq_nil_of_le (by rw [KBw.ints_length]; simp at hl; omega)]
    exact .nil
  | v :: vs, k, h, hl => by
    obtain ⟨c, u, hc, e⟩ := h 0 v rfl
    subst e
    have h2 : (KBw.bInts x).drop k = (c.toNat : Int) :: (KBw.bInts x).drop (k + 1) := by
      have hk : k < (KBw.bInts x).length := by rw [KBw.ints_length]; simp at hl; omega
      rw [List.drop_eq_getElem_cons hk]
      congr 1
      have := KBw.ints_get (b := x) (i := k) (c := c) (by simpa using hc)
      rw [List.getElem?_eq_getElem hk] at this
      exact Option.some.inj this
    rw [h2]
    exact .cons _ u (ints_items (k := k + 1) (fun j v hj => by
      have := h (j + 1) v (by simpa using hj)
      rwa [show k + 1 + j = k + (j + 1) by omega]) (by simp at hl; omega))
/-- list of a bytes -/
theorem list_bytesK {h₀ : Heap} {L : Addr} {m : Str → Option Value} {news : List (Addr × Obj)} {x : Array UInt8} {t : Tok} {Q : Value → Shared → Prop} (hh : A.handled = none) (Fh : Fr h₀ L s.heap m) (N : News h₀ L s.heap news)
    (hQ : ∀ D c h' tk ys, Fr h₀ L h' m → News h₀ L h' ((D, listOf (List.toArray ys) c) :: news) → AllLt D news → IntsAre ys (KBw.bInts x) → Q (.ref D) { s with heap := h', toks := tk }) (hn : x.size ≤ sizeLine) :
    wpAny (model prog w) A (call (.type "list") [.bytes x t]) Q E s := by
  refine callType_codes (Q₁ := fun obj s₁ => obj = .ref s.heap.objs.size ∧ s₁ = { s with heap := s.heap.push { cls := .type "list", data := .seq #[] } }) F.called_list (F.typeCall_list_1 _) F.entry_list_init
    (code_list_new _ ⟨rfl, rfl⟩) fun obj s₁ h₁ => ?_
  obtain ⟨rfl, rfl⟩ := h₁
  have hS : (s.heap.push { cls := .type "list", data := .seq #[] }).get? s.heap.objs.size = some { cls := .type "list", data := .seq #[] } := Heap.get?_push_size _ rfl
  refine ⟨⟨_, hS, rfl⟩, F.args_list_init_2 _ _, list_init_bytes (A := A.in1) (hn := hn) hh x t _ hS fun h' tk acc' c' hk hS' hacc => ?_⟩
  have up : ∀ b o, s.heap.get? b = some o → h'.get? b = some o := fun b o e => hk b o (Nat.ne_of_lt (Heap.lt_size e)) (Heap.get?_push_of_some _ e)
  refine ⟨rfl, hQ _ c' h' tk acc'.toList (Fh.keeps up) (fun p hp => ?_) (allLt_size fun p hp => (N p hp).1) ?_⟩
  · rcases List.mem_cons.mp hp with rfl | hp
    · refine ⟨by simpa using hS', Nat.ne_of_gt Fh.ns.lt, ?_⟩
      cases e : h₀.get? s.heap.objs.size with
      | none => rfl
      | some o => exact absurd (Heap.lt_size (Fh.keep _ _ e)) (Nat.lt_irrefl _)
    · exact ⟨up _ _ (N p hp).1, (N p hp).2⟩
  · have := ints_items (x := x) (vs := acc'.toList) (k := 0) (fun j v hj => by
      rw [Nat.zero_add]
      exact hacc.2 j v (by simpa using hj)) (by simp [hacc.1])
    simpa using this
end
/-! P0 -/
section
variable {prog : Program} {w : World} {A : Around} {E : Value → Shared → Prop} {s : Shared} {Q : Value → Shared → Prop} {value slice : PySem.Expr} {l : Addr} {vs : List Value} {i : Int} {u : Tok}
theorem item_at {ns : List Int} {x : Int} (hl : s.heap.IsList l vs.toArray) (hi : IntsAre vs ns) (h0 : 0 ≤ i) (hfit : i < 2 ^ 63) (hx : ns[i.toNat]? = some x) (h : ∀ t, Q (.int x t) s)
    (hs : subscripted slice false (.ref l) (.int i u) = operate [.ref l, .int i u] (getItem (.ref l) (.int i u)) := by with_unfolding_all rfl) :
    wpAny (model prog w) A (subscriptTail value slice (.ref l) (.int i u)) Q E s := by
  obtain ⟨t, ht⟩ := hi.get i.toNat x hx
  exact tail_any hl.typeIs slot_list_getitem.lookup (wpAny_getItem_list hl h0 hfit (by simpa using ht) (h t)) hs
theorem item_strAt {ns : List Str} {x : Str} (hl : s.heap.IsList l vs.toArray) (hi : StrsAre vs ns) (h0 : 0 ≤ i) (hfit : i < 2 ^ 63) (hx : ns[i.toNat]? = some x) (h : ∀ t, Q (.str x t) s)
    (hs : subscripted slice false (.ref l) (.int i u) = operate [.ref l, .int i u] (getItem (.ref l) (.int i u)) := by with_unfolding_all rfl) :
    wpAny (model prog w) A (subscriptTail value slice (.ref l) (.int i u)) Q E s := by
  obtain ⟨t, ht⟩ := hi.get i.toNat x hx
  exact tail_any hl.typeIs slot_list_getitem.lookup (wpAny_getItem_list hl h0 hfit (by simpa using ht) (h t)) hs
end
theorem Are.map_sgn : ∀ {vs : List Value} {as : List Nat}, Are KC vs as → StrsAre vs (as.map sgn)
  | _, _, .nil => .nil
  | _, _, .cons h r => by obtain ⟨t, rfl⟩ := h; exact .cons _ t r.map_sgn
/-- the row k of the three -/
noncomputable def rowAt (w : Int) (ds ss : List Str) (k : Int) : Str :=
  if k = w then ds.getD k.toNat Str.empty ++ ss.getD k.toNat Str.empty else if ds.getD k.toNat Str.empty = Str.ofString "" then ss.getD k.toNat Str.empty else Str.ofString "."
/-! P1 -/
noncomputable def quoted (r : List Nat) : List Nat := if r.head? = some 46 then 46 :: r else r
noncomputable def Clean (r : List Nat) : Prop := ∀ c ∈ r, c < 256 ∧ c ≠ 10 ∧ c ≠ 13
structure Ok3 (r0 r1 r2 : Str) : Prop where
  c0 : Clean r0.cps.toList
  c1 : Clean r1.cps.toList
  c2 : Clean r2.cps.toList
  n0 : r0.cps.toList ≠ []
  n1 : r1.cps.toList ≠ []
  q : (quoted r0.cps.toList).length + (quoted r1.cps.toList).length + (quoted r2.cps.toList).length ≤ 7
theorem app_cps (a b : Str) : (a ++ b).cps.toList = a.cps.toList ++ b.cps.toList := by
  show (a.cps ++ b.cps).toList = _
  simp
theorem row_one {w k : Int} {d : Str} {x : Nat} (hd : d = Str.ofString "" ∨ d = Str.ofString ".") (hx : x < 256 ∧ x ≠ 10 ∧ x ≠ 13) :
    Clean (if k = w then d ++ sgn x else if d = Str.ofString "" then sgn x else Str.ofString ".").cps.toList ∧
    (quoted (if k = w then d ++ sgn x else if d = Str.ofString "" then sgn x else Str.ofString ".").cps.toList).length ≤ 2 + (if k = w then 1 else 0) ∧ (if k = w then d ++ sgn x else if d = Str.ofString "" then sgn x else Str.ofString ".").cps.toList ≠ [] := by
  have h1 : (sgn x).cps.toList = [x] := rfl
  have h2 : (Str.ofString ".").cps.toList = [46] := by decide +kernel
  have h3 : (Str.ofString "").cps.toList = [] := by decide +kernel
  have hne : ¬ Str.ofString "." = Str.ofString "" := by decide +kernel
  have hq : ∀ l : List Nat, (quoted l).length ≤ l.length + 1 := by
    intro l
    unfold quoted
    split <;> simp
  have cx : Clean [x] := by
    intro c hc
    simp only [List.mem_singleton] at hc
    subst hc
    exact hx
  have cd : Clean [46] := by
    intro c hc
    simp only [List.mem_singleton] at hc
    subst hc
    decide
  have cdx : Clean [46, x] := by
    intro c hc
    simp only [List.mem_cons, List.not_mem_nil, or_false] at hc
    rcases hc with rfl | rfl
    · decide
    · exact hx
  by_cases hk : k = w
  · rw [if_pos hk, if_pos hk, app_cps, h1]
    rcases hd with rfl | rfl
    · rw [h3, List.nil_append]
      exact ⟨cx, Nat.le_trans (hq _) (by simp), by simp⟩
    · rw [h2]
      exact ⟨cdx, Nat.le_trans (hq _) (by simp), by simp⟩
  · rw [if_neg hk, if_neg hk]
    rcases hd with rfl | rfl
    · rw [if_pos rfl, h1]
      exact ⟨cx, Nat.le_trans (hq _) (by simp), by simp⟩
    · rw [if_neg hne, h2]
      exact ⟨cd, Nat.le_trans (hq _) (by simp), by simp⟩
theorem rows_ok {w : Int} {d0 d1 d2 : Str} {x y z : Nat} (h0 : d0 = Str.ofString "" ∨ d0 = Str.ofString ".") (h1 : d1 = Str.ofString "" ∨ d1 = Str.ofString ".") (h2 : d2 = Str.ofString "" ∨ d2 = Str.ofString ".")
    (cx : x < 256 ∧ x ≠ 10 ∧ x ≠ 13) (cy : y < 256 ∧ y ≠ 10 ∧ y ≠ 13) (cz : z < 256 ∧ z ≠ 10 ∧ z ≠ 13) :
    Ok3 (rowAt w [d0, d1, d2] [sgn x, sgn y, sgn z] 0) (rowAt w [d0, d1, d2] [sgn x, sgn y, sgn z] 1) (rowAt w [d0, d1, d2] [sgn x, sgn y, sgn z] 2) := by
  have a0 := row_one (w := w) (k := 0) h0 cx
  have a1 := row_one (w := w) (k := 1) h1 cy
  have a2 := row_one (w := w) (k := 2) h2 cz
  refine ⟨a0.1, a1.1, a2.1, a0.2.2, a1.2.2, ?_⟩
  have b0 := a0.2.1
  have b1 := a1.2.1
  have b2 := a2.2.1
  refine Nat.le_trans (Nat.add_le_add (Nat.add_le_add b0 b1) b2) ?_
  split <;> split <;> split <;> omega
theorem Ok3.cut {r0 r1 r2 : Str} (h : Ok3 r0 r1 r2) : Ok3 r0 r1 (Str.ofString "") := by
  have h3 : (Str.ofString "").cps.toList = [] := by decide +kernel
  refine ⟨h.c0, h.c1, ?_, h.n0, h.n1, ?_⟩
  · rw [h3]
    intro c hc
    exact absurd hc List.not_mem_nil
  · have := h.q
    rw [h3]
    show _ + _ + 0 ≤ 7
    omega
theorem Ok3.size {r0 r1 r2 : Str} (h : Ok3 r0 r1 r2) : r0.length + r1.length + r2.length ≤ 7 := by
  have hq : ∀ l : List Nat, l.length ≤ (quoted l).length := by
    intro l
    unfold quoted
    split <;> simp
  have := h.q
  have a0 := hq r0.cps.toList
  have a1 := hq r1.cps.toList
  have a2 := hq r2.cps.toList
  simp only [Array.length_toList] at a0 a1 a2
  show r0.cps.size + r1.cps.size + r2.cps.size ≤ 7
  omega
/-! P2 -/
/-! the line ends -/
noncomputable def fixL : List Nat → List Nat
  | [] => []
  | 13 :: 10 :: r => 13 :: 10 :: fixL r
  | 13 :: r => 13 :: 10 :: fixL r
  | 10 :: r => 13 :: 10 :: fixL r
  | c :: r => c :: fixL r
theorem fixL_other {c : Nat} {r : List Nat} (h : c ≠ 10 ∧ c ≠ 13) : fixL (c :: r) = c :: fixL r := by
  conv => lhs; unfold fixL
  split <;> simp_all
theorem fixL_13 {r : List Nat} (h : r.head? ≠ some 10) : fixL (13 :: r) = 13 :: 10 :: fixL r := by
  match r with
  | [] => rfl
  | c :: r =>
    have hc : c ≠ 10 := by
      rintro rfl
      exact h rfl
    conv => lhs; unfold fixL
    split <;> simp_all
theorem drop_cons {t : Array Nat} {s : Nat} (h : s < t.size) : t.toList.drop s = t.getD s 0 :: t.toList.drop (s + 1) := by
  rw [List.drop_eq_getElem_cons (by simpa using h)]
  congr 1
  rw [Array.getD_eq_getD_getElem?, Array.getElem?_eq_getElem h]
  simp
theorem next2_at {t : Array Nat} {s : Nat} (h : s < t.size) (hn : isNl (t.getD s 0) = true) : next2 t s = some (s, nlEnd t s) := by
  unfold next2
  obtain ⟨k, hk⟩ : ∃ k, t.size - s = k + 1 := ⟨t.size - s - 1, by omega⟩
  rw [hk]
  unfold nl
  rw [if_pos hn]
  rfl
theorem next2_skip {t : Array Nat} {s : Nat} (h : s < t.size) (hn : isNl (t.getD s 0) = false) : next2 t s = next2 t (s + 1) := by
  unfold next2
  obtain ⟨k, hk⟩ : ∃ k, t.size - s = k + 1 := ⟨t.size - s - 1, by omega⟩
  rw [hk, show t.size - (s + 1) = k by omega]
  conv => lhs; unfold nl
  rw [if_neg (by rw [hn]; decide)]
theorem extract_cons {t : Array Nat} {s e : Nat} (h : s < e) (he : e ≤ t.size) : (t.extract s e).toList = t.getD s 0 :: (t.extract (s + 1) e).toList := by
  rw [Array.toList_extract, Array.toList_extract, List.extract_eq_take_drop, List.extract_eq_take_drop, drop_cons (by omega), show e - s = e - (s + 1) + 1 by omega, List.take_succ_cons]
theorem out2_skip {t : Array Nat} (rp : Array Nat) {s k : Nat} (h : s < t.size) (hn : isNl (t.getD s 0) = false) : (out2 t rp k s).toList = t.getD s 0 :: (out2 t rp k (s + 1)).toList := by
  cases k with
  | zero => exact extract_cons h (Nat.le_refl _)
  | succ k =>
    unfold out2
    rw [next2_skip h hn]
    cases hq : next2 t (s + 1) with
    | none => exact extract_cons h (Nat.le_refl _)
    | some p =>
      have g := next2_some t (by omega) hq
      simp only [Array.toList_append]
      rw [extract_cons (by omega) (by omega)]
      rfl
theorem out2_end {t : Array Nat} (rp : Array Nat) (k : Nat) : (out2 t rp k t.size).toList = [] := by
  have e : next2 t t.size = none := by
    unfold next2
    rw [Nat.sub_self]
    rfl
  cases k with
  | zero => simp [out2]
  | succ k => simp [out2, e]
theorem out2_is (t : Array Nat) : ∀ (n s k : Nat), t.size - s ≤ n → s ≤ t.size → t.size - s ≤ k → (out2 t #[13, 10] k s).toList = fixL (t.toList.drop s) := by
  intro n
  induction n with
  | zero =>
    intro s k h1 h2 h3
    have e : s = t.size := by omega
    subst e
    rw [out2_end, List.drop_eq_nil_of_le (by simp)]
    rfl
  | succ n ih =>
    intro s k h1 h2 h3
    by_cases hs : s = t.size
    · subst hs
      rw [out2_end, List.drop_eq_nil_of_le (by simp)]
      rfl
    · have hlt : s < t.size := by omega
      cases hn : isNl (t.getD s 0)
      · rw [out2_skip _ hlt hn, ih (s + 1) k (by omega) (by omega) (by omega), drop_cons hlt, fixL_other]
        unfold isNl at hn
        simp only [Bool.or_eq_false_iff, beq_eq_false_iff_ne] at hn
        exact hn
      · obtain ⟨k, rfl⟩ : ∃ k', k = k' + 1 := ⟨k - 1, by omega⟩
        conv => lhs; unfold out2
        rw [next2_at hlt hn]
        have g := next2_some t (by omega) (next2_at hlt hn)
        simp only [Array.toList_append]
        rw [ih (nlEnd t s) k (by omega) g.2.2 (by omega)]
        have e0 : (t.extract s s).toList = [] := by simp
        rw [e0, List.nil_append]
        show 13 :: 10 :: fixL (t.toList.drop (nlEnd t s)) = _
        rw [drop_cons hlt]
        unfold nlEnd
        by_cases h13 : t.getD s 0 = 13
        · by_cases hb : s + 1 < t.size ∧ t.getD (s + 1) 0 = 10
          · rw [if_pos ⟨h13, hb⟩, h13, drop_cons hb.1, hb.2]
            rfl
          · rw [if_neg (fun q => hb q.2), h13, fixL_13]
            intro q
            apply hb
            by_cases hl : s + 1 < t.size
            · rw [drop_cons hl] at q
              simp only [List.head?_cons, Option.some.injEq] at q
              exact ⟨hl, q⟩
            · rw [List.drop_eq_nil_of_le (by simp; omega)] at q
              cases q
        · have h10 : t.getD s 0 = 10 := by
            unfold isNl at hn
            simp only [Bool.or_eq_true, beq_iff_eq] at hn
            rcases hn with h | h
            · exact h
            · exact absurd h h13
          rw [if_neg (fun q => h13 q.1), h10]
          rfl
theorem fixL_row : ∀ (r x : List Nat), Clean r → fixL (r ++ x) = r ++ fixL x
  | [], x, _ => rfl
  | c :: r, x, h => by
    have hc := h c List.mem_cons_self
    rw [List.cons_append, fixL_other hc.2, fixL_row r x fun c hc => h c (List.mem_cons_of_mem _ hc)]
    rfl
theorem fixL_end {e : List Nat} (he : e = [10] ∨ e = [13] ∨ e = [13, 10]) {x : List Nat} (hx : x.head? ≠ some 10) : fixL (e ++ x) = [13, 10] ++ fixL x := by
  rcases he with rfl | rfl | rfl
  · rfl
  · exact fixL_13 hx
  · rfl
theorem fix_mail {r0 r1 r2 e0 e1 : List Nat} (c0 : Clean r0) (c1 : Clean r1) (c2 : Clean r2) (h0 : e0 = [10] ∨ e0 = [13] ∨ e0 = [13, 10]) (h1 : e1 = [10] ∨ e1 = [13] ∨ e1 = [13, 10]) (hr : r1 ≠ []) :
    fixL (r0 ++ e0 ++ r1 ++ e1 ++ r2) = r0 ++ [13, 10] ++ r1 ++ [13, 10] ++ r2 := by
  have n2 : r2.head? ≠ some 10 := by
    match r2, c2 with
    | [], _ => simp
    | c :: r, h =>
      have := h c List.mem_cons_self
      simp only [List.head?_cons, ne_eq, Option.some.injEq]
      exact this.2.1
  have n1 : (r1 ++ (e1 ++ r2)).head? ≠ some 10 := by
    match r1, c1, hr with
    | c :: r, h, _ =>
      have := h c List.mem_cons_self
      simp only [List.cons_append, List.head?_cons, ne_eq, Option.some.injEq]
      exact this.2.1
  have e2 : fixL r2 = r2 := by
    have := fixL_row r2 [] c2
    simpa [fixL] using this
  rw [show r0 ++ e0 ++ r1 ++ e1 ++ r2 = r0 ++ (e0 ++ (r1 ++ (e1 ++ r2))) by simp, fixL_row _ _ c0, fixL_end h0 n1, fixL_row _ _ c1, fixL_end h1 n2, e2]
  simp
/-! the dots -/
noncomputable def quoL : Bool → List Nat → List Nat
  | _, [] => []
  | b, c :: r => (if (b && c == 46) = true then [46, 46] else [c]) ++ quoL (c == 10) r
noncomputable def atLine (t : Array Nat) (s : Nat) : Bool := s == 0 || t.getD (s - 1) 0 == 10
theorem next1_at {t : Array Nat} {s : Nat} (h : s < t.size) (hn : dot t s = true) : next1 t (t.size - s) s = some (s, s + 1) := by
  obtain ⟨k, hk⟩ : ∃ k, t.size - s = k + 1 := ⟨t.size - s - 1, by omega⟩
  rw [hk]
  unfold next1
  rw [if_pos hn]
theorem next1_skip {t : Array Nat} {s : Nat} (h : s < t.size) (hn : dot t s = false) : next1 t (t.size - s) s = next1 t (t.size - (s + 1)) (s + 1) := by
  obtain ⟨k, hk⟩ : ∃ k, t.size - s = k + 1 := ⟨t.size - s - 1, by omega⟩
  rw [hk, show t.size - (s + 1) = k by omega]
  conv => lhs; unfold next1
  rw [if_neg (by rw [hn]; decide)]
noncomputable def nats (b : Array UInt8) : List Nat := b.toList.map (·.toNat)
noncomputable def Byte (t : Array Nat) : Prop := ∀ c ∈ t.toList, c < 256
theorem byte_back {t : Array Nat} (hb : Byte t) (a e : Nat) : nats ((t.extract a e).map (·.toUInt8)) = (t.extract a e).toList := by
  unfold nats
  rw [Array.toList_map, List.map_map]
  have h : ∀ c ∈ (t.extract a e).toList, ((fun x : UInt8 => x.toNat) ∘ fun x : Nat => x.toUInt8) c = c := by
    intro c hc
    have : c ∈ t.toList := by
      rw [Array.toList_extract, List.extract_eq_take_drop] at hc
      exact List.mem_of_mem_drop (List.mem_of_mem_take hc)
    have := hb c this
    show (UInt8.ofNat c).toNat = c
    rw [UInt8.toNat_ofNat']
    omega
  exact (List.map_congr_left (g := _root_.id) h).trans (List.map_id _)
theorem nats_app (a b : Array UInt8) : nats (a ++ b) = nats a ++ nats b := by simp [nats]
theorem out1_skip {t : Array Nat} (hb : Byte t) (rp : Array UInt8) {s k : Nat} (h : s < t.size) (hn : dot t s = false) : nats (out1 t rp k s) = t.getD s 0 :: nats (out1 t rp k (s + 1)) := by
  cases k with
  | zero =>
    show nats ((t.extract s t.size).map (·.toUInt8)) = _ :: nats ((t.extract (s + 1) t.size).map (·.toUInt8))
    rw [byte_back hb, byte_back hb, extract_cons h (Nat.le_refl _)]
  | succ k =>
    unfold out1
    rw [next1_skip h hn]
    cases hq : next1 t (t.size - (s + 1)) (s + 1) with
    | none =>
      dsimp only
      rw [byte_back hb, byte_back hb, extract_cons h (Nat.le_refl _)]
    | some p =>
      have g := next1_some t _ _ hq
      dsimp only
      simp only [nats_app]
      rw [byte_back hb, byte_back hb, extract_cons (by omega) (by omega)]
      rfl
theorem out1_end {t : Array Nat} (rp : Array UInt8) (k : Nat) : nats (out1 t rp k t.size) = [] := by
  have e : next1 t (t.size - t.size) t.size = none := by
    rw [Nat.sub_self]
    rfl
  cases k with
  | zero => simp [out1, nats]
  | succ k =>
    unfold out1
    rw [e]
    simp [nats]
theorem out1_is {t : Array Nat} (hb : Byte t) : ∀ (n s k : Nat), t.size - s ≤ n → s ≤ t.size → t.size - s ≤ k → nats (out1 t #[46, 46] k s) = quoL (atLine t s) (t.toList.drop s) := by
  intro n
  induction n with
  | zero =>
    intro s k h1 h2 h3
    have e : s = t.size := by omega
    subst e
    rw [out1_end, List.drop_eq_nil_of_le (by simp)]
    rfl
  | succ n ih =>
    intro s k h1 h2 h3
    by_cases hs : s = t.size
    · subst hs
      rw [out1_end, List.drop_eq_nil_of_le (by simp)]
      rfl
    · have hlt : s < t.size := by omega
      have en : atLine t (s + 1) = (t.getD s 0 == 10) := by
        unfold atLine
        rw [show s + 1 - 1 = s by omega]
        rfl
      cases hn : dot t s
      · rw [out1_skip hb _ hlt hn, ih (s + 1) k (by omega) (by omega) (by omega), drop_cons hlt, en]
        have hn' : (atLine t s && t.getD s 0 == 46) = false := hn
        show _ = (if (atLine t s && t.getD s 0 == 46) = true then [46, 46] else [t.getD s 0]) ++ quoL (t.getD s 0 == 10) _
        rw [hn', if_neg (by decide)]
        rfl
      · obtain ⟨k, rfl⟩ : ∃ k', k = k' + 1 := ⟨k - 1, by omega⟩
        conv => lhs; unfold out1
        rw [next1_at hlt hn]
        dsimp only
        simp only [nats_app]
        rw [byte_back hb, ih (s + 1) k (by omega) (by omega) (by omega), drop_cons hlt, en]
        have hn' : (atLine t s && t.getD s 0 == 46) = true := hn
        show _ = (if (atLine t s && t.getD s 0 == 46) = true then [46, 46] else [t.getD s 0]) ++ quoL (t.getD s 0 == 10) _
        rw [hn', if_pos rfl]
        have e0 : (t.extract s s).toList = [] := by simp
        rw [e0, List.nil_append]
        rfl
theorem quoL_plain : ∀ (r x : List Nat), Clean r → quoL false (r ++ x) = r ++ (if r = [] then quoL false x else quoL false x)
  | [], x, _ => rfl
  | c :: r, x, h => by
    have hc := h c List.mem_cons_self
    have h10 : (c == 10) = false := by rw [beq_eq_false_iff_ne]; exact hc.2.1
    show (if (false && c == 46) = true then [46, 46] else [c]) ++ quoL (c == 10) (r ++ x) = _
    rw [h10, quoL_plain r x fun c hc => h c (List.mem_cons_of_mem _ hc), Bool.false_and, if_neg (by decide)]
    simp
theorem quoL_row {r x : List Nat} (h : Clean r) (hr : r ≠ []) : quoL true (r ++ x) = quoted r ++ quoL false x := by
  match r, h, hr with
  | c :: r, h, _ =>
    have hc := h c List.mem_cons_self
    have h10 : (c == 10) = false := by rw [beq_eq_false_iff_ne]; exact hc.2.1
    have hp := quoL_plain r x fun c hc => h c (List.mem_cons_of_mem _ hc)
    have hp' : quoL false (r ++ x) = r ++ quoL false x := by
      rw [hp]
      simp
    show (if (true && c == 46) = true then [46, 46] else [c]) ++ quoL (c == 10) (r ++ x) = _
    rw [h10, hp', Bool.true_and]
    unfold quoted
    by_cases h46 : c = 46
    · subst h46
      rw [if_pos (by decide), if_pos (by rfl)]
      simp
    · have e : (c == 46) = false := by rw [beq_eq_false_iff_ne]; exact h46
      rw [e, if_neg (by decide), if_neg (by simpa using h46)]
      simp
theorem quo_mail {r0 r1 r2 : List Nat} (c0 : Clean r0) (c1 : Clean r1) (c2 : Clean r2) (h0 : r0 ≠ []) (h1 : r1 ≠ []) :
    quoL true (r0 ++ [13, 10] ++ r1 ++ [13, 10] ++ r2) = quoted r0 ++ [13, 10] ++ quoted r1 ++ [13, 10] ++ quoted r2 := by
  have e2 : quoL true r2 = quoted r2 := by
    by_cases hr : r2 = []
    · subst hr
      rfl
    · have := quoL_row (x := []) c2 hr
      simpa [quoL] using this
  have nl : ∀ x, quoL false (13 :: 10 :: x) = 13 :: 10 :: quoL true x := fun x => rfl
  rw [show r0 ++ [13, 10] ++ r1 ++ [13, 10] ++ r2 = r0 ++ (13 :: 10 :: (r1 ++ (13 :: 10 :: r2))) by simp, quoL_row c0 h0, nl, quoL_row c1 h1, nl, e2]
  simp
/-! P3 -/
noncomputable def plainL (r0 r1 r2 : Str) : List Nat := r0.cps.toList ++ [13, 10] ++ r1.cps.toList ++ [13, 10] ++ r2.cps.toList
noncomputable def octs (r0 r1 r2 : Str) : List Nat := quoted r0.cps.toList ++ [13, 10] ++ quoted r1.cps.toList ++ [13, 10] ++ quoted r2.cps.toList
noncomputable def IsEnd (e : Str) : Prop := e = Str.ofString "\n" ∨ e = Str.ofString "\r" ∨ e = Str.ofString "\r\n"
theorem end_cps {e : Str} (h : IsEnd e) : e.cps.toList = [10] ∨ e.cps.toList = [13] ∨ e.cps.toList = [13, 10] := by
  rcases h with rfl | rfl | rfl
  · left; decide +kernel
  · right; left; decide +kernel
  · right; right; decide +kernel
theorem mail_text {r0 r1 r2 e0 e1 : Str} (ok : Ok3 r0 r1 r2) (h0 : IsEnd e0) (h1 : IsEnd e1) :
    (out2 (r0 ++ e0 ++ r1 ++ e1 ++ r2).cps #[13, 10] (r0 ++ e0 ++ r1 ++ e1 ++ r2).length 0).toList = plainL r0 r1 r2 := by
  have e : (r0 ++ e0 ++ r1 ++ e1 ++ r2).cps.toList = r0.cps.toList ++ e0.cps.toList ++ r1.cps.toList ++ e1.cps.toList ++ r2.cps.toList := by
    simp only [app_cps]
  refine (out2_is _ (r0 ++ e0 ++ r1 ++ e1 ++ r2).length 0 _ (Nat.sub_le _ _) (Nat.zero_le _) (Nat.sub_le _ _)).trans ?_
  rw [List.drop_zero, e, fix_mail ok.c0 ok.c1 ok.c2 (end_cps h0) (end_cps h1) ok.n1]
  rfl
theorem plain_byte {r0 r1 r2 : Str} (ok : Ok3 r0 r1 r2) : ∀ c ∈ plainL r0 r1 r2, c < 256 := by
  intro c hc
  simp only [plainL, List.mem_append, List.mem_cons, List.not_mem_nil, or_false] at hc
  rcases hc with (((hc | hc) | hc) | hc) | hc
  · exact (ok.c0 c hc).1
  · omega
  · exact (ok.c1 c hc).1
  · omega
  · exact (ok.c2 c hc).1
theorem plain_size {r0 r1 r2 : Str} (ok : Ok3 r0 r1 r2) : (plainL r0 r1 r2).length ≤ 11 := by
  have := ok.size
  simp only [plainL, List.length_append, List.length_cons, List.length_nil, Array.length_toList]
  have e : ∀ r : Str, r.cps.size = r.length := fun _ => rfl
  simp only [e]
  omega
theorem quoted_mem {r : List Nat} {c : Nat} (h : c ∈ quoted r) : c = 46 ∨ c ∈ r := by
  unfold quoted at h
  split at h
  · rcases List.mem_cons.mp h with h | h
    · exact .inl h
    · exact .inr h
  · exact .inr h
theorem octs_byte {r0 r1 r2 : Str} (ok : Ok3 r0 r1 r2) : ∀ c ∈ octs r0 r1 r2, c < 256 := by
  intro c hc
  simp only [octs, List.mem_append, List.mem_cons, List.not_mem_nil, or_false] at hc
  rcases hc with (((hc | hc) | hc) | hc) | hc
  · rcases quoted_mem hc with h | h
    · omega
    · exact (ok.c0 c h).1
  · omega
  · rcases quoted_mem hc with h | h
    · omega
    · exact (ok.c1 c h).1
  · omega
  · rcases quoted_mem hc with h | h
    · omega
    · exact (ok.c2 c h).1
theorem octs_size {r0 r1 r2 : Str} (ok : Ok3 r0 r1 r2) : (octs r0 r1 r2).length ≤ 11 := by
  have := ok.q
  simp only [octs, List.length_append, List.length_cons, List.length_nil]
  omega
noncomputable def toInts (l : List Nat) : List Int := l.map fun c : Nat => (c : Int)
theorem nats_make {l : List Nat} (h : ∀ c ∈ l, c < 256) : nats (byteArr (toInts l)) = l := by
  have hr : KBa.In (toInts l) := by
    intro n hn
    obtain ⟨c, hc, rfl⟩ := List.mem_map.mp hn
    have := h c hc
    omega
  have e : (nats (byteArr (toInts l))).map (fun c : Nat => (c : Int)) = l.map fun c : Nat => (c : Int) := by
    have := KBa.ints_make hr
    unfold KBw.bInts at this
    unfold nats
    rw [List.map_map]
    exact this
  exact (List.map_inj_right (fun a b hab => by
    have : (a : Int) = (b : Int) := hab
    omega)).mp e
theorem mail_octets {r0 r1 r2 : Str} (ok : Ok3 r0 r1 r2) : KBw.bInts (out1 ((byteArr (toInts (plainL r0 r1 r2))).map (·.toNat)) #[46, 46] (byteArr (toInts (plainL r0 r1 r2))).size 0) = toInts (octs r0 r1 r2) := by
  have hl : ((byteArr (toInts (plainL r0 r1 r2))).map (·.toNat)).toList = plainL r0 r1 r2 := by
    rw [Array.toList_map]
    exact nats_make (plain_byte ok)
  have hb : Byte ((byteArr (toInts (plainL r0 r1 r2))).map (·.toNat)) := by
    intro c hc
    rw [hl] at hc
    exact plain_byte ok c hc
  have hs : ((byteArr (toInts (plainL r0 r1 r2))).map (·.toNat)).size = (byteArr (toInts (plainL r0 r1 r2))).size := Array.size_map
  have e := out1_is hb (byteArr (toInts (plainL r0 r1 r2))).size 0 (byteArr (toInts (plainL r0 r1 r2))).size (by omega) (Nat.zero_le _) (by omega)
  rw [List.drop_zero, hl] at e
  have e2 : atLine ((byteArr (toInts (plainL r0 r1 r2))).map (·.toNat)) 0 = true := rfl
  rw [e2] at e
  have q := quo_mail ok.c0 ok.c1 ok.c2 ok.n0 ok.n1
  show (_ : List Int) = (octs r0 r1 r2).map fun c : Nat => (c : Int)
  have e3 : quoL true (plainL r0 r1 r2) = octs r0 r1 r2 := q
  rw [← e3, ← e]
  unfold nats KBw.bInts
  rw [List.map_map]
  rfl
/-! P4 -/
/-- a row told -/
noncomputable def toldRow (r : Str) : Str := if r.cps.toList.head? = some 46 then Str.ofString "." ++ r else r
theorem slice_one (x : Str) : (Txt.slice x none (some 1)).cps.toList = x.cps.toList.take 1 := by
  by_cases h : 1 ≤ x.cps.toList.length
  · have e : Txt.slice x none (some 1) = ⟨((x.cps.toList.drop 0).take ((1 : Int) - 0).toNat).toArray⟩ := StrLaws.sliceText_to (x := x) (j := 1) ⟨by decide, by omega⟩
    rw [e]
    rfl
  · have h0 : x.length = 0 := by
      show x.cps.size = 0
      rw [Array.length_toList] at h
      omega
    have e : Txt.slice x none (some 1) = x := by
      unfold Txt.slice
      rw [h0]
      rfl
    rw [e, List.take_of_length_le (by omega)]
theorem str_ext {a b : Str} (h : a.cps.toList = b.cps.toList) : a = b := by
  obtain ⟨a⟩ := a
  obtain ⟨b⟩ := b
  have : a = b := Array.toList_inj.mp h
  rw [this]
theorem dot_cps : (Str.ofString ".").cps.toList = [46] := by decide +kernel
theorem slice_dot (x : Str) : Txt.slice x none (some 1) = Str.ofString "." ↔ x.cps.toList.head? = some 46 := by
  have h := slice_one x
  constructor
  · intro e
    rw [e, dot_cps] at h
    cases hx : x.cps.toList with
    | nil => rw [hx] at h; cases h
    | cons c r =>
      rw [hx] at h
      cases h
      rfl
  · intro e
    apply str_ext
    rw [h, dot_cps]
    cases hx : x.cps.toList with
    | nil => rw [hx] at e; cases e
    | cons c r =>
      rw [hx] at e
      cases e
      rfl
theorem told_row (r : Str) : (toldRow r).cps.toList = quoted r.cps.toList := by
  unfold toldRow quoted
  split
  · rw [app_cps, dot_cps]
    rfl
  · rfl
theorem told_length (r : Str) : (toldRow r).length = (quoted r.cps.toList).length := by
  rw [← told_row]
  simp [Str.length]
theorem told_text (r0 r1 r2 : Str) : (Txt.join (Str.ofString "\r\n") [toldRow r0, toldRow r1, toldRow r2]).cps.toList = octs r0 r1 r2 := by
  have e : (Str.ofString "\r\n").cps.toList = [13, 10] := by decide +kernel
  unfold octs
  rw [← told_row, ← told_row, ← told_row]
  show ((((toldRow r0).cps ++ (Str.ofString "\r\n").cps ++ (toldRow r1).cps) ++ (Str.ofString "\r\n").cps ++ (toldRow r2).cps)).toList = _
  simp only [Array.toList_append, e]
theorem word_tail (f : Int) (os : List Int) : (wordOf f os).drop 5 = os := rfl
/-! G0 -/
noncomputable def lawBody : List Stmt := lit (a := bodyOf (topStmt 24)) _ (by conv => rhs; whnf)
noncomputable def lawScope : Scope := lit (a := scopeOf (topStmt 24)) _ (by conv => rhs; whnf)
noncomputable def lawName : Str := Str.ofString "law"
noncomputable def law3 : List Stmt := lit (a := lawBody.drop 3) _ (by conv => rhs; whnf)
noncomputable def law9 : List Stmt := lit (a := lawBody.drop 9) _ (by conv => rhs; whnf)
noncomputable def law14 : List Stmt := lit (a := lawBody.drop 14) _ (by conv => rhs; whnf)
noncomputable def law16 : List Stmt := lit (a := lawBody.drop 16) _ (by conv => rhs; whnf)
theorem room {d k n R : Nat} (h : d + n < R) (hk : k ≤ n) : d + k < R := Nat.lt_of_le_of_lt (Nat.add_le_add_left hk d) h
theorem roomS {d j k n R : Nat} (h : d + n < R) (hk : j + k ≤ n) : d + j + k < R := Nat.add_assoc d j k ▸ Nat.lt_of_le_of_lt (Nat.add_le_add_left hk d) h
example : PySem.Challenge.rw_rw0043_01 = PySem.Challenge.rw_rw0043_01 ∧ hd.heap_39 = hd.heap_39 := by w_top off; k_fill; exact ⟨rfl, rfl⟩
local macro_rules | `(tactic| k_all) => `(tactic| first | assumption | exact allNe (by assumption) (by omega))
local macro_rules | `(tactic| k_room) => `(tactic| ktr_room)
local macro_rules | `(tactic| w_dflts mMem) => `(tactic| first | assumption | exact List.Mem.head _ | (refine' List.Mem.tail _ ?_; w_dflts mMem))
local macro_rules | `(tactic| w_dflts mName) => `(tactic| ((with_reducible show wpAny _ _ (eval (Expr.Name _ _) _) _ _ _); k_dflt (first
  | (refine' nameX_L ?F ?v ?_ ?a ?b; (case F => k_asm); (case a => rfl); (case b => rfl); (case v => first | rfl | assumption); k_whole)
  | (refine' nameX_F ?N ?c ?m ?d ?_ ?a ?b; (case a => rfl); (case b => rfl); (case N => k_asm); (case c => rfl); (case m => w_dflts mMem); (case d => assumption); k_whole)
  | (refine' nameX_C ?N ?c ?m ?d ?_ ?a ?b; (case a => rfl); (case b => rfl); (case N => k_asm); (case c => rfl); (case m => w_dflts mMem); (case d => assumption); k_whole)
  | (refine' nameX_K ?F ?X ?T ?e ?_ ?a ?b; (case F => k_asm); (case X => k_asm); (case T => k_asm); (case a => rfl); (case b => rfl); (case e => k_is); k_whole)
  | (refine' nameX_B ?F ?X ?T ?e ?v ?n ?_ ?a ?b; (case F => k_asm); (case X => k_asm); (case T => k_asm); (case a => rfl); (case b => rfl); (case e => k_is); (case v => boot_fast); (case n => decide); k_whole))))
local macro_rules | `(tactic| w_dflts mCallW) => `(tactic| first
  | ((with_reducible show wpAny _ _ (callWith _ (Value.ref _) _ _ _) _ _ _); k_dflt (first
    | (refine' callWith_F ?k1 ?_; (case k1 => exact FnAt.of (by k_asm) (by w_dflts mMem)); k_whole)
    | (refine' callWith_F0 ?k1 ?_; (case k1 => exact FnAt.of (by k_asm) (by w_dflts mMem)); k_whole; try dsimp only [List.nil_append, List.cons_append])))
  | ((with_reducible show FnAt _ _ ∧ _); refine ⟨FnAt.of (by k_asm) (by w_dflts mMem), ?_⟩; (try dsimp only [List.nil_append, List.cons_append])))
local macro_rules | `(tactic| w_dflts mDefHit) => `(tactic| (
  k_dflt (refine' nestDef_K ?d0 ?k0 ?a0 ?_; (case d0 => exact rfl); (case k0 => exact rfl); (case a0 => exact rfl));
  k_dflt (refine' nestHit_K ?F ?N ?T ?C ?cd ?mem ?t ?n ?cl ?_; (case F => k_asm); (case N => k_asm); (case T => k_asm); (case cd => exact rfl); (case C => kn_code); (case mem => w_dflts mMem); (case t => kn_triples); (case n => kn_hit); (case cl => exact rfl); k_whole);
  intro f' ct' dc' h' tk' F' N' l1; (try dsimp only at N'); replace l1 := allLt_of l1; (try simp only [AllLt, and_true] at l1)))
local macro_rules | `(tactic| w_dflts mAll) => `(tactic| first | exact List.forall_mem_nil _ | assumption | exact allNe (by assumption) (by omega) | (refine List.forall_mem_cons.mpr ⟨by k_ne, ?_⟩; w_dflts mAll))
local macro_rules | `(tactic| w_dflts mUpdF) => `(tactic| first | (refine' UpdF.head ?ma; (case ma => w_dflts mAll)) | (refine' UpdF.tail ?ma ?mb; (case ma => k_ne); (case mb => w_dflts mUpdF)))
local macro_rules | `(tactic| w_dflts mDefCold) => `(tactic| (
  k_dflt (refine' nestDef_K ?d0 ?k0 ?a0 ?_; (case d0 => exact rfl); (case k0 => exact rfl); (case a0 => exact rfl));
  k_dflt (refine' nest_K ?F ?N ?T ?C ?cd ?U ?t ?n ?cl ?_; (case F => k_asm); (case N => k_asm); (case T => k_asm); (case cd => exact rfl); (case C => kn_code); (case U => w_dflts mUpdF); (case t => kn_triples); (case n => kn_among); (case cl => exact rfl); k_whole)))
local macro_rules | `(tactic| w_dflts mUpd) => `(tactic| first | (refine' Upd.head ?ma; (case ma => w_dflts mAll)) | (refine' Upd.tail ?ma ?mb; (case ma => k_ne); (case mb => w_dflts mUpd)))
local macro_rules | `(tactic| w_dflts mFor) => `(tactic| ((with_reducible show wpAny _ _ (exec (Stmt.For ..) _) _ _ _); with_unfolding_all refine' For_invVF ?f1 ?f2 ?f3 ?_; (case f1 => k_asm); (case f2 => rfl); (case f3 => rfl)))
local macro_rules | `(tactic| w_dflts mStore) => `(tactic| ((with_reducible show wpAny _ _ (storeName _ _ _) _ _ _); k_dflt (refine' storeX_C ?F ?N ?c ?U ?d ?_ ?a ?b; (case a => rfl); (case b => rfl); (case F => k_asm); (case N => k_asm); (case c => rfl); (case U => w_dflts mUpdF); (case d => k_asm); k_whole; intro h' o' F' N' d'; (try dsimp only at N'))))
local macro_rules | `(tactic| w_dflts mComp) => `(tactic| first
  | ((with_reducible show wpAny _ _ (exec (Stmt.Assign [Expr.Name _ _] (Expr.ListComp _ [Comprehension.mk _ _ [] _] _ _) _) _) _ _ _); k_dflt (refine LCg.Assign_ListComp_U (F₀ := by k_asm) (by rfl) (by with_unfolding_all rfl) (by with_unfolding_all rfl) (by decide) (by rfl) (by decide) (by rfl) (by rfl) (by rfl) ?_))
  | ((with_reducible show wpAny _ _ (eval (Expr.ListComp _ [Comprehension.mk _ _ [] _] _ _) _) _ _ _); k_dflt (refine LCg.ListComp_U (F₀ := by k_asm) (by with_unfolding_all rfl) (by decide) (by rfl) (by decide) (by rfl) ?_)))
local macro_rules | `(tactic| w_dflts mCompC) => `(tactic| ((with_reducible show wpAny _ _ (exec (Stmt.Assign [Expr.Name _ _] (Expr.ListComp _ [Comprehension.mk _ _ [] _] _ _) _) _) _ _ _); refine wpAny_Assign_Name ?_; k_dflt (refine LCg.ListComp_U (F₀ := by k_asm) (by with_unfolding_all rfl) (by decide) (by rfl) (by decide) (by rfl) ?_)))
local macro_rules | `(tactic| w_dflts mMems) => `(tactic| (simp only [List.forall_mem_cons]; repeat (first | exact List.forall_mem_nil _ | refine ⟨by w_dflts mMem, ?_⟩)))
local macro_rules | `(tactic| w_dflts mStop1) => `(tactic| first
  | (with_reducible show wpAny _ _ (exec (Stmt.For ..) _) _ _ _)
  | (with_reducible show wpAny _ _ (pyIter _) _ _ _)
  | (with_reducible show wpAny _ _ (call (Value.builtin "list.append") _) _ _ _)
  | (with_reducible show wpAny _ _ (call (Value.builtin "list.reverse") _) _ _ _)
  | (with_reducible show wpAny _ _ (call (Value.type "reversed") _) _ _ _)
  | (with_reducible show wpAny _ _ (call (Value.builtin "divmod") _) _ _ _)
  | (with_reducible show wpAny _ _ (binaryOp Operator.Mult (Value.ref _) _) _ _ _)
  | (with_reducible show wpAny _ _ (exec (Stmt.FunctionDef ..) _) _ _ _)
  | (with_reducible show wpAny _ _ (truthy (Value.ref _)) _ _ _)
  | (with_reducible show wpAny _ _ (call (Value.ref _) _) _ _ _)
  | (with_reducible show wpAny _ _ (subscriptTail _ _ _ _) _ _ _)
  | (with_reducible show wpAny _ _ (setItem _ _ _) _ _ _)
  | (with_reducible show wpAny _ _ (binaryOp Operator.RShift _ _) _ _ _)
  | (with_reducible show wpAny _ _ (binaryOp Operator.LShift _ _) _ _ _))
local macro_rules | `(tactic| w_dflts mStep1) => `(tactic| first
  | (k_unfold; (try dsimp only))
  | w_dflts mName
  | w_dflts mCallW
  | (k_end; wrow_close)
  | ((fail_if_success w_dflts mStop1); first | walk1 | (dsimp only; walk1) | (leave1; try dsimp only)))
/-! B1 -/
theorem inner1 {prog : Program} {w : World} {p : Program} {loose : List Str} {mean : ExcName → Option Value} {mg mb : Str → Option Value}
   {f cD cI cN c' l : Addr} {oD oI oN oc : Obj} {doc pm ctv : Value} {vsc : Array Value} {tc tk : Tok} {vs : List Value} {ns : List Int} {k : Int} {qual : Str} {nl : Nat}
   (hi : IntsAre vs ns) (hns : ∀ d ∈ ns, 0 ≤ d ∧ d < 2 ^ 20) (hlen : ns.length ≤ 32) (hk0 : 0 ≤ k) (hk9 : k ≤ 9)
   (dc : oc.data = .fields vsc) (dv : vsc[1]? = some (.str qual tc)) (dD : oD.data = .cell (some (.ref l))) (dI : oI.data = .cell (some (.ref f))) (dN : oN.data = .cell (some (.int k tk))) :
   ∀ (n : Nat) (x y : Int) (t1 t2 : Tok) (dp un : Nat) (gd : Option (List Code)) (cn : Str) (cs : Scope) (a : Addr) (ccd : Value) (cl : List (Str × Addr)) (outer : List Env) (A₀ : Around) (base h₀ : Heap) (L : Addr) (m : Str → Option Value) (s : Shared) (Q E : Value → Shared → Prop) (news : List (Addr × Obj)),
   Below A₀ base outer h₀ → Fr h₀ L s.heap m → (hd.heap_39 w.params).In h₀ → News h₀ L s.heap news → Top p loose mean mg mb h₀ → cs.kind = .function →
   (f, fnMade (Str.ofString "inner") qual d2iArgs d2iBody d2iScope [(Str.ofString "n", cN), (Str.ofString "inner", cI), (Str.ofString "digits", cD)] doc pm c' ctv) ∈ news →
   (c', oc) ∈ news → (cD, oD) ∈ news → (cI, oI) ∈ news → (cN, oN) ∈ news → (l, listOf vs.toArray nl) ∈ news →
   0 ≤ x → x < y → y ≤ ns.length → (y - x).toNat ≤ n →
   dp + n + 1 < recursionLimit → un + 8 * (n + 1) < cLine →
   (∀ h' tk' t, Fr h₀ L h' m → News h₀ L h' news → Q (.int (val k (seg ns x y)) t) { s with heap := h', toks := tk' }) →
   wpAny (model prog w) (ktrTop dp un gd cn cs L a ccd cl outer) (call (.ref f) [.int x t1, .int y t2]) Q E s := by
  intro n
  induction n with
  | zero => intros; omega
  | succ n ih =>
    intro x y t1 t2 dp un gd cn cs a ccd cl outer A₀ base h₀ L m s Q E news B F X N T hk hf hc hD hI hN hl h0 hxy hy hn hdp hun ret
    have hvb := val_bits (k := k) hk9 hns hlen
    simp only [d2iBody, d2iArgs, d2iScope, lit] at ih hf
    refine wpAny_call ?_
    k_dflt (refine' code_nest ?k1 ?k2 ?k3 ?k4 ?k5 ?kA ?kF ?kK ?k6 ?k7 ?k8 ?k9 ?kB ?_ ?c2 ?c3 ?c4 ?c5; (case kA => exact rfl); (case kF => exact rfl); (case kK => assumption); (case k1 => k_asm); (case k2 => k_asm); (case k3 => k_asm); (case k4 => k_asm); (case k5 => k_asm); (case k6 => w_dflts mMem); (case k7 => exact codeRec_news (by k_asm) (by w_dflts mMem) (by assumption) (by assumption)); (case k8 => ktr_room); (case k9 => exact BindsTo.of_eq rfl); (case c5 => decide); (case kB => exact locs rfl); (case c2 => exact rfl); (case c3 => exact rfl); (case c4 => exact rfl); k_whole; intro g' L' h' FG' F' N' B' X' T'; (try dsimp only); (try k_fold))
    have hlst := News.isList N' hl
    repeat' (first
      | ((with_reducible show wpAny _ _ (subscriptTail _ _ (Value.ref _) (Value.int _ _)) _ _ _); refine item_ints hlst hi (by omega) (by omega) (by omega) (fun t9 => ?_))
      | ((with_reducible show wpAny _ _ (binaryOp Operator.LShift _ _) _ _ _); have hm9 := mid_facts h0 hxy (by assumption); have hs9 := shift_facts (k := k) (Int.le_of_lt hm9.1) (by omega) hk0 hk9; refine lshift_int hs9.1 (shl_fits (hvb _ _) (by decide) hs9.2) ?_)
      | ((with_reducible show wpAny _ _ (call (Value.ref _) [Value.int _ _, Value.int _ _]) _ _ _);
         (have hm9 := mid_facts h0 hxy (by assumption)); 
         refine ih _ _ _ _ _ _ _ _ _ _ _ _ _ _ _ _ _ _ _ _ _ _ (by k_asm) (by k_asm) (by k_asm) (by k_asm) (by k_asm) rfl (by assumption) (by assumption) (by assumption) (by assumption) (by assumption) (by assumption) (by omega) (by omega) (by omega) (by omega) (by first | exact room hdp (by decide) | exact roomS hdp (by decide) | (dsimp only; omega)) (by first | exact room hun (by decide) | exact roomS hun (by decide) | (dsimp only; omega)) (fun h9 tk9 t9 F9 N9 => ?_))
      | ((with_reducible show wpAny _ _ (binaryOp Operator.RShift _ _) _ _ _); walk1)
      | w_dflts mStep1)
    · rw [val_one h0 hxy hy (by assumption)]
      exact ret _ _ _ (by assumption) (by assumption)
    · rw [val_split (k := k) hk0 h0 (Int.le_of_lt (mid_facts h0 hxy (by assumption)).1) (Int.le_of_lt (mid_facts h0 hxy (by assumption)).2) hy]
      exact ret _ _ _ (by assumption) (by assumption)
/-! B2 -/
theorem d2i_hot {prog : Program} {w : World} {p : Program} {loose : List Str} {mean : ExcName → Option Value} {mg mb : Str → Option Value}
   {c' l : Addr} {oc : Obj} {vsc : Array Value} {tc tk : Tok} {vs : List Value} {ns : List Int} {k : Int} {nl : Nat}
   (hi : IntsAre vs ns) (hns : ∀ d ∈ ns, 0 ≤ d ∧ d < 2 ^ 20) (hlen : ns.length ≤ 32) (hk09 : ns = [] ∨ (0 ≤ k ∧ k ≤ 9))
   (dc : oc.data = .fields vsc) (dv : vsc[1]? = some (.str qual1 tc))
   (dp un : Nat) (gd : Option (List Code)) (cn : Str) (cs : Scope) (a : Addr) (ccd : Value) (cl : List (Str × Addr)) (outer : List Env) (A₀ : Around) (base h₀ : Heap) (L : Addr) (m : Str → Option Value) (s : Shared) (Q E : Value → Shared → Prop) (news : List (Addr × Obj))
   (B : Below A₀ base outer h₀) (F : Fr h₀ L s.heap m) (X : (hd.heap_39 w.params).In h₀) (C1 : CodeHd base 58 54) (N : News h₀ L s.heap news) (T : Top p loose mean mg mb h₀) (hk : cs.kind = .function)
   (ht : (54, tabObj #[rawInt 48, rawInt 4, .ref c']) ∈ news) (hc : (c', oc) ∈ news) (hl : (l, listOf vs.toArray nl) ∈ news)
   (hdp : dp + 40 < recursionLimit) (hun : un + 400 < cLine)
   (ret : ∀ h' tk' t, Fr h₀ L h' m → News h₀ L h' news → Q (.int (val k ns) t) { s with heap := h', toks := tk' }) :
   wpAny (model prog w) (ktrTop dp un gd cn cs L a ccd cl outer) (call (.ref 59) [.ref l, .int k tk]) Q E s := by
  refine wpAny_call ?_
  k_dflt (refine' code_defC ?k1 ?k2 ?k3 ?k4 ?k5 ?kA ?kF ?kK ?k6 ?k7 ?k8 ?k9 ?kB ?kD ?_ ?c2 ?c3 ?c4; (case kA => exact rfl); (case kF => exact rfl); (case kK => assumption); (case k1 => k_asm); (case k2 => k_asm); (case k3 => k_asm); (case k4 => k_asm); (case k5 => k_asm); (case k6 => k_is); (case k7 => k_is); (case k8 => ktr_room); (case k9 => exact BindsTo.of_eq rfl); (case kB => exact rfl); (case kD => decide +kernel); (case c2 => exact rfl); (case c3 => exact rfl); (case c4 => exact rfl); k_whole; intro g' L' h' tk' cells' FG' F' N' Y' B' X' T' l1; replace l1 := allLt_of l1; k_cells Y'; (try simp only [List.cons_append, List.nil_append] at N'); (try dsimp only); (try k_fold))
  repeat' (w_dflts mStep1)
  w_dflts mDefHit
  repeat' (first
    | ((with_reducible show wpAny _ _ (truthy (Value.ref _)) _ _ _); refine truthy_ints (News.isList (by k_asm) (by w_dflts mMem)) hi (by omega) ?_)
    | ((with_reducible show wpAny _ _ (call (Value.builtin "len") _) _ _ _); refine len_ints (News.isList (by k_asm) (by w_dflts mMem)) hi (by omega) ?_)
    | w_dflts mStep1)
  · have hk1 : 0 ≤ k ∧ k ≤ 9 := hk09.resolve_left (fun e => by subst e; simp at *)
    refine' inner1 (qual := qual1) (l := l) (k := k) (ns := ns) (vs := vs) hi hns hlen hk1.1 hk1.2 dc dv ?dD ?dI ?dN 32 0 _ _ _ _ _ _ _ _ _ _ _ _ _ _ _ _ _ _ _ _ _ (by k_asm) (by k_asm) (by k_asm) (by k_asm) (by k_asm) rfl ?mf ?mc ?mD ?mI ?mN ?ml (by omega) (by omega) (by omega) (by omega) (by first | exact room hdp (by decide) | exact roomS hdp (by decide) | (dsimp only; omega)) (by first | exact room hun (by decide) | exact roomS hun (by decide) | (dsimp only; omega)) (fun h9 tk9 t9 F9 N9 => ?_)
    case mf => exact List.Mem.head _
    case mc => w_dflts mMem
    case mD => w_dflts mMem
    case mI => w_dflts mMem
    case mN => w_dflts mMem
    case ml => w_dflts mMem
    case dD => assumption
    case dI => assumption
    case dN => assumption
    repeat' (w_dflts mStep1)
    rw [seg_all]
    exact ret _ _ _ (by assumption) (cb_drop (by assumption) (by intro p hp; w_dflts mMem))
  · have e : ns = [] := by cases ns with
      | nil => rfl
      | cons d r => simp at *
    subst e
    exact ret _ _ _ (by assumption) (cb_drop (by assumption) (by intro p hp; w_dflts mMem))
/-! B3 -/
theorem inner2 {prog : Program} {w : World} {p : Program} {loose : List Str} {mean : ExcName → Option Value} {mg mb : Str → Option Value}
   {f cA cI cN c' ld : Addr} {oA oI oN oc : Obj} {doc pm ctv : Value} {vsc : Array Value} {tc tk : Tok} {k : Int} {qual : Str} {nl : Nat}
   (hk0 : 0 ≤ k) (hk9 : k ≤ 9)
   (dc : oc.data = .fields vsc) (dv : vsc[1]? = some (.str qual tc)) (dA : oA.data = .cell (some (.ref ld))) (dI : oI.data = .cell (some (.ref f))) (dN : oN.data = .cell (some (.int k tk))) :
   ∀ (n : Nat) (z x y : Int) (t0 t1 t2 : Tok) (us : List Value) (ds : List Int) (dp un : Nat) (gd : Option (List Code)) (cn : Str) (cs : Scope) (a : Addr) (ccd : Value) (cl : List (Str × Addr)) (outer : List Env) (A₀ : Around) (base h₀ : Heap) (L : Addr) (m : Str → Option Value) (s : Shared) (Q E : Value → Shared → Prop) (news : List (Addr × Obj)),
   Below A₀ base outer h₀ → Fr h₀ L s.heap m → (hd.heap_39 w.params).In h₀ → News h₀ L s.heap ((ld, listOf us.toArray nl) :: news) → Top p loose mean mg mb h₀ → cs.kind = .function →
   (∀ q ∈ news, q.1 ≠ ld) → IntsAre us ds →
   (f, fnMade (Str.ofString "inner") qual i2dArgs i2dBody i2dScope [(Str.ofString "n", cN), (Str.ofString "inner", cI), (Str.ofString "a_digits", cA)] doc pm c' ctv) ∈ news →
   (c', oc) ∈ news → (cA, oA) ∈ news → (cI, oI) ∈ news → (cN, oN) ∈ news →
   0 ≤ x → x < y → y ≤ ds.length → ds.length ≤ 32 → (y - x).toNat ≤ n → 0 ≤ z → z < 2 ^ (k.toNat * (y - x).toNat) →
   dp + n + 1 < recursionLimit → un + 8 * (n + 1) < cLine →
   (∀ h' tk' us', IntsAre us' (put ds x (digs k (y - x).toNat z)) → Fr h₀ L h' m → News h₀ L h' ((ld, listOf us'.toArray nl) :: news) → Q .none { s with heap := h', toks := tk' }) →
   wpAny (model prog w) (ktrTop dp un gd cn cs L a ccd cl outer) (call (.ref f) [.int z t0, .int x t1, .int y t2]) Q E s := by
  intro n
  induction n with
  | zero => intros; omega
  | succ n ih =>
    intro z x y t0 t1 t2 us ds dp un gd cn cs a ccd cl outer A₀ base h₀ L m s Q E news B F X N T hk hoff hi hf hc hA hI hN h0 hxy hy h64 hn hz0 hz hdp hun ret
    simp only [i2dBody, i2dArgs, i2dScope, lit] at ih hf
    have h32 : y - x ≤ 32 := by omega
    refine wpAny_call ?_
    k_dflt (refine' code_nest ?k1 ?k2 ?k3 ?k4 ?k5 ?kA ?kF ?kK ?k6 ?k7 ?k8 ?k9 ?kB ?_ ?c2 ?c3 ?c4 ?c5; (case kA => exact rfl); (case kF => exact rfl); (case kK => assumption); (case k1 => k_asm); (case k2 => k_asm); (case k3 => k_asm); (case k4 => k_asm); (case k5 => k_asm); (case k6 => w_dflts mMem); (case k7 => exact codeRec_news (by k_asm) (by w_dflts mMem) (by assumption) (by assumption)); (case k8 => ktr_room); (case k9 => exact BindsTo.of_eq rfl); (case c5 => decide); (case kB => exact locs rfl); (case c2 => exact rfl); (case c3 => exact rfl); (case c4 => exact rfl); k_whole; intro g' L' h' FG' F' N' B' X' T'; (try dsimp only); (try k_fold))
    repeat' (first
      | ((with_reducible show wpAny _ _ (setItem (Value.ref _) (Value.int _ _) (Value.int _ _)) _ _ _); refine ksa_set (by k_asm) (by k_asm) (Upd.head hoff) hi h0 (by omega) (by omega) (fun h9 F9 N9 I9 _ _ => ?_))
      | ((with_reducible show wpAny _ _ (binaryOp Operator.RShift _ (Value.int (_ * _) _)) _ _ _); have hm9 := mid_facts h0 hxy (by assumption); have hs9 := shift_facts (k := k) (Int.le_of_lt hm9.1) (by omega) hk0 hk9; refine rshift_int hs9.1 ?_)
      | ((with_reducible show wpAny _ _ (binaryOp Operator.RShift _ _) _ _ _); refine rshift_int (by decide) ?_)
      | ((with_reducible show wpAny _ _ (binaryOp Operator.LShift _ _) _ _ _); have hq9 := i2d_split (ds := ds) hk0 hk9 h0 hm9.1 hm9.2 hy h32 hz0 hz; refine lshift_int hs9.1 (shl_fits hq9.2.2.1 (by decide) hs9.2) ?_)
      | w_dflts mStep1)
    · have e := put_one (ds := ds) (p := x) (x := z) (by omega)
      have e1 : (y - x).toNat = 1 := by omega
      have e2 : digs k (y - x).toNat z = [z] := by
        rw [e1] at hz ⊢
        exact digs_one hz0 (by simpa using hz)
      rw [e2, ← e] at ret
      exact ret _ _ _ I9 (by assumption) (by assumption)
    · refine' ih _ _ _ _ _ _ us ds _ _ _ _ _ _ _ _ _ _ _ _ _ _ _ _ _ news (by k_asm) (by k_asm) (by k_asm) (by k_asm) (by k_asm) rfl hoff hi hf hc hA hI hN h0 hm9.1 (by omega) h64 (by omega) hq9.1.1 hq9.1.2 (by first | exact room hdp (by decide) | exact roomS hdp (by decide) | (dsimp only; omega)) (by first | exact room hun (by decide) | exact roomS hun (by decide) | (dsimp only; omega)) (fun h9 tk9 us9 I9 F9 N9 => ?_)
      repeat' (w_dflts mStep1)
      have hl9 : (put ds x (digs k ((x + y).fdiv (2 ^ Int.toNat 1) - x).toNat (Builtin.bitXor z (z.fdiv (2 ^ (((x + y).fdiv (2 ^ Int.toNat 1) - x) * k).toNat) * 2 ^ (((x + y).fdiv (2 ^ Int.toNat 1) - x) * k).toNat)))).length = ds.length := put_length (by rw [digs_length]; omega)
      refine' ih _ _ _ _ _ _ us9 _ _ _ _ _ _ _ _ _ _ _ _ _ _ _ _ _ _ news (by k_asm) (by k_asm) (by k_asm) (by k_asm) (by k_asm) rfl hoff I9 hf hc hA hI hN (by omega) hm9.2 (by rw [hl9]; exact hy) (by rw [hl9]; exact h64) (by omega) hq9.2.1.1 hq9.2.1.2 (by first | exact room hdp (by decide) | exact roomS hdp (by decide) | (dsimp only; omega)) (by first | exact room hun (by decide) | exact roomS hun (by decide) | (dsimp only; omega)) (fun h8 tk8 us8 I8 F8 N8 => ?_)
      rw [hq9.2.2.2] at I8
      repeat' (w_dflts mStep1)
      exact ret _ _ _ I8 (by assumption) (by assumption)
/-! B4 -/
theorem i2d_hot {prog : Program} {w : World} {p : Program} {loose : List Str} {mean : ExcName → Option Value} {mg mb : Str → Option Value}
   {c' : Addr} {oc : Obj} {vsc : Array Value} {tc ta tk : Tok} {a k : Int}
   (hk1 : 1 ≤ k) (hk9 : k ≤ 9) (ha0 : 0 ≤ a) (ha : a < 2 ^ (k.toNat * 32))
   (dc : oc.data = .fields vsc) (dv : vsc[1]? = some (.str qual2 tc))
   (dp un : Nat) (gd : Option (List Code)) (cn : Str) (cs : Scope) (aa : Addr) (ccd : Value) (cl : List (Str × Addr)) (outer : List Env) (A₀ : Around) (base h₀ : Heap) (L : Addr) (m : Str → Option Value) (s : Shared) (Q E : Value → Shared → Prop) (news : List (Addr × Obj))
   (B : Below A₀ base outer h₀) (F : Fr h₀ L s.heap m) (X : (hd.heap_39 w.params).In h₀) (C1 : CodeHd base 51 47) (N : News h₀ L s.heap news) (T : Top p loose mean mg mb h₀) (hk : cs.kind = .function)
   (ht : (47, tabObj #[rawInt 33, rawInt 4, .ref c']) ∈ news) (hc : (c', oc) ∈ news)
   (hdp : dp + 40 < recursionLimit) (hun : un + 400 < cLine)
   (ret : ∀ h' tk' l us n0 c, Fr h₀ L h' m → News h₀ L h' ((l, listOf us.toArray n0) :: news) → AllLt l news → IntsAre us (digs k c a) → a < 2 ^ (k.toNat * c) → (∀ N : Nat, a < 2 ^ (k.toNat * N) → c ≤ N) → Q (.ref l) { s with heap := h', toks := tk' }) :
   wpAny (model prog w) (ktrTop dp un gd cn cs L aa ccd cl outer) (call (.ref 52) [.int a ta, .int k tk]) Q E s := by
  refine wpAny_call ?_
  k_dflt (refine' code_defC ?k1 ?k2 ?k3 ?k4 ?k5 ?kA ?kF ?kK ?k6 ?k7 ?k8 ?k9 ?kB ?kD ?_ ?c2 ?c3 ?c4; (case kA => exact rfl); (case kF => exact rfl); (case kK => assumption); (case k1 => k_asm); (case k2 => k_asm); (case k3 => k_asm); (case k4 => k_asm); (case k5 => k_asm); (case k6 => k_is); (case k7 => k_is); (case k8 => ktr_room); (case k9 => exact BindsTo.of_eq rfl); (case kB => exact rfl); (case kD => decide +kernel); (case c2 => exact rfl); (case c3 => exact rfl); (case c4 => exact rfl); k_whole; intro g' L' h' tk' cells' FG' F' N' Y' B' X' T' l1; replace l1 := allLt_of l1; k_cells Y'; (try simp only [List.cons_append, List.nil_append] at N'); (try dsimp only); (try k_fold))
  have hlen := i2d_len ha0 hk1
  have hc32 := hlen.2.2 32 ha
  repeat' (first
    | ((with_reducible show wpAny _ _ (binaryOp Operator.Mult (Value.ref _) _) _ _ _); dsimp only; refine mul_rep (by k_asm) (by k_asm) (by w_dflts mMem) hlen.1 (by omega) (fun l9 h9 F9 N9 lt9 => ?_); (try simp only [AllLt, and_true] at lt9))
    | ((with_reducible show wpAny _ _ (exec (Stmt.FunctionDef ..) _) _ _ _); w_dflts mDefHit)
    | ((with_reducible show wpAny _ _ (call (Value.builtin "len") _) _ _ _); refine len_ints (News.isList (by k_asm) (by w_dflts mMem)) (ints_rep 0 _ _) (by rw [List.length_replicate]; omega) ?_)
    | w_dflts mStep1)
  · have hc0 : 0 < ((((Builtin.Int.intBits a : Nat) : Int) + k - 1).fdiv k).toNat := by
      refine Nat.pos_of_ne_zero fun e => ?_
      have h := hlen.2.1
      rw [e] at h
      simp at h
      omega
    have e0 : (((List.replicate ((((Builtin.Int.intBits a : Nat) : Int) + k - 1).fdiv k).toNat (0 : Int)).length : Nat) : Int) = ((((((Builtin.Int.intBits a : Nat) : Int) + k - 1).fdiv k).toNat : Nat) : Int) := by rw [List.length_replicate]
    have e1 : (((((((Builtin.Int.intBits a : Nat) : Int) + k - 1).fdiv k).toNat : Nat) : Int) - 0).toNat = ((((Builtin.Int.intBits a : Nat) : Int) + k - 1).fdiv k).toNat := by omega
    rw [e0]
    refine' inner2 (qual := qual2) (k := k) (by omega) hk9 dc dv ?dA ?dI ?dN 32 _ _ _ _ _ _ _ (List.replicate ((((Builtin.Int.intBits a : Nat) : Int) + k - 1).fdiv k).toNat 0) _ _ _ _ _ _ _ _ _ _ _ _ _ _ _ _ _ _ (by k_asm) (by k_asm) (by k_asm) (news_two (by assumption)) (by k_asm) rfl ?ho (ints_rep 0 _ _) ?mf ?mc ?mA ?mI ?mN (Int.le_refl _) (by omega) (by rw [List.length_replicate]; omega) (by rw [List.length_replicate]; omega) (by omega) ha0 (by rw [e1]; exact hlen.2.1) (by first | exact room hdp (by decide) | exact roomS hdp (by decide) | (dsimp only; omega)) (by first | exact room hun (by decide) | exact roomS hun (by decide) | (dsimp only; omega)) (fun h8 tk8 us8 I8 F8 N8 => ?_)
    case mf => exact List.Mem.head _
    case mc => w_dflts mMem
    case mA => w_dflts mMem
    case mI => w_dflts mMem
    case mN => w_dflts mMem
    case dA => assumption
    case dI => assumption
    case dN => assumption
    case ho => 
      refine List.forall_mem_cons.mpr ⟨by k_ne, ?_⟩
      refine List.forall_mem_cons.mpr ⟨by k_ne, ?_⟩
      refine List.forall_mem_cons.mpr ⟨by k_ne, ?_⟩
      refine List.forall_mem_cons.mpr ⟨by k_ne, ?_⟩
      refine List.forall_mem_cons.mpr ⟨by k_ne, ?_⟩
      exact allNe (by assumption) (by omega)
    rw [e1, put_all (by rw [digs_length, List.length_replicate])] at I8
    repeat' (w_dflts mStep1)
    exact ret _ _ _ _ _ _ (by assumption) (cb_drop (by assumption) (by intro p hp; rcases List.mem_cons.mp hp with rfl | hp; exact List.Mem.head _; w_dflts mMem)) lt9.2.2.2.2 I8 hlen.2.1 hlen.2.2
  · have e : a = 0 := (by omega)
    have I8 := ints_rep 0 tk' ((((Builtin.Int.intBits a : Nat) : Int) + k - 1).fdiv k).toNat
    have e2 : List.replicate ((((Builtin.Int.intBits a : Nat) : Int) + k - 1).fdiv k).toNat 0 = digs k ((((Builtin.Int.intBits a : Nat) : Int) + k - 1).fdiv k).toNat a := by
      conv => rhs; arg 3; rw [e]
      exact (digs_zero k _).symm
    rw [e2] at I8
    exact ret _ _ _ _ _ _ (by assumption) (cb_drop (by assumption) (by intro p hp; rcases List.mem_cons.mp hp with rfl | hp; w_dflts mMem; w_dflts mMem)) lt9.2.2.2.2 I8 hlen.2.1 hlen.2.2
/-! B5 -/
theorem i2d_cold {prog : Program} {w : World} {p : Program} {loose : List Str} {mean : ExcName → Option Value} {mg mb : Str → Option Value}
   {ta tk : Tok} {a k : Int}
   (hk1 : 1 ≤ k) (hk9 : k ≤ 9) (ha0 : 0 ≤ a) (ha : a < 2 ^ (k.toNat * 32))
   (dp un : Nat) (gd : Option (List Code)) (cn : Str) (cs : Scope) (aa : Addr) (ccd : Value) (cl : List (Str × Addr)) (outer : List Env) (A₀ : Around) (base h₀ : Heap) (L : Addr) (m : Str → Option Value) (s : Shared) (Q E : Value → Shared → Prop) (news : List (Addr × Obj))
   (B : Below A₀ base outer h₀) (F : Fr h₀ L s.heap m) (X : (hd.heap_39 w.params).In h₀) (C1 : CodeHd base 51 47) (N : News h₀ L s.heap ((47, tabObj #[]) :: news)) (T : Top p loose mean mg mb h₀) (hk : cs.kind = .function)
   (hoff : ∀ q ∈ news, q.1 ≠ 47)
   (hdp : dp + 40 < recursionLimit) (hun : un + 400 < cLine)
   (ret : ∀ h' tk' l us n0 c c' oc vsc tc, Fr h₀ L h' m → News h₀ L h' ((l, listOf us.toArray n0) :: (47, tabObj #[rawInt 33, rawInt 4, .ref c']) :: (c', oc) :: news) → oc.data = .fields vsc → vsc[1]? = some (.str qual2 tc) → AllLt l news → (@LT.lt Nat _ l c') → (@LT.lt Nat _ 47 l) → IntsAre us (digs k c a) → a < 2 ^ (k.toNat * c) → (∀ N : Nat, a < 2 ^ (k.toNat * N) → c ≤ N) → Q (.ref l) { s with heap := h', toks := tk' }) :
   wpAny (model prog w) (ktrTop dp un gd cn cs L aa ccd cl outer) (call (.ref 52) [.int a ta, .int k tk]) Q E s := by
  refine wpAny_call ?_
  k_dflt (refine' code_defC ?k1 ?k2 ?k3 ?k4 ?k5 ?kA ?kF ?kK ?k6 ?k7 ?k8 ?k9 ?kB ?kD ?_ ?c2 ?c3 ?c4; (case kA => exact rfl); (case kF => exact rfl); (case kK => assumption); (case k1 => k_asm); (case k2 => k_asm); (case k3 => k_asm); (case k4 => k_asm); (case k5 => k_asm); (case k6 => k_is); (case k7 => k_is); (case k8 => ktr_room); (case k9 => exact BindsTo.of_eq rfl); (case kB => exact rfl); (case kD => decide +kernel); (case c2 => exact rfl); (case c3 => exact rfl); (case c4 => exact rfl); k_whole; intro g' L' h' tk' cells' FG' F' N' Y' B' X' T' l1; replace l1 := allLt_of l1; obtain ⟨l0, l1⟩ := l1; k_cells Y'; (try simp only [List.cons_append, List.nil_append] at N'); (try dsimp only); (try k_fold))
  have hlen := i2d_len ha0 hk1
  have hc32 := hlen.2.2 32 ha
  repeat' (first
    | ((with_reducible show wpAny _ _ (binaryOp Operator.Mult (Value.ref _) _) _ _ _); dsimp only; refine mul_rep (by k_asm) (by k_asm) (by w_dflts mMem) hlen.1 (by omega) (fun l9 h9 F9 N9 lt9 => ?_); (try simp only [AllLt, and_true] at lt9))
    | ((with_reducible show wpAny _ _ (exec (Stmt.FunctionDef ..) _) _ _ _); w_dflts mDefCold; intro f6 c6 oc6 vs6 t6 ct6 dc6 h6 tk6 F6 N6 d6 e6 l6 l7; (try dsimp only at N6); replace l6 := allLt_of l6; (try simp only [AllLt, and_true] at l6); replace l7 := ltN l7)
    | ((with_reducible show wpAny _ _ (call (Value.builtin "len") _) _ _ _); refine len_ints (News.isList (by k_asm) (by w_dflts mMem)) (ints_rep 0 _ _) (by rw [List.length_replicate]; omega) ?_)
    | w_dflts mStep1)
  · have hc0 : 0 < ((((Builtin.Int.intBits a : Nat) : Int) + k - 1).fdiv k).toNat := by
      refine Nat.pos_of_ne_zero fun e => ?_
      have h := hlen.2.1
      rw [e] at h
      simp at h
      omega
    have e0 : (((List.replicate ((((Builtin.Int.intBits a : Nat) : Int) + k - 1).fdiv k).toNat (0 : Int)).length : Nat) : Int) = ((((((Builtin.Int.intBits a : Nat) : Int) + k - 1).fdiv k).toNat : Nat) : Int) := by rw [List.length_replicate]
    have e1 : (((((((Builtin.Int.intBits a : Nat) : Int) + k - 1).fdiv k).toNat : Nat) : Int) - 0).toNat = ((((Builtin.Int.intBits a : Nat) : Int) + k - 1).fdiv k).toNat := by omega
    rw [e0]
    refine' inner2 (qual := qual2) (k := k) (by omega) hk9 ?dc ?dv ?dA ?dI ?dN 32 _ _ _ _ _ _ _ (List.replicate ((((Builtin.Int.intBits a : Nat) : Int) + k - 1).fdiv k).toNat 0) _ _ _ _ _ _ _ _ _ _ _ _ _ _ _ _ _ _ (by k_asm) (by k_asm) (by k_asm) (news_three (by assumption)) (by k_asm) rfl ?ho (ints_rep 0 _ _) ?mf ?mc ?mA ?mI ?mN (Int.le_refl _) (by omega) (by rw [List.length_replicate]; omega) (by rw [List.length_replicate]; omega) (by omega) ha0 (by rw [e1]; exact hlen.2.1) (by first | exact room hdp (by decide) | exact roomS hdp (by decide) | (dsimp only; omega)) (by first | exact room hun (by decide) | exact roomS hun (by decide) | (dsimp only; omega)) (fun h8 tk8 us8 I8 F8 N8 => ?_)
    case mf => exact List.Mem.head _
    case mc => w_dflts mMem
    case mA => w_dflts mMem
    case mI => w_dflts mMem
    case mN => w_dflts mMem
    case dc => assumption
    case dv => assumption
    case dA => assumption
    case dI => assumption
    case dN => assumption
    case ho => w_dflts mAll
    rw [e1, put_all (by rw [digs_length, List.length_replicate])] at I8
    repeat' (w_dflts mStep1)
    exact ret _ _ _ _ _ _ c6 oc6 vs6 t6 (by assumption) (cb_drop (by assumption) (by
      intro p hp
      rcases List.mem_cons.mp hp with rfl | hp
      · w_dflts mMem
      rcases List.mem_cons.mp hp with rfl | hp
      · w_dflts mMem
      rcases List.mem_cons.mp hp with rfl | hp
      · w_dflts mMem
      · w_dflts mMem)) d6 e6 lt9.2.2.2.2.2 (by omega) (by omega) I8 hlen.2.1 hlen.2.2
  · have e : a = 0 := (by omega)
    have I8 := ints_rep 0 tk' ((((Builtin.Int.intBits a : Nat) : Int) + k - 1).fdiv k).toNat
    have e2 : List.replicate ((((Builtin.Int.intBits a : Nat) : Int) + k - 1).fdiv k).toNat 0 = digs k ((((Builtin.Int.intBits a : Nat) : Int) + k - 1).fdiv k).toNat a := by
      conv => rhs; arg 3; rw [e]
      exact (digs_zero k _).symm
    rw [e2] at I8
    exact ret _ _ _ _ _ _ c6 oc6 vs6 t6 (by assumption) (cb_drop (by assumption) (by
      intro p hp
      rcases List.mem_cons.mp hp with rfl | hp
      · w_dflts mMem
      rcases List.mem_cons.mp hp with rfl | hp
      · w_dflts mMem
      rcases List.mem_cons.mp hp with rfl | hp
      · w_dflts mMem
      · w_dflts mMem)) d6 e6 lt9.2.2.2.2.2 (by omega) (by omega) I8 hlen.2.1 hlen.2.2
/-! B6 -/
theorem d2i_cold {prog : Program} {w : World} {p : Program} {loose : List Str} {mean : ExcName → Option Value} {mg mb : Str → Option Value}
   {l : Addr} {tk : Tok} {k : Int} {nl : Nat}
   (dp un : Nat) (gd : Option (List Code)) (cn : Str) (cs : Scope) (a : Addr) (ccd : Value) (cl : List (Str × Addr)) (outer : List Env) (A₀ : Around) (base h₀ : Heap) (L : Addr) (m : Str → Option Value) (s : Shared) (Q E : Value → Shared → Prop) (news : List (Addr × Obj))
   (B : Below A₀ base outer h₀) (F : Fr h₀ L s.heap m) (X : (hd.heap_39 w.params).In h₀) (C1 : CodeHd base 58 54) (N : News h₀ L s.heap ((54, tabObj #[]) :: news)) (T : Top p loose mean mg mb h₀) (hk : cs.kind = .function)
   (hoff : ∀ q ∈ news, q.1 ≠ 54) (hl : (l, listOf ([] : List Value).toArray nl) ∈ news)
   (hdp : dp + 40 < recursionLimit) (hun : un + 400 < cLine)
   (ret : ∀ h' tk' t c' oc vsc tc, Fr h₀ L h' m → News h₀ L h' ((54, tabObj #[rawInt 48, rawInt 4, .ref c']) :: (c', oc) :: news) → oc.data = .fields vsc → vsc[1]? = some (.str qual1 tc) → AllLt c' news → (@LT.lt Nat _ 54 c') → Q (.int 0 t) { s with heap := h', toks := tk' }) :
   wpAny (model prog w) (ktrTop dp un gd cn cs L a ccd cl outer) (call (.ref 59) [.ref l, .int k tk]) Q E s := by
  refine wpAny_call ?_
  k_dflt (refine' code_defC ?k1 ?k2 ?k3 ?k4 ?k5 ?kA ?kF ?kK ?k6 ?k7 ?k8 ?k9 ?kB ?kD ?_ ?c2 ?c3 ?c4; (case kA => exact rfl); (case kF => exact rfl); (case kK => assumption); (case k1 => k_asm); (case k2 => k_asm); (case k3 => k_asm); (case k4 => k_asm); (case k5 => k_asm); (case k6 => k_is); (case k7 => k_is); (case k8 => ktr_room); (case k9 => exact BindsTo.of_eq rfl); (case kB => exact rfl); (case kD => decide +kernel); (case c2 => exact rfl); (case c3 => exact rfl); (case c4 => exact rfl); k_whole; intro g' L' h' tk' cells' FG' F' N' Y' B' X' T' l1; replace l1 := allLt_of l1; obtain ⟨l0, l1⟩ := l1; k_cells Y'; (try simp only [List.cons_append, List.nil_append] at N'); (try dsimp only); (try k_fold))
  repeat' (first
    | ((with_reducible show wpAny _ _ (exec (Stmt.FunctionDef ..) _) _ _ _); w_dflts mDefCold; intro f6 c6 oc6 vs6 t6 ct6 dc6 h6 tk6 F6 N6 d6 e6 l6 l7; (try dsimp only at N6); replace l6 := allLt_of l6; (try simp only [AllLt, and_true] at l6); replace l7 := ltN l7)
    | ((with_reducible show wpAny _ _ (truthy (Value.ref _)) _ _ _); refine truthy_ints (News.isList (by k_asm) (by w_dflts mMem)) IntsAre.nil (by decide) ?_)
    | w_dflts mStep1)
  exact ret _ _ _ c6 oc6 vs6 t6 (by assumption) (cb_drop (by assumption) (by
      intro p hp
      rcases List.mem_cons.mp hp with rfl | hp
      · w_dflts mMem
      rcases List.mem_cons.mp hp with rfl | hp
      · w_dflts mMem
      · w_dflts mMem)) d6 e6 l6.2.2.2.2 (by omega)
/-! D1 -/
abbrev pairOf (x y : Int) (t u : Tok) : Obj := { cls := .type "tuple", data := .seq #[.int x t, .int y u] }
theorem div21 {prog : Program} {w : World} {p : Program} {loose : List Str} {mean : ExcName → Option Value} {mg mb : Str → Option Value}
   {ta tb tk : Tok} {a b k : Int}
   (ha0 : 0 ≤ a) (ha : a < 2 ^ 30) (hb0 : 0 < b) (hb : b < 2 ^ 20) (hk0 : 0 ≤ k)
   (dp un : Nat) (gd : Option (List Code)) (cn : Str) (cs : Scope) (aa : Addr) (ccd : Value) (cl : List (Str × Addr)) (outer : List Env) (A₀ : Around) (base h₀ : Heap) (L : Addr) (m : Str → Option Value) (s : Shared) (Q E : Value → Shared → Prop) (news : List (Addr × Obj))
   (B : Below A₀ base outer h₀) (F : Fr h₀ L s.heap m) (X : (hd.heap_39 w.params).In h₀) (N : News h₀ L s.heap news) (T : Top p loose mean mg mb h₀) (hk : cs.kind = .function)
   (hdp : dp + 40 < recursionLimit) (hun : un + 400 < cLine)
   (ret : ∀ h' tk' l t u, Fr h₀ L h' m → News h₀ L h' ((l, pairOf (a / b) (a % b) t u) :: news) → AllLt l news → Q (.ref l) { s with heap := h', toks := tk' }) :
   wpAny (model prog w) (ktrTop dp un gd cn cs L aa ccd cl outer) (call (.ref 38) [.int a ta, .int b tb, .int k tk]) Q E s := by
  refine wpAny_call ?_
  k_dflt (refine' code_def ?k1 ?k2 ?k3 ?k4 ?k5 ?kA ?kF ?kK ?k6 ?k7 ?k8 ?k9 ?kB ?_ ?c2 ?c3 ?c4 ?c5; (case kA => exact rfl); (case kF => exact rfl); (case kK => assumption); (case k1 => k_asm); (case k2 => k_asm); (case k3 => k_asm); (case k4 => k_asm); (case k5 => k_asm); (case k6 => k_is); (case k7 => k_is); (case k8 => ktr_room); (case k9 => exact BindsTo.of_eq rfl); (case c5 => decide); (case kB => exact locs rfl); (case c2 => exact rfl); (case c3 => exact rfl); (case c4 => exact rfl); k_whole; intro g' L' h' FG' F' N' B' X' T'; (try dsimp only); (try k_fold))
  have hb9 : ((Builtin.Int.intBits a : Nat) : Int) - k ≤ 4000 := by
    have := bits_of ha0 ha
    omega
  repeat' (w_dflts mStep1)
  refine divmod_N (by k_asm) (by k_asm) (by omega) (fun h9 F9 N9 => ?_) (Or.inl (PyProof.noPylong_small (by omega)))
  rw [Int.fdiv_eq_ediv_of_nonneg _ (Int.le_of_lt hb0), Int.fmod_eq_emod_of_nonneg _ (Int.le_of_lt hb0)] at N9
  repeat' (w_dflts mStep1)
  exact ret _ _ _ _ _ (by assumption) (by assumption) (allLt_size fun p hp => (N' p hp).1)
/-! D2 -/
theorem divpos {prog : Program} {w : World} {p : Program} {loose : List Str} {mean : ExcName → Option Value} {mg mb : Str → Option Value}
   {ta tb : Tok} {a b : Int} {c1 c2 : Addr} {oc1 oc2 : Obj} {vs1 vs2 : Array Value} {tc1 tc2 : Tok}
   (ha0 : 0 ≤ a) (ha : a < 2 ^ (Builtin.Int.intBits b * 32)) (hb0 : 0 < b) (hb : b < 2 ^ 9)
   (dc1 : oc1.data = .fields vs1) (dv1 : vs1[1]? = some (.str qual1 tc1)) (dc2 : oc2.data = .fields vs2) (dv2 : vs2[1]? = some (.str qual2 tc2))
   (dp un : Nat) (gd : Option (List Code)) (cn : Str) (cs : Scope) (aa : Addr) (ccd : Value) (cl : List (Str × Addr)) (outer : List Env) (A₀ : Around) (base h₀ : Heap) (L : Addr) (m : Str → Option Value) (s : Shared) (Q E : Value → Shared → Prop) (news : List (Addr × Obj))
   (B : Below A₀ base outer h₀) (F : Fr h₀ L s.heap m) (X : (hd.heap_39 w.params).In h₀) (C1 : CodeHd base 58 54) (C2 : CodeHd base 51 47) (N : News h₀ L s.heap news) (T : Top p loose mean mg mb h₀) (hk : cs.kind = .function)
   (ht1 : (54, tabObj #[rawInt 48, rawInt 4, .ref c1]) ∈ news) (hc1 : (c1, oc1) ∈ news) (ht2 : (47, tabObj #[rawInt 33, rawInt 4, .ref c2]) ∈ news) (hc2 : (c2, oc2) ∈ news)
   (hdp : dp + 60 < recursionLimit) (hun : un + 600 < cLine)
   (ret : ∀ h' tk' l t u, Fr h₀ L h' m → News h₀ L h' ((l, pairOf (a / b) (a % b) t u) :: news) → AllLt l news → Q (.ref l) { s with heap := h', toks := tk' }) :
   wpAny (model prog w) (ktrTop dp un gd cn cs L aa ccd cl outer) (call (.ref 66) [.int a ta, .int b tb]) Q E s := by
  refine wpAny_call ?_
  k_dflt (refine' code_def ?k1 ?k2 ?k3 ?k4 ?k5 ?kA ?kF ?kK ?k6 ?k7 ?k8 ?k9 ?kB ?_ ?c2 ?c3 ?c4 ?c5; (case kA => exact rfl); (case kF => exact rfl); (case kK => assumption); (case k1 => k_asm); (case k2 => k_asm); (case k3 => k_asm); (case k4 => k_asm); (case k5 => k_asm); (case k6 => k_is); (case k7 => k_is); (case k8 => ktr_room); (case k9 => exact BindsTo.of_eq rfl); (case c5 => decide); (case kB => exact locs rfl); (case c2 => exact rfl); (case c3 => exact rfl); (case c4 => exact rfl); k_whole; intro g' L' h' FG' F' N' B' X' T'; (try dsimp only); (try k_fold))
  have hbits : 1 ≤ Builtin.Int.intBits b ∧ Builtin.Int.intBits b ≤ 9 := by
    refine ⟨Nat.pos_of_ne_zero fun e => ?_, bits_of (Int.le_of_lt hb0) hb⟩
    have := intBits_le_iff.mp (Nat.le_of_eq e)
    simp at this
    omega
  repeat' (first
    | ((with_reducible show wpAny _ _ (call (Value.ref 52) _) _ _ _); refine i2d_hot (k := ((Builtin.Int.intBits b : Nat) : Int)) (by omega) (by omega) ha0 (by rw [Int.toNat_natCast]; exact ha) dc2 dv2 _ _ _ _ _ _ _ _ _ _ _ _ _ _ _ _ _ _ (by k_asm) (by k_asm) (by k_asm) (by k_asm) (by k_asm) (by k_asm) rfl (by w_dflts mMem) (by w_dflts mMem) (by first | exact room hdp (by decide) | exact roomS hdp (by decide) | (dsimp only; omega)) (by first | exact room hun (by decide) | exact roomS hun (by decide) | (dsimp only; omega)) (fun h5 tk5 l5 us5 n5 c5 F5 N5 lt5 I5 hc5 hm5 => ?_))
    | ((with_reducible show wpAny _ _ (newList _) _ _ _); refine newList_K (by k_asm) (by k_asm) (fun lq hq Fq Nq ltq => ?_); replace ltq := allLt_of ltq; simp only [AllLt] at ltq)
    | w_dflts mStep1)
  with_unfolding_all refine' For_invVF (by k_asm) rfl rfl ?_
  repeat' (first
    | ((with_reducible show wpAny _ _ (call (Value.type "reversed") _) _ _ _); refine krv_reversed (by k_asm) (by k_asm) (News.isList (by k_asm) (by w_dflts mMem)) (fun D9 h9 F9 N9 l9 => ?_); have l8 := allLt_of l9; simp only [AllLt] at l8)
    | ((with_reducible show wpAny _ _ (pyIter _) _ _ _); fail_if_success skip)
    | w_dflts mStep1)
  with_unfolding_all refine iter_revUnr (lo := listOf us5.toArray n5) (vs := us5) (by rfl) (by k_asm) (by k_asm) (offI_lt l9) (by w_dflts mMem) (by rfl) (by rfl) ?_
  refine rev_ind (fun rs mm nws => ∃ r0 t0 tk1 qv qs nq, nws = (lq, listOf qv.toArray nq) :: (l5, listOf us5.toArray n5) :: news ∧ mm (Str.ofString "r") = some (.int r0 t0) ∧ mm (Str.ofString "q_digits") = some (.ref lq) ∧
      mm (Str.ofString "n") = some (.int ((Builtin.Int.intBits b : Nat) : Int) tk1) ∧ mm (Str.ofString "b") = some (.int b tb) ∧ IntsAre qv qs ∧ 0 ≤ r0 ∧ r0 < b ∧ (∀ q ∈ qs, 0 ≤ q ∧ q < 2 ^ 20) ∧ qs.length + rs.length = c5 ∧
      (∀ d ∈ rs, 0 ≤ d ∧ d < 2 ^ Builtin.Int.intBits b) ∧ hv ((Builtin.Int.intBits b : Nat) : Int) (b * hv ((Builtin.Int.intBits b : Nat) : Int) 0 qs + r0) rs = a) ?turn ?done (ints_rev I5) ?start
  case start =>
    refine ⟨0, _, _, [], [], 0, rfl, rfl, rfl, rfl, rfl, .nil, Int.le_refl _, hb0, (fun _ h => nomatch h), ?_, ?_, ?_⟩
    · rw [List.length_reverse, digs_length]; exact Nat.zero_add _
    · intro d hd
      have := digs_mem (List.mem_reverse.mp hd)
      rw [Int.toNat_natCast] at this
      exact this
    · show hv _ (b * 0 + 0) _ = a
      rw [Int.mul_zero, Int.add_zero, hv_rev]
      exact val_digs ha0 hc5
  case turn =>
    rintro d rs t mm nws it hh tk2 ⟨r0, t0, tk1, qv, qs, nq, rfl, hr, hq, hn, hbm, Iq, hr0, hr1, hqs, hlen, hds, hval⟩ hit F7 N7
    have hd1 := hds d (.head _)
    have hk9 : (((Builtin.Int.intBits b : Nat) : Int)).toNat ≤ 9 := by rw [Int.toNat_natCast]; exact hbits.2
    have hz := div_size (k := ((Builtin.Int.intBits b : Nat) : Int)) hk9 hb0 hb hr0 hr1 hd1.1 (by rw [Int.toNat_natCast]; exact hd1.2)
    repeat' (first
      | ((with_reducible show wpAny _ _ (binaryOp Operator.LShift _ _) _ _ _); refine lshift_int (by omega) (shl_fits (m := 9) (bits_of hr0 (by omega)) (by decide) (by omega)) ?_)
      | ((with_reducible show wpAny _ _ (call (Value.ref 38) _) _ _ _); refine div21 hz.1.1 (by omega) hb0 (by omega) (by omega) _ _ _ _ _ _ _ _ _ _ _ _ _ _ _ _ _ _ (by k_asm) (by k_asm) (by k_asm) (by k_asm) (by k_asm) rfl (by first | exact room hdp (by decide) | exact roomS hdp (by decide) | (dsimp only; omega)) (by first | exact room hun (by decide) | exact roomS hun (by decide) | (dsimp only; omega)) (fun h3 tk3 l3 t3 u3 F3 N3 lt3 => ?_); simp only [AllLt] at lt3)
      | ((with_reducible show wpAny _ _ (call (Value.builtin "list.append") _) _ _ _); refine append_K (by k_asm) (by k_asm) (by w_dflts mUpd) (fun h2 F2 N2 => ?_) ?z2)
      | w_dflts mStep1)
    · have e1 : qv.toArray.push (Value.int ((r0 * 2 ^ (((Builtin.Int.intBits b : Nat) : Int)).toNat + d) / b) t3) = (qv ++ [Value.int ((r0 * 2 ^ (((Builtin.Int.intBits b : Nat) : Int)).toNat + d) / b) t3]).toArray := List.push_toArray _ _
      rw [e1] at N2
      refine ⟨_, _, _, (lq, listOf (qv ++ [Value.int ((r0 * 2 ^ (((Builtin.Int.intBits b : Nat) : Int)).toNat + d) / b) t3]).toArray (nq + 1)) :: (l5, listOf us5.toArray n5) :: news, rfl, by assumption, (fun p hp => N2 p (.tail _ hp)), ?_, by w_dflts mMem, ?_⟩
      · w_dflts mAll
      · refine ⟨_, _, _, _, qs ++ [(r0 * 2 ^ (((Builtin.Int.intBits b : Nat) : Int)).toNat + d) / b], _, rfl, rfl, hq, hn, hbm, ints_app Iq (.cons _ _ .nil), hz.2.2.1, hz.2.2.2, ?_, ?_, (fun d hd => hds d (.tail _ hd)), ?_⟩
        · intro q hq
          rcases List.mem_append.mp hq with hq | hq
          · exact hqs q hq
          · rw [List.mem_singleton.mp hq]; exact hz.2.1
        · simp only [List.length_append, List.length_cons, List.length_nil] at hlen ⊢
          omega
        · rw [hv_snoc, div_step hb0]
          exact hval
    · have hlv : qv.length = qs.length := Iq.length
      have := hm5 32 (by rw [Int.toNat_natCast]; exact ha)
      simp only [List.length_cons] at hlen
      rw [List.size_toArray, sizeLine_eq]
      omega
  case done =>
    rintro mm nws hh tk2 ⟨r0, t0, tk1, qv, qs, nq, rfl, hr, hq, hn, hbm, Iq, hr0, hr1, hqs, hlen, hds, hval⟩ F7 N7
    have hlq : qs.length ≤ 32 := by
      have := hm5 32 (by rw [Int.toNat_natCast]; exact ha)
      simp only [List.length_nil] at hlen
      omega
    have hlv : qv.length = qs.length := Iq.length
    obtain ⟨e1, e2⟩ := div_end hval hr0 hr1
    subst e2
    repeat' (first
      | ((with_reducible show wpAny _ _ (call (Value.builtin "list.reverse") _) _ _ _); dsimp only; refine kl_reverse (l := qv.reverse) (by k_asm) (by k_asm) rfl (by w_dflts mUpd) (by rw [sizeLine_eq]; show qv.length ≤ 16777216; omega) (fun h3 F3 N3 => ?_))
      | ((with_reducible show wpAny _ _ (call (Value.ref 59) _) _ _ _); refine d2i_hot (ints_rev Iq) (fun q hq => hqs q (List.mem_reverse.mp hq)) (by rw [List.length_reverse]; exact hlq) (.inr ⟨by omega, by omega⟩) dc1 dv1 _ _ _ _ _ _ _ _ _ _ _ _ _ _ _ _ _ _ (by k_asm) (by k_asm) (by k_asm) (by k_asm) (by k_asm) (by k_asm) rfl (by w_dflts mMem) (by w_dflts mMem) (by w_dflts mMem) (by first | exact room hdp (by decide) | exact roomS hdp (by decide) | (dsimp only; omega)) (by first | exact room hun (by decide) | exact roomS hun (by decide) | (dsimp only; omega)) (fun h4 tk4 t4 F4 N4 => ?_); rw [val_rev, e1])
      | w_dflts mStep1)
    exact ret _ _ _ _ _ (by assumption) (cb_drop (by assumption) (by
      intro p hp
      rcases List.mem_cons.mp hp with rfl | hp
      · w_dflts mMem
      · w_dflts mMem)) (And.right (And.right (by assumption)))
/-! D3 -/
theorem neg_div {a b : Int} (hb : 0 < b) : Builtin.bitNot (Builtin.bitNot a / b) = a / b ∧ b + Builtin.bitNot (Builtin.bitNot a % b) = a % b := by
  show -((-a - 1) / b) - 1 = a / b ∧ b + (-((-a - 1) % b) - 1) = a % b
  have h1 := Int.mul_ediv_add_emod (-a - 1) b
  have h2 := Int.emod_nonneg (-a - 1) (show b ≠ 0 by omega)
  have h3 := Int.emod_lt_of_pos (-a - 1) hb
  have e : b * (-((-a - 1) / b) - 1) + (b + (-((-a - 1) % b) - 1)) = a := by
    rw [Int.mul_sub, Int.mul_neg, Int.mul_one]
    omega
  exact div_end e (by omega) (by omega)
theorem idm_pos {prog : Program} {w : World} {p : Program} {loose : List Str} {mean : ExcName → Option Value} {mg mb : Str → Option Value}
   {ta tb : Tok} {a b : Int} {c1 c2 : Addr} {oc1 oc2 : Obj} {vs1 vs2 : Array Value} {tc1 tc2 : Tok}
   (ha0 : 0 ≤ a) (ha : a < 2 ^ (Builtin.Int.intBits b * 32)) (hb0 : 0 < b) (hb : b < 2 ^ 9)
   (dc1 : oc1.data = .fields vs1) (dv1 : vs1[1]? = some (.str qual1 tc1)) (dc2 : oc2.data = .fields vs2) (dv2 : vs2[1]? = some (.str qual2 tc2))
   (dp un : Nat) (gd : Option (List Code)) (cn : Str) (cs : Scope) (aa : Addr) (ccd : Value) (cl : List (Str × Addr)) (outer : List Env) (A₀ : Around) (base h₀ : Heap) (L : Addr) (m : Str → Option Value) (s : Shared) (Q E : Value → Shared → Prop) (news : List (Addr × Obj))
   (B : Below A₀ base outer h₀) (F : Fr h₀ L s.heap m) (X : (hd.heap_39 w.params).In h₀) (C1 : CodeHd base 58 54) (C2 : CodeHd base 51 47) (N : News h₀ L s.heap news) (T : Top p loose mean mg mb h₀) (hk : cs.kind = .function)
   (ht1 : (54, tabObj #[rawInt 48, rawInt 4, .ref c1]) ∈ news) (hc1 : (c1, oc1) ∈ news) (ht2 : (47, tabObj #[rawInt 33, rawInt 4, .ref c2]) ∈ news) (hc2 : (c2, oc2) ∈ news)
   (hdp : dp + 70 < recursionLimit) (hun : un + 700 < cLine)
   (ret : ∀ h' tk' l t u, Fr h₀ L h' m → News h₀ L h' ((l, pairOf (a / b) (a % b) t u) :: news) → AllLt l news → Q (.ref l) { s with heap := h', toks := tk' }) :
   wpAny (model prog w) (ktrTop dp un gd cn cs L aa ccd cl outer) (call (.ref 73) [.int a ta, .int b tb]) Q E s := by
  refine wpAny_call ?_
  k_dflt (refine' code_def ?k1 ?k2 ?k3 ?k4 ?k5 ?kA ?kF ?kK ?k6 ?k7 ?k8 ?k9 ?kB ?_ ?c2 ?c3 ?c4 ?c5; (case kA => exact rfl); (case kF => exact rfl); (case kK => assumption); (case k1 => k_asm); (case k2 => k_asm); (case k3 => k_asm); (case k4 => k_asm); (case k5 => k_asm); (case k6 => k_is); (case k7 => k_is); (case k8 => ktr_room); (case k9 => exact BindsTo.of_eq rfl); (case c5 => decide); (case kB => exact locs rfl); (case c2 => exact rfl); (case c3 => exact rfl); (case c4 => exact rfl); k_whole; intro g' L' h' FG' F' N' B' X' T'; (try dsimp only); (try k_fold))
  repeat' (first
    | ((with_reducible show wpAny _ _ (call (Value.ref 66) _) _ _ _); refine divpos ha0 ha hb0 hb dc1 dv1 dc2 dv2 _ _ _ _ _ _ _ _ _ _ _ _ _ _ _ _ _ _ (by k_asm) (by k_asm) (by k_asm) (by k_asm) (by k_asm) (by k_asm) (by k_asm) rfl (by w_dflts mMem) (by w_dflts mMem) (by w_dflts mMem) (by w_dflts mMem) (by first | exact room hdp (by decide) | exact roomS hdp (by decide) | (dsimp only; omega)) (by first | exact room hun (by decide) | exact roomS hun (by decide) | (dsimp only; omega)) (fun h4 tk4 l4 t4 u4 F4 N4 lt4 => ?_))
    | w_dflts mStep1)
  · exfalso; omega
  · exact ret _ _ _ _ _ (by assumption) (by assumption) lt4
theorem idm {prog : Program} {w : World} {p : Program} {loose : List Str} {mean : ExcName → Option Value} {mg mb : Str → Option Value}
   {ta tb : Tok} {a b : Int} {c1 c2 : Addr} {oc1 oc2 : Obj} {vs1 vs2 : Array Value} {tc1 tc2 : Tok}
   (han : -(2 ^ 30) < a) (ha : a < 2 ^ (Builtin.Int.intBits b * 32)) (hb0 : 0 < b) (hb : b < 2 ^ 9)
   (dc1 : oc1.data = .fields vs1) (dv1 : vs1[1]? = some (.str qual1 tc1)) (dc2 : oc2.data = .fields vs2) (dv2 : vs2[1]? = some (.str qual2 tc2))
   (dp un : Nat) (gd : Option (List Code)) (cn : Str) (cs : Scope) (aa : Addr) (ccd : Value) (cl : List (Str × Addr)) (outer : List Env) (A₀ : Around) (base h₀ : Heap) (L : Addr) (m : Str → Option Value) (s : Shared) (Q E : Value → Shared → Prop) (news : List (Addr × Obj))
   (B : Below A₀ base outer h₀) (F : Fr h₀ L s.heap m) (X : (hd.heap_39 w.params).In h₀) (C1 : CodeHd base 58 54) (C2 : CodeHd base 51 47) (N : News h₀ L s.heap news) (T : Top p loose mean mg mb h₀) (hk : cs.kind = .function)
   (ht1 : (54, tabObj #[rawInt 48, rawInt 4, .ref c1]) ∈ news) (hc1 : (c1, oc1) ∈ news) (ht2 : (47, tabObj #[rawInt 33, rawInt 4, .ref c2]) ∈ news) (hc2 : (c2, oc2) ∈ news)
   (hdp : dp + 80 < recursionLimit) (hun : un + 800 < cLine)
   (ret : ∀ h' tk' l t u, Fr h₀ L h' m → News h₀ L h' ((l, pairOf (a / b) (a % b) t u) :: news) → AllLt l news → Q (.ref l) { s with heap := h', toks := tk' }) :
   wpAny (model prog w) (ktrTop dp un gd cn cs L aa ccd cl outer) (call (.ref 73) [.int a ta, .int b tb]) Q E s := by
  by_cases hs : 0 ≤ a
  · exact idm_pos hs ha hb0 hb dc1 dv1 dc2 dv2 _ _ _ _ _ _ _ _ _ _ _ _ _ _ _ _ _ _ B F X C1 C2 N T hk ht1 hc1 ht2 hc2 (by omega) (by omega) ret
  refine wpAny_call ?_
  k_dflt (refine' code_def ?k1 ?k2 ?k3 ?k4 ?k5 ?kA ?kF ?kK ?k6 ?k7 ?k8 ?k9 ?kB ?_ ?c2 ?c3 ?c4 ?c5; (case kA => exact rfl); (case kF => exact rfl); (case kK => assumption); (case k1 => k_asm); (case k2 => k_asm); (case k3 => k_asm); (case k4 => k_asm); (case k5 => k_asm); (case k6 => k_is); (case k7 => k_is); (case k8 => ktr_room); (case k9 => exact BindsTo.of_eq rfl); (case c5 => decide); (case kB => exact locs rfl); (case c2 => exact rfl); (case c3 => exact rfl); (case c4 => exact rfl); k_whole; intro g' L' h' FG' F' N' B' X' T'; (try dsimp only); (try k_fold))
  have e0 : Builtin.bitNot a = -a - 1 := rfl
  have hbits : 1 ≤ Builtin.Int.intBits b := by
    refine Nat.pos_of_ne_zero fun e => ?_
    have := intBits_le_iff.mp (Nat.le_of_eq e)
    simp at this
    omega
  have hna : Builtin.bitNot a < 2 ^ (Builtin.Int.intBits b * 32) := by
    have h1 : (2 : Int) ^ 32 ≤ 2 ^ (Builtin.Int.intBits b * 32) := by
      have := Nat.pow_le_pow_right (n := 2) (by decide) (show 32 ≤ Builtin.Int.intBits b * 32 by omega)
      exact_mod_cast this
    have h2 : (2 : Int) ^ 32 = 4294967296 := by decide
    omega
  repeat' (first
    | ((with_reducible show wpAny _ _ (call (Value.ref 73) _) _ _ _); refine idm_pos (by rw [e0]; omega) hna hb0 hb dc1 dv1 dc2 dv2 _ _ _ _ _ _ _ _ _ _ _ _ _ _ _ _ _ _ (by k_asm) (by k_asm) (by k_asm) (by k_asm) (by k_asm) (by k_asm) (by k_asm) rfl (by w_dflts mMem) (by w_dflts mMem) (by w_dflts mMem) (by w_dflts mMem) (by first | exact room hdp (by decide) | exact roomS hdp (by decide) | (dsimp only; omega)) (by first | exact room hun (by decide) | exact roomS hun (by decide) | (dsimp only; omega)) (fun h4 tk4 l4 t4 u4 F4 N4 lt4 => ?_); (try simp only [AllLt] at lt4))
    | ((with_reducible show wpAny _ _ (newTuple [Value.int (Builtin.bitNot _) _, _]) _ _ _); rw [(neg_div hb0).1, (neg_div hb0).2]; w_dflts mStep1)
    | w_dflts mStep1)
  · exfalso; omega
  exact ret _ _ _ _ _ (by assumption) (cb_drop (by assumption) (by
      intro p hp
      rcases List.mem_cons.mp hp with rfl | hp
      · w_dflts mMem
      · w_dflts mMem)) (And.right (by assumption))
local macro_rules | `(tactic| w_dflts mStop2) => `(tactic| first
  | (with_reducible show LCg.CompEnd _ _ _ _ _ _ _ _ _ _ _ _ _ _)
  | (with_reducible show SrcS _ _ _ _ _ _ _ _ _ _ _ _ _ _)
  | (with_reducible show LCt.CompSrcT _ _ _ _ _ _ _ _ _ _ _ _ _ _ _)
  | (with_reducible show LCg.CompSrc _ _ _ _ _ _ _ _ _ _ _ _ _ _)
  | (with_reducible show wpAny _ _ (call (Value.type "list") _) _ _ _)
  | (with_reducible show WhlIf _ _ _)
  | (with_reducible show TurnEnd _ _ _ _ _ _ _ _ _)
  | (with_reducible show wpAny _ _ (exec (Stmt.While ..) _) _ _ _)
  | (with_reducible show KPfDone _)
  | (with_reducible show wpAny _ _ (exec (Stmt.For ..) _) _ _ _)
  | (with_reducible show wpAny _ _ (exec (Stmt.Assign _ (Expr.ListComp ..) _) _) _ _ _)
  | (with_reducible show wpAny _ _ (binaryOp Operator.Add (Value.ref _) (Value.ref _)) _ _ _)
  | (with_reducible show wpAny _ _ (pyIter _) _ _ _)
  | (with_reducible show wpAny _ _ (call (Value.builtin "list.append") _) _ _ _)
  | (with_reducible show wpAny _ _ (call (Value.builtin "list.reverse") _) _ _ _)
  | (with_reducible show wpAny _ _ (call (Value.type "reversed") _) _ _ _)
  | (with_reducible show wpAny _ _ (call (Value.builtin "divmod") _) _ _ _)
  | (with_reducible show wpAny _ _ (binaryOp Operator.Mult (Value.ref _) _) _ _ _)
  | (with_reducible show wpAny _ _ (exec (Stmt.FunctionDef ..) _) _ _ _)
  | (with_reducible show wpAny _ _ (truthy (Value.ref _)) _ _ _)
  | (with_reducible show wpAny _ _ (call (Value.ref _) _) _ _ _)
  | (with_reducible show wpAny _ _ (subscriptTail _ _ _ _) _ _ _)
  | (with_reducible show wpAny _ _ (setItem _ _ _) _ _ _)
  | (with_reducible show wpAny _ _ (binaryOp Operator.RShift _ _) _ _ _)
  | (with_reducible show wpAny _ _ (binaryOp Operator.LShift _ _) _ _ _))
local macro_rules | `(tactic| w_dflts mStep2) => `(tactic| first
  | (k_unfold; (try dsimp only))
  | w_dflts mName
  | (k_end; wrow_close)
  | ((fail_if_success w_dflts mStop2); first | walk1 | (dsimp only; walk1) | (leave1; try dsimp only)))
/-! E0 -/
theorem isterm {prog : Program} {w : World} {p : Program} {loose : List Str} {mean : ExcName → Option Value} {mg mb : Str → Option Value}
   {d : Int} {td : Nat}
   (dp un : Nat) (gd : Option (List Code)) (cn : Str) (cs : Scope) (aa : Addr) (ccd : Value) (cl : List (Str × Addr)) (outer : List Env) (A₀ : Around) (base h₀ : Heap) (L : Addr) (m : Str → Option Value) (s : Shared) (Q E : Value → Shared → Prop) (news : List (Addr × Obj))
   (B : Below A₀ base outer h₀) (F : Fr h₀ L s.heap m) (X : (hd.heap_39 w.params).In h₀) (N : News h₀ L s.heap news) (T : Top p loose mean mg mb h₀) (hk : cs.kind = .function)
   (hdp : dp + 10 < recursionLimit) (hun : un + 100 < cLine)
   (ret : ∀ h' tk', Fr h₀ L h' m → News h₀ L h' news → Q (.bool (decide (d < 256))) { s with heap := h', toks := tk' }) :
   wpAny (model prog w) (ktrTop dp un gd cn cs L aa ccd cl outer) (call (.ref 104) [.int d td]) Q E s := by
  refine wpAny_call ?_
  k_dflt (refine' code_def ?k1 ?k2 ?k3 ?k4 ?k5 ?kA ?kF ?kK ?k6 ?k7 ?k8 ?k9 ?kB ?_ ?c2 ?c3 ?c4 ?c5; (case kA => exact rfl); (case kF => exact rfl); (case kK => assumption); (case k1 => k_asm); (case k2 => k_asm); (case k3 => k_asm); (case k4 => k_asm); (case k5 => k_asm); (case k6 => k_is); (case k7 => k_is); (case k8 => ktr_room); (case k9 => exact BindsTo.of_eq rfl); (case c5 => decide); (case kB => exact locs rfl); (case c2 => exact rfl); (case c3 => exact rfl); (case c4 => exact rfl); k_whole; intro g' L' h' FG' F' N' B' X' T'; (try dsimp only); (try k_fold))
  repeat' (w_dflts mStep2)
  all_goals exact ret _ _ (by assumption) (by assumption)
theorem isnont {prog : Program} {w : World} {p : Program} {loose : List Str} {mean : ExcName → Option Value} {mg mb : Str → Option Value}
   {d : Int} {td : Nat}
   (dp un : Nat) (gd : Option (List Code)) (cn : Str) (cs : Scope) (aa : Addr) (ccd : Value) (cl : List (Str × Addr)) (outer : List Env) (A₀ : Around) (base h₀ : Heap) (L : Addr) (m : Str → Option Value) (s : Shared) (Q E : Value → Shared → Prop) (news : List (Addr × Obj))
   (B : Below A₀ base outer h₀) (F : Fr h₀ L s.heap m) (X : (hd.heap_39 w.params).In h₀) (N : News h₀ L s.heap news) (T : Top p loose mean mg mb h₀) (hk : cs.kind = .function)
   (hdp : dp + 10 < recursionLimit) (hun : un + 100 < cLine)
   (ret : ∀ h' tk', Fr h₀ L h' m → News h₀ L h' news → Q (.bool (decide (256 ≤ d))) { s with heap := h', toks := tk' }) :
   wpAny (model prog w) (ktrTop dp un gd cn cs L aa ccd cl outer) (call (.ref 111) [.int d td]) Q E s := by
  refine wpAny_call ?_
  k_dflt (refine' code_def ?k1 ?k2 ?k3 ?k4 ?k5 ?kA ?kF ?kK ?k6 ?k7 ?k8 ?k9 ?kB ?_ ?c2 ?c3 ?c4 ?c5; (case kA => exact rfl); (case kF => exact rfl); (case kK => assumption); (case k1 => k_asm); (case k2 => k_asm); (case k3 => k_asm); (case k4 => k_asm); (case k5 => k_asm); (case k6 => k_is); (case k7 => k_is); (case k8 => ktr_room); (case k9 => exact BindsTo.of_eq rfl); (case c5 => decide); (case kB => exact locs rfl); (case c2 => exact rfl); (case c3 => exact rfl); (case c4 => exact rfl); k_whole; intro g' L' h' FG' F' N' B' X' T'; (try dsimp only); (try k_fold))
  repeat' (w_dflts mStep2)
  all_goals exact ret _ _ (by assumption) (by assumption)
theorem iseof {prog : Program} {w : World} {p : Program} {loose : List Str} {mean : ExcName → Option Value} {mg mb : Str → Option Value}
   {d : Int} {td : Nat}
   (dp un : Nat) (gd : Option (List Code)) (cn : Str) (cs : Scope) (aa : Addr) (ccd : Value) (cl : List (Str × Addr)) (outer : List Env) (A₀ : Around) (base h₀ : Heap) (L : Addr) (m : Str → Option Value) (s : Shared) (Q E : Value → Shared → Prop) (news : List (Addr × Obj))
   (B : Below A₀ base outer h₀) (F : Fr h₀ L s.heap m) (X : (hd.heap_39 w.params).In h₀) (N : News h₀ L s.heap news) (T : Top p loose mean mg mb h₀) (hk : cs.kind = .function)
   (hdp : dp + 10 < recursionLimit) (hun : un + 100 < cLine)
   (ret : ∀ h' tk', Fr h₀ L h' m → News h₀ L h' news → Q (.bool (decide (d = 0))) { s with heap := h', toks := tk' }) :
   wpAny (model prog w) (ktrTop dp un gd cn cs L aa ccd cl outer) (call (.ref 118) [.int d td]) Q E s := by
  refine wpAny_call ?_
  k_dflt (refine' code_def ?k1 ?k2 ?k3 ?k4 ?k5 ?kA ?kF ?kK ?k6 ?k7 ?k8 ?k9 ?kB ?_ ?c2 ?c3 ?c4 ?c5; (case kA => exact rfl); (case kF => exact rfl); (case kK => assumption); (case k1 => k_asm); (case k2 => k_asm); (case k3 => k_asm); (case k4 => k_asm); (case k5 => k_asm); (case k6 => k_is); (case k7 => k_is); (case k8 => ktr_room); (case k9 => exact BindsTo.of_eq rfl); (case c5 => decide); (case kB => exact locs rfl); (case c2 => exact rfl); (case c3 => exact rfl); (case c4 => exact rfl); k_whole; intro g' L' h' FG' F' N' B' X' T'; (try dsimp only); (try k_fold))
  repeat' (w_dflts mStep2)
  all_goals exact ret _ _ (by assumption) (by assumption)
/-! E1 -/
theorem fold_bad : ∀ (ws l : List Int), ws.foldl (fun l d => if 256 ≤ d then l ++ [d] else l) l = l ++ ws.filter (fun d => decide (256 ≤ d))
  | [], l => by simp
  | d :: ws, l => by
    rw [List.foldl_cons, fold_bad ws]
    by_cases h : 256 ≤ d
    · simp [h]
    · simp [h]
theorem none_bad {ws : List Int} : ws.foldl (fun l d => if 256 ≤ d then l ++ [d] else l) [] = [] ↔ ∀ d ∈ ws, d < 256 := by
  rw [fold_bad]
  simp only [List.nil_append, List.filter_eq_nil_iff, decide_eq_true_eq, Int.not_le]
theorem lawword {prog : Program} {w : World} {p : Program} {loose : List Str} {mean : ExcName → Option Value} {mg mb : Str → Option Value}
   {lo : Addr} {ov : List Value} {os : List Int} {no : Nat}
   (hi : IntsAre ov os) (hos : ∀ d ∈ os, 0 ≤ d ∧ d < 256) (hlen : os.length ≤ 11)
   (dp un : Nat) (gd : Option (List Code)) (cn : Str) (cs : Scope) (aa : Addr) (ccd : Value) (cl : List (Str × Addr)) (outer : List Env) (A₀ : Around) (base h₀ : Heap) (L : Addr) (m : Str → Option Value) (s : Shared) (Q E : Value → Shared → Prop) (news : List (Addr × Obj))
   (B : Below A₀ base outer h₀) (F : Fr h₀ L s.heap m) (X : (hd.heap_39 w.params).In h₀) (N : News h₀ L s.heap news) (T : Top p loose mean mg mb h₀) (hk : cs.kind = .function)
   (hl : (lo, listOf ov.toArray no) ∈ news)
   (hdp : dp + 80 < recursionLimit) (hun : un + 800 < cLine)
   (ret : ∀ h' tk' l wv n0 f, 0 ≤ f → f < 5 → (∀ d ∈ wordOf f os, d < 256) → IntsAre wv (wordOf f os) → Fr h₀ L h' m → News h₀ L h' ((l, listOf wv.toArray n0) :: news) → AllLt l news → Q (.ref l) { s with heap := h', toks := tk' }) :
   wpAny (model prog w) (ktrTop dp un gd cn cs L aa ccd cl outer) (call (.ref 123) [.ref lo]) Q E s := by
  refine wpAny_call ?_
  k_dflt (refine' code_def ?k1 ?k2 ?k3 ?k4 ?k5 ?kA ?kF ?kK ?k6 ?k7 ?k8 ?k9 ?kB ?_ ?c2 ?c3 ?c4 ?c5; (case kA => exact rfl); (case kF => exact rfl); (case kK => assumption); (case k1 => k_asm); (case k2 => k_asm); (case k3 => k_asm); (case k4 => k_asm); (case k5 => k_asm); (case k6 => k_is); (case k7 => k_is); (case k8 => ktr_room); (case k9 => exact BindsTo.of_eq rfl); (case c5 => decide); (case kB => exact locs rfl); (case c2 => exact rfl); (case c3 => exact rfl); (case c4 => exact rfl); k_whole; intro g' L' h' FG' F' N' B' X' T'; (try dsimp only); (try k_fold))
  repeat' (first | w_dflts mFor | w_dflts mStep2)
  with_unfolding_all refine iter_rangeUnr (n := 5) (by rfl) (by assumption) (by decide) (by rfl) (by k_asm) (by k_asm) ?_
  intro I ltI
  have ltI' := allLt_of ltI
  refine range_ind (fun i mm nws => nws = news ∧ (∀ j : Nat, j < i → ¬ ∀ d ∈ wordOf j os, d < 256) ∧ mm (Str.ofString "octets") = some (.ref lo)) ?turn ?done rfl ⟨rfl, (fun _ h => absurd h (Nat.not_lt_zero _)), rfl⟩
  case turn =>
    rintro i t mm nws it hh tk2 hi5 ⟨rfl, hbad, ho⟩ hit F7 N7
    have hlo : (lo, listOf ov.toArray no) ∈ nws := hl
    repeat' (first
      | w_dflts mFor
      | ((with_reducible show wpAny _ _ (newList [_, _, _, _]) _ _ _); refine newList_K (by k_asm) (by k_asm) (fun lr hr Fr1 Nr1 ltr => ?_); replace ltr := allLt_of ltr; simp only [AllLt] at ltr)
      | ((with_reducible show wpAny _ _ (newList [_]) _ _ _); refine newList_K (by k_asm) (by k_asm) (fun lf hf Ff Nf ltf => ?_); replace ltf := allLt_of ltf; simp only [AllLt] at ltf)
      | ((with_reducible show wpAny _ _ (binaryOp Operator.Add (Value.ref _) (Value.ref _)) _ _ _); dsimp only; refine kmk_add_ints (by k_asm) (by k_asm) (News.isList (by k_asm) (by w_dflts mMem)) (News.isList (by k_asm) (by w_dflts mMem)) (.cons _ _ .nil) hi (fun l1 v1 h1 F1 N1 lt1 I1 => ?_) (by rw [sizeLine_eq]; simp only [List.length_cons, List.length_nil]; omega); replace lt1 := allLt_of lt1; simp only [AllLt] at lt1)
      | ((with_reducible show wpAny _ _ (subscriptTail (Expr.BinOp ..) (Expr.Slice none none (some _) _) (Value.ref _) (Value.ref _)) _ _ _); refine kba_turn (value' := Expr.Name (Str.ofString "x") ⟨0, 0, 0, 0⟩) (by intro _; with_unfolding_all rfl) ?_; k_dflt (refine' krv_ints ?qF ?qN ?ql (IsPart.int _ _) I1 ?_ ?qs ?qt ?qz; (case qF => k_asm); (case qN => k_asm); (case ql => exact News.isList (by k_asm) (by w_dflts mMem)); (case qs => with_unfolding_all rfl); (case qt => kmk_pure); (case qz => (rw [List.size_toArray, I1.length, sizeLine_eq]; simp only [List.length_append, List.length_cons, List.length_nil]; omega))); intro l2 v2 h2 F2 N2 lt2 I2 _; replace lt2 := allLt_of lt2; simp only [AllLt] at lt2)
      | w_dflts mStep2)
    dsimp only
    have N3 : News g' L' h2 ((lr, listOf #[.int 0 tk2, .int 0 (tk2 + 1), .int 0 (tk2 + 1 + 1), .int 0 (tk2 + 1 + 1 + 1)] 0) :: (l2, listOf v2.toArray 0) :: (I, it) :: nws) := cb_drop N2 (by
      intro p hp
      rcases List.mem_cons.mp hp with rfl | hp
      · w_dflts mMem
      rcases List.mem_cons.mp hp with rfl | hp
      · w_dflts mMem
      rcases List.mem_cons.mp hp with rfl | hp
      · w_dflts mMem
      · w_dflts mMem)
    have eI2 : ([0 + (i : Int)] ++ os).reverse = (((i : Int)) :: os).reverse := by rw [Int.zero_add]; rfl
    rw [eI2] at I2
    with_unfolding_all refine' iter_listUnr (lo := listOf v2.toArray 0) (vs := v2) ?u1 ?u2 ?uN ?u3 ?u4 ?u5 ?_
    case uN => exact N3
    case u1 => rfl
    case u2 => k_asm
    case u3 => w_dflts mMem
    case u4 => rfl
    case u5 => rfl
    intro I3 lt3
    replace lt3 := allLt_of lt3
    simp only [AllLt] at lt3
    refine list_ind (fun rs mm nws' => ∃ lr rv nr r, nws' = (lr, listOf (List.toArray rv) nr) :: (l2, listOf v2.toArray 0) :: (I, it) :: nws ∧ (@Ne Nat lr I3) ∧ mm (Str.ofString "rest") = some (.ref lr) ∧ mm (Str.ofString "octets") = some (.ref lo) ∧ (∃ t, mm (Str.ofString "filler") = some (.int (0 + (i : Int)) t)) ∧
        IntsAre rv [r.1, r.2.1, r.2.2.1, r.2.2.2] ∧ Small r ∧ rs.foldl stepF r = rems (((i : Int)) :: os).reverse) ?turn2 ?done2 I2 ?start2
    case start2 =>
      refine ⟨lr, _, 0, (0, 0, 0, 0), rfl, Nat.ne_of_lt lt3.1, rfl, ho, ⟨_, rfl⟩, .cons _ _ (.cons _ _ (.cons _ _ (.cons _ _ .nil))), by unfold Small; decide, rfl⟩
    case turn2 =>
      rintro d rs t2 mm2 nws2 it2 hh2 tk3 ⟨lr2, rv, nr, r, rfl, ne1, hr, hoc, ⟨tf, hfi⟩, Ir, hsm, hval⟩ hit2 F8 N8
      repeat' (first
        | ((with_reducible show wpAny _ _ (subscriptTail _ _ (Value.ref _) (Value.int _ _)) _ _ _); refine item_ints (News.isList (by k_asm) (by w_dflts mMem)) Ir (by decide) (by simp only [List.length_cons, List.length_nil]; decide) (by simp only [List.length_cons, List.length_nil]; decide) (fun t9 => ?_))
        | ((with_reducible show wpAny _ _ (newList [_, _, _, _]) _ _ _); refine newList_K (by k_asm) (by k_asm) (fun l4 h4 F4 N4 lt4 => ?_); replace lt4 := allLt_of lt4; simp only [AllLt] at lt4)
        | ((with_reducible show wpAny _ _ (exec (Stmt.Assign _ (Expr.ListComp ..) _) _) _ _ _); k_dflt (refine LCg.Assign_ListComp_U (F₀ := by k_asm) (by rfl) (by with_unfolding_all rfl) (by with_unfolding_all rfl) (by decide) (by rfl) (by decide) (by rfl) (by rfl) (by rfl) ?_))
        | ((with_reducible show LCg.CompSrc _ _ _ _ _ _ _ _ _ _ _ _ _ _);
           refine LCg.CompSrc.ledger (by rfl) (by k_asm) (by k_asm) (by w_dflts mMem) (by rw [sizeLine_eq]; show (4 : Nat) ≤ _; decide) ?_;
           intro g9;
           refine' kcf_list (fun d => d % 257) (.cons _ _ (.cons _ _ (.cons _ _ (.cons _ _ .nil)))) (fun k5 t5 I5 oI5 C5 oC5 D5 m5 ys5 h5 tk5 E5 hk5 hC5 hx5 F5 N5 off5 ne5 mk5 => ?_) ?_)
        | w_dflts mStep2)
      · exact ⟨_, _, _, rfl, by k_asm, by k_asm, off5, srcAt_news (by w_dflts mMem), rfl, _, congrArg (fun x => Value.int x _) (fm_pos k5 (by decide))⟩
      · show ∀ ys, _
        intro ys6 I6 D6 h6 tk6 F6 N6 o6
        have o7 := off1_all o6
        simp only [List.forall_mem_cons] at o7
        repeat' (w_dflts mStep2)
        refine ⟨h6, tk6, _, (D6, listOf ys6.toArray ys6.length) :: (l2, listOf v2.toArray 0) :: (I, it) :: nws, rfl, F6, cb_drop N6 ?sb, ?of, List.Mem.tail _ (List.Mem.head _), D6, ys6, _, stepF r d, rfl, Ne.symm o7.2.1, rfl, hoc, ⟨_, hfi⟩, I6, small_step r d, hval⟩
        · intro p hp
          rcases List.mem_cons.mp hp with rfl | hp
          · w_dflts mMem
          rcases List.mem_cons.mp hp with rfl | hp
          · w_dflts mMem
          rcases List.mem_cons.mp hp with rfl | hp
          · w_dflts mMem
          rcases List.mem_cons.mp hp with rfl | hp
          · w_dflts mMem
          · w_dflts mMem
        · exact List.forall_mem_cons.mpr ⟨Ne.symm o7.2.1, List.forall_mem_cons.mpr ⟨Nat.ne_of_lt lt3.2.1, List.forall_mem_cons.mpr ⟨Nat.ne_of_lt lt3.2.2.1, fun p hp => Nat.ne_of_lt (allLt_mem lt3.2.2.2 p hp)⟩⟩⟩
    case done2 =>
      rintro mm2 nws2 hh2 tk3 ⟨lr2, rv, nr, r, rfl, ne1, hr, hoc, ⟨tf, hfi⟩, Ir, hsm, hval⟩ F8 N8
      repeat' (first
        | ((with_reducible show wpAny _ _ (exec (Stmt.Assign _ (Expr.ListComp _ [Comprehension.mk _ _ [_] _] _ _) _) _) _ _ _); k_dflt (refine LCt.Assign_ListComp_T (F₀ := by k_asm) (by rfl) (by with_unfolding_all rfl) (by with_unfolding_all rfl) (by decide) (by rfl) (by decide) (by rfl) (by rfl) (by rfl) ?_))
        | ((with_reducible show wpAny _ _ (eval (Expr.ListComp _ [Comprehension.mk _ _ [_] _] _ _) _) _ _ _); k_dflt (refine LCt.ListComp_T (F₀ := by k_asm) (by with_unfolding_all rfl) (by decide) (by rfl) (by decide) (by rfl) ?_))
        | ((with_reducible show wpAny _ _ (eval (Expr.ListComp ..) _) _ _ _); k_dflt (refine LCg.ListComp_U (F₀ := by k_asm) (by with_unfolding_all rfl) (by decide) (by rfl) (by decide) (by rfl) ?_))
        | ((with_reducible show LCg.CompSrc _ _ _ _ _ _ _ _ _ _ _ _ _ _);
           refine LCg.CompSrc.ledger (by rfl) (by k_asm) (by k_asm) (by w_dflts mMem) (by rw [List.size_toArray, Ir.length, sizeLine_eq]; show (4 : Nat) ≤ _; decide) ?_;
           intro g9;
           refine' kcf_list (fun d => (-d) % 257) Ir (fun k5 t5 I5 oI5 C5 oC5 D5 m5 ys5 h5 tk5 E5 hk5 hC5 hx5 F5 N5 off5 ne5 mk5 => ?_) ?_)
        | w_dflts mStep2)
      · exact ⟨_, _, _, rfl, by k_asm, by k_asm, off5, srcAt_news (by w_dflts mMem), rfl, _, congrArg (fun x => Value.int x _) (fm_pos (-k5) (by decide))⟩
      show ∀ ys, _
      intro ys6 I6 D6 h6 tk6 F6 N6 o6
      have o7 := off1_all o6
      simp only [List.forall_mem_cons] at o7
      repeat' (first
        | ((with_reducible show wpAny _ _ (newList [_]) _ _ _); refine newList_K (by k_asm) (by k_asm) (fun lf hf Ff Nf ltf => ?_); replace ltf := allLt_of ltf; simp only [AllLt] at ltf)
        | ((with_reducible show wpAny _ _ (binaryOp Operator.Add (Value.ref _) (Value.ref _)) _ _ _); dsimp only; refine kmk_add_ints (by k_asm) (by k_asm) (News.isList (by k_asm) (by w_dflts mMem)) (News.isList (by k_asm) (by w_dflts mMem)) I6 (.cons _ _ .nil) (fun l1 v1 h1 F1 N1 lt1 I1 => ?_) (by rw [sizeLine_eq]; simp only [List.length_cons, List.length_nil, List.length_map]; omega); replace lt1 := allLt_of lt1; simp only [AllLt] at lt1)
        | ((with_reducible show wpAny _ _ (binaryOp Operator.Add (Value.ref _) (Value.ref _)) _ _ _); dsimp only; refine kmk_add_ints (by k_asm) (by k_asm) (News.isList (by k_asm) (by w_dflts mMem)) (News.isList (by k_asm) (by w_dflts mMem)) I1 hi (fun lw wv hw Fw Nw ltw Iw => ?_) (by rw [sizeLine_eq]; simp only [List.length_append, List.length_cons, List.length_nil, List.length_map]; omega); replace ltw := allLt_of ltw; simp only [AllLt] at ltw)
        | ((with_reducible show wpAny _ _ (exec (Stmt.Assign _ (Expr.ListComp _ [Comprehension.mk _ _ [_] _] _ _) _) _) _ _ _); k_dflt (refine LCt.Assign_ListComp_T (F₀ := by k_asm) (by rfl) (by with_unfolding_all rfl) (by with_unfolding_all rfl) (by decide) (by rfl) (by decide) (by rfl) (by rfl) (by rfl) ?_))
        | w_dflts mStep2)
      have eW : ([r.1, r.2.1, r.2.2.1, r.2.2.2].map (fun d => (-d) % 257) ++ [0 + (i : Int)]) ++ os = wordOf i os := by
        have q1 : r = rems ((i : Int) :: os).reverse := hval
        unfold wordOf
        rw [← q1, Int.zero_add, List.append_assoc]; rfl
      rw [eW] at Iw
      have hwl : (wordOf i os).length ≤ 16 := by rw [wordOf_length]; omega
      have hwm : ∀ d ∈ wordOf i os, 0 ≤ d ∧ d < 257 := fun d hd => wordOf_mem ⟨by omega, by omega⟩ (fun d hd => ⟨(hos d hd).1, by have := (hos d hd).2; omega⟩) hd
      refine LCt.CompSrcT.ledger (by rfl) (by k_asm) (by k_asm) (by w_dflts mMem) (by rw [List.size_toArray, Iw.length, sizeLine_eq]; omega) ?_
      intro g10
      refine' kci_list (fun l d => if 256 ≤ d then l ++ [d] else l) Iw (fun k5 t5 I5 oI5 C5 oC5 D5 m5 ys5 l5 h5 tk5 E5 hk5 hI5 hC5 hx5 F5 N5 off5 ne5 mk5 => ?_) ?_ (by intro l k; dsimp only; split <;> simp)
      · repeat' (first
          | ((with_reducible show wpAny _ _ (call (Value.ref 111) _) _ _ _); refine isnont _ _ _ _ _ _ _ _ _ _ _ _ _ _ _ _ _ _ (by k_asm) (by k_asm) (by k_asm) (by k_asm) (by k_asm) rfl (by first | exact room hdp (by decide) | exact roomS hdp (by decide) | (dsimp only; omega)) (by first | exact room hun (by decide) | exact roomS hun (by decide) | (dsimp only; omega)) (fun h11 tk11 F11 N11 => ?_))
          | w_dflts mStep2)
        · exact ⟨_, _, _, rfl, by k_asm, by k_asm, off5, srcAt_news (by w_dflts mMem), kci_el (if_pos (by assumption)) rfl rfl⟩
        · exact ⟨_, _, _, rfl, by k_asm, by k_asm, off5, srcAt_news (by w_dflts mMem), kci_no (if_neg (by assumption)) rfl⟩
      show ∀ ys, _
      intro ys7 I7 len7 D7 h7 tk7 F7' N7' o7'
      have o8 := off1_all o7'
      simp only [List.forall_mem_cons] at o8
      repeat' (first
        | ((with_reducible show wpAny _ _ (eval (Expr.ListComp _ [Comprehension.mk _ _ [_] _] _ _) _) _ _ _); k_dflt (refine LCt.ListComp_T (F₀ := by k_asm) (by with_unfolding_all rfl) (by decide) (by rfl) (by decide) (by rfl) ?_))
        | ((with_reducible show LCt.CompSrcT _ _ _ _ _ _ _ _ _ _ _ _ _ _ _);
           refine LCt.CompSrcT.ledger (by rfl) (by k_asm) (by k_asm) (by w_dflts mMem) (by rw [List.size_toArray, Iw.length, sizeLine_eq]; omega) ?_;
           intro g12;
           refine' kci_list (fun l d => if 256 ≤ d then l ++ [d] else l) Iw (fun k6 t6 I6 oI6 C6 oC6 D6 m6 ys6 l6 h6 tk6 E6 hk6 hI6 hC6 hx6 F6 N6 off6 ne6 mk6 => ?_) ?_ (by intro l k; dsimp only; split <;> simp))
        | ((with_reducible show wpAny _ _ (call (Value.ref 104) _) _ _ _); refine isterm _ _ _ _ _ _ _ _ _ _ _ _ _ _ _ _ _ _ (by k_asm) (by k_asm) (by k_asm) (by k_asm) (by k_asm) rfl (by first | exact room hdp (by decide) | exact roomS hdp (by decide) | (dsimp only; omega)) (by first | exact room hun (by decide) | exact roomS hun (by decide) | (dsimp only; omega)) (fun h11 tk11 F11 N11 => ?_))
        | w_dflts mStep2)
      · exact ⟨_, _, _, rfl, by k_asm, by k_asm, off6, srcAt_news (by w_dflts mMem), kci_no (if_neg (by omega)) rfl⟩
      · exact ⟨_, _, _, rfl, by k_asm, by k_asm, off6, srcAt_news (by w_dflts mMem), kci_el (if_pos (by omega)) rfl rfl⟩
      show ∀ ys, _
      intro ys9 I9 len9 D9 h9 tk9 F9' N9' o9'
      have o9 := off1_all o9'
      simp only [List.forall_mem_cons] at o9
      repeat' (first
        | ((with_reducible show wpAny _ _ (compareOp CmpOp.NotEq (Value.ref _) (Value.ref _)) _ _ _); refine ne_intsK (News.isList (by k_asm) (by w_dflts mMem)) I7 (News.isList (by k_asm) (by w_dflts mMem)) I9 (by units_room) ?_; simp only [decide_true, Bool.not_true])
        | ((with_reducible show wpAny _ _ (newList []) _ _ _); refine newList_K (by k_asm) (by k_asm) (fun ln hn Fn Nn ltn => ?_); replace ltn := allLt_of ltn; simp only [AllLt] at ltn)
        | ((with_reducible show wpAny _ _ (compareOp CmpOp.Eq (Value.ref _) (Value.ref _)) _ _ _); refine eq_intsK (News.isList (by k_asm) (by w_dflts mMem)) I7 (News.isList (by k_asm) (by w_dflts mMem)) .nil (by units_room) ?_)
        | w_dflts mStep2)
      · exact ret _ _ lw wv 0 i (by omega) (by omega) (none_bad.mp (of_decide_eq_true (by assumption))) Iw (by assumption) (cb_drop (by assumption) (by
          intro p hp
          rcases List.mem_cons.mp hp with rfl | hp
          · w_dflts mMem
          · w_dflts mMem)) ltw.2.2.2.2.2.2
      · refine ⟨hn, _, _, nws, rfl, Fn, cb_drop Nn (by
          intro p hp
          rcases List.mem_cons.mp hp with rfl | hp
          · w_dflts mMem
          · w_dflts mMem), fun p hp => Nat.ne_of_lt (ltI p hp), rfl, ?_, hoc⟩
        intro j hj q
        rcases Nat.lt_succ_iff_lt_or_eq.mp hj with hj | rfl
        · exact hbad j hj q
        · exact absurd (none_bad.mpr q) (of_decide_eq_false (by assumption))
  case done =>
    rintro mm nws hh tk2 ⟨rfl, hbad, ho⟩ F7 N7
    exfalso
    obtain ⟨f, hf, hg⟩ := word_good hos
    exact hbad f hf hg
/-! E2 -/
theorem range_small16 : ∀ n : Nat, n < 17 → Builtin.Range.rangeSize 0 (n : Int) 1 = (n : Int) ∧ Builtin.Range.small 0 (n : Int) 1 = true := by decide +kernel
theorem item_one {prog : Program} {w : World} {A : Around} {E : Value → Shared → Prop} {s : Shared} {Q : Value → Shared → Prop} {value slice : PySem.Expr} {l : Addr} {vs : List Value} {x : Int} {u : Tok}
    (hl : s.heap.IsList l vs.toArray) (hi : IntsAre vs [x]) (h : ∀ t, Q (.int x t) s)
    (hs : subscripted slice false (.ref l) (.int 0 u) = operate [.ref l, .int 0 u] (getItem (.ref l) (.int 0 u)) := by with_unfolding_all rfl) :
    wpAny (model prog w) A (subscriptTail value slice (.ref l) (.int 0 u)) Q E s := item_ints hl hi (by decide) (by simp) (by simp) h hs
theorem item_nat {prog : Program} {w : World} {A : Around} {E : Value → Shared → Prop} {s : Shared} {Q : Value → Shared → Prop} {value slice : PySem.Expr} {l : Addr} {vs : List Value} {ns : List Int} {i : Nat} {u : Tok}
    (hl : s.heap.IsList l vs.toArray) (hi : IntsAre vs ns) (h1 : i < ns.length) (hn : ns.length < 2 ^ 62) (h : ∀ t, Q (.int (ns.getD i 0) t) s)
    (hs : subscripted slice false (.ref l) (.int (i : Int) u) = operate [.ref l, .int (i : Int) u] (getItem (.ref l) (.int (i : Int) u)) := by with_unfolding_all rfl) :
    wpAny (model prog w) A (subscriptTail value slice (.ref l) (.int (i : Int) u)) Q E s := item_ints hl hi (by omega) (by omega) hn (by rw [Int.toNat_natCast]; exact h) hs
theorem set_nat {prog : Program} {w : World} {A : Around} {E : Value → Shared → Prop} {s : Shared} {h₀ : Heap} {L D : Addr} {m : Str → Option Value} {news news' : List (Addr × Obj)} {vs : List Value} {ns : List Int} {n : Nat} {i : Nat} {x : Int} {t u : Tok}
    {Q : Unit → Shared → Prop} (F : Fr h₀ L s.heap m) (N : News h₀ L s.heap news) (U : Upd D (listOf vs.toArray n) (listOf (vs.set i (.int x u)).toArray n) news news') (hi : IntsAre vs ns) (h1 : i < ns.length) (h2 : ns.length < 2 ^ 62)
    (h : ∀ h', Fr h₀ L h' m → News h₀ L h' news' → IntsAre (vs.set i (.int x u)) (ns.set i x) → Q () { s with heap := h' }) :
    wpAny (model prog w) A (setItem (.ref D) (.int (i : Int) t) (.int x u)) Q E s :=
  ksa_set (k := (i : Int)) F N (by rw [Int.toNat_natCast]; exact U) hi (by omega) (by omega) (by omega) (fun h' F' N' I' _ _ => by rw [Int.toNat_natCast] at I'; exact h h' F' N' I')
theorem ints_eq {vs : List Value} {xs ys : List Int} (h : IntsAre vs xs) (e : xs = ys) : IntsAre vs ys := e ▸ h
theorem whl_gen {prog : Program} {w : World} {A : Around} {E : Value → Shared → Prop} {s : Shared} {env : Env} {test : PySem.Expr} {body orelse : List Stmt} {Q : Flow → Shared → Prop} {h₀ : Heap} {L : Addr} {l : List (Addr × Obj)} {k : Nat} (N : News h₀ L s.heap l)
    (q : ∀ l', News h₀ L s.heap l' → (∀ p ∈ l, p ∈ l') → WhlRest prog w A E env test body orelse Q k s) : WhlRest prog w A E env test body orelse Q k s := q l N (fun _ h => h)
theorem pow_le16 : ∀ q : Nat, q < 16 → (0 : Int) < 2 ^ q ∧ (2 : Int) ^ q ≤ 32768 := by decide +kernel
theorem off1_nat {D : Addr} {l : List (Addr × Obj)} (h : LCg.Off1 D l) : ∀ p ∈ l, @Ne Nat p.1 D := off1_all h
theorem news_tail {h₀ h : Heap} {L : Addr} {x : Addr × Obj} {l : List (Addr × Obj)} (N : News h₀ L h (x :: l)) : News h₀ L h l := fun p hp => N p (List.Mem.tail _ hp)
theorem lawmended {prog : Program} {w : World} {p : Program} {loose : List Str} {mean : ExcName → Option Value} {mg mb : Str → Option Value}
   {lh : Addr} {hw : List Value} {ws hs : List Int} {nh : Nat} {p1 q1 : Nat} {a1 b1 : Int} {c1 c2 : Addr} {oc1 oc2 : Obj} {vs1 vs2 : Array Value} {tc1 tc2 : Tok}
   (H : Harm ws hs p1 q1 a1 b1) (hi : IntsAre hw hs)
   (dc1 : oc1.data = .fields vs1) (dv1 : vs1[1]? = some (.str qual1 tc1)) (dc2 : oc2.data = .fields vs2) (dv2 : vs2[1]? = some (.str qual2 tc2))
   (dp un : Nat) (gd : Option (List Code)) (cn : Str) (cs : Scope) (aa : Addr) (ccd : Value) (cl : List (Str × Addr)) (outer : List Env) (A₀ : Around) (base h₀ : Heap) (L : Addr) (m : Str → Option Value) (s : Shared) (Q E : Value → Shared → Prop) (news : List (Addr × Obj))
   (B : Below A₀ base outer h₀) (F : Fr h₀ L s.heap m) (X : (hd.heap_39 w.params).In h₀) (C1 : CodeHd base 58 54) (C2 : CodeHd base 51 47) (N : News h₀ L s.heap news) (T : Top p loose mean mg mb h₀) (hk : cs.kind = .function)
   (ht1 : (54, tabObj #[rawInt 48, rawInt 4, .ref c1]) ∈ news) (hc1 : (c1, oc1) ∈ news) (ht2 : (47, tabObj #[rawInt 33, rawInt 4, .ref c2]) ∈ news) (hc2 : (c2, oc2) ∈ news)
   (hl : (lh, listOf hw.toArray nh) ∈ news)
   (hdp : dp + 120 < recursionLimit) (hun : un + 1200 < cLine)
   (ret : ∀ h' tk' l wv n0, IntsAre wv ws → Fr h₀ L h' m → News h₀ L h' ((l, listOf wv.toArray n0) :: news) → Q (.ref l) { s with heap := h', toks := tk' }) :
   wpAny (model prog w) (ktrTop dp un gd cn cs L aa ccd cl outer) (call (.ref 128) [.ref lh]) Q E s := by
  refine wpAny_call ?_
  k_dflt (refine' code_defC ?k1 ?k2 ?k3 ?k4 ?k5 ?kA ?kF ?kK ?k6 ?k7 ?k8 ?k9 ?kB ?kD ?_ ?c2 ?c3 ?c4; (case kA => exact rfl); (case kF => exact rfl); (case kK => assumption); (case k1 => k_asm); (case k2 => k_asm); (case k3 => k_asm); (case k4 => k_asm); (case k5 => k_asm); (case k6 => k_is); (case k7 => k_is); (case k8 => ktr_room); (case k9 => exact BindsTo.of_eq rfl); (case kB => exact rfl); (case kD => decide +kernel); (case c2 => exact rfl); (case c3 => exact rfl); (case c4 => exact rfl); k_whole; intro g' L' h' tk' cells' FG' F' N' Y' B' X' T' l1; replace l1 := allLt_of l1; k_cells Y'; (try simp only [List.cons_append, List.nil_append] at N'); (try dsimp only); (try k_fold))
  repeat' (first
    | ((with_reducible show wpAny _ _ (exec (Stmt.Assign _ (Expr.ListComp _ [Comprehension.mk _ _ [] _] _ _) _) _) _ _ _); k_dflt (refine LCg.Assign_ListComp_U (F₀ := by k_asm) (by rfl) (by with_unfolding_all rfl) (by with_unfolding_all rfl) (by decide) (by rfl) (by decide) (by rfl) (by rfl) (by rfl) ?_))
    | w_dflts mStep2)
  have hlen : hs.length ≤ 16 := by rw [H.length]; exact H.n
  have h256 : ∀ d ∈ hs, 0 ≤ d ∧ d < 256 := H.mem
  with_unfolding_all refine LCg.CompSrc.range (n := 4) (by rfl) (by k_asm) (by k_asm) (by assumption) (by decide) (by rfl) (by decide) ?_
  intro g9
  refine' kcf_range (fun k => S k hs) (fun k5 t5 I5 oI5 C5 oC5 D5 m5 ys5 h5 tk5 E5 lo5 hi5 hC5 hx5 F5 N5 off5 ne5 mk5 => ?_) ?_
  · have hvb := val_bound (k := k5) (by omega) (ns := hs) (b := 8) (fun d hd => h256 d hd)
    have hvb2 : val k5 hs < 2 ^ (Builtin.Int.intBits 257 * 32) := by
      have e : Builtin.Int.intBits 257 = 9 := by decide
      rw [e]
      have h1 : (2 : Int) ^ (8 + 10 * hs.length) ≤ 2 ^ (9 * 32) := by
        have := Nat.pow_le_pow_right (n := 2) (by decide) (show 8 + 10 * hs.length ≤ 9 * 32 by omega)
        exact_mod_cast this
      omega
    repeat' (first
      | ((with_reducible show wpAny _ _ (call (Value.ref 59) _) _ _ _); refine d2i_hot hi (fun d hd => ⟨(h256 d hd).1, by have := (h256 d hd).2; omega⟩) (by omega) (.inr ⟨by omega, by omega⟩) dc1 dv1 _ _ _ _ _ _ _ _ _ _ _ _ _ _ _ _ _ _ (by k_asm) (by k_asm) (by k_asm) (by k_asm) (by k_asm) (by k_asm) rfl (by w_dflts mMem) (by w_dflts mMem) (by w_dflts mMem) (by first | exact room hdp (by decide) | exact roomS hdp (by decide) | (dsimp only; omega)) (by first | exact room hun (by decide) | exact roomS hun (by decide) | (dsimp only; omega)) (fun h6 tk6 t6 F6 N6 => ?_))
      | ((with_reducible show wpAny _ _ (call (Value.ref 73) _) _ _ _); refine idm (by omega) hvb2 (by decide) (by decide) dc1 dv1 dc2 dv2 _ _ _ _ _ _ _ _ _ _ _ _ _ _ _ _ _ _ (by k_asm) (by k_asm) (by k_asm) (by k_asm) (by k_asm) (by k_asm) (by k_asm) rfl (by w_dflts mMem) (by w_dflts mMem) (by w_dflts mMem) (by w_dflts mMem) (by first | exact room hdp (by decide) | exact roomS hdp (by decide) | (dsimp only; omega)) (by first | exact room hun (by decide) | exact roomS hun (by decide) | (dsimp only; omega)) (fun h7 tk7 l7 t7 u7 F7 N7 lt7 => ?_); simp only [AllLt] at lt7)
      | ((with_reducible show wpAny _ _ (subscriptTail _ _ (Value.ref _) (Value.int _ _)) _ _ _); refine item_tupleT (News.isTup (by k_asm) (by w_dflts mMem)) (by decide) (by decide) rfl rfl ?_)
      | w_dflts mStep2)
    exact ⟨_, _, _, rfl, by k_asm, fun p hp => N7 p (List.Mem.tail _ hp), off5, trivial, rfl, _, rfl⟩
  show ∀ ys, _
  intro ys1 I1 D1 h1 tk1 F1 N1 o1'
  have o1 := off1_nat o1'
  simp only [List.forall_mem_cons] at o1
  obtain ⟨o11, o12, o13, o14, o15, o16, o17⟩ := o1
  replace I1 : IntsAre ys1 [S 0 hs, S 1 hs, S 2 hs, S 3 hs] := I1
  repeat' (first
    | ((with_reducible show wpAny _ _ (eval (Expr.ListComp _ [Comprehension.mk _ _ [_] _] _ _) _) _ _ _); k_dflt (refine LCt.ListComp_T (F₀ := by k_asm) (by with_unfolding_all rfl) (by decide) (by rfl) (by decide) (by rfl) ?_))
    | ((with_reducible show LCt.CompSrcT _ _ _ _ _ _ _ _ _ _ _ _ _ _ _);
       refine LCt.CompSrcT.ledger (by rfl) (by k_asm) (by k_asm) (by w_dflts mMem) (by rw [List.size_toArray, I1.length, sizeLine_eq]; show (4 : Nat) ≤ _; decide) ?_;
       intro g12;
       refine' kci_list (fun l d => if ¬ d = 0 then l ++ [d] else l) I1 (fun k6 t6 I6 oI6 C6 oC6 D6 m6 ys6 l6 h6 tk6 E6 hk6 hI6 hC6 hx6 F6 N6 off6 ne6 mk6 => ?_) ?_ (by intro l k; dsimp only; split <;> simp))
    | ((with_reducible show wpAny _ _ (call (Value.ref 118) _) _ _ _); refine iseof _ _ _ _ _ _ _ _ _ _ _ _ _ _ _ _ _ _ (by k_asm) (by k_asm) (by k_asm) (by k_asm) (by k_asm) rfl (by first | exact room hdp (by decide) | exact roomS hdp (by decide) | (dsimp only; omega)) (by first | exact room hun (by decide) | exact roomS hun (by decide) | (dsimp only; omega)) (fun h11 tk11 F11 N11 => ?_))
    | w_dflts mStep2)
  · exact ⟨_, _, _, rfl, by k_asm, by k_asm, off6, srcAt_news (by w_dflts mMem), kci_no (if_neg (not_not_intro (by assumption))) rfl⟩
  · exact ⟨_, _, _, rfl, by k_asm, by k_asm, off6, srcAt_news (by w_dflts mMem), kci_el (if_pos (by assumption)) rfl rfl⟩
  show ∀ ys, _
  intro ys9 I9 len9 D9 h9 tk9 F9' N9' o9'
  have o9 := off1_all o9'
  simp only [List.forall_mem_cons] at o9
  repeat' (first
    | ((with_reducible show wpAny _ _ (newList []) _ _ _); refine newList_K (by k_asm) (by k_asm) (fun ln hn Fn Nn ltn => ?_); replace ltn := allLt_of ltn; simp only [AllLt] at ltn)
    | ((with_reducible show wpAny _ _ (compareOp CmpOp.Eq (Value.ref _) (Value.ref _)) _ _ _); refine eq_intsK (News.isList (by k_asm) (by w_dflts mMem)) I9 (News.isList (by k_asm) (by w_dflts mMem)) .nil (by units_room) ?_)
    | w_dflts mStep2)
  · have q := rests_none.mp (of_decide_eq_true (by assumption))
    have e := H.same q.1 q.2.1
    rw [e] at hi
    exact ret _ _ lh hw nh hi (by assumption) (cb_drop (by assumption) (by
      intro p hp
      rcases List.mem_cons.mp hp with rfl | hp
      · w_dflts mMem
      · w_dflts mMem))
  have hsome := H.some (fun q => absurd (rests_none.mpr q) (of_decide_eq_false (by assumption)))
  rcases I1 with _ | ⟨_, t0, _ | ⟨_, t1, _ | ⟨_, t2, _ | ⟨_, t3, _ | _⟩⟩⟩⟩
  refine kun_list (by k_asm) (by k_asm) (News.isList (by k_asm) (by w_dflts mMem)) rfl rfl rfl (fun h3 F3 N3 => ?_)
  replace N3 := news_tail (news_tail N3)
  have r0 := S_range 0 hs
  have r1 := S_range 1 hs
  have r2 := S_range 2 hs
  have r3 := S_range 3 hs
  have r02 := prod_le r0 r2
  have r11 := prod_le r1 r1
  have r03 := prod_le r0 r3
  have r12 := prod_le r1 r2
  have r13 := prod_le r1 r3
  have r22 := prod_le r2 r2
  have hvb3 : S 0 hs * S 2 hs - S 1 hs * S 1 hs < 2 ^ (Builtin.Int.intBits 257 * 32) := by
    have e : Builtin.Int.intBits 257 = 9 := by decide
    have h2 : (65536 : Int) < 2 ^ (9 * 32) := by decide
    rw [e]
    omega
  repeat' (first
    | w_dflts mStore
    | ((with_reducible show wpAny _ _ (call (Value.ref 73) _) _ _ _); refine idm (by omega) hvb3 (by decide) (by decide) dc1 dv1 dc2 dv2 _ _ _ _ _ _ _ _ _ _ _ _ _ _ _ _ _ _ (by k_asm) (by k_asm) (by k_asm) (by k_asm) (by k_asm) (by k_asm) (by k_asm) rfl (by w_dflts mMem) (by w_dflts mMem) (by w_dflts mMem) (by w_dflts mMem) (by first | exact room hdp (by decide) | exact roomS hdp (by decide) | (dsimp only; omega)) (by first | exact room hun (by decide) | exact roomS hun (by decide) | (dsimp only; omega)) (fun h7 tk7 l7 t7 u7 F7 N7 lt7 => ?_); simp only [AllLt] at lt7)
    | ((with_reducible show wpAny _ _ (subscriptTail _ _ (Value.ref _) (Value.int 1 _)) _ _ _); refine item_tupleT (News.isTup (by k_asm) (by w_dflts mMem)) (by decide) (by decide) rfl rfl ?_; replace N7 := news_tail N7; clear lt7)
    | ((with_reducible show wpAny _ _ (call (Value.ref 118) _) _ _ _); refine iseof _ _ _ _ _ _ _ _ _ _ _ _ _ _ _ _ _ _ (by k_asm) (by k_asm) (by k_asm) (by k_asm) (by k_asm) rfl (by first | exact room hdp (by decide) | exact roomS hdp (by decide) | (dsimp only; omega)) (by first | exact room hun (by decide) | exact roomS hun (by decide) | (dsimp only; omega)) (fun h11 tk11 F11 N11 => ?_))
    | ((with_reducible show wpAny _ _ (exec (Stmt.Assign _ (Expr.ListComp _ [Comprehension.mk _ _ [_] _] _ _) _) _) _ _ _); k_dflt (refine LCt.Assign_ListComp_T (F₀ := by k_asm) (by rfl) (by with_unfolding_all rfl) (by with_unfolding_all rfl) (by decide) (by rfl) (by decide) (by rfl) (by rfl) (by rfl) ?_))
    | ((with_reducible show wpAny _ _ (eval (Expr.ListComp _ [Comprehension.mk _ _ [_] _] _ _) _) _ _ _); k_dflt (refine LCt.ListComp_T (F₀ := by k_asm) (by with_unfolding_all rfl) (by decide) (by rfl) (by decide) (by rfl) ?_))
    | ((with_reducible show wpAny _ _ (exec (Stmt.Assign [Expr.Tuple _ _ _] (Expr.ListComp ..) _) _) _ _ _); first | refine Assign_Tuple ?_ | refine Assign_Tuple_swapped ?_)
    | ((with_reducible show wpAny _ _ (call (Value.builtin "len") _) _ _ _); refine len_ints (News.isList (by k_asm) (by w_dflts mMem)) hi (by omega) ?_)
    | w_dflts mStep2)
  · have hnz := H.some (fun q => absurd (rests_none.mpr q) (of_decide_eq_false (by assumption)))
    have hl0 : (S 0 hs * S 2 hs - S 1 hs * S 1 hs) % 257 = 0 := by assumption
    obtain ⟨j, hj, hfold, hset⟩ := H.single hnz hl0
    rw [← H.length] at hj hfold
    with_unfolding_all refine LCt.CompSrcT.range (n := hs.length) (by rfl) (by k_asm) (by k_asm) (by assumption) (range_small16 _ (by omega)).2 (range_small16 _ (by omega)).1 (by rw [sizeLine_eq]; omega) ?_
    intro g20
    refine' kci_range (fun l k => if (S 0 hs * 2 ^ k.toNat - S 1 hs) % 257 = 0 then l ++ [k] else l) (fun k6 t6 I6 oI6 C6 oC6 D6 m6 ys6 l6 h6 tk6 E6 lo6 hi6 hI6 hC6 hx6 F6 N6 off6 ne6 mk6 => ?_) ?_ (by intro l k; dsimp only; split <;> simp)
    · repeat' (first
        | ((with_reducible show wpAny _ _ (binaryOp Operator.Pow _ _) _ _ _); refine pow_int_small (by omega) (by omega) (by decide) ?_)
        | w_dflts mStep2)
      · exact ⟨_, _, _, rfl, by k_asm, by k_asm, off6, trivial, kci_el (if_pos ((fm_pos _ (by decide)).symm.trans (by assumption))) rfl rfl⟩
      · exact ⟨_, _, _, rfl, by k_asm, by k_asm, off6, trivial, kci_no (if_neg (fun q => absurd ((fm_pos _ (by decide)).trans q) (by assumption))) rfl⟩
    show ∀ ys, _
    intro ys2 I2 len2 D2 h2 tk2 F2 N2 o2'
    have o2 := off1_nat o2'
    simp only [List.forall_mem_cons] at o2
    obtain ⟨o21, o22, o23, o24, o25, o26, o27, o28⟩ := o2
    rw [hfold] at I2
    repeat' (first
      | ((with_reducible show wpAny _ _ (call (Value.type "list") _) _ _ _); refine list_copyK (by k_asm) (by k_asm) (News.isList (by k_asm) (by w_dflts mMem)) (fun D4 c4 h4 F4 N4 lt4 => ?_) (by rw [List.size_toArray, hi.length, sizeLine_eq]; omega); replace lt4 := allLt_of lt4; simp only [AllLt] at lt4)
      | ((with_reducible show wpAny _ _ (subscriptTail _ _ (Value.ref _) (Value.int 0 _)) _ _ _); refine item_one (News.isList (by k_asm) (by w_dflts mMem)) I2 (fun t9 => ?_))
      | ((with_reducible show wpAny _ _ (subscriptTail _ _ (Value.ref _) (Value.int _ _)) _ _ _); refine item_nat (News.isList (by k_asm) (by w_dflts mMem)) hi hj (by omega) (fun t9 => ?_))
      | ((with_reducible show wpAny _ _ (setItem _ _ _) _ _ _); refine set_nat (by k_asm) (by k_asm) (by w_dflts mUpd) hi hj (by omega) (fun h9 F9 N9 I9 => ?_))
      | w_dflts mStep2)
    have hset' : hs.set j ((hs.getD j 0 - S 0 hs).fmod 257) = ws := by rw [fm_pos _ (by decide)]; exact hset
    rw [hset'] at I9
    exact ret _ _ _ _ _ I9 (by assumption) (cb_drop (by assumption) (by
      intro p hp
      rcases List.mem_cons.mp hp with rfl | hp
      · w_dflts mMem
      · w_dflts mMem))
  · have hl0 : (S 0 hs * S 2 hs - S 1 hs * S 1 hs) % 257 ≠ 0 := by assumption
    have hfold := H.double hl0
    rw [← H.length] at hfold
    with_unfolding_all refine LCt.CompSrcT.range (n := hs.length) (by rfl) (by k_asm) (by k_asm) (by assumption) (range_small16 _ (by omega)).2 (range_small16 _ (by omega)).1 (by rw [sizeLine_eq]; omega) ?_
    intro g20
    refine' kci_range (fun l k => if ((S 0 hs * S 2 hs - S 1 hs * S 1 hs) % 257 * 4 ^ k.toNat - (S 0 hs * S 3 hs - S 1 hs * S 2 hs) * 2 ^ k.toNat + (S 1 hs * S 3 hs - S 2 hs * S 2 hs)) % 257 = 0 then l ++ [k] else l) (fun k6 t6 I6 oI6 C6 oC6 D6 m6 ys6 l6 h6 tk6 E6 lo6 hi6 hI6 hC6 hx6 F6 N6 off6 ne6 mk6 => ?_) ?_ (by intro l k; dsimp only; split <;> simp)
    · repeat' (first
        | ((with_reducible show wpAny _ _ (binaryOp Operator.Pow _ _) _ _ _); refine pow_int_small (by omega) (by omega) (by decide) ?_)
        | w_dflts mStep2)
      · exact ⟨_, _, _, rfl, by k_asm, by k_asm, off6, trivial, kci_el (if_pos ((fm_pos _ (by decide)).symm.trans (by assumption))) rfl rfl⟩
      · exact ⟨_, _, _, rfl, by k_asm, by k_asm, off6, trivial, kci_no (if_neg (fun q => absurd ((fm_pos _ (by decide)).trans q) (by assumption))) rfl⟩
    show ∀ ys, _
    intro ys2 I2 len2 D2 h2 tk2 F2 N2 o2'
    have o2 := off1_nat o2'
    simp only [List.forall_mem_cons] at o2
    obtain ⟨o21, o22, o23, o24, o25, o26, o27, o28⟩ := o2
    rw [hfold] at I2
    have hp16 : p1 < 16 := by have := H.pq; have := H.ql; have := H.n; omega
    have hq16 : q1 < 16 := by have := H.ql; have := H.n; omega
    rcases I2 with _ | ⟨_, t20, _ | ⟨_, t21, _ | _⟩⟩
    refine kun_list (by k_asm) (by k_asm) (News.isList (by k_asm) (by w_dflts mMem)) rfl rfl rfl (fun h3 F3 N3 => ?_)
    repeat' (first
      | ((with_reducible show wpAny _ _ (binaryOp Operator.Pow _ _) _ _ _); refine pow_int_small (by omega) (by omega) (by decide) ?_; rw [Int.toNat_natCast])
      | ((with_reducible show wpAny _ _ (assign (Expr.Tuple _ _ _) _ (Value.ref _)) _ _ _); walk1)
      | w_dflts mStep2)
    have hB := H.apart
    have hpw := pow_le16 q1 hq16
    have hpr : 0 ≤ S 0 hs * 2 ^ q1 ∧ S 0 hs * 2 ^ q1 ≤ 256 * 32768 := by
      refine ⟨Int.mul_nonneg r0.1 (Int.le_of_lt hpw.1), Int.mul_le_mul (by omega) hpw.2 (Int.le_of_lt hpw.1) (by decide)⟩
    refine whl_start 1 ?_
    refine whl_gen (by k_asm) (fun news2 N9 sub => ?_)
    have z1 : (54, tabObj #[rawInt 48, rawInt 4, .ref c1]) ∈ news2 := sub _ (by w_dflts mMem)
    have z2 : (c1, oc1) ∈ news2 := sub _ (by w_dflts mMem)
    have z3 : (47, tabObj #[rawInt 33, rawInt 4, .ref c2]) ∈ news2 := sub _ (by w_dflts mMem)
    have z4 : (c2, oc2) ∈ news2 := sub _ (by w_dflts mMem)
    have z5 : (lh, listOf hw.toArray nh) ∈ news2 := sub _ (by w_dflts mMem)
    have z6 : ∀ p ∈ news, p ∈ news2 := fun p hp => sub p (by w_dflts mMem)
    obtain ⟨oa, ma, da⟩ : ∃ o, (L' + 1 + 1, o) ∈ news2 ∧ o.data = .cell (some (.int (S 0 hs) t0)) := ⟨_, sub _ (by w_dflts mMem), by assumption⟩
    obtain ⟨ob, mb, db⟩ : ∃ o, (L' + 1 + 1 + 1, o) ∈ news2 ∧ o.data = .cell (some (.int (S 1 hs) t1)) := ⟨_, sub _ (by w_dflts mMem), by assumption⟩
    obtain ⟨ow, mw, dw⟩ : ∃ o, (L' + 1, o) ∈ news2 ∧ o.data = .cell (some (.ref lh)) := ⟨_, sub _ (by w_dflts mMem), by assumption⟩
    refine whl_ind (h₀ := g') (L := L') (news := news2) (fun n mm => ∃ x y u v ta tb tu tv tl th, n = y ∧ Run (2 ^ p1 - 2 ^ q1) x y u v ∧ mm (Str.ofString "a") = some (.int (x : Int) ta) ∧ mm (Str.ofString "b") = some (.int (y : Int) tb) ∧ mm (Str.ofString "u") = some (.int u tu) ∧
      mm (Str.ofString "v") = some (.int v tv) ∧ mm (Str.ofString "low") = some (.int (p1 : Int) tl) ∧ mm (Str.ofString "high") = some (.int (q1 : Int) th)) ?hE ?turn ((((2 : Int) ^ p1 - 2 ^ q1) % 257).toNat) ?start (by k_asm) N9 _
    case hE => first | passes_own | with_unfolding_all passes_own
    case start =>
      have eb : ((2 : Int) ^ p1 - 2 ^ q1).fmod 257 = (((((2 : Int) ^ p1 - 2 ^ q1) % 257).toNat : Nat) : Int) := by
        rw [fm_pos _ (by decide)]
        have := Int.emod_nonneg ((2 : Int) ^ p1 - 2 ^ q1) (by decide : (257 : Int) ≠ 0)
        omega
      exact ⟨257, _, 0, 1, _, _, _, _, _, _, rfl, Run.start hB, rfl, congrArg (fun z => some (Value.int z _)) eb, rfl, rfl, rfl, rfl⟩
    case turn =>
      rintro n mm hh tk9 ⟨x, y, u, v, ta, tb, tu, tv, tl, th, rfl, R, ha, hb, hu, hv, hlow, hhigh⟩ F9 N9
      have hx := R.hx
      have hy := R.hy
      repeat' (first
        | ((with_reducible show wpAny _ _ (call (Value.ref 118) _) _ _ _); refine iseof _ _ _ _ _ _ _ _ _ _ _ _ _ _ _ _ _ _ (by k_asm) (by k_asm) (by k_asm) (by k_asm) (by k_asm) rfl (by first | exact room hdp (by decide) | exact roomS hdp (by decide) | (dsimp only; omega)) (by first | exact room hun (by decide) | exact roomS hun (by decide) | (dsimp only; omega)) (fun h11 tk11 F11 N11 => ?_))
        | w_dflts mStep2)
      by_cases h0 : n = 0
      · refine WhlIf.no (by rw [h0]; rfl) ?_
        subst h0
        have hmend := H.mend R.over
        repeat' (first
          | ((with_reducible show wpAny _ _ (binaryOp Operator.Pow _ _) _ _ _); refine pow_int_small (by omega) (by omega) (by decide) ?_; rw [Int.toNat_natCast])
          | ((with_reducible show wpAny _ _ (call (Value.type "list") _) _ _ _); refine list_copyK (by k_asm) (by k_asm) (News.isList (by k_asm) (by w_dflts mMem)) (fun D4 c4 h4 F4 N4 lt4 => ?_) (by rw [List.size_toArray, hi.length, sizeLine_eq]; omega); replace lt4 := allLt_of lt4)
          | ((with_reducible show wpAny _ _ (subscriptTail _ _ (Value.ref _) (Value.int _ _)) _ _ _); first
            | refine item_nat (News.isList (by k_asm) (by w_dflts mMem)) hi (by rw [H.length]; have := H.pq; have := H.ql; omega) (by omega) (fun t9 => ?_)
            | refine item_nat (News.isList (by k_asm) (by w_dflts mMem)) I9 (by rw [List.length_set, H.length]; have := H.pq; have := H.ql; omega) (by rw [List.length_set]; omega) (fun t10 => ?_))
          | ((with_reducible show wpAny _ _ (setItem _ _ _) _ _ _); first
            | refine set_nat (by k_asm) (by k_asm) (by w_dflts mUpd) I9 (by rw [List.length_set, H.length]; have := H.pq; have := H.ql; omega) (by rw [List.length_set]; omega) (fun h10 F10 N10 I10 => ?_)
            | refine set_nat (by k_asm) (by k_asm) (by w_dflts mUpd) hi (by rw [H.length]; have := H.pq; have := H.ql; omega) (by omega) (fun h9 F9 N9 I9 => ?_))
          | w_dflts mStep2)
        exact ret _ _ _ _ _ (ints_eq I10 (by simp only [fm_pos _ (show (0 : Int) ≤ 257 by decide)]; exact hmend)) (by assumption) (cb_drop (by assumption) (by
          intro p hp
          rcases List.mem_cons.mp hp with rfl | hp
          · exact List.Mem.head _
          · exact List.Mem.tail _ (z6 p hp)))
      · refine WhlIf.yes (by simp [h0]) ?_
        have hxb : (x : Int) < 2 ^ (Builtin.Int.intBits (n : Int) * 32) := by
          have hbits : 1 ≤ Builtin.Int.intBits (n : Int) := by
            refine Nat.pos_of_ne_zero fun e => ?_
            have := intBits_le_iff.mp (Nat.le_of_eq e)
            simp at this
            omega
          have h1 : (2 : Int) ^ 32 ≤ 2 ^ (Builtin.Int.intBits (n : Int) * 32) := by
            have := Nat.pow_le_pow_right (n := 2) (by decide) (show 32 ≤ Builtin.Int.intBits (n : Int) * 32 by omega)
            exact_mod_cast this
          have h2 : (2 : Int) ^ 32 = 4294967296 := by decide
          omega
        have hqb : 0 ≤ (x : Int) / (n : Int) ∧ (x : Int) / (n : Int) ≤ 257 := by
          have e1 : (x : Int) / (n : Int) = ((x / n : Nat) : Int) := (Int.natCast_ediv x n).symm
          have e2 := Nat.div_le_self x n
          rw [e1]
          exact ⟨Int.natCast_nonneg _, by exact_mod_cast Nat.le_trans e2 hx⟩
        repeat' (first
          | ((with_reducible show wpAny _ _ (call (Value.ref 73) _) _ _ _); refine idm (by omega) hxb (by omega) (by omega) dc1 dv1 dc2 dv2 _ _ _ _ _ _ _ _ _ _ _ _ _ _ _ _ _ _ (by k_asm) (by k_asm) (by k_asm) (by k_asm) (by k_asm) (by k_asm) (by k_asm) rfl (by w_dflts mMem) (by w_dflts mMem) (by w_dflts mMem) (by w_dflts mMem) (by first | exact room hdp (by decide) | exact roomS hdp (by decide) | (dsimp only; omega)) (by first | exact room hun (by decide) | exact roomS hun (by decide) | (dsimp only; omega)) (fun h7 tk7 l7 t7 u7 F7 N7 lt7 => ?_))
          | ((with_reducible show wpAny _ _ (assign (Expr.Tuple _ _ _) _ (Value.ref _)) _ _ _); first | refine unpackN_ (by k_asm) (by k_asm) (News.isTup (by k_asm) (by w_dflts mMem)) rfl rfl rfl (fun h3 F3 N3 => ?_) | walk1)
          | w_dflts mStep2)
        refine' ⟨x % n, ?em, ?eh, ?et, Nat.mod_lt _ (Nat.pos_of_ne_zero h0), ?eJ, ?eF, ?eN, rfl⟩
        case eF => k_asm
        case eN => exact cb_drop (by k_asm) (fun p hp => by w_dflts mMem)
        case eJ => exact ⟨n, x % n, v, u - ((x / n : Nat) : Int) * v, _, _, _, _, _, _, rfl, R.step h0, rfl, congrArg (fun z => some (Value.int z _)) (Int.natCast_emod x n).symm, rfl,
          congrArg (fun z => some (Value.int (u - z * v) _)) (Int.natCast_ediv x n).symm, hlow, hhigh⟩
/-! H1 -/
theorem allLt_trans {x y : Addr} : ∀ {l : List (Addr × Obj)}, AllLt x l → (@LT.lt Nat _ x y) → AllLt y l
  | [], _, _ => trivial
  | _ :: _, h, hl => ⟨Nat.lt_trans h.1 hl, allLt_trans h.2 hl⟩
/-- the table of _int2digits' inner def: cold, or hot by c2 -/
noncomputable def Hot47 (t47 : Obj) (c2 : Addr) (oc2 : Obj) : Prop := t47 = tabObj #[] ∨ (t47 = tabObj #[rawInt 33, rawInt 4, .ref c2] ∧ ∃ vsc tc, oc2.data = .fields vsc ∧ vsc[1]? = some (.str qual2 tc))
theorem i2d_any {prog : Program} {w : World} {p : Program} {loose : List Str} {mean : ExcName → Option Value} {mg mb : Str → Option Value}
   {c2 : Addr} {oc2 t47 : Obj} {ta tk : Tok} {a k : Int}
   (hk1 : 1 ≤ k) (hk9 : k ≤ 9) (ha0 : 0 ≤ a) (ha : a < 2 ^ (k.toNat * 32)) (h47 : Hot47 t47 c2 oc2)
   (dp un : Nat) (gd : Option (List Code)) (cn : Str) (cs : Scope) (aa : Addr) (ccd : Value) (cl : List (Str × Addr)) (outer : List Env) (A₀ : Around) (base h₀ : Heap) (L : Addr) (m : Str → Option Value) (s : Shared) (Q E : Value → Shared → Prop) (news : List (Addr × Obj))
   (B : Below A₀ base outer h₀) (F : Fr h₀ L s.heap m) (X : (hd.heap_39 w.params).In h₀) (C1 : CodeHd base 51 47) (N : News h₀ L s.heap ((47, t47) :: news)) (T : Top p loose mean mg mb h₀) (hk : cs.kind = .function)
   (hoff : ∀ q ∈ news, q.1 ≠ 47) (hc2 : (c2, oc2) ∈ news)
   (hdp : dp + 40 < recursionLimit) (hun : un + 400 < cLine)
   (ret : ∀ h' tk' l us n0 c c3 oc3 vsc tc, Fr h₀ L h' m → News h₀ L h' ((l, listOf (List.toArray us) n0) :: (47, tabObj #[rawInt 33, rawInt 4, .ref c3]) :: (c3, oc3) :: news) → oc3.data = .fields vsc → vsc[1]? = some (.str qual2 tc) → AllLt l news → (@LT.lt Nat _ 47 l) →
     (AllLt c3 news ∧ (@LT.lt Nat _ l c3)) ∨ c3 = c2 → IntsAre us (digs k c a) → a < 2 ^ (k.toNat * c) → (∀ N : Nat, a < 2 ^ (k.toNat * N) → c ≤ N) → Q (.ref l) { s with heap := h', toks := tk' }) :
   wpAny (model prog w) (ktrTop dp un gd cn cs L aa ccd cl outer) (call (.ref 52) [.int a ta, .int k tk]) Q E s := by
  rcases h47 with rfl | ⟨rfl, vsc, tc, dc, dv⟩
  · refine i2d_cold hk1 hk9 ha0 ha dp un gd cn cs aa ccd cl outer A₀ base h₀ L m s Q E news B F X C1 N T hk hoff hdp hun ?_
    intro h' tk' l us n0 c c3 oc3 vsc tc F' N' dc dv lt lc l47 hu h1 h2
    exact ret h' tk' l us n0 c c3 oc3 vsc tc F' N' dc dv lt l47 (.inl ⟨allLt_trans lt lc, lc⟩) hu h1 h2
  · refine i2d_hot hk1 hk9 ha0 ha dc dv dp un gd cn cs aa ccd cl outer A₀ base h₀ L m s Q E _ B F X C1 N T hk (List.Mem.head _) (List.Mem.tail _ hc2) hdp hun ?_
    intro h' tk' l us n0 c F' N' lt hu h1 h2
    refine ret h' tk' l us n0 c c2 oc2 vsc tc F' (fun p hp => N' p ?_) dc dv lt.2 lt.1 (.inr rfl) hu h1 h2
    rcases List.mem_cons.mp hp with rfl | hp
    · exact List.Mem.head _
    rcases List.mem_cons.mp hp with rfl | hp
    · exact List.Mem.tail _ (List.Mem.head _)
    rcases List.mem_cons.mp hp with rfl | hp
    · exact List.Mem.tail _ (List.Mem.tail _ hc2)
    · exact List.Mem.tail _ (List.Mem.tail _ hp)
/-! F1 -/
section
open PySem.F
theorem quote {prog : Program} {w : World} {p : Program} {loose : List Str} {mean : ExcName → Option Value} {mg mb : Str → Option Value}
   {bs : Array UInt8} {tb : Tok}
   (hsz : bs.size ≤ 100)
   (dp un : Nat) (gd : Option (List Code)) (cn : Str) (cs : Scope) (aa : Addr) (ccd : Value) (cl : List (Str × Addr)) (outer : List Env) (A₀ : Around) (base h₀ : Heap) (L : Addr) (m : Str → Option Value) (s : Shared) (Q E : Value → Shared → Prop) (news : List (Addr × Obj))
   (B : Below A₀ base outer h₀) (F : Fr h₀ L s.heap m) (X : (hd.heap_39 w.params).In h₀) (N : News h₀ L s.heap news) (T : Top p loose mean mg mb h₀) (hk : cs.kind = .function)
   (hdp : dp + 20 < recursionLimit) (hun : un + 200 < cLine)
   (ret : ∀ h' tk' t, Fr h₀ L h' m → News h₀ L h' news → Q (.bytes (out1 (bs.map (·.toNat)) #[46, 46] bs.size 0) t) { s with heap := h', toks := tk' }) :
   wpAny (model prog w) (ktrTop dp un gd cn cs L aa ccd cl outer) (call (.ref 90) [.bytes bs tb]) Q E s := by
  refine wpAny_call ?_
  k_dflt (refine' code_def ?k1 ?k2 ?k3 ?k4 ?k5 ?kA ?kF ?kK ?k6 ?k7 ?k8 ?k9 ?kB ?_ ?c2 ?c3 ?c4 ?c5; (case kA => exact rfl); (case kF => exact rfl); (case kK => assumption); (case k1 => k_asm); (case k2 => k_asm); (case k3 => k_asm); (case k4 => k_asm); (case k5 => k_asm); (case k6 => k_is); (case k7 => k_is); (case k8 => ktr_room); (case k9 => exact BindsTo.of_eq rfl); (case c5 => decide); (case kB => exact locs rfl); (case c2 => exact rfl); (case c3 => exact rfl); (case c4 => exact rfl); k_whole; intro g' L' h' FG' F' N' B' X' T'; (try dsimp only); (try k_fold))
  repeat' (first
    | ((with_reducible show wpAny _ _ (getMethod (Value.ref _) _ _) _ _ _); refine getMethod_builtin (T := "re.Pattern") ⟨_, F'.keep _ _ (X' 78 _ rfl), rfl⟩ plainAttrs_pat slot_pat_sub type_pat_sub (fun a e => by cases e; exact ⟨_, F'.keep _ _ (X' 78 _ rfl), rfl⟩) ?_)
    | w_dflts mStep2)
  have hp := F'.keep _ _ (X' 78 _ rfl)
  have hc := F'.keep _ _ (X' 77 _ rfl)
  refine sub1 ?hcode hsz ?hrp ?hsl F' N' hp hc (fun h9 tk9 t9 F9 N9 => ?_)
  case hcode => kernel_rfl
  case hrp => decide
  case hsl => decide +kernel
  repeat' (w_dflts mStep2)
  all_goals exact ret _ _ _ (by assumption) (by assumption)
end
/-! F2 -/
section
open PySem.F
theorem fixeols {prog : Program} {w : World} {p : Program} {loose : List Str} {mean : ExcName → Option Value} {mg mb : Str → Option Value}
   {st : Str} {tb : Tok}
   (hsz : st.length ≤ 100)
   (dp un : Nat) (gd : Option (List Code)) (cn : Str) (cs : Scope) (aa : Addr) (ccd : Value) (cl : List (Str × Addr)) (outer : List Env) (A₀ : Around) (base h₀ : Heap) (L : Addr) (m : Str → Option Value) (s : Shared) (Q E : Value → Shared → Prop) (news : List (Addr × Obj))
   (B : Below A₀ base outer h₀) (F : Fr h₀ L s.heap m) (X : (hd.heap_39 w.params).In h₀) (N : News h₀ L s.heap news) (T : Top p loose mean mg mb h₀) (hk : cs.kind = .function)
   (hdp : dp + 20 < recursionLimit) (hun : un + 200 < cLine)
   (ret : ∀ h' tk' t, Fr h₀ L h' m → News h₀ L h' news → Q (.str ⟨out2 st.cps #[13, 10] st.length 0⟩ t) { s with heap := h', toks := tk' }) :
   wpAny (model prog w) (ktrTop dp un gd cn cs L aa ccd cl outer) (call (.ref 97) [.str st tb]) Q E s := by
  refine wpAny_call ?_
  k_dflt (refine' code_def ?k1 ?k2 ?k3 ?k4 ?k5 ?kA ?kF ?kK ?k6 ?k7 ?k8 ?k9 ?kB ?_ ?c2 ?c3 ?c4 ?c5; (case kA => exact rfl); (case kF => exact rfl); (case kK => assumption); (case k1 => k_asm); (case k2 => k_asm); (case k3 => k_asm); (case k4 => k_asm); (case k5 => k_asm); (case k6 => k_is); (case k7 => k_is); (case k8 => ktr_room); (case k9 => exact BindsTo.of_eq rfl); (case c5 => decide); (case kB => exact locs rfl); (case c2 => exact rfl); (case c3 => exact rfl); (case c4 => exact rfl); k_whole; intro g' L' h' FG' F' N' B' X' T'; (try dsimp only); (try k_fold))
  repeat' (first
    | ((with_reducible show wpAny _ _ (getMethod (Value.ref _) _ _) _ _ _); refine getMethod_builtin (T := "re.Pattern") ⟨_, F'.keep _ _ (X' 83 _ rfl), rfl⟩ plainAttrs_pat slot_pat_sub type_pat_sub (fun a e => by cases e; exact ⟨_, F'.keep _ _ (X' 83 _ rfl), rfl⟩) ?_)
    | w_dflts mStep2)
  have hp := F'.keep _ _ (X' 83 _ rfl)
  have hc := F'.keep _ _ (X' 82 _ rfl)
  refine sub2 ?hcode hsz ?hrp ?hsl F' N' hp hc (fun h9 tk9 t9 F9 N9 => ?_)
  case hcode => kernel_rfl
  case hrp => decide
  case hsl => decide +kernel
  repeat' (w_dflts mStep2)
  all_goals exact ret _ _ _ (by assumption) (by assumption)
end
/-! G1 -/
theorem nums_five (ns : List Int) : ∃ a b c d e : Int, (ns.take (Int.toNat 5)).map (fun d => d % 1000000) ++ [657, 1, 106, 3457, 228].drop ((ns.take (Int.toNat 5)).map (fun d => d % 1000000)).length = [a, b, c, d, e] ∧
    (0 ≤ a ∧ a < 1000000) ∧ (0 ≤ b ∧ b < 1000000) ∧ (0 ≤ c ∧ c < 1000000) ∧ (0 ≤ d ∧ d < 1000000) ∧ (0 ≤ e ∧ e < 1000000) := by
  have r : ∀ x : Int, 0 ≤ x % 1000000 ∧ x % 1000000 < 1000000 := fun x => ⟨Int.emod_nonneg _ (by decide), Int.emod_lt_of_pos _ (by decide)⟩
  match ns with
  | [] => exact ⟨_, _, _, _, _, rfl, by decide, by decide, by decide, by decide, by decide⟩
  | [x1] => exact ⟨_, _, _, _, _, rfl, r _, by decide, by decide, by decide, by decide⟩
  | [x1, x2] => exact ⟨_, _, _, _, _, rfl, r _, r _, by decide, by decide, by decide⟩
  | [x1, x2, x3] => exact ⟨_, _, _, _, _, rfl, r _, r _, r _, by decide, by decide⟩
  | [x1, x2, x3, x4] => exact ⟨_, _, _, _, _, rfl, r _, r _, r _, r _, by decide⟩
  | x1 :: x2 :: x3 :: x4 :: x5 :: rest => exact ⟨_, _, _, _, _, rfl, r _, r _, r _, r _, r _⟩
theorem segA {prog : Program} {w : World} {p : Program} {loose : List Str} {mean : ExcName → Option Value} {mg mb : Str → Option Value}
   {l : Addr} {vs : List Value} {ns : List Int} {o1 o2 o3 : Obj}
   (dp un : Nat) (gd : Option (List Code)) (fa : Addr) (cd : Value) (outer : List Env) (A₀ : Around) (base h₀ : Heap) (L : Addr) (m : Str → Option Value) (s : Shared) (Q : Flow → Shared → Prop) (E : Value → Shared → Prop)
   (B : Below A₀ base outer h₀) (F : Fr h₀ L s.heap m) (X : (hd.heap_39 w.params).In h₀) (C1 : CodeHd base 58 54) (C2 : CodeHd base 51 47) (T : Top p loose mean mg mb h₀)
   (N : News h₀ L s.heap [(L + 1 + 1 + 1, o3), (L + 1 + 1, o2), (L + 1, o1), (54, tabObj #[]), (47, tabObj #[])])
   (d1 : o1.data = .cell none) (d2 : o2.data = .cell none) (d3 : o3.data = .cell none) (l54 : @LT.lt Nat _ 54 L) (l47 : @LT.lt Nat _ 47 L)
   (hl : h₀.IsList l vs.toArray) (hi : IntsAre vs ns) (hn : ns.length ≤ 63) (hscr : m (Str.ofString "script") = some (.ref l))
   (hdp : dp + 200 < recursionLimit) (hun : un + 2000 < cLine)
   (next : ∀ (lN c' : Addr) (oc : Obj) (vsc : Array Value) (tcq ta tb tc td te : Tok) (a b c d e : Int) (m' : Str → Option Value) (h' : Heap) (tk' : Nat), (0 ≤ a ∧ a < 1000000) → (0 ≤ b ∧ b < 1000000) → (0 ≤ c ∧ c < 1000000) → (0 ≤ d ∧ d < 1000000) → (0 ≤ e ∧ e < 1000000) →
     oc.data = .fields vsc → vsc[1]? = some (.str qual1 tcq) → m' (Str.ofString "numbers") = some (.ref lN) → Fr h₀ L h' m' →
     News h₀ L h' [(lN, listOf #[Value.int a ta, Value.int b tb, Value.int c tc, Value.int d td, Value.int e te] 0), (54, tabObj #[rawInt 48, rawInt 4, .ref c']), (c', oc), (L + 1 + 1 + 1, o3), (L + 1 + 1, o2), (L + 1, o1), (47, tabObj #[])] →
     (@LT.lt Nat _ (L + 1 + 1 + 1) lN) → (@LT.lt Nat _ lN c') →
     wpAny (model prog w) (ktrTop dp un gd lawName lawScope L fa cd (cellsFrom (L + 1) lawScope.names []) outer) (execs law3 (envOfC lawName lawScope L fa cd)) Q E { s with heap := h', toks := tk' }) :
   wpAny (model prog w) (ktrTop dp un gd lawName lawScope L fa cd (cellsFrom (L + 1) lawScope.names []) outer) (execs lawBody (envOfC lawName lawScope L fa cd)) Q E s := by
  unfold lawBody lawScope lawName lit
  repeat' (first
    | w_dflts mComp
    | w_dflts mStep2)
  refine kmk_slice_ints (ns := ns) (c := (ns.take 5).length) F N (hl.at fun o e => F.keep _ _ e) .none (.int _ _) hi (kmk_upto hi (by decide)) rfl (fun D1 ws1 h1 F1 N1 l1 I1 _ _ => ?_) (by with_unfolding_all rfl) (by kmk_pure) (kmk_sz hi (by rw [sizeLine_eq]; omega))
  have hw5 : ws1.length ≤ 5 := by rw [I1.length]; exact List.length_take_le _ _
  refine LCg.CompSrc.ledger (by rfl) (by k_asm) (by k_asm) (by w_dflts mMem) (by rw [List.size_toArray, sizeLine_eq]; omega) ?_
  intro g9
  refine' kcf_list (fun d => d % 1000000) I1 (fun k5 t5 I5 oI5 C5 oC5 D5 m5 ys5 h5 tk5 E5 hk5 hC5 hx5 F5 N5 off5 ne5 mk5 => ?_) ?_
  · repeat' (w_dflts mStep2)
    exact ⟨_, _, _, rfl, by k_asm, by k_asm, off5, srcAt_news (by w_dflts mMem), rfl, _, congrArg (fun x => Value.int x _) (fm_pos k5 (by decide))⟩
  show ∀ ys, _
  intro ys1 I2 D2 h2 tk2 F2 N2 o2'
  have o2' := off1_nat o2'
  simp only [List.forall_mem_cons] at o2'
  repeat' (first
    | w_dflts mComp
    | ((with_reducible show wpAny _ _ (newList [_, _, _, _, _]) _ _ _); refine newList_K (by k_asm) (by k_asm) (fun l3 h3 F3 N3 lt3 => ?_); replace lt3 := allLt_of lt3; simp only [AllLt] at lt3)
    | ((with_reducible show wpAny _ _ (call (Value.builtin "len") _) _ _ _); refine len_ints (News.isList (by k_asm) (by w_dflts mMem)) I2 (by rw [← I2.length]; simp [List.length_take]; omega) ?_)
    | ((with_reducible show wpAny _ _ (subscriptTail (Expr.List ..) _ (Value.ref _) (Value.ref _)) _ _ _); refine kba_turn (value' := Expr.Name (Str.ofString "x") ⟨0, 0, 0, 0⟩) (by intro _; with_unfolding_all rfl) ?_; refine kmk_slice_ints (ns := [657, 1, 106, 3457, 228]) (c := ([657, 1, 106, 3457, 228].drop ((ns.take (Int.toNat 5)).map (fun d => d % 1000000)).length).length) (by k_asm) (by k_asm) (News.isList (by k_asm) (by w_dflts mMem)) (.int _ _) .none (.cons _ _ (.cons _ _ (.cons _ _ (.cons _ _ (.cons _ _ .nil))))) (kmk_from (.cons _ _ (.cons _ _ (.cons _ _ (.cons _ _ (.cons _ _ .nil))))) (Int.natCast_nonneg _)) rfl (fun D4 ws4 h4 F4 N4 l4 I4 _ _ => ?_) (by with_unfolding_all rfl) (by kmk_pure) (by rw [sizeLine_eq]; show (5 : Nat) ≤ _; decide); replace l4 := allLt_of l4; simp only [AllLt] at l4)
    | w_dflts mStep2)
  refine kmk_add_ints (by k_asm) (by k_asm) (News.isList (by k_asm) (by w_dflts mMem)) (News.isList (by k_asm) (by w_dflts mMem)) I2 I4 (fun lN nv h5 F5 N5 lt5 I5 => ?_) (by rw [sizeLine_eq, List.length_drop]; simp only [List.length_cons, List.length_nil, List.length_map, List.length_take]; omega)
  replace lt5 := allLt_of lt5
  simp only [AllLt, and_true] at lt5
  obtain ⟨a, b, c, d, e, hN, ra, rb, rc, rd, re⟩ := nums_five ns
  rw [Int.toNat_natCast, hN] at I5
  have N5' := cb_drop (news := [(lN, listOf nv.toArray 0), (L + 1 + 1 + 1, o3), (L + 1 + 1, o2), (L + 1, o1), (54, tabObj #[]), (47, tabObj #[])]) N5 (by
    simp only [List.forall_mem_cons]
    refine ⟨by w_dflts mMem, by w_dflts mMem, by w_dflts mMem, by w_dflts mMem, by w_dflts mMem, by w_dflts mMem, List.forall_mem_nil _⟩)
  clear N N1 N2 N3 N4 N5 F1 F2 F3 F4 l1 lt3 l4 o2' I1 I2 I4 hw5
  rcases I5 with _ | ⟨_, ta, _ | ⟨_, tb, _ | ⟨_, tc, _ | ⟨_, td, _ | ⟨_, te, _ | _⟩⟩⟩⟩⟩
  repeat' (first
    | w_dflts mComp
    | w_dflts mStep2)
  refine LCg.CompSrc.ledger (by rfl) (by k_asm) (by k_asm) (by w_dflts mMem) (by rw [sizeLine_eq]; show (5 : Nat) ≤ _; decide) ?_
  intro g9
  refine LCg.CompRest.succ (k := 4) ?_
  intro v6 I6 oI6 C6 oC6 D6 m6 h6 tk6 E6 hv6 hC6 hx6 F6 N6 off6 ne6
  obtain rfl : v6 = Value.int a ta := (Option.some.inj (show some (Value.int a ta) = some v6 from hv6)).symm
  have off6' := off6
  simp only [LCg.Off3, and_true] at off6
  repeat' (first
    | ((with_reducible show wpAny _ _ (newList []) _ _ _); refine newList_K (by k_asm) (by k_asm) (fun l3 h3 F3 N3 lt3 => ?_); have lt3' := lt3; replace lt3 := allLt_of lt3; simp only [AllLt, and_true] at lt3)
    | w_dflts mStep2)
  refine d2i_cold (news := [(l3, listOf #[] 0), (I6, oI6), (C6, oC6), (D6, LCg.lst []), (lN, listOf #[Value.int a ta, Value.int b tb, Value.int c tc, Value.int d td, Value.int e te] 0), (L + 1 + 1 + 1, o3), (L + 1 + 1, o2), (L + 1, o1), (47, tabObj #[])]) _ _ _ _ _ _ _ _ _ _ _ _ _ _ _ _ _ (by k_asm) (by k_asm) (by k_asm) (by k_asm) (cb_drop N3 ?hs) (by k_asm) rfl ?hoff (List.Mem.head _) (by omega) (by omega) (fun h7 tk7 t7 c' oc vsc tcq F7 N7 dc dv lt7 l547 => ?_)
  case hs =>
    simp only [List.forall_mem_cons]
    exact ⟨by w_dflts mMem, by w_dflts mMem, by w_dflts mMem, by w_dflts mMem, by w_dflts mMem, by w_dflts mMem, by w_dflts mMem, by w_dflts mMem, by w_dflts mMem, by w_dflts mMem, List.forall_mem_nil _⟩
  case hoff =>
    simp only [List.forall_mem_cons]
    refine ⟨?_, ?_, ?_, ?_, ?_, ?_, ?_, ?_, ?_, List.forall_mem_nil _⟩ <;> (show @Ne Nat _ _) <;> first | omega | decide
  simp only [AllLt, and_true] at lt7
  dsimp only
  refine ⟨h7, tk7, [(54, tabObj #[rawInt 48, rawInt 4, .ref c']), (c', oc), (lN, listOf #[Value.int a ta, Value.int b tb, Value.int c tc, Value.int d td, Value.int e te] 0), (L + 1 + 1 + 1, o3), (L + 1 + 1, o2), (L + 1, o1), (47, tabObj #[])], rfl, F7, cb_drop N7 ?hs2, ?of2, srcAt_news (by w_dflts mMem), ?_⟩
  case hs2 =>
    simp only [List.forall_mem_cons]
    exact ⟨by w_dflts mMem, by w_dflts mMem, by w_dflts mMem, by w_dflts mMem, by w_dflts mMem, by w_dflts mMem, by w_dflts mMem, by w_dflts mMem, by w_dflts mMem, by w_dflts mMem, List.forall_mem_nil _⟩
  case of2 =>
    simp only [LCg.Off3, and_true]
    obtain ⟨q1, q2, q3, q4, q5, q6⟩ := off6
    exact ⟨q5, ⟨Ne.symm (Nat.ne_of_lt lt7.2.1), Ne.symm (Nat.ne_of_lt lt7.2.2.1), Ne.symm (Nat.ne_of_lt lt7.2.2.2.1)⟩, q1, q2, q3, q4, q6⟩
  clear hC6 F6 N6 ne6 hv6 hx6 off6' off6 F3 N3 lt3' F7 N7
  refine LCg.CompRest.succ (k := 3) ?_
  intro v6 I6 oI6 C6 oC6 D6 m6 h6 tk6 E6 hv6 hC6 hx6 F6 N6 off6 ne6
  obtain rfl : v6 = Value.int b tb := (Option.some.inj (show some (Value.int b tb) = some v6 from hv6)).symm
  have off6' := off6
  simp only [LCg.Off3, and_true] at off6
  repeat' (first
    | ((with_reducible show wpAny _ _ (newList []) _ _ _); refine newList_K (by k_asm) (by k_asm) (fun l3 h3 F3 N3 lt3 => ?_); have lt3' := lt3; replace lt3 := allLt_of lt3; simp only [AllLt, and_true] at lt3)
    | w_dflts mStep2)
  refine d2i_hot IntsAre.nil (fun _ h => nomatch h) (by decide) (.inl rfl) dc dv _ _ _ _ _ _ _ _ _ _ _ _ _ _ _ _ _ _ (by k_asm) (by k_asm) (by k_asm) (by k_asm) (by k_asm) (by k_asm) rfl (by w_dflts mMem) (by w_dflts mMem) (by w_dflts mMem) (by first | exact room hdp (by decide) | exact roomS hdp (by decide) | omega) (by first | exact room hun (by decide) | exact roomS hun (by decide) | omega) (fun h7 tk7 tb7 F7 N7 => ?_)
  dsimp only
  refine ⟨h7, tk7, _, rfl, F7, cb_drop N7 ?hs1, off6', srcAt_news (by w_dflts mMem), ?_⟩
  case hs1 => exact fun p hp => List.Mem.tail _ hp
  clear hC6 F6 N6 ne6 hv6 hx6 off6' off6 F3 N3 lt3' lt3 F7 N7
  refine LCg.CompRest.succ (k := 2) ?_
  intro v6 I6 oI6 C6 oC6 D6 m6 h6 tk6 E6 hv6 hC6 hx6 F6 N6 off6 ne6
  obtain rfl : v6 = Value.int c tc := (Option.some.inj (show some (Value.int c tc) = some v6 from hv6)).symm
  have off6' := off6
  simp only [LCg.Off3, and_true] at off6
  repeat' (first
    | ((with_reducible show wpAny _ _ (newList []) _ _ _); refine newList_K (by k_asm) (by k_asm) (fun l3 h3 F3 N3 lt3 => ?_); have lt3' := lt3; replace lt3 := allLt_of lt3; simp only [AllLt, and_true] at lt3)
    | w_dflts mStep2)
  refine d2i_hot IntsAre.nil (fun _ h => nomatch h) (by decide) (.inl rfl) dc dv _ _ _ _ _ _ _ _ _ _ _ _ _ _ _ _ _ _ (by k_asm) (by k_asm) (by k_asm) (by k_asm) (by k_asm) (by k_asm) rfl (by w_dflts mMem) (by w_dflts mMem) (by w_dflts mMem) (by first | exact room hdp (by decide) | exact roomS hdp (by decide) | omega) (by first | exact room hun (by decide) | exact roomS hun (by decide) | omega) (fun h7 tk7 tc7 F7 N7 => ?_)
  dsimp only
  refine ⟨h7, tk7, _, rfl, F7, cb_drop N7 ?hs2, off6', srcAt_news (by w_dflts mMem), ?_⟩
  case hs2 => exact fun p hp => List.Mem.tail _ hp
  clear hC6 F6 N6 ne6 hv6 hx6 off6' off6 F3 N3 lt3' lt3 F7 N7
  refine LCg.CompRest.succ (k := 1) ?_
  intro v6 I6 oI6 C6 oC6 D6 m6 h6 tk6 E6 hv6 hC6 hx6 F6 N6 off6 ne6
  obtain rfl : v6 = Value.int d td := (Option.some.inj (show some (Value.int d td) = some v6 from hv6)).symm
  have off6' := off6
  simp only [LCg.Off3, and_true] at off6
  repeat' (first
    | ((with_reducible show wpAny _ _ (newList []) _ _ _); refine newList_K (by k_asm) (by k_asm) (fun l3 h3 F3 N3 lt3 => ?_); have lt3' := lt3; replace lt3 := allLt_of lt3; simp only [AllLt, and_true] at lt3)
    | w_dflts mStep2)
  refine d2i_hot IntsAre.nil (fun _ h => nomatch h) (by decide) (.inl rfl) dc dv _ _ _ _ _ _ _ _ _ _ _ _ _ _ _ _ _ _ (by k_asm) (by k_asm) (by k_asm) (by k_asm) (by k_asm) (by k_asm) rfl (by w_dflts mMem) (by w_dflts mMem) (by w_dflts mMem) (by first | exact room hdp (by decide) | exact roomS hdp (by decide) | omega) (by first | exact room hun (by decide) | exact roomS hun (by decide) | omega) (fun h7 tk7 td7 F7 N7 => ?_)
  dsimp only
  refine ⟨h7, tk7, _, rfl, F7, cb_drop N7 ?hs3, off6', srcAt_news (by w_dflts mMem), ?_⟩
  case hs3 => exact fun p hp => List.Mem.tail _ hp
  clear hC6 F6 N6 ne6 hv6 hx6 off6' off6 F3 N3 lt3' lt3 F7 N7
  refine LCg.CompRest.succ (k := 0) ?_
  intro v6 I6 oI6 C6 oC6 D6 m6 h6 tk6 E6 hv6 hC6 hx6 F6 N6 off6 ne6
  obtain rfl : v6 = Value.int e te := (Option.some.inj (show some (Value.int e te) = some v6 from hv6)).symm
  have off6' := off6
  simp only [LCg.Off3, and_true] at off6
  repeat' (first
    | ((with_reducible show wpAny _ _ (newList []) _ _ _); refine newList_K (by k_asm) (by k_asm) (fun l3 h3 F3 N3 lt3 => ?_); have lt3' := lt3; replace lt3 := allLt_of lt3; simp only [AllLt, and_true] at lt3)
    | w_dflts mStep2)
  refine d2i_hot IntsAre.nil (fun _ h => nomatch h) (by decide) (.inl rfl) dc dv _ _ _ _ _ _ _ _ _ _ _ _ _ _ _ _ _ _ (by k_asm) (by k_asm) (by k_asm) (by k_asm) (by k_asm) (by k_asm) rfl (by w_dflts mMem) (by w_dflts mMem) (by w_dflts mMem) (by first | exact room hdp (by decide) | exact roomS hdp (by decide) | omega) (by first | exact room hun (by decide) | exact roomS hun (by decide) | omega) (fun h7 tk7 te7 F7 N7 => ?_)
  dsimp only
  refine ⟨h7, tk7, _, rfl, F7, cb_drop N7 ?hs4, off6', srcAt_news (by w_dflts mMem), ?_⟩
  case hs4 => exact fun p hp => List.Mem.tail _ hp
  clear hC6 F6 N6 ne6 hv6 hx6 off6' off6 F3 N3 lt3' lt3 F7 N7
  refine LCg.CompRest.zero ?_
  intro D8 h8 tk8 F8 N8 o8'
  have o8 := off1_nat o8'
  simp only [List.forall_mem_cons] at o8
  repeat' (first
    | ((with_reducible show wpAny _ _ (newList [_, _, _, _, _]) _ _ _); refine newList_K (by k_asm) (by k_asm) (fun ln hn Fn Nn ltn => ?_); replace ltn := allLt_of ltn; simp only [AllLt, and_true] at ltn)
    | ((with_reducible show wpAny _ _ (compareOp CmpOp.NotEq (Value.ref _) (Value.ref _)) _ _ _); refine ne_intsK (ns := [0, 0, 0, 0, 0]) (ms := [0, 0, 0, 0, 0]) (News.isList (by k_asm) (by w_dflts mMem)) (.cons _ _ (.cons _ _ (.cons _ _ (.cons _ _ (.cons _ _ .nil))))) (News.isList (by k_asm) (by w_dflts mMem)) (.cons _ _ (.cons _ _ (.cons _ _ (.cons _ _ (.cons _ _ .nil))))) (by units_room) ?_; simp only [decide_true, Bool.not_true])
    | ((with_reducible show wpAny _ _ (execs (Stmt.Assign [Expr.Name (Str.ofString "signs") _] _ _ :: _) _) _ _ _); refine next lN c' oc vsc tcq ta tb tc td te a b c d e _ _ _ ra rb rc rd re dc dv ?nm (by k_asm) (cb_drop (news := [(lN, listOf #[Value.int a ta, Value.int b tb, Value.int c tc, Value.int d td, Value.int e te] 0), (54, tabObj #[rawInt 48, rawInt 4, .ref c']), (c', oc), (L + 1 + 1 + 1, o3), (L + 1 + 1, o2), (L + 1, o1), (47, tabObj #[])]) Nn (by simp only [List.forall_mem_cons]; exact ⟨by w_dflts mMem, by w_dflts mMem, by w_dflts mMem, by w_dflts mMem, by w_dflts mMem, by w_dflts mMem, by w_dflts mMem, List.forall_mem_nil _⟩)) (by omega) (by omega))
    | w_dflts mStep2)
/-! G2 -/
theorem nl_sign : ∀ k : Nat, k < 256 → ((Builtin.Str.occurrences (Str.ofString "\r\n") (sgn k) 0 (Str.length (Str.ofString "\r\n")) 1).isEmpty = !(decide (k = 10 ∨ k = 13))) := by decide +kernel
theorem segB {prog : Program} {w : World} {p : Program} {loose : List Str} {mean : ExcName → Option Value} {mg mb : Str → Option Value}
   {lN c' : Addr} {oc o1 o2 o3 : Obj} {ta tb tc td te : Tok} {a b c d e : Int}
   (dp un : Nat) (gd : Option (List Code)) (fa : Addr) (cd : Value) (outer : List Env) (A₀ : Around) (base h₀ : Heap) (L : Addr) (m : Str → Option Value) (s : Shared) (Q : Flow → Shared → Prop) (E : Value → Shared → Prop)
   (B : Below A₀ base outer h₀) (F : Fr h₀ L s.heap m) (X : (hd.heap_39 w.params).In h₀) (T : Top p loose mean mg mb h₀)
   (ra : 0 ≤ a ∧ a < 1000000) (rb : 0 ≤ b ∧ b < 1000000) (rc : 0 ≤ c ∧ c < 1000000)
   (hm : m (Str.ofString "numbers") = some (.ref lN))
   (N : News h₀ L s.heap [(lN, listOf #[Value.int a ta, Value.int b tb, Value.int c tc, Value.int d td, Value.int e te] 0), (54, tabObj #[rawInt 48, rawInt 4, .ref c']), (c', oc), (L + 1 + 1 + 1, o3), (L + 1 + 1, o2), (L + 1, o1), (47, tabObj #[])])
   (d1 : o1.data = .cell none) (d2 : o2.data = .cell none) (d3 : o3.data = .cell none) (l54 : @LT.lt Nat _ 54 L) (l47 : @LT.lt Nat _ 47 L)
   (lLN : @LT.lt Nat _ (L + 1 + 1 + 1) lN) (lNc : @LT.lt Nat _ lN c')
   (hdp : dp + 200 < recursionLimit) (hun : un + 2000 < cLine)
   (next : ∀ (lR : Addr) (rv : List Value) (nR : Nat) (r0 r1 r2 : Str) (m' : Str → Option Value) (h' : Heap) (tk' : Nat), StrsAre rv [r0, r1, r2] → Ok3 r0 r1 r2 →
     m' (Str.ofString "numbers") = some (.ref lN) → m' (Str.ofString "rows") = some (.ref lR) → Fr h₀ L h' m' →
     News h₀ L h' [(lR, listOf (List.toArray rv) nR), (lN, listOf #[Value.int a ta, Value.int b tb, Value.int c tc, Value.int d td, Value.int e te] 0), (54, tabObj #[rawInt 48, rawInt 4, .ref c']), (c', oc), (47, tabObj #[])] → (@Ne Nat lR 47) →
     wpAny (model prog w) (ktrTop dp un gd lawName lawScope L fa cd (cellsFrom (L + 1) lawScope.names []) outer) (execs law9 (envOfC lawName lawScope L fa cd)) Q E { s with heap := h', toks := tk' }) :
   wpAny (model prog w) (ktrTop dp un gd lawName lawScope L fa cd (cellsFrom (L + 1) lawScope.names []) outer) (execs law3 (envOfC lawName lawScope L fa cd)) Q E s := by
  unfold law3 lawScope lawName lit
  repeat' (first
    | w_dflts mCompC
    | w_dflts mStep2)
  refine kmk_slice_ints (ns := [a, b, c, d, e]) (c := 3) (by k_asm) (by k_asm) (News.isList (by k_asm) (by w_dflts mMem)) .none (.int _ _) (.cons _ _ (.cons _ _ (.cons _ _ (.cons _ _ (.cons _ _ .nil))))) (kmk_upto (.cons _ _ (.cons _ _ (.cons _ _ (.cons _ _ (.cons _ _ .nil))))) (by decide)) rfl (fun D1 ws1 h1 F1 N1 l1 I1 _ _ => ?_) (by with_unfolding_all rfl) (by kmk_pure) (by rw [sizeLine_eq]; show (5 : Nat) ≤ _; decide)
  replace I1 : IntsAre ws1 [a, b, c] := I1
  replace l1 := allLt_of l1
  simp only [AllLt, and_true] at l1
  refine LCg.CompSrc.ledger (by rfl) (by k_asm) (by k_asm) (by w_dflts mMem) (by rw [List.size_toArray, I1.length, sizeLine_eq]; show (3 : Nat) ≤ _; decide) ?_
  intro g9
  refine kcg_list KC (fun d => (d / 2 % 256).toNat) (are_ints I1) ?_ ?_
  · rintro k5 _ I5 oI5 C5 oC5 D5 m5 ys5 h5 tk5 E5 hk5 ⟨t5, rfl⟩ hC5 hx5 F5 N5 off5 ne5
    repeat' (first
      | ((with_reducible show wpAny _ _ (call (Value.builtin "chr") _) _ _ _); refine chr_of_range (by omega) (by omega) ?_)
      | w_dflts mStep2)
    exact ⟨_, _, _, rfl, by k_asm, by k_asm, off5, srcAt_news (by w_dflts mMem), rfl, _, by rw [fd_pos _ (by decide), fm_pos _ (by decide)]; rfl⟩
  intro ys1 I2 D2 h2 tk2 F2 N2 o2'
  have x2 := off1_nat o2'
  simp only [List.forall_mem_cons] at x2
  replace N2 := cb_drop (news := [(D2, LCg.lst ys1), (lN, listOf #[Value.int a ta, Value.int b tb, Value.int c tc, Value.int d td, Value.int e te] 0), (54, tabObj #[rawInt 48, rawInt 4, .ref c']), (c', oc), (L + 1 + 1 + 1, o3), (L + 1 + 1, o2), (L + 1, o1), (47, tabObj #[])]) N2 (by w_dflts mMems)
  clear F N F1 N1 l1 I1
  w_dflts mStore
  rename_i hS1 p1 FS1 NS1 dS1
  clear F2 N2 o2' d1
  repeat' (first
    | w_dflts mCompC
    | w_dflts mStep2)
  have lenI2 := I2.length
  refine LCg.CompSrc.ledger (by rfl) (by k_asm) (by k_asm) (by w_dflts mMem) (by rw [List.size_toArray, lenI2, sizeLine_eq]; show (3 : Nat) ≤ _; decide) ?_
  intro g9
  refine kcg_list KC (fun c => if c = 10 ∨ c = 13 then 97 else c) I2 ?_ ?_
  · rintro k5 _ I5 oI5 C5 oC5 D5 m5 ys5 h5 tk5 E5 hk5 ⟨t5, rfl⟩ hC5 hx5 F5 N5 off5 ne5
    dsimp only
    have hk256 : k5 < 256 := by
      obtain ⟨z, _, rfl⟩ := List.mem_map.mp hk5
      have := Int.emod_lt_of_pos (z / 2) (by decide : (0 : Int) < 256)
      omega
    have hz := nl_sign k5 hk256
    repeat' (first
      | w_dflts mStep2)
    · have hq : ¬ (k5 = 10 ∨ k5 = 13) := by
        intro q
        rw [decide_eq_true q] at hz
        simp_all
      exact ⟨_, _, _, rfl, by k_asm, by k_asm, off5, srcAt_news (by w_dflts mMem), rfl, _, by rw [if_neg hq]⟩
    · have hq : k5 = 10 ∨ k5 = 13 := by
        apply Classical.byContradiction
        intro q
        rw [decide_eq_false q] at hz
        simp_all
      exact ⟨_, _, _, rfl, by k_asm, by k_asm, off5, srcAt_news (by w_dflts mMem), rfl, _, by rw [if_pos hq]; rfl⟩
  intro ys3 I3 D3 h3 tk3 F3 N3 o3'
  dsimp only
  have x3 := off1_nat o3'
  simp only [List.forall_mem_cons] at x3
  clear I2 FS1 NS1 x2 lenI2
  replace N3 := cb_drop (news := [(D3, LCg.lst ys3), (lN, listOf #[Value.int a ta, Value.int b tb, Value.int c tc, Value.int d td, Value.int e te] 0), (54, tabObj #[rawInt 48, rawInt 4, .ref c']), (c', oc), (L + 1 + 1 + 1, o3), (L + 1 + 1, o2), (L + 1, p1), (47, tabObj #[])]) N3 (by w_dflts mMems)
  w_dflts mStore
  rename_i hS2 q1 FS2 NS2 dS2
  clear dS1 N3 F3
  have cl : ∀ z : Int, ∃ x : Nat, (if (z / 2 % 256).toNat = 10 ∨ (z / 2 % 256).toNat = 13 then 97 else (z / 2 % 256).toNat) = x ∧ x < 256 ∧ x ≠ 10 ∧ x ≠ 13 := fun z => ⟨_, rfl, by
    have := Int.emod_lt_of_pos (z / 2) (by decide : (0 : Int) < 256)
    split <;> omega⟩
  obtain ⟨x, ex, cx⟩ := cl a
  obtain ⟨y, ey, cy⟩ := cl b
  obtain ⟨z, ez, cz⟩ := cl c
  replace I3 : Are KC ys3 [x, y, z] := by
    rw [← ex, ← ey, ← ez]
    exact I3
  clear ex ey ez cl
  repeat' (first
    | w_dflts mCompC
    | w_dflts mStep2)
  refine kmk_slice_ints (ns := [a, b, c, d, e]) (c := 3) (by k_asm) (by k_asm) (News.isList (by k_asm) (by w_dflts mMem)) .none (.int _ _) (.cons _ _ (.cons _ _ (.cons _ _ (.cons _ _ (.cons _ _ .nil))))) (kmk_upto (.cons _ _ (.cons _ _ (.cons _ _ (.cons _ _ (.cons _ _ .nil))))) (by decide)) rfl (fun D1 ws1 h1 F1 N1 l1 I1 _ _ => ?_) (by with_unfolding_all rfl) (by kmk_pure) (by rw [sizeLine_eq]; show (5 : Nat) ≤ _; decide)
  replace I1 : IntsAre ws1 [a, b, c] := I1
  refine LCg.CompSrc.ledger (by rfl) (by k_asm) (by k_asm) (by w_dflts mMem) (by rw [List.size_toArray, I1.length, sizeLine_eq]; show (3 : Nat) ≤ _; decide) ?_
  intro g9
  refine kcg_list KS (fun d => if d % 2 = 0 then Str.ofString "" else Str.ofString ".") (are_ints I1) ?_ ?_
  · rintro k5 _ I5 oI5 C5 oC5 D5 m5 ys5 h5 tk5 E5 hk5 ⟨t5, rfl⟩ hC5 hx5 F5 N5 off5 ne5
    dsimp only
    repeat' (first
      | w_dflts mStep2)
    · have hq : k5 % 2 = 0 := by
        rw [← fm_pos _ (by decide)]
        assumption
      exact ⟨_, _, _, rfl, by k_asm, by k_asm, off5, srcAt_news (by w_dflts mMem), rfl, _, by rw [if_pos hq]⟩
    · have hq : ¬ k5 % 2 = 0 := by
        rw [← fm_pos _ (by decide)]
        assumption
      exact ⟨_, _, _, rfl, by k_asm, by k_asm, off5, srcAt_news (by w_dflts mMem), rfl, _, by rw [if_neg hq]⟩
  intro ys4 I4 D4 h4 tk4 F4 N4 o4'
  dsimp only
  have x4 := off1_nat o4'
  simp only [List.forall_mem_cons] at x4
  replace N4 := cb_drop (news := [(D4, LCg.lst ys4), (D3, LCg.lst ys3), (lN, listOf #[Value.int a ta, Value.int b tb, Value.int c tc, Value.int d td, Value.int e te] 0), (54, tabObj #[rawInt 48, rawInt 4, .ref c']), (c', oc), (L + 1 + 1 + 1, o3), (L + 1 + 1, o2), (L + 1, q1), (47, tabObj #[])]) N4 (by w_dflts mMems)
  clear F1 N1 l1 o4' FS2 NS2
  w_dflts mStore
  rename_i hS3 q2 FS3 NS3 dS3
  clear d2 N4 F4
  repeat' (first
    | w_dflts mCompC
    | ((with_reducible show wpAny _ _ (storeName _ (Str.ofString "wide") _) _ _ _); w_dflts mStore)
    | ((with_reducible show wpAny _ _ (execs (Stmt.Assign [Expr.Name (Str.ofString "rows") _] _ _ :: _) _) _ _ _); fail)
    | ((with_reducible show wpAny _ _ (subscriptTail _ _ (Value.ref _) (Value.int 2 _)) _ _ _); refine item_at (ns := [a, b, c, d, e]) (x := c) (News.isList (by k_asm) (by w_dflts mMem)) (.cons _ _ (.cons _ _ (.cons _ _ (.cons _ _ (.cons _ _ .nil))))) (by decide) (by decide) rfl (fun t9 => ?_))
    | w_dflts mStep2)
  rename_i hS4 q3 FS4 NS4 dS4
  clear d3 NS3 FS3
  repeat' (first
    | w_dflts mComp
    | w_dflts mStep2)
  have S3 := I3.map_sgn
  have S4 := I4.strs
  simp only [List.map_cons, List.map_nil] at S3 S4
  generalize hds : [if a % 2 = 0 then Str.ofString "" else Str.ofString ".", if b % 2 = 0 then Str.ofString "" else Str.ofString ".", if c % 2 = 0 then Str.ofString "" else Str.ofString "."] = ds at S4
  generalize hss : [sgn x, sgn y, sgn z] = ss at S3
  have lds : ds.length = 3 := by rw [← hds]; rfl
  have lss : ss.length = 3 := by rw [← hss]; rfl
  have dsB : ∀ k : Nat, (ds.getD k Str.empty).length ≤ 1 := by
    intro k
    rw [← hds]
    match k with
    | 0 => show (ite _ _ _ : Str).length ≤ 1; split <;> decide
    | 1 => show (ite _ _ _ : Str).length ≤ 1; split <;> decide
    | 2 => show (ite _ _ _ : Str).length ≤ 1; split <;> decide
    | k + 3 => show Str.empty.length ≤ 1; decide
  have ssB : ∀ k : Nat, (ss.getD k Str.empty).length ≤ 1 := by
    intro k
    rw [← hss]
    match k with
    | 0 => exact Nat.le_refl 1
    | 1 => exact Nat.le_refl 1
    | 2 => exact Nat.le_refl 1
    | k + 3 => show Str.empty.length ≤ 1; decide
  with_unfolding_all refine LCg.CompSrc.range (n := 3) (by rfl) (by k_asm) (by k_asm) (by assumption) (by decide) (by rfl) (by decide) ?_
  intro g10
  refine kcg_range KS (rowAt (c / 512 % 3) ds ss) ?_ ?_
  · rintro k5 _ I5 oI5 C5 oC5 D5 m5 ys5 h5 tk5 E5 hk5 ⟨t5, rfl⟩ hC5 hx5 F5 N5 off5 ne5
    dsimp only
    have hk := mem_rangeKs hk5
    have eW : (c.fdiv 512).fmod 3 = c / 512 % 3 := by rw [fd_pos _ (by decide), fm_pos _ (by decide)]
    repeat' (first
      | ((with_reducible show wpAny _ _ (subscriptTail (Expr.Name (Str.ofString "dots") _) _ (Value.ref _) (Value.int _ _)) _ _ _); refine KTb.item_list (News.isList (by k_asm) (by w_dflts mMem)) S4 (by omega) (by omega) (by omega) (fun t9 _ => ?_))
      | ((with_reducible show wpAny _ _ (subscriptTail (Expr.Name (Str.ofString "signs") _) _ (Value.ref _) (Value.int _ _)) _ _ _); refine KTb.item_list (News.isList (by k_asm) (by w_dflts mMem)) S3 (by omega) (by omega) (by omega) (fun t9 _ => ?_))
      | ((with_reducible show wpAny _ _ (binaryOp Operator.Add (Value.str _ _) (Value.str _ _)) _ _ _); refine PyProof.Rows.add_str (fun t10 tk10 => ?_) (by have := dsB k5.toNat; have := ssB k5.toNat; rw [sizeLine_eq]; omega))
      | w_dflts mStep2)
    · have hq : k5 = c / 512 % 3 := by
        rw [← eW]
        assumption
      exact ⟨_, _, _, rfl, by k_asm, by k_asm, off5, trivial, rfl, _, by unfold rowAt; rw [if_pos hq]⟩
    · have hq : ¬ k5 = c / 512 % 3 := by
        rw [← eW]
        assumption
      have hq2 : ds.getD k5.toNat Str.empty = Str.ofString "" := eq_of_beq (by assumption)
      exact ⟨_, _, _, rfl, by k_asm, by k_asm, off5, trivial, rfl, _, by unfold rowAt; rw [if_neg hq, if_pos hq2]⟩
    · have hq : ¬ k5 = c / 512 % 3 := by
        rw [← eW]
        assumption
      have hq2 : ¬ ds.getD k5.toNat Str.empty = Str.ofString "" := by
        refine ne_of_beq_false ?_
        assumption
      exact ⟨_, _, _, rfl, by k_asm, by k_asm, off5, trivial, rfl, _, by unfold rowAt; rw [if_neg hq, if_neg hq2]⟩
  intro ys6 I6 D6 h6 tk6 F6 N6 o6'
  dsimp only
  have x6 := off1_nat o6'
  simp only [List.forall_mem_cons] at x6
  have S6 : StrsAre ys6 [rowAt (c / 512 % 3) ds ss 0, rowAt (c / 512 % 3) ds ss 1, rowAt (c / 512 % 3) ds ss 2] := I6.strs
  have two : ∀ z : Int, (if z % 2 = 0 then Str.ofString "" else Str.ofString ".") = Str.ofString "" ∨ (if z % 2 = 0 then Str.ofString "" else Str.ofString ".") = Str.ofString "." := fun z => by
    split
    · exact .inl rfl
    · exact .inr rfl
  have ok := rows_ok (w := c / 512 % 3) (two a) (two b) (two c) cx cy cz
  rw [hds, hss] at ok
  generalize rowAt (c / 512 % 3) ds ss 0 = r0 at S6 ok
  generalize rowAt (c / 512 % 3) ds ss 1 = r1 at S6 ok
  generalize rowAt (c / 512 % 3) ds ss 2 = r2 at S6 ok
  replace N6 := cb_drop (news := [(D6, LCg.lst ys6), (lN, listOf #[Value.int a ta, Value.int b tb, Value.int c tc, Value.int d td, Value.int e te] 0), (54, tabObj #[rawInt 48, rawInt 4, .ref c']), (c', oc), (47, tabObj #[])]) N6 (by w_dflts mMems)
  have hne : @Ne Nat D6 47 := by
    obtain ⟨_, _, _, _, _, _, _, _, q, _⟩ := x6
    exact fun e => q e.symm
  rcases S6 with _ | ⟨_, s0, _ | ⟨_, s1, _ | ⟨_, s2, _ | _⟩⟩⟩
  repeat' (first
    | ((with_reducible show wpAny _ _ (execs (Stmt.Assign [Expr.Name (Str.ofString "ends") _] _ _ :: _) _) _ _ _); fail)
    | ((with_reducible show wpAny _ _ (subscriptTail _ _ (Value.ref _) (Value.int 2 _)) _ _ _); refine item_at (ns := [a, b, c, d, e]) (x := c) (News.isList (by k_asm) (by w_dflts mMem)) (.cons _ _ (.cons _ _ (.cons _ _ (.cons _ _ (.cons _ _ .nil))))) (by decide) (by decide) rfl (fun t9 => ?_))
    | ((with_reducible show wpAny _ _ (setItem _ _ _) _ _ _); refine ki_set (q := [.str r0 s0, .str r1 s1, .str (Str.ofString "") _]) (by k_asm) (by k_asm) (by decide) (by decide) rfl (by w_dflts mUpd) (fun h9 F9 N9 => ?_))
    | ((fail_if_success with_reducible show wpAny _ _ (execs (Stmt.Assign [Expr.Name (Str.ofString "ends") _] _ _ :: _) _) _ _ _); w_dflts mStep2))
  · exact next D6 [.str r0 s0, .str r1 s1, .str (Str.ofString "") _] _ r0 r1 (Str.ofString "") (fun z => if z = Str.ofString "rows" then some (Value.ref D6) else m z) _ _ (.cons _ _ (.cons _ _ (.cons _ _ .nil))) ok.cut hm rfl F9 N9 hne
  · exact next D6 [.str r0 s0, .str r1 s1, .str r2 s2] _ r0 r1 r2 (fun z => if z = Str.ofString "rows" then some (Value.ref D6) else m z) _ _ (.cons _ _ (.cons _ _ (.cons _ _ .nil))) ok hm rfl (by k_asm) (by k_asm) hne
/-! G3 -/
/-- the end of a row -/
noncomputable def endAt (k : Int) : Str := [Str.ofString "\n", Str.ofString "\r", Str.ofString "\r\n"].getD k.toNat Str.empty
theorem segC {prog : Program} {w : World} {p : Program} {loose : List Str} {mean : ExcName → Option Value} {mg mb : Str → Option Value}
   {lN lR c' : Addr} {oc : Obj} {vsc : Array Value} {tcq ta tb tc td te : Tok} {a b c d e : Int} {rv : List Value} {nR : Nat} {r0 r1 r2 : Str}
   (dp un : Nat) (gd : Option (List Code)) (fa : Addr) (cd : Value) (outer : List Env) (A₀ : Around) (base h₀ : Heap) (L : Addr) (m : Str → Option Value) (s : Shared) (Q : Flow → Shared → Prop) (E : Value → Shared → Prop)
   (B : Below A₀ base outer h₀) (F : Fr h₀ L s.heap m) (X : (hd.heap_39 w.params).In h₀) (T : Top p loose mean mg mb h₀)
   (hrv : StrsAre rv [r0, r1, r2]) (ok : Ok3 r0 r1 r2) (dc : oc.data = .fields vsc) (dv : vsc[1]? = some (.str qual1 tcq))
   (hm : m (Str.ofString "numbers") = some (.ref lN)) (hmr : m (Str.ofString "rows") = some (.ref lR))
   (N : News h₀ L s.heap [(lR, listOf (List.toArray rv) nR), (lN, listOf #[Value.int a ta, Value.int b tb, Value.int c tc, Value.int d td, Value.int e te] 0), (54, tabObj #[rawInt 48, rawInt 4, .ref c']), (c', oc), (47, tabObj #[])])
   (hdp : dp + 200 < recursionLimit) (hun : un + 2000 < cLine)
   (next : ∀ (lW : Addr) (wv : List Value) (nW : Nat) (f : Int) (m' : Str → Option Value) (h' : Heap) (tk' : Nat), 0 ≤ f → f < 5 → (∀ d ∈ wordOf f (toInts (octs r0 r1 r2)), d < 256) → IntsAre wv (wordOf f (toInts (octs r0 r1 r2))) →
     m' (Str.ofString "numbers") = some (.ref lN) → m' (Str.ofString "rows") = some (.ref lR) → m' (Str.ofString "word") = some (.ref lW) → Fr h₀ L h' m' →
     News h₀ L h' [(lW, listOf (List.toArray wv) nW), (lR, listOf (List.toArray rv) nR), (lN, listOf #[Value.int a ta, Value.int b tb, Value.int c tc, Value.int d td, Value.int e te] 0), (54, tabObj #[rawInt 48, rawInt 4, .ref c']), (c', oc), (47, tabObj #[])] →
     (@LT.lt Nat _ lR lW) → (@LT.lt Nat _ lN lW) → (@LT.lt Nat _ c' lW) → (@LT.lt Nat _ 47 lW) →
     wpAny (model prog w) (ktrTop dp un gd lawName lawScope L fa cd (cellsFrom (L + 1) lawScope.names []) outer) (execs law14 (envOfC lawName lawScope L fa cd)) Q E { s with heap := h', toks := tk' }) :
   wpAny (model prog w) (ktrTop dp un gd lawName lawScope L fa cd (cellsFrom (L + 1) lawScope.names []) outer) (execs law9 (envOfC lawName lawScope L fa cd)) Q E s := by
  unfold law9 lawScope lawName lit
  repeat' (first
    | w_dflts mComp
    | w_dflts mStep2)
  refine kmk_slice_ints (ns := [a, b, c, d, e]) (c := 2) (by k_asm) (by k_asm) (News.isList (by k_asm) (by w_dflts mMem)) .none (.int _ _) (.cons _ _ (.cons _ _ (.cons _ _ (.cons _ _ (.cons _ _ .nil))))) (kmk_upto (.cons _ _ (.cons _ _ (.cons _ _ (.cons _ _ (.cons _ _ .nil))))) (by decide)) rfl (fun D1 ws1 h1 F1 N1 l1 I1 _ _ => ?_) (by with_unfolding_all rfl) (by kmk_pure) (by rw [sizeLine_eq]; show (5 : Nat) ≤ _; decide)
  replace I1 : IntsAre ws1 [a, b] := I1
  refine LCg.CompSrc.ledger (by rfl) (by k_asm) (by k_asm) (by w_dflts mMem) (by rw [List.size_toArray, I1.length, sizeLine_eq]; show (2 : Nat) ≤ _; decide) ?_
  intro g9
  refine kcg_list KS (fun d => endAt (d / 512 % 3)) (are_ints I1) ?_ ?_
  · rintro k5 _ I5 oI5 C5 oC5 D5 m5 ys5 h5 tk5 E5 hk5 ⟨t5, rfl⟩ hC5 hx5 F5 N5 off5 ne5
    dsimp only
    have hk0 : 0 ≤ (k5.fdiv 512).fmod 3 ∧ (k5.fdiv 512).fmod 3 < 3 := by
      rw [fd_pos _ (by decide), fm_pos _ (by decide)]
      omega
    repeat' (first
      | ((with_reducible show wpAny _ _ (newList [_, _, _]) _ _ _); refine newList_K (by k_asm) (by k_asm) (fun l3 h3 F3 N3 lt3 => ?_); replace lt3 := allLt_of lt3; simp only [AllLt, and_true] at lt3)
      | ((with_reducible show wpAny _ _ (subscriptTail (Expr.List ..) _ (Value.ref _) (Value.int _ _)) _ _ _); refine kba_turn (value' := Expr.Name (Str.ofString "x") ⟨0, 0, 0, 0⟩) (by intro _; with_unfolding_all rfl) ?_; refine KTb.item_list (ws := [Str.ofString "\n", Str.ofString "\r", Str.ofString "\r\n"]) (News.isList (by k_asm) (by w_dflts mMem)) (.cons _ _ (.cons _ _ (.cons _ _ .nil))) hk0.1 hk0.2 (by omega) (fun t9 _ => ?_))
      | w_dflts mStep2)
    exact ⟨_, _, _, rfl, by k_asm, cb_drop (by k_asm) (fun p hp => List.Mem.tail _ hp), off5, srcAt_news (by w_dflts mMem), rfl, _, by unfold endAt; rw [fd_pos _ (by decide), fm_pos _ (by decide)]⟩
  intro ys2 I2 D2 h2 tk2 F2 N2 o2'
  dsimp only
  have S2 : StrsAre ys2 [endAt (a / 512 % 3), endAt (b / 512 % 3)] := I2.strs
  have eo : ∀ z : Int, endAt (z / 512 % 3) = Str.ofString "\n" ∨ endAt (z / 512 % 3) = Str.ofString "\r" ∨ endAt (z / 512 % 3) = Str.ofString "\r\n" := by
    intro z
    have h0 := Int.emod_nonneg (z / 512) (by decide : (3 : Int) ≠ 0)
    have h1 := Int.emod_lt_of_pos (z / 512) (by decide : (0 : Int) < 3)
    generalize z / 512 % 3 = k at h0 h1
    have : k = 0 ∨ k = 1 ∨ k = 2 := by omega
    rcases this with rfl | rfl | rfl
    · exact .inl rfl
    · exact .inr (.inl rfl)
    · exact .inr (.inr rfl)
  have eo0 := eo a
  have eo1 := eo b
  generalize endAt (a / 512 % 3) = e0 at S2 eo0
  generalize endAt (b / 512 % 3) = e1 at S2 eo1
  have el : ∀ z : Str, (z = Str.ofString "\n" ∨ z = Str.ofString "\r" ∨ z = Str.ofString "\r\n") → z.length ≤ 2 := by
    rintro z (rfl | rfl | rfl) <;> decide +kernel
  have l0 := el e0 eo0
  have l1' := el e1 eo1
  have lr := ok.size
  have la : ∀ x y : Str, (x ++ y).length = x.length + y.length := by
    intro x y
    show (x.cps ++ y.cps).size = x.cps.size + y.cps.size
    simp
  replace N2 := cb_drop (news := [(D2, LCg.lst ys2), (lR, listOf (List.toArray rv) nR), (lN, listOf #[Value.int a ta, Value.int b tb, Value.int c tc, Value.int d td, Value.int e te] 0), (54, tabObj #[rawInt 48, rawInt 4, .ref c']), (c', oc), (47, tabObj #[])]) N2 (by w_dflts mMems)
  clear F1 N1 l1 I1 o2' I2 F N eo el
  have ht := mail_text ok eo0 eo1
  have hts : (out2 (r0 ++ e0 ++ r1 ++ e1 ++ r2).cps #[13, 10] (r0 ++ e0 ++ r1 ++ e1 ++ r2).length 0).size = (plainL r0 r1 r2).length := by
    rw [← ht]
    simp
  have hps := plain_size ok
  repeat' (first
    | ((with_reducible show wpAny _ _ (eval (Expr.ListComp (Expr.Call (Expr.Name (Str.ofString "ord") _) _ _ _) _ _ _) _) _ _ _); refine ListComp_S (by k_asm) (by with_unfolding_all rfl) (by decide) (by rfl) (by decide) (by rfl) ?_)
    | ((with_reducible show wpAny _ _ (subscriptTail (Expr.Name (Str.ofString "rows") _) _ (Value.ref _) (Value.int _ _)) _ _ _); refine item_strAt (News.isList (by k_asm) (by w_dflts mMem)) hrv (by decide) (by decide) rfl (fun t9 => ?_))
    | ((with_reducible show wpAny _ _ (subscriptTail (Expr.Name (Str.ofString "ends") _) _ (Value.ref _) (Value.int _ _)) _ _ _); refine item_strAt (News.isList (by k_asm) (by w_dflts mMem)) S2 (by decide) (by decide) rfl (fun t9 => ?_))
    | ((with_reducible show wpAny _ _ (binaryOp Operator.Add (Value.str _ _) (Value.str _ _)) _ _ _); refine PyProof.Rows.add_str (fun t10 tk10 => ?_) (by rw [sizeLine_eq]; simp only [la]; omega))
    | ((with_reducible show wpAny _ _ (call (Value.ref 97) _) _ _ _); refine fixeols (by simp only [la]; omega) _ _ _ _ _ _ _ _ _ _ _ _ _ _ _ _ _ _ (by k_asm) (by k_asm) (by k_asm) (by k_asm) (by k_asm) rfl (by first | exact room hdp (by decide) | exact roomS hdp (by decide) | omega) (by first | exact room hun (by decide) | exact roomS hun (by decide) | omega) (fun h11 tk11 t11 F11 N11 => ?_))
    | w_dflts mStep2)
  refine ⟨_, _, _, rfl, rfl, by k_asm, by k_asm, by rw [sizeLine_eq, hts]; omega, ?_⟩
  rintro _ ⟨g10, rfl⟩
  refine kcg_signs KI (fun c => (c : Int)) ?_ ?_
  · rintro k5 _ I5 oI5 C5 oC5 D5 m5 ys5 h5 tk5 E5 hk5 ⟨t5, rfl⟩ hC5 hx5 F5 N5 off5 ne5
    dsimp only
    repeat' (first
      | w_dflts mStep2)
    exact ⟨_, _, _, rfl, by k_asm, by k_asm, off5, trivial, rfl, _, rfl⟩
  intro ys3 I3 D3 h3 tk3 F3 N3 o3'
  dsimp only
  have S3 : IntsAre ys3 (toInts (plainL r0 r1 r2)) := by
    have q := I3.ints
    rw [show (⟨out2 (r0 ++ e0 ++ r1 ++ e1 ++ r2).cps #[13, 10] (r0 ++ e0 ++ r1 ++ e1 ++ r2).length 0⟩ : Str).cps.toList = plainL r0 r1 r2 from ht] at q
    exact q
  have hpb : KBa.In (toInts (plainL r0 r1 r2)) := by
    intro n hn
    obtain ⟨z, hz, rfl⟩ := List.mem_map.mp hn
    have := plain_byte ok z hz
    omega
  have hpl : (toInts (plainL r0 r1 r2)).length ≤ 11 := by
    unfold toInts
    rw [List.length_map]
    exact hps
  have hbl : (byteArr (toInts (plainL r0 r1 r2))).size = (toInts (plainL r0 r1 r2)).length := byteArr_size _
  have hoct := mail_octets ok
  have hol : (toInts (octs r0 r1 r2)).length ≤ 11 := by
    unfold toInts
    rw [List.length_map]
    exact octs_size ok
  have hob : ∀ z ∈ toInts (octs r0 r1 r2), 0 ≤ z ∧ z < 256 := by
    intro n hn
    obtain ⟨z, hz, rfl⟩ := List.mem_map.mp hn
    have := octs_byte ok z hz
    omega
  have hosz : (out1 ((byteArr (toInts (plainL r0 r1 r2))).map (·.toNat)) #[46, 46] (byteArr (toInts (plainL r0 r1 r2))).size 0).size ≤ 11 := by
    have := KBw.ints_length (out1 ((byteArr (toInts (plainL r0 r1 r2))).map (·.toNat)) #[46, 46] (byteArr (toInts (plainL r0 r1 r2))).size 0)
    rw [hoct] at this
    omega
  clear I3 S2 hrv ht hts
  repeat' (first
    | ((with_reducible show wpAny _ _ (call (Value.type "bytes") _) _ _ _); refine KBa.make_K (by k_asm) (by k_asm) (by rfl) (News.isList (by k_asm) (by w_dflts mMem)) S3 hpb (by omega) (fun h12 t12 tk12 F12 N12 _ => ?_))
    | ((with_reducible show wpAny _ _ (call (Value.ref 90) _) _ _ _); refine quote (by omega) _ _ _ _ _ _ _ _ _ _ _ _ _ _ _ _ _ _ (by k_asm) (by k_asm) (by k_asm) (by k_asm) (by k_asm) rfl (by first | exact room hdp (by decide) | exact roomS hdp (by decide) | omega) (by first | exact room hun (by decide) | exact roomS hun (by decide) | omega) (fun h13 tk13 t13 F13 N13 => ?_))
    | ((with_reducible show wpAny _ _ (call (Value.type "list") [Value.bytes _ _]) _ _ _); refine list_bytesK (by rfl) (by k_asm) (by k_asm) (fun D5 c5 h14 tk14 ys5 F14 N14 lt5 I5 => ?_) (by rw [sizeLine_eq]; omega))
    | ((with_reducible show wpAny _ _ (call (Value.ref 123) _) _ _ _); rw [hoct] at I5; refine lawword I5 hob hol _ _ _ _ _ _ _ _ _ _ _ _ _ _ _ _ _ _ (by k_asm) (by k_asm) (by k_asm) (by k_asm) (by k_asm) rfl (by w_dflts mMem) (by first | exact room hdp (by decide) | exact roomS hdp (by decide) | omega) (by first | exact room hun (by decide) | exact roomS hun (by decide) | omega) (fun h15 tk15 lW wv nW f f0 f5 hw256 IW F15 N15 lt15 => ?_))
    | ((fail_if_success with_reducible show wpAny _ _ (execs (Stmt.Assign [Expr.Name (Str.ofString "harmed") _] _ _ :: _) _) _ _ _); w_dflts mStep2))
  · exfalso
    have q : wordOf f (toInts (octs r0 r1 r2)) = [] := of_decide_eq_true (by assumption)
    have := wordOf_length f (toInts (octs r0 r1 r2))
    rw [q] at this
    simp at this
  · simp only [AllLt, and_true] at lt15
    refine next lW wv nW f _ _ _ f0 f5 hw256 IW ?_ ?_ ?_ (by k_asm) (cb_drop (news := [(lW, listOf (List.toArray wv) nW), (lR, listOf (List.toArray rv) nR), (lN, listOf #[Value.int a ta, Value.int b tb, Value.int c tc, Value.int d td, Value.int e te] 0), (54, tabObj #[rawInt 48, rawInt 4, .ref c']), (c', oc), (47, tabObj #[])]) (by k_asm) (by w_dflts mMems)) (by omega) (by omega) (by omega) (by omega)
    · exact hm
    · exact hmr
    · rfl
/-! G4 -/
theorem segD {prog : Program} {w : World} {p : Program} {loose : List Str} {mean : ExcName → Option Value} {mg mb : Str → Option Value}
   {lN lR lW c' : Addr} {oc : Obj} {vsc : Array Value} {tcq ta tb tc td te : Tok} {a b c d e f : Int} {rv wv : List Value} {nR nW : Nat} {os : List Int}
   (dp un : Nat) (gd : Option (List Code)) (fa : Addr) (cd : Value) (outer : List Env) (A₀ : Around) (base h₀ : Heap) (L : Addr) (m : Str → Option Value) (s : Shared) (Q : Flow → Shared → Prop) (E : Value → Shared → Prop)
   (B : Below A₀ base outer h₀) (F : Fr h₀ L s.heap m) (X : (hd.heap_39 w.params).In h₀) (C1 : CodeHd base 58 54) (C2 : CodeHd base 51 47) (T : Top p loose mean mg mb h₀)
   (f0 : 0 ≤ f) (f5 : f < 5) (hol : os.length ≤ 11) (hob : ∀ z ∈ os, 0 ≤ z ∧ z < 256) (hw : ∀ z ∈ wordOf f os, z < 256) (IW : IntsAre wv (wordOf f os)) (rd : 0 ≤ d ∧ d < 1000000) (re : 0 ≤ e ∧ e < 1000000)
   (dc : oc.data = .fields vsc) (dv : vsc[1]? = some (.str qual1 tcq))
   (hm : m (Str.ofString "numbers") = some (.ref lN)) (hmr : m (Str.ofString "rows") = some (.ref lR)) (hmw : m (Str.ofString "word") = some (.ref lW))
   (N : News h₀ L s.heap [(lW, listOf (List.toArray wv) nW), (lR, listOf (List.toArray rv) nR), (lN, listOf #[Value.int a ta, Value.int b tb, Value.int c tc, Value.int d td, Value.int e te] 0), (54, tabObj #[rawInt 48, rawInt 4, .ref c']), (c', oc), (47, tabObj #[])])
   (lRW : @LT.lt Nat _ lR lW) (lNW : @LT.lt Nat _ lN lW) (lcW : @LT.lt Nat _ c' lW) (l47W : @LT.lt Nat _ 47 lW) (n47 : (@Ne Nat lR 47) ∧ (@Ne Nat lN 47) ∧ (@Ne Nat c' 47))
   (hdp : dp + 200 < recursionLimit) (hun : un + 2000 < cLine)
   (next : ∀ (m' : Str → Option Value) (h' : Heap) (tk' : Nat) (ps : Array Value), m' (Str.ofString "word") = some (.ref lW) → m' (Str.ofString "rows") = some (.ref lR) → Fr h₀ L h' m' →
     News h₀ L h' [(lW, listOf (List.toArray wv) nW), (lR, listOf (List.toArray rv) nR), (54, tabObj #[rawInt 48, rawInt 4, .ref c']), (47, tabObj ps)] →
     wpAny (model prog w) (ktrTop dp un gd lawName lawScope L fa cd (cellsFrom (L + 1) lawScope.names []) outer) (execs law16 (envOfC lawName lawScope L fa cd)) Q E { s with heap := h', toks := tk' })
   (hE : PassesOwn (model prog w) (ktrTop dp un gd lawName lawScope L fa cd (cellsFrom (L + 1) lawScope.names []) outer) (envOfC lawName lawScope L fa cd) E) :
   wpAny (model prog w) (ktrTop dp un gd lawName lawScope L fa cd (cellsFrom (L + 1) lawScope.names []) outer) (execs law14 (envOfC lawName lawScope L fa cd)) Q E s := by
  unfold law14 lawScope lawName lit
  unfold lawScope lawName lit at hE
  have hwl := wordOf_length f os
  have hwz := fun (k : Int) (hk : k = 0 ∨ k = 1 ∨ k = 2 ∨ k = 3) => word_zero k hk f os
  have hwb : ∀ z ∈ wordOf f os, 0 ≤ z ∧ z < 256 := fun z hz => ⟨(wordOf_mem ⟨f0, by omega⟩ (fun z hz => ⟨(hob z hz).1, by have := (hob z hz).2; omega⟩) hz).1, hw z hz⟩
  generalize wordOf f os = ws at hw IW hwl hwz hwb
  have hw16 : ws.length ≤ 16 := by omega
  have hw5 : 5 ≤ ws.length := by omega
  clear hwl hol hob
  repeat' (first
    | w_dflts mFor
    | ((with_reducible show wpAny _ _ (call (Value.type "list") _) _ _ _); refine list_copyK (by k_asm) (by k_asm) (News.isList (by k_asm) (by w_dflts mMem)) (fun lH c4 h4 F4 N4 lt4 => ?_) (by rw [List.size_toArray, IW.length, sizeLine_eq]; omega); replace lt4 := allLt_of lt4; simp only [AllLt, and_true] at lt4)
    | w_dflts mStep2)
  refine kmk_slice_ints (ns := [a, b, c, d, e]) (c := 2) (by k_asm) (by k_asm) (News.isList (by k_asm) (by w_dflts mMem)) (.int _ _) .none (.cons _ _ (.cons _ _ (.cons _ _ (.cons _ _ (.cons _ _ .nil))))) (kmk_from (.cons _ _ (.cons _ _ (.cons _ _ (.cons _ _ (.cons _ _ .nil))))) (by decide)) rfl (fun lS sv h5 F5 N5 l5 I5 _ _ => ?_) (by with_unfolding_all rfl) (by kmk_pure) (by rw [sizeLine_eq]; show (5 : Nat) ≤ _; decide)
  replace l5 := allLt_of l5
  simp only [AllLt, and_true] at l5
  replace I5 : IntsAre sv [d, e] := I5
  have N6 := cb_drop (news := [(lH, listOf (List.toArray wv) c4), (lS, listOf (List.toArray sv) 0), (lW, listOf (List.toArray wv) nW), (lR, listOf (List.toArray rv) nR), (lN, listOf #[Value.int a ta, Value.int b tb, Value.int c tc, Value.int d td, Value.int e te] 0), (54, tabObj #[rawInt 48, rawInt 4, .ref c']), (c', oc), (47, tabObj #[]), (lW, listOf (List.toArray wv) nW)]) N5 (by w_dflts mMems)
  with_unfolding_all refine' iter_listUnr (lo := listOf (List.toArray sv) 0) (vs := sv) ?u1 ?u2 ?uN ?u3 ?u4 ?u5 ?_
  case uN => exact N6
  case u1 => rfl
  case u2 => k_asm
  case u3 => w_dflts mMem
  case u4 => rfl
  case u5 => rfl
  intro I6 lt6
  replace lt6 := allLt_of lt6
  simp only [AllLt, and_true] at lt6
  refine list_ind (fun rs mm nws => ∃ hv nH hs t47 c2 oc2, nws = [(lH, listOf (List.toArray hv) nH), (lS, listOf (List.toArray sv) 0), (lW, listOf (List.toArray wv) nW), (lR, listOf (List.toArray rv) nR), (lN, listOf #[Value.int a ta, Value.int b tb, Value.int c tc, Value.int d td, Value.int e te] 0), (54, tabObj #[rawInt 48, rawInt 4, .ref c']), (c', oc), (47, t47), (c2, oc2)] ∧
      IntsAre hv hs ∧ mm (Str.ofString "harmed") = some (.ref lH) ∧ mm (Str.ofString "word") = some (.ref lW) ∧ mm (Str.ofString "rows") = some (.ref lR) ∧ Hot47 t47 c2 oc2 ∧ (@Ne Nat c2 lH) ∧ (@Ne Nat c2 I6) ∧ (@Ne Nat c2 47) ∧ rs.length ≤ 2 ∧ Hurt ws hs (2 - rs.length) ∧ ∀ r ∈ rs, 0 ≤ r ∧ r < 1000000) ?turn ?done I5 ?start
  case start =>
    refine ⟨wv, c4, ws, tabObj #[], lW, _, rfl, IW, rfl, hmw, hmr, .inl rfl, ?_, ?_, ?_, Nat.le_refl _, rfl, ?_⟩
    · exact fun q => by omega
    · exact fun q => by omega
    · exact fun q => by omega
    · intro r hr
      simp only [List.mem_cons, List.not_mem_nil, or_false] at hr
      rcases hr with rfl | rfl
      · exact rd
      · exact re
  case turn =>
    rintro x rs t mm nws it hh tk ⟨hv, nH, hs, t47, c2, oc2, rfl, hi, mh, mw, mr, h47, ne1, ne2, ne3, hrl, hurt, hr⟩ hit F7 N7
    have hx := hr x List.mem_cons_self
    have hsl := hurt.length
    have hpl : 0 ≤ x.fmod (ws.length : Int) ∧ x.fmod (ws.length : Int) < ws.length := by
      rw [Int.fmod_eq_emod_of_nonneg _ (by omega)]
      exact ⟨Int.emod_nonneg _ (by omega), Int.emod_lt_of_pos _ (by omega)⟩
    repeat' (first
      | ((with_reducible show wpAny _ _ (call (Value.builtin "len") _) _ _ _); refine len_ints (News.isList (by k_asm) (by w_dflts mMem)) IW (by omega) ?_)
      | ((with_reducible show wpAny _ _ (subscriptTail (Expr.Name (Str.ofString "harmed") _) _ (Value.ref _) (Value.int _ _)) _ _ _); refine item_ints (News.isList (by k_asm) (by w_dflts mMem)) hi hpl.1 (by omega) (by omega) (fun t9 => ?_))
      | w_dflts mStep2)
    have hv256 : 0 ≤ (hs.getD (x.fmod ↑ws.length).toNat 0 + x.fdiv ↑ws.length).fmod 256 ∧ (hs.getD (x.fmod ↑ws.length).toNat 0 + x.fdiv ↑ws.length).fmod 256 < 256 := by
      rw [fm_pos _ (by decide)]
      exact ⟨Int.emod_nonneg _ (by decide), Int.emod_lt_of_pos _ (by decide)⟩
    generalize (hs.getD (x.fmod ↑ws.length).toNat 0 + x.fdiv ↑ws.length).fmod 256 = v at hv256
    refine ksa_set (by k_asm) (by k_asm) (by w_dflts mUpd) hi hpl.1 (by omega) (by omega) (fun h8 F8 N8 I8 _ _ => ?_)
    have hurt2 := Hurt.more (p := (x.fmod ↑ws.length).toNat) (a := v) (by omega) hv256 (by simp only [List.length_cons]; omega) hurt
    have ek : 2 - (x :: rs).length + 1 = 2 - rs.length := by
      simp only [List.length_cons] at hrl ⊢
      omega
    rw [ek] at hurt2
    obtain ⟨p1, q1, a1, b1, H⟩ := Hurt.harm hwz hwb hw16 (by omega) (by simp only [List.length_cons] at hrl; omega) hurt2
    have hl2 := H.length
    have hm2 := H.mem
    generalize hs.set (x.fmod ↑ws.length).toNat v = hs2 at I8 hurt2 H hl2 hm2
    generalize hv.set (x.fmod ↑ws.length).toNat _ = gv at I8 N8
    have hvl := val_lt (k := 8) (ds := hs2) hm2
    have hv2 : val 8 hs2 < 2 ^ ((8 : Int).toNat * 32) := by
      refine Int.lt_of_lt_of_le hvl.2 ?_
      have := Nat.pow_le_pow_right (n := 2) (by decide) (show (8 : Int).toNat * hs2.length ≤ (8 : Int).toNat * 32 from Nat.mul_le_mul_left _ (by omega))
      exact_mod_cast this
    dsimp only
    repeat' (first
      | ((with_reducible show wpAny _ _ (call (Value.ref 59) _) _ _ _); refine d2i_hot I8 (fun d hd => ⟨(hm2 d hd).1, by have := (hm2 d hd).2; omega⟩) (by omega) (.inr ⟨by omega, by omega⟩) dc dv _ _ _ _ _ _ _ _ _ _ _ _ _ _ _ _ _ _ (by k_asm) (by k_asm) (by k_asm) (by k_asm) (by k_asm) (by k_asm) rfl (by w_dflts mMem) (by w_dflts mMem) (by w_dflts mMem) (by first | exact room hdp (by decide) | exact roomS hdp (by decide) | omega) (by first | exact room hun (by decide) | exact roomS hun (by decide) | omega) (fun h9 tk9 t9 F9 N9 => ?_))
      | w_dflts mStep2)
    refine i2d_any (c2 := c2) (oc2 := oc2) (t47 := t47) (by decide) (by decide) hvl.1 hv2 h47 _ _ _ _ _ _ _ _ _ _ _ _ _ _ _ _ _ [(I6, it), (lH, listOf (List.toArray gv) nH), (lS, listOf (List.toArray sv) 0), (lW, listOf (List.toArray wv) nW), (lR, listOf (List.toArray rv) nR), (lN, listOf #[Value.int a ta, Value.int b tb, Value.int c tc, Value.int d td, Value.int e te] 0), (54, tabObj #[rawInt 48, rawInt 4, .ref c']), (c', oc), (c2, oc2)] (by k_asm) (by k_asm) (by k_asm) (by k_asm) (cb_drop N9 (by w_dflts mMems)) (by k_asm) rfl ?hoff (by w_dflts mMem) (by first | exact room hdp (by decide) | exact roomS hdp (by decide) | omega) (by first | exact room hun (by decide) | exact roomS hun (by decide) | omega) ?_
    case hoff =>
      simp only [List.forall_mem_cons]
      refine ⟨?_, ?_, ?_, ?_, ?_, ?_, ?_, ?_, ?_, List.forall_mem_nil _⟩ <;> (show @Ne Nat _ _) <;> first | omega | decide
    intro h10 tk10 lU us nU cc c3 oc3 vs3 tc3 F10 N10 dc3 dv3 lt10 l47U hc3 IU hU1 hU2
    have hcc : cc ≤ hs2.length := hU2 _ hvl.2
    have hdl : (digs 8 cc (val 8 hs2)).length = cc := digs_length 8 cc _
    have hpad := pad hm2 hcc hU1
    have lt10' := lt10
    simp only [AllLt, and_true] at lt10
    have c3H : @Ne Nat c3 lH ∧ @Ne Nat c3 I6 ∧ @Ne Nat c3 47 := by
      rcases hc3 with ⟨q1, q2⟩ | rfl
      · simp only [AllLt, and_true] at q1
        refine ⟨fun q => by omega, fun q => by omega, fun q => by omega⟩
      · exact ⟨ne1, ne2, ne3⟩
    clear N7 F7 N9 F9 N8 F8 hc3
    dsimp only
    repeat' (first
      | ((with_reducible show wpAny _ _ (newList [_]) _ _ _); refine newList_K (by k_asm) (by k_asm) (fun l11 h11 F11 N11 lt11 => ?_); replace lt11 := allLt_of lt11; simp only [AllLt] at lt11)
      | ((with_reducible show wpAny _ _ (call (Value.builtin "len") [Value.ref lW]) _ _ _); refine len_ints (News.isList (by k_asm) (by w_dflts mMem)) IW (by omega) ?_)
      | ((with_reducible show wpAny _ _ (call (Value.builtin "len") [Value.ref lU]) _ _ _); refine len_ints (News.isList (by k_asm) (by w_dflts mMem)) IU (by omega) ?_)
      | ((with_reducible show wpAny _ _ (binaryOp Operator.Mult (Value.ref _) _) _ _ _); dsimp only; refine mul_rep (by k_asm) (by k_asm) (by w_dflts mMem) (by rw [hdl]; omega) (by rw [hdl]; omega) (fun l12 h12 F12 N12 lt12 => ?_))
      | ((with_reducible show wpAny _ _ (binaryOp Operator.Add (Value.ref _) (Value.ref _)) _ _ _); dsimp only; refine kmk_add_ints (by k_asm) (by k_asm) (News.isList (by k_asm) (by w_dflts mMem)) (News.isList (by k_asm) (by w_dflts mMem)) IU (ints_rep 0 _ _) (fun l13 v13 h13 F13 N13 lt13 I13 => ?_) (by rw [sizeLine_eq, hdl, List.length_replicate]; omega))
      | w_dflts mStep2)
    have epad : digs 8 cc (val 8 hs2) ++ List.replicate (((ws.length : Nat) : Int) - ((digs 8 cc (val 8 hs2)).length : Nat)).toNat 0 = hs2 := by
      rw [hdl]
      conv => rhs; rw [← hpad]
      congr 2
      omega
    rw [epad] at I13
    repeat' (first
      | ((with_reducible show wpAny _ _ (call (Value.ref 128) _) _ _ _); refine lawmended H I13 dc dv dc3 dv3 _ _ _ _ _ _ _ _ _ _ _ _ _ _ _ _ _ _ (by k_asm) (by k_asm) (by k_asm) (by k_asm) (by k_asm) (by k_asm) (by k_asm) rfl (by w_dflts mMem) (by w_dflts mMem) (by w_dflts mMem) (by w_dflts mMem) (by w_dflts mMem) (by first | exact room hdp (by decide) | exact roomS hdp (by decide) | omega) (by first | exact room hun (by decide) | exact roomS hun (by decide) | omega) (fun h14 tk14 l14 v14 n14 I14 F14 N14 => ?_))
      | ((with_reducible show wpAny _ _ (compareOp CmpOp.NotEq (Value.ref _) (Value.ref _)) _ _ _); refine ne_intsK (News.isList (by k_asm) (by w_dflts mMem)) I14 (News.isList (by k_asm) (by w_dflts mMem)) IW (by units_room) ?_; simp only [decide_true, Bool.not_true])
      | ((fail_if_success with_reducible show UnrEnd _ _ _ _ _ _ _); (fail_if_success with_reducible show UnrPost _ _ _ _ _ _ _ _ _); w_dflts mStep2))
    refine ⟨h14, tk14, _, [(lH, listOf (List.toArray gv) nH), (lS, listOf (List.toArray sv) 0), (lW, listOf (List.toArray wv) nW), (lR, listOf (List.toArray rv) nR), (lN, listOf #[Value.int a ta, Value.int b tb, Value.int c tc, Value.int d td, Value.int e te] 0), (54, tabObj #[rawInt 48, rawInt 4, .ref c']), (c', oc), (47, tabObj #[rawInt 33, rawInt 4, .ref c3]), (c3, oc3)], rfl, F14, cb_drop N14 (by w_dflts mMems), ?of, by w_dflts mMem, gv, nH, hs2, _, c3, oc3, rfl, I8, mh, mw, mr, .inr ⟨rfl, _, _, dc3, dv3⟩, c3H.1, c3H.2.1, c3H.2.2, by simp only [List.length_cons] at hrl; omega, hurt2, fun r hr' => hr r (List.mem_cons_of_mem _ hr')⟩
    case of =>
      simp only [List.forall_mem_cons]
      refine ⟨?_, ?_, ?_, ?_, ?_, ?_, ?_, ?_, ?_, List.forall_mem_nil _⟩ <;> (show @Ne Nat _ _) <;> first | omega | exact c3H.2.1
  case done =>
    rintro mm nws hh tk ⟨hv, nH, hs, t47, c2, oc2, rfl, hi, mh, mw, mr, h47, ne1, ne2, ne3, hrl, hurt, hr⟩ F7 N7
    rcases h47 with rfl | ⟨rfl, _⟩
    · exact next mm hh tk _ mw mr F7 (cb_drop N7 (by w_dflts mMems))
    · exact next mm hh tk _ mw mr F7 (cb_drop N7 (by w_dflts mMems))
/-! G5 -/
theorem segE {prog : Program} {w : World} {p : Program} {loose : List Str} {mean : ExcName → Option Value} {mg mb : Str → Option Value}
   {lR lW c' : Addr} {f : Int} {rv wv : List Value} {nR nW : Nat} {r0 r1 r2 : Str} {ps : Array Value}
   (dp un : Nat) (gd : Option (List Code)) (fa : Addr) (cd : Value) (outer : List Env) (A₀ : Around) (base h₀ : Heap) (L : Addr) (m : Str → Option Value) (s : Shared) (Q : Flow → Shared → Prop) (E : Value → Shared → Prop)
   (B : Below A₀ base outer h₀) (F : Fr h₀ L s.heap m) (X : (hd.heap_39 w.params).In h₀) (T : Top p loose mean mg mb h₀)
   (ok : Ok3 r0 r1 r2) (hrv : StrsAre rv [r0, r1, r2]) (IW : IntsAre wv (wordOf f (toInts (octs r0 r1 r2))))
   (hmr : m (Str.ofString "rows") = some (.ref lR)) (hmw : m (Str.ofString "word") = some (.ref lW))
   (N : News h₀ L s.heap [(lW, listOf (List.toArray wv) nW), (lR, listOf (List.toArray rv) nR), (54, tabObj #[rawInt 48, rawInt 4, .ref c']), (47, tabObj ps)])
   (hdp : dp + 200 < recursionLimit) (hun : un + 2000 < cLine)
   (ret : ∀ (m' : Str → Option Value) (h' : Heap) (tk' : Nat), Fr h₀ L h' m' → News h₀ L h' [(54, tabObj #[rawInt 48, rawInt 4, .ref c']), (47, tabObj ps)] → Q (.ret (.bool true)) { s with heap := h', toks := tk' }) :
   wpAny (model prog w) (ktrTop dp un gd lawName lawScope L fa cd (cellsFrom (L + 1) lawScope.names []) outer) (execs law16 (envOfC lawName lawScope L fa cd)) Q E s := by
  unfold law16 lawScope lawName lit
  have lr := ok.size
  repeat' (first
    | w_dflts mComp
    | w_dflts mStep2)
  refine LCg.CompSrc.ledger (by rfl) (by k_asm) (by k_asm) (by w_dflts mMem) (by rw [List.size_toArray, hrv.length, sizeLine_eq]; show (3 : Nat) ≤ _; decide) ?_
  intro g9
  refine kcg_list KS toldRow (are_strs hrv) ?_ ?_
  · rintro k5 _ I5 oI5 C5 oC5 D5 m5 ys5 h5 tk5 E5 hk5 ⟨t5, rfl⟩ hC5 hx5 F5 N5 off5 ne5
    dsimp only
    have hk7 : k5.length ≤ 7 := by
      simp only [List.mem_cons, List.not_mem_nil, or_false] at hk5
      rcases hk5 with rfl | rfl | rfl <;> omega
    repeat' (first
      | ((with_reducible show wpAny _ _ (subscriptTail _ (Expr.Slice none (some _) none _) (Value.str _ _) (Value.ref _)) _ _ _); refine slice_strN_ns (by k_asm) (by k_asm) (fun h6 t6 tk6 F6 N6 => ?_) (hsz := by rw [sizeLine_eq]; omega))
      | ((with_reducible show wpAny _ _ (binaryOp Operator.Add (Value.str _ _) (Value.str _ _)) _ _ _); refine PyProof.Rows.add_str (fun t10 tk10 => ?_) (by rw [sizeLine_eq]; show 1 + _ ≤ _; omega))
      | w_dflts mStep2)
    · have hq : k5.cps.toList.head? = some 46 := (slice_dot k5).mp (eq_of_beq (by assumption))
      exact ⟨_, _, _, rfl, by k_asm, by k_asm, off5, srcAt_news (by w_dflts mMem), rfl, _, by unfold toldRow; rw [if_pos hq]⟩
    · have hq : ¬ k5.cps.toList.head? = some 46 := fun q => by
        have := (slice_dot k5).mpr q
        refine absurd this (ne_of_beq_false ?_)
        assumption
      exact ⟨_, _, _, rfl, by k_asm, by k_asm, off5, srcAt_news (by w_dflts mMem), rfl, _, by unfold toldRow; rw [if_neg hq]⟩
  intro ys2 I2 D2 h2 tk2 F2 N2 o2'
  dsimp only
  have S2 : StrsAre ys2 [toldRow r0, toldRow r1, toldRow r2] := I2.strs
  have htold := told_text r0 r1 r2
  have hq7 := ok.q
  have hos := octs_size ok
  have h2l : (Str.ofString "\r\n").length = 2 := by decide +kernel
  have hjl : (Txt.join (Str.ofString "\r\n") [toldRow r0, toldRow r1, toldRow r2]).cps.size ≤ 11 := by
    rw [← Array.length_toList, htold]
    exact hos
  repeat' (first
    | ((with_reducible show wpAny _ _ (eval (Expr.ListComp (Expr.Call (Expr.Name (Str.ofString "ord") _) _ _ _) _ _ _) _) _ _ _); refine ListComp_S (by k_asm) (by with_unfolding_all rfl) (by decide) (by rfl) (by decide) (by rfl) ?_)
    | ((with_reducible show wpAny _ _ (call (Value.builtin "str.join") _) _ _ _); refine join_list (ys := [toldRow r0, toldRow r1, toldRow r2]) (News.isList (by k_asm) (by w_dflts mMem)) S2 (by simp only [List.map_cons, List.map_nil, List.sum_cons, List.sum_nil, told_length, h2l, List.length_cons, List.length_nil]; omega) (fun t11 tk11 => ?_))
    | ((with_reducible show wpAny _ _ (subscriptTail (Expr.Name (Str.ofString "word") _) (Expr.Slice (some _) none none _) (Value.ref _) (Value.ref _)) _ _ _); refine kmk_slice_ints (c := (toInts (octs r0 r1 r2)).length) (by k_asm) (by k_asm) (News.isList (by k_asm) (by w_dflts mMem)) (.int _ _) .none IW (kmk_from IW (by decide)) rfl (fun lS sv h5 F5 N5 l5 I5 _ _ => ?_) (by with_unfolding_all rfl) (by kmk_pure) (kmk_sz IW (by rw [wordOf_length, sizeLine_eq]; unfold toInts; rw [List.length_map]; omega)))
    | w_dflts mStep2)
  replace I5 : IntsAre sv (toInts (octs r0 r1 r2)) := I5
  refine ⟨_, _, _, rfl, rfl, by k_asm, by k_asm, by rw [sizeLine_eq]; omega, ?_⟩
  rintro _ ⟨g10, rfl⟩
  refine kcg_signs KI (fun c => (c : Int)) ?_ ?_
  · rintro k5 _ I5 oI5 C5 oC5 D5 m5 ys5 h5 tk5 E5 hk5 ⟨t5, rfl⟩ hC5 hx5 F5 N5 off5 ne5
    dsimp only
    repeat' (first
      | w_dflts mStep2)
    exact ⟨_, _, _, rfl, by k_asm, by k_asm, off5, trivial, rfl, _, rfl⟩
  intro ys6 I6 D6 h6 tk6 F6 N6 o6'
  dsimp only
  have I7 : IntsAre ys6 (toInts (octs r0 r1 r2)) := by
    have q := I6.ints
    rw [htold] at q
    exact q
  repeat' (first
    | ((with_reducible show wpAny _ _ (compareOp CmpOp.Eq (Value.ref _) (Value.ref _)) _ _ _); refine eq_intsK (News.isList (by k_asm) (by w_dflts mMem)) I5 (News.isList (by k_asm) (by w_dflts mMem)) I7 (by units_room) ?_; simp only [decide_true])
    | w_dflts mStep2)
  exact ret _ _ _ F6 (cb_drop N6 (by w_dflts mMems))
/-! G6 -/
theorem law_body {prog : Program} {w : World} {p : Program} {loose : List Str} {mean : ExcName → Option Value} {mg mb : Str → Option Value}
   {l : Addr} {vs : List Value} {ns : List Int} {o1 o2 o3 : Obj}
   (dp un : Nat) (gd : Option (List Code)) (fa : Addr) (cd : Value) (outer : List Env) (A₀ : Around) (base h₀ : Heap) (L : Addr) (m : Str → Option Value) (s : Shared) (Q : Flow → Shared → Prop) (E : Value → Shared → Prop)
   (B : Below A₀ base outer h₀) (F : Fr h₀ L s.heap m) (X : (hd.heap_39 w.params).In h₀) (C1 : CodeHd base 58 54) (C2 : CodeHd base 51 47) (T : Top p loose mean mg mb h₀)
   (N : News h₀ L s.heap [(L + 1 + 1 + 1, o3), (L + 1 + 1, o2), (L + 1, o1), (54, tabObj #[]), (47, tabObj #[])])
   (d1 : o1.data = .cell none) (d2 : o2.data = .cell none) (d3 : o3.data = .cell none) (l54 : @LT.lt Nat _ 54 L) (l47 : @LT.lt Nat _ 47 L)
   (hl : h₀.IsList l vs.toArray) (hi : IntsAre vs ns) (hn : ns.length ≤ 63) (hscr : m (Str.ofString "script") = some (.ref l))
   (hdp : dp + 200 < recursionLimit) (hun : un + 2000 < cLine)
   (hE : PassesOwn (model prog w) (ktrTop dp un gd lawName lawScope L fa cd (cellsFrom (L + 1) lawScope.names []) outer) (envOfC lawName lawScope L fa cd) E)
   (ret : ∀ (m' : Str → Option Value) (h' : Heap) (tk' : Nat) (ps1 ps2 : Array Value), Fr h₀ L h' m' → News h₀ L h' [(54, tabObj ps1), (47, tabObj ps2)] → Q (.ret (.bool true)) { s with heap := h', toks := tk' }) :
   wpAny (model prog w) (ktrTop dp un gd lawName lawScope L fa cd (cellsFrom (L + 1) lawScope.names []) outer) (execs lawBody (envOfC lawName lawScope L fa cd)) Q E s := by
  refine segA dp un gd fa cd outer A₀ base h₀ L m s Q E B F X C1 C2 T N d1 d2 d3 l54 l47 hl hi hn hscr hdp hun ?_
  intro lN c' oc vsc tcq ta tb tc td te a b c d e m1 h1 tk1 ra rb rc rd re dc dv hm1 F1 N1 lN1 lc1
  refine segB dp un gd fa cd outer A₀ base h₀ L m1 { s with heap := h1, toks := tk1 } Q E B F1 X T ra rb rc hm1 N1 d1 d2 d3 l54 l47 lN1 lc1 hdp hun ?_
  intro lR rv nR r0 r1 r2 m2 h2 tk2 hrv ok hm2 hmr2 F2 N2 nR47
  refine segC dp un gd fa cd outer A₀ base h₀ L m2 { s with heap := h2, toks := tk2 } Q E B F2 X T hrv ok dc dv hm2 hmr2 N2 hdp hun ?_
  intro lW wv nW f m3 h3 tk3 f0 f5 hw IW hm3 hmr3 hmw3 F3 N3 g1 g2 g3 g4
  have hol : (toInts (octs r0 r1 r2)).length ≤ 11 := by
    unfold toInts
    rw [List.length_map]
    exact octs_size ok
  have hob : ∀ z ∈ toInts (octs r0 r1 r2), 0 ≤ z ∧ z < 256 := by
    intro n hn
    obtain ⟨z, hz, rfl⟩ := List.mem_map.mp hn
    have := octs_byte ok z hz
    omega
  refine segD (f := f) (os := toInts (octs r0 r1 r2)) dp un gd fa cd outer A₀ base h₀ L m3 { s with heap := h3, toks := tk3 } Q E B F3 X C1 C2 T f0 f5 hol hob hw IW rd re dc dv hm3 hmr3 hmw3 N3 g1 g2 g3 g4 ⟨nR47, fun q => by omega, fun q => by omega⟩ hdp hun ?_ hE
  intro m4 h4 tk4 ps hmw4 hmr4 F4 N4
  exact segE dp un gd fa cd outer A₀ base h₀ L m4 { s with heap := h4, toks := tk4 } Q E B F4 X T ok hrv IW hmr4 hmw4 N4 hdp hun (fun m5 h5 tk5 F5 N5 => ret m5 h5 tk5 _ _ F5 N5)
theorem law_holds : PySem.Challenge.rw_rw0043_01.Holds := hd (by
  k_go0
  (all_goals try k_fold)
  refine law_body (o1 := _) _ _ _ _ _ _ _ _ _ _ _ _ _ _ (by k_asm) (by k_asm) (by k_asm) (by k_asm) (by k_asm) (by k_asm) (by k_asm) ?d1 ?d2 ?d3 ?l54 ?l47 (by k_asm) (by k_asm) ?hn ?hscr ?hdp ?hun ?hE ?ret
  case d1 => assumption
  case d2 => assumption
  case d3 => assumption
  case l54 => first | omega | exact And.left (by assumption)
  case l47 => first | omega | exact And.right (by assumption)
  case hn => omega
  case hscr => rfl
  case hdp => decide +kernel
  case hun => decide +kernel
  case hE => first | passes_own | with_unfolding_all passes_own
  case ret =>
    intro m' h' tk' ps1 ps2 F' N'
    refine ⟨?_, ?_⟩
    · dsimp only
      first
        | (k_end; wrow_close)
        | k_steps
    · exact ⟨GrownAt.of N' (List.Mem.head _), GrownAt.of N' (List.Mem.tail _ (List.Mem.head _)), trivial⟩)
end Mine
end
theorem PySem.Challenge.cw_rw0043_01_holds : PySem.Challenge.rw_rw0043_01.Holds := by
  exact Mine.law_holds
