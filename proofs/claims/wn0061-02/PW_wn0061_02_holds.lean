import PyProof.Rows.All
import Wide.All
import OpenK.AllK
import Wide.FinOn
import PySem.Challenge.RW_wn0061_02
set_option Elab.async false
set_option maxRecDepth 100000
set_option maxHeartbeats 8000000
section
namespace Mine
open PySem PySem.Sre

def code1 : Array Nat := #[14, 4, 0, 1, 1, 6, 1, 16, 46, 1]
def code2 : Array Nat := #[14, 9, 4, 1, 2, 16, 10, 16, 13, 0, 7, 7, 16, 13, 16, 10, 15, 18, 5, 16, 10, 15, 13, 11, 16, 13, 5, 5, 0, 16, 10, 1, 15, 2, 0, 1]

theorem runFor_done {m : Sre.M} (h : m.outcome.isSome = true) : ∀ n, M.runFor n m = m
  | 0 => rfl
  | n + 1 => by show (if m.outcome.isSome then m else _) = m; rw [if_pos h]
theorem runFor_add (a : Nat) : ∀ (b : Nat) (m : Sre.M), M.runFor (a + b) m = M.runFor b (M.runFor a m) := by
  induction a with
  | zero => intro b m; rw [Nat.zero_add]; rfl
  | succ a ih =>
    intro b m
    rw [Nat.succ_add]
    show (if m.outcome.isSome then m else M.runFor (a + b) m.step) = M.runFor b (if m.outcome.isSome then m else M.runFor a m.step)
    cases h : m.outcome.isSome with
    | true => simp only [if_true]; rw [runFor_done h]
    | false => simp only [Bool.false_eq_true, if_false]; exact ih b _
theorem runFor_one {m : Sre.M} (h : m.outcome.isSome = false) : M.runFor 1 m = m.step := by
  show (if m.outcome.isSome then m else m.step) = _
  rw [h]; rfl
theorem step_cons {m : Sre.M} (h : m.outcome.isSome = false) (n : Nat) : M.runFor (n + 1) m = M.runFor n m.step := by
  show (if m.outcome.isSome then m else M.runFor n m.step) = _
  rw [h]; rfl

/-- the machine at the start of an attempt at s (pattern 1) -/
def M1 (text : Array Nat) (first must : Bool) (s : Nat) (seen : Seen) : Sre.M :=
  { code := code1, text := text, lim := text.size, start := s, lastStart := text.size, mustAdvance := must, pc := 5, pos := s, handed := s, outermost := first, marks := #[],
    frames := [{ wait := .nextStart, pc := 5, pos := s, outermost := first }], weight := 1, seen := seen }


theorem m1_at (text : Array Nat) (first must : Bool) (s : Nat) (seen : Seen) (h : (s == 0 || text.getD (s - 1) 0 == 10) = true) :
    ∃ seen', (M1 text first must s seen).step = { M1 text first must s seen' with pc := 7 } := by
  refine ⟨(seen.add 6).add 44, ?_⟩
  show (if (s == 0 || text.getD (s - 1) 0 == 10) = true then _ else _) = _
  rw [if_pos h]
  rfl
theorem m1_not (text : Array Nat) (first must : Bool) (s : Nat) (seen : Seen) (h : (s == 0 || text.getD (s - 1) 0 == 10) = false) :
    ∃ seen', (M1 text first must s seen).step = { M1 text first must s seen' with answer := some false } := by
  refine ⟨(seen.add 6).add 44, ?_⟩
  show (if (s == 0 || text.getD (s - 1) 0 == 10) = true then _ else _) = _
  rw [if_neg (by rw [h]; exact Bool.false_ne_true)]
  rfl
theorem m1_lit (text : Array Nat) (first must : Bool) (s : Nat) (seen : Seen) (hs : s < text.size) (h : text.getD s 0 = 46) :
    ∃ seen', ({ M1 text first must s seen with pc := 7 } : Sre.M).step = { M1 text first must s seen' with pc := 9, pos := s + 1 } := by
  refine ⟨(seen.add 16), ?_⟩
  show (if s ≥ text.size then _ else _) = _
  rw [if_neg (by omega)]
  show (match (Except.ok (text.getD s 0 == 46, _) : Except String (Bool × Seen)) with | .error why => _ | .ok (false, seen) => _ | .ok (true, seen) => _) = _
  rw [h]
  rfl
theorem m1_nolit (text : Array Nat) (first must : Bool) (s : Nat) (seen : Seen) (h : s < text.size → text.getD s 0 ≠ 46) :
    ∃ seen', ({ M1 text first must s seen with pc := 7 } : Sre.M).step = { M1 text first must s seen' with pc := 7, answer := some false } := by
  refine ⟨(seen.add 16), ?_⟩
  show (if s ≥ text.size then _ else _) = _
  by_cases hs : s ≥ text.size
  · rw [if_pos hs]; rfl
  · rw [if_neg hs]
    show (match (Except.ok (text.getD s 0 == 46, _) : Except String (Bool × Seen)) with | .error why => _ | .ok (false, seen) => _ | .ok (true, seen) => _) = _
    rw [show (text.getD s 0 == 46) = false from beq_false_of_ne (h (by omega))]
    rfl

theorem m1_hit (text : Array Nat) (first : Bool) (s : Nat) (seen : Seen) :
    ∃ seen', ({ M1 text first false s seen with pc := 9, pos := s + 1 } : Sre.M).step = { M1 text first false s seen' with pc := 9, pos := s + 1, handed := s + 1, answer := some true } := by
  refine ⟨(seen.add 1), ?_⟩
  show (if (first && ((false && ((s + 1) != text.size)) || (false && (s + 1) == s))) = true then _ else _) = _
  rw [if_neg (by cases first <;> exact Bool.false_ne_true)]
  rfl
theorem m1_out (text : Array Nat) (first : Bool) (s : Nat) (seen : Seen) :
    ∃ m', M.runFor 2 ({ M1 text first false s seen with pc := 9, pos := s + 1, handed := s + 1, answer := some true } : Sre.M) = m' ∧ m'.start = s ∧ m'.handed = s + 1 ∧ (∃ x, m'.outcome = some x ∧ x = .matched) :=
  ⟨_, rfl, rfl, rfl, _, rfl, rfl⟩
theorem m1_next (text : Array Nat) (first must : Bool) (s pc : Nat) (seen : Seen) (h : s < text.size) :
    ({ M1 text first must s seen with pc := pc, answer := some false } : Sre.M).step = M1 text false false (s + 1) seen := by
  show (if s < text.size then _ else _) = _
  rw [if_pos h]
  rfl
theorem m1_last (text : Array Nat) (first must : Bool) (s pc : Nat) (seen : Seen) (h : ¬ s < text.size) :
    ∃ m', M.runFor 2 ({ M1 text first must s seen with pc := pc, answer := some false } : Sre.M) = m' ∧ (∃ x, m'.outcome = some x ∧ x = .failed) := by
  refine ⟨_, rfl, ?_⟩
  rw [step_cons rfl]
  have e : ({ M1 text first must s seen with pc := pc, answer := some false } : Sre.M).step = ({ M1 text first must s seen with pc := 5, frames := [], weight := 0, answer := none } : Sre.M).say false := by
    show (if s < text.size then _ else _) = _
    rw [if_neg h]
    rfl
  rw [e]
  exact ⟨_, rfl, rfl⟩

def Hit1 (text : Array Nat) (j : Nat) : Prop := (j == 0 || text.getD (j - 1) 0 == 10) = true ∧ j < text.size ∧ text.getD j 0 = 46

def Ends (m : Sre.M) (n : Nat) (P : Sre.M → Prop) : Prop := ∃ k m', (1 ≤ k ∧ k ≤ n) ∧ M.runFor k m = m' ∧ P m'
def Found (a b : Nat) (m : Sre.M) : Prop := m.outcome = some .matched ∧ m.start = a ∧ m.handed = b
def Lost (m : Sre.M) : Prop := m.outcome = some .failed

theorem Ends.step {m m₁ : Sre.M} {n : Nat} {P : Sre.M → Prop} (ho : m.outcome.isSome = false) (hs : m.step = m₁) (h : Ends m₁ n P) : Ends m (n + 1) P := by
  obtain ⟨k, m', hk, hr, hp⟩ := h
  exact ⟨k + 1, m', by omega, by rw [step_cons ho, hs, hr], hp⟩
theorem Ends.le {m : Sre.M} {n n' : Nat} {P : Sre.M → Prop} (h : Ends m n P) (hn : n ≤ n') : Ends m n' P := by
  obtain ⟨k, m', hk, hr, hp⟩ := h
  exact ⟨k, m', by omega, hr, hp⟩

theorem m1_miss (text : Array Nat) (first must : Bool) (s : Nat) (seen : Seen) (h : ¬ Hit1 text s) {n : Nat} {P : Sre.M → Prop}
    (hn : ∀ pc seen', Ends ({ M1 text first must s seen' with pc := pc, answer := some false } : Sre.M) n P) : Ends (M1 text first must s seen) (n + 2) P := by
  cases hb : (s == 0 || text.getD (s - 1) 0 == 10) with
  | false =>
    obtain ⟨seen', e⟩ := m1_not text first must s seen hb
    exact Ends.le (Ends.step rfl e (hn 5 seen')) (by omega)
  | true =>
    obtain ⟨seen', e⟩ := m1_at text first must s seen hb
    obtain ⟨seen'', e'⟩ := m1_nolit text first must s seen' (fun hs hc => h ⟨hb, hs, hc⟩)
    exact Ends.step rfl e (Ends.step rfl e' (hn 7 seen''))

theorem find1 (text : Array Nat) (j : Nat) (hj : Hit1 text j) : ∀ (k s : Nat) (first : Bool) (seen : Seen), s + k = j → (∀ i, s ≤ i → i < j → ¬ Hit1 text i) →
    Ends (M1 text first false s seen) (3 * k + 5) (Found j (j + 1)) := by
  intro k
  induction k with
  | zero =>
    intro s first seen hs _
    obtain rfl : s = j := hs
    obtain ⟨s1, e1⟩ := m1_at text first false s seen hj.1
    obtain ⟨s2, e2⟩ := m1_lit text first false s s1 hj.2.1 hj.2.2
    obtain ⟨s3, e3⟩ := m1_hit text first s s2
    obtain ⟨m', e4, h1, h2, x, h3, h4⟩ := m1_out text first s s3
    refine Ends.step rfl e1 (Ends.step rfl e2 (Ends.step rfl e3 ⟨2, m', by omega, e4, ?_, h1, h2⟩))
    rw [h3, h4]
  | succ k ih =>
    intro s first seen hs hno
    refine Ends.le (m1_miss text first false s seen (hno s (Nat.le_refl _) (by omega)) (n := 3 * k + 6) fun pc seen' => ?_) (by omega)
    have hlt := hj.2.1
    exact Ends.step rfl (m1_next text first false s pc seen' (by omega)) (ih (s + 1) false seen' (by omega) fun i h1 h2 => hno i (by omega) h2)

theorem lost1 (text : Array Nat) : ∀ (k s : Nat) (first : Bool) (seen : Seen), s + k = text.size → (∀ i, s ≤ i → ¬ Hit1 text i) →
    Ends (M1 text first false s seen) (3 * k + 5) Lost := by
  intro k
  induction k with
  | zero =>
    intro s first seen hs hno
    refine Ends.le (m1_miss text first false s seen (hno s (Nat.le_refl _)) (n := 2) fun pc seen' => ?_) (by omega)
    obtain ⟨m', e, x, h1, h2⟩ := m1_last text first false s pc seen' (by omega)
    exact ⟨2, m', by omega, e, by rw [Lost, h1, h2]⟩
  | succ k ih =>
    intro s first seen hs hno
    refine Ends.le (m1_miss text first false s seen (hno s (Nat.le_refl _)) (n := 3 * k + 6) fun pc seen' => ?_) (by omega)
    exact Ends.step rfl (m1_next text first false s pc seen' (by omega)) (ih (s + 1) false seen' (by omega) fun i h1 => hno i (by omega))


theorem for1 (text : Array Nat) (s : Nat) (hs : s < text.size) : ∃ seen, Sre.forSearch code1 text 0 s text.size false = M1 text true false s seen := by
  refine ⟨({} : Seen).add 14, ?_⟩
  show (if (decide (s > text.size) || decide (text.size - s < 1)) = true then _ else _) = _
  rw [if_neg (by simp; omega)]
  rfl
theorem for1_end (text : Array Nat) (s : Nat) (hs : ¬ s < text.size) : Ends (Sre.forSearch code1 text 0 s text.size false) 1 Lost := by
  unfold Sre.forSearch
  show Ends (if (decide (s > text.size) || decide (text.size - s < 1)) = true then _ else _) _ _
  rw [if_pos (by simp; omega)]
  exact ⟨1, _, by omega, rfl, rfl⟩
theorem search1_found (text : Array Nat) (s j : Nat) (hj : Hit1 text j) (h : s ≤ j) (hno : ∀ i, s ≤ i → i < j → ¬ Hit1 text i) :
    Ends (Sre.forSearch code1 text 0 s text.size false) (3 * text.size + 5) (Found j (j + 1)) := by
  have := hj.2.1
  obtain ⟨seen, e⟩ := for1 text s (by omega)
  rw [e]
  exact (find1 text j hj (j - s) s true seen (by omega) hno).le (by omega)
theorem search1_lost (text : Array Nat) (s : Nat) (hno : ∀ i, s ≤ i → ¬ Hit1 text i) :
    Ends (Sre.forSearch code1 text 0 s text.size false) (3 * text.size + 5) Lost := by
  by_cases h : s < text.size
  · obtain ⟨seen, e⟩ := for1 text s h
    rw [e]
    exact (lost1 text (text.size - s) s true seen (by omega) hno).le (by omega)
  · exact (for1_end text s h).le (by omega)

/-! pattern 2 -/
def Nl (c : Nat) : Bool := c == 10 || c == 13
theorem set2 (c : Nat) (seen : Seen) : ∃ seen', inSet code2 c code2.size 5 true seen = .ok (Nl c, seen') := by
  by_cases h1 : c = 10
  · subst h1; exact ⟨_, rfl⟩
  · by_cases h2 : c = 13
    · subst h2; exact ⟨_, rfl⟩
    · refine ⟨((seen.add 16).add 16).add 0, ?_⟩
      show (if (c == 10) = true then _ else _) = _
      rw [if_neg (by simpa using h1)]
      show (if (c == 13) = true then _ else _) = _
      rw [if_neg (by simpa using h2)]
      have e : Nl c = false := by simp [Nl, h1, h2]
      rw [e]
      rfl
theorem adm2_found (m : Sre.M) (hc : m.code = code2) (j : Nat) (hl : j < m.lim) (hj : Nl (m.text.getD j 0) = true) : ∀ (k s fuel : Nat) (seen : Seen), s + k = j → k < fuel → (∀ i, s ≤ i → i < j → Nl (m.text.getD i 0) = false) →
    ∃ seen', M.admitted m fuel s seen = .ok (some j, seen') := by
  intro k
  induction k with
  | zero =>
    intro s fuel seen hs hf _
    obtain rfl : s = j := hs
    obtain ⟨f, rfl⟩ : ∃ f, fuel = f + 1 := ⟨fuel - 1, by omega⟩
    obtain ⟨seen', e⟩ := set2 (m.text.getD s 0) seen
    refine ⟨seen', ?_⟩
    unfold M.admitted
    rw [if_neg (by omega), hc, e, hj]
  | succ k ih =>
    intro s fuel seen hs hf hno
    obtain ⟨f, rfl⟩ : ∃ f, fuel = f + 1 := ⟨fuel - 1, by omega⟩
    obtain ⟨seen', e⟩ := set2 (m.text.getD s 0) seen
    obtain ⟨seen'', e'⟩ := ih (s + 1) f seen' (by omega) (by omega) fun i h1 h2 => hno i (by omega) h2
    refine ⟨seen'', ?_⟩
    unfold M.admitted
    rw [if_neg (by omega), hc, e, hno s (Nat.le_refl _) (by omega)]
    exact e'
theorem adm2_lost (m : Sre.M) (hc : m.code = code2) : ∀ (fuel s : Nat) (seen : Seen), (∀ i, s ≤ i → i < m.lim → Nl (m.text.getD i 0) = false) →
    ∃ seen', M.admitted m fuel s seen = .ok (none, seen') := by
  intro fuel
  induction fuel with
  | zero => intro s seen _; exact ⟨seen, rfl⟩
  | succ f ih =>
    intro s seen hno
    unfold M.admitted
    by_cases hs : s ≥ m.lim
    · rw [if_pos hs]; exact ⟨_, rfl⟩
    · rw [if_neg hs, hc]
      obtain ⟨seen', e⟩ := set2 (m.text.getD s 0) seen
      rw [e, hno s (Nat.le_refl _) (by omega)]
      exact ih (s + 1) seen' fun i h1 h2 => hno i (by omega) h2

/-- the machine at the start of an attempt at s (pattern 2) -/
def M2 (text : Array Nat) (s : Nat) (seen : Seen) : Sre.M :=
  { code := code2, text := text, lim := text.size, start := s, lastStart := text.size, mustAdvance := false, pc := 10, pos := s, handed := s, outermost := true, marks := #[],
    frames := [{ wait := .nextStart, pc := 10, pos := s, outermost := true }], weight := 1, seen := seen }

theorem for2_found (text : Array Nat) (s j : Nat) (hs : s ≤ j) (hl : j < text.size) (hj : Nl (text.getD j 0) = true) (hno : ∀ i, s ≤ i → i < j → Nl (text.getD i 0) = false) :
    ∃ seen, Sre.forSearch code2 text 0 s text.size false = M2 text j seen := by
  unfold Sre.forSearch
  show ∃ seen, (if (decide (s > text.size) || decide (text.size - s < 1)) = true then _ else _) = _
  rw [if_neg (by simp; omega)]
  show ∃ seen, M.attemptFrom ({ M2 text s (({} : Seen).add 14) with start := s, frames := [], weight := 0 } : Sre.M) s true = _
  obtain ⟨seen', e⟩ := adm2_found ({ M2 text s (({} : Seen).add 14) with start := s, frames := [], weight := 0 } : Sre.M) rfl j hl hj (j - s) s (text.size + 1 - s) (({} : Seen).add 14) (by omega) (by omega) hno
  refine ⟨seen', ?_⟩
  show (match M.admitted ({ M2 text s (({} : Seen).add 14) with start := s, frames := [], weight := 0 } : Sre.M) (text.size + 1 - s) s (({} : Seen).add 14) with | .ok (some s, seen) => _ | .ok (none, seen) => _ | .error why => _) = _
  rw [e]
  rfl
theorem for2_lost (text : Array Nat) (s : Nat) (hno : ∀ i, s ≤ i → i < text.size → Nl (text.getD i 0) = false) : Ends (Sre.forSearch code2 text 0 s text.size false) 1 Lost := by
  unfold Sre.forSearch
  show Ends (if (decide (s > text.size) || decide (text.size - s < 1)) = true then _ else _) _ _
  by_cases hs : s < text.size
  · rw [if_neg (by simp; omega)]
    show Ends (M.attemptFrom ({ M2 text s (({} : Seen).add 14) with start := s, frames := [], weight := 0 } : Sre.M) s true) _ _
    obtain ⟨seen', e⟩ := adm2_lost ({ M2 text s (({} : Seen).add 14) with start := s, frames := [], weight := 0 } : Sre.M) rfl (text.size + 1 - s) s (({} : Seen).add 14) hno
    show Ends (match M.admitted ({ M2 text s (({} : Seen).add 14) with start := s, frames := [], weight := 0 } : Sre.M) (text.size + 1 - s) s (({} : Seen).add 14) with | .ok (some s, seen) => _ | .ok (none, seen) => _ | .error why => _) _ _
    rw [e]
    exact ⟨1, _, by omega, rfl, rfl⟩
  · rw [if_pos (by simp; omega)]
    exact ⟨1, _, by omega, rfl, rfl⟩


def S2 (text : Array Nat) (s : Nat) (seen : Seen) (pc q hd : Nat) (o : Bool) (fs : List Sre.Frame) (w : Nat) (ans : Option Bool) : Sre.M :=
  { code := code2, text := text, lim := text.size, start := s, lastStart := text.size, mustAdvance := false, pc := pc, pos := q, handed := hd, outermost := o, marks := #[],
    frames := fs, weight := w, seen := seen, answer := ans }
def f0 (s : Nat) : Sre.Frame := { wait := .nextStart, pc := 10, pos := s, outermost := true }
def fb (s b : Nat) : Sre.Frame := { wait := .nextBranch, pc := b, pos := s, outermost := true }
def fl (q : Nat) : Sre.Frame := { wait := .lookNot, pc := 26, pos := q, outermost := true }
section
variable (text : Array Nat) (s : Nat) (seen : Seen) (q hd : Nat) (o : Bool) (fs : List Sre.Frame) (w : Nat)
theorem y12 (hl : q < text.size) (hc : text.getD q 0 = 13) : (S2 text s seen 12 q hd o fs w none).step = S2 text s (seen.add 16) 14 (q + 1) hd o fs w none := by
  show (if q ≥ text.size then _ else _) = _
  rw [if_neg (by omega)]
  show (match (Except.ok (text.getD q 0 == 13, _) : Except String (Bool × Seen)) with | .error why => _ | .ok (false, seen) => _ | .ok (true, seen) => _) = _
  rw [hc]
  rfl
theorem n12 (hc : q < text.size → text.getD q 0 ≠ 13) : (S2 text s seen 12 q hd o fs w none).step = S2 text s (seen.add 16) 12 q hd o fs w (some false) := by
  show (if q ≥ text.size then _ else _) = _
  by_cases hs : q ≥ text.size
  · rw [if_pos hs]; rfl
  · rw [if_neg hs]
    show (match (Except.ok (text.getD q 0 == 13, _) : Except String (Bool × Seen)) with | .error why => _ | .ok (false, seen) => _ | .ok (true, seen) => _) = _
    rw [show (text.getD q 0 == 13) = false from beq_false_of_ne (hc (by omega))]
    rfl
theorem y14 (hl : q < text.size) (hc : text.getD q 0 = 10) : (S2 text s seen 14 q hd o fs w none).step = S2 text s (seen.add 16) 16 (q + 1) hd o fs w none := by
  show (if q ≥ text.size then _ else _) = _
  rw [if_neg (by omega)]
  show (match (Except.ok (text.getD q 0 == 10, _) : Except String (Bool × Seen)) with | .error why => _ | .ok (false, seen) => _ | .ok (true, seen) => _) = _
  rw [hc]
  rfl
theorem n14 (hc : q < text.size → text.getD q 0 ≠ 10) : (S2 text s seen 14 q hd o fs w none).step = S2 text s (seen.add 16) 14 q hd o fs w (some false) := by
  show (if q ≥ text.size then _ else _) = _
  by_cases hs : q ≥ text.size
  · rw [if_pos hs]; rfl
  · rw [if_neg hs]
    show (match (Except.ok (text.getD q 0 == 10, _) : Except String (Bool × Seen)) with | .error why => _ | .ok (false, seen) => _ | .ok (true, seen) => _) = _
    rw [show (text.getD q 0 == 10) = false from beq_false_of_ne (hc (by omega))]
    rfl
theorem y19 (hl : q < text.size) (hc : text.getD q 0 = 10) : (S2 text s seen 19 q hd o fs w none).step = S2 text s (seen.add 16) 21 (q + 1) hd o fs w none := by
  show (if q ≥ text.size then _ else _) = _
  rw [if_neg (by omega)]
  show (match (Except.ok (text.getD q 0 == 10, _) : Except String (Bool × Seen)) with | .error why => _ | .ok (false, seen) => _ | .ok (true, seen) => _) = _
  rw [hc]
  rfl
theorem n19 (hc : q < text.size → text.getD q 0 ≠ 10) : (S2 text s seen 19 q hd o fs w none).step = S2 text s (seen.add 16) 19 q hd o fs w (some false) := by
  show (if q ≥ text.size then _ else _) = _
  by_cases hs : q ≥ text.size
  · rw [if_pos hs]; rfl
  · rw [if_neg hs]
    show (match (Except.ok (text.getD q 0 == 10, _) : Except String (Bool × Seen)) with | .error why => _ | .ok (false, seen) => _ | .ok (true, seen) => _) = _
    rw [show (text.getD q 0 == 10) = false from beq_false_of_ne (hc (by omega))]
    rfl
theorem y24 (hl : q < text.size) (hc : text.getD q 0 = 13) : (S2 text s seen 24 q hd o fs w none).step = S2 text s (seen.add 16) 26 (q + 1) hd o fs w none := by
  show (if q ≥ text.size then _ else _) = _
  rw [if_neg (by omega)]
  show (match (Except.ok (text.getD q 0 == 13, _) : Except String (Bool × Seen)) with | .error why => _ | .ok (false, seen) => _ | .ok (true, seen) => _) = _
  rw [hc]
  rfl
theorem n24 (hc : q < text.size → text.getD q 0 ≠ 13) : (S2 text s seen 24 q hd o fs w none).step = S2 text s (seen.add 16) 24 q hd o fs w (some false) := by
  show (if q ≥ text.size then _ else _) = _
  by_cases hs : q ≥ text.size
  · rw [if_pos hs]; rfl
  · rw [if_neg hs]
    show (match (Except.ok (text.getD q 0 == 13, _) : Except String (Bool × Seen)) with | .error why => _ | .ok (false, seen) => _ | .ok (true, seen) => _) = _
    rw [show (text.getD q 0 == 13) = false from beq_false_of_ne (hc (by omega))]
    rfl
theorem y29 (hl : q < text.size) (hc : text.getD q 0 = 10) : (S2 text s seen 29 q hd o fs w none).step = S2 text s (seen.add 16) 31 (q + 1) hd o fs w none := by
  show (if q ≥ text.size then _ else _) = _
  rw [if_neg (by omega)]
  show (match (Except.ok (text.getD q 0 == 10, _) : Except String (Bool × Seen)) with | .error why => _ | .ok (false, seen) => _ | .ok (true, seen) => _) = _
  rw [hc]
  rfl
theorem n29 (hc : q < text.size → text.getD q 0 ≠ 10) : (S2 text s seen 29 q hd o fs w none).step = S2 text s (seen.add 16) 29 q hd o fs w (some false) := by
  show (if q ≥ text.size then _ else _) = _
  by_cases hs : q ≥ text.size
  · rw [if_pos hs]; rfl
  · rw [if_neg hs]
    show (match (Except.ok (text.getD q 0 == 10, _) : Except String (Bool × Seen)) with | .error why => _ | .ok (false, seen) => _ | .ok (true, seen) => _) = _
    rw [show (text.getD q 0 == 10) = false from beq_false_of_ne (hc (by omega))]
    rfl

theorem s_branch : (S2 text s seen 10 q hd true fs 1 none).step = S2 text s (seen.add 7) 12 q q true (fb q 11 :: fs) 2 none := rfl
theorem s_next11 (pc : Nat) : (S2 text s seen pc q hd true (fb s 11 :: fs) 2 (some false)).step = S2 text s seen 19 s s true (fb s 18 :: fs) 2 none := rfl
theorem s_next18 (pc : Nat) : (S2 text s seen pc q hd true (fb s 18 :: fs) 2 (some false)).step = S2 text s seen 24 s s true (fb s 23 :: fs) 2 none := rfl
theorem s_jump16 : (S2 text s seen 16 q hd o fs w none).step = S2 text s (seen.add 15) 35 q hd o fs w none := rfl
theorem s_jump21 : (S2 text s seen 21 q hd o fs w none).step = S2 text s (seen.add 15) 35 q hd o fs w none := rfl
theorem s_jump32 : (S2 text s seen 32 q hd o fs w none).step = S2 text s (seen.add 15) 35 q hd o fs w none := rfl
theorem s_look : (S2 text s seen 26 q hd true fs 2 none).step = S2 text s (seen.add 5) 29 q q false (fl q :: fs) 3 none := by
  show (if q < 0 then ({ S2 text s (seen.add 5) 26 q hd true fs 2 none with pc := 32 } : Sre.M) else _) = _
  rw [if_neg (Nat.not_lt_zero _)]
  rfl
theorem s_looked (pc : Nat) : (S2 text s seen pc q hd false (fl q :: fs) 3 (some false)).step = S2 text s seen 32 q hd true fs 2 none := rfl
theorem end2 (b : Nat) : Ends (S2 text s seen 35 q hd true [fb s b, f0 s] 2 none) 4 (Found s q) :=
  ⟨4, _, by omega, rfl, rfl, rfl, rfl⟩
end
theorem find2_lf (text : Array Nat) (s : Nat) (seen : Seen) (hl : s < text.size) (hc : text.getD s 0 = 10) : Ends (M2 text s seen) 20 (Found s (s + 1)) := by
  refine Ends.le (n := 9) (Ends.step (m := S2 text s seen 10 s s true [f0 s] 1 none) rfl (s_branch _ _ _ _ _ _) ?_) (by omega)
  refine Ends.step rfl (n12 _ _ _ _ _ _ _ _ (fun _ => by rw [hc]; decide)) ?_
  refine Ends.step rfl (s_next11 _ _ _ _ _ _ _) ?_
  refine Ends.step rfl (y19 _ _ _ _ _ _ _ _ hl hc) ?_
  refine Ends.step rfl (s_jump21 _ _ _ _ _ _ _ _) ?_
  exact end2 _ _ _ _ _ _
theorem find2_crlf (text : Array Nat) (s : Nat) (seen : Seen) (hl : s + 1 < text.size) (hc : text.getD s 0 = 13) (hd : text.getD (s + 1) 0 = 10) : Ends (M2 text s seen) 20 (Found s (s + 2)) := by
  refine Ends.le (n := 8) (Ends.step (m := S2 text s seen 10 s s true [f0 s] 1 none) rfl (s_branch _ _ _ _ _ _) ?_) (by omega)
  refine Ends.step rfl (y12 _ _ _ _ _ _ _ _ (by omega) hc) ?_
  refine Ends.step rfl (y14 _ _ _ _ _ _ _ _ hl hd) ?_
  refine Ends.step rfl (s_jump16 _ _ _ _ _ _ _ _) ?_
  exact end2 _ _ _ _ _ _
theorem find2_cr (text : Array Nat) (s : Nat) (seen : Seen) (hl : s < text.size) (hc : text.getD s 0 = 13) (hd : s + 1 < text.size → text.getD (s + 1) 0 ≠ 10) : Ends (M2 text s seen) 20 (Found s (s + 1)) := by
  refine Ends.le (n := 15) (Ends.step (m := S2 text s seen 10 s s true [f0 s] 1 none) rfl (s_branch _ _ _ _ _ _) ?_) (by omega)
  refine Ends.step rfl (y12 _ _ _ _ _ _ _ _ hl hc) ?_
  refine Ends.step rfl (n14 _ _ _ _ _ _ _ _ hd) ?_
  refine Ends.step rfl (s_next11 _ _ _ _ _ _ _) ?_
  refine Ends.step rfl (n19 _ _ _ _ _ _ _ _ (fun _ => by rw [hc]; decide)) ?_
  refine Ends.step rfl (s_next18 _ _ _ _ _ _ _) ?_
  refine Ends.step rfl (y24 _ _ _ _ _ _ _ _ hl hc) ?_
  refine Ends.step rfl (s_look _ _ _ _ _ _) ?_
  refine Ends.step rfl (n29 _ _ _ _ _ _ _ _ hd) ?_
  refine Ends.step rfl (s_looked _ _ _ _ _ _ _) ?_
  refine Ends.step rfl (s_jump32 _ _ _ _ _ _ _ _) ?_
  exact end2 _ _ _ _ _ _
end Mine
end
section
open PySem PySem.W PyProof.Rows PySem.Calls PySem.Spec
namespace Mine
open PySem.Builtin PySem.Builtin.Re

theorem slot_sub : Slot "re.Pattern" "sub" "re.Pattern.sub" :=
  .of (owner := "re.Pattern") (n := "sub") (by rw [typeLookup_type, builtinLookup_eq_fast]; kernel_rfl) (by decide +kernel) (by decide +kernel) (by decide +kernel)
    (by first | exact .inl (by decide +kernel) | exact .inr (by decide +kernel)) (by rw [isSubtype_type]; kernel_rfl)
theorem type_sub : typeOf (.builtin "re.Pattern.sub") = pure (.type "method_descriptor") := by show builtinType _ = _; rw [builtinType_eq_fast]; kernel_rfl
theorem entry_sub : entryFor table "re.Pattern.sub" = some Builtin.«re.Pattern.sub» := entryFor_of_tree (by kernel_rfl)
theorem entry_loop : entryFor table "re.Pattern.sub.loop" = some Builtin.«re.Pattern.sub.loop» := entryFor_of_tree (by kernel_rfl)
theorem pat_getattribute : typeLookup (.type "re.Pattern") "__getattribute__" = pure (some (.builtin "object.__getattribute__")) := by rw [typeLookup_type, builtinLookup_eq_fast]; kernel_rfl
theorem pat_getattr : typeLookup (.type "re.Pattern") "__getattr__" = pure none := by rw [typeLookup_type, builtinLookup_eq_fast]; kernel_rfl
theorem str_nocall : typeLookup (.type "str") "__call__" = pure none := by rw [typeLookup_type, builtinLookup_eq_fast]; kernel_rfl
theorem canon_obj : (Manifest.canonical "object.__getattribute__" != "object.__getattribute__") = false := by decide +kernel
theorem plain_loop : plainId "re.Pattern.sub.loop" = true := by decide +kernel

section
variable {M : Model} {A : Around} {E : Value → Shared → Prop} {s : Shared}
theorem method_sub {p : Addr} {fs : Array Value} {pl : Sem Bool} {Q : Value × List Value → Shared → Prop} (ho : s.heap.get? p = some { cls := .type "re.Pattern", data := .fields fs })
    (h : Q (.builtin "re.Pattern.sub", [.ref p]) s) : wpAny M A (getMethod (.ref p) "sub" pl) Q E s := by
  have hT : s.TypeIs (.ref p) "re.Pattern" := ⟨_, ho, rfl⟩
  unfold getMethod
  refine wpAny_bind (wpAny_specialOf hT pat_getattribute ?_)
  show wpAny M A (if (Manifest.canonical "object.__getattribute__" != "object.__getattribute__") = true then _ else _) Q E s
  rw [canon_obj, if_neg Bool.false_ne_true]
  refine wpAny_bind (wpAny_specialOf hT pat_getattr ?_)
  refine wpAny_bind (wpAny_specialOf hT slot_sub.lookup ?_)
  refine wpAny_bind (wpAny_of_eq type_sub ?_)
  refine wpAny_bind (wpAny_loadPart ho ?_)
  exact wpAny_bind (wpAny_rule (wpAny_pure h))
end
theorem args_sub (a b c : Value) : argsOk "re.Pattern.sub" ⟨[a, b, c], []⟩ := by
  unfold argsOk
  kernel_rfl
end Mine
end
section
open PySem PySem.W PyProof.Rows PySem.Calls PySem.Spec
namespace Mine
open PySem.Builtin PySem.Builtin.Re

section
variable {M : Model} {A : Around} {E : Value → Shared → Prop} {s : Shared}

theorem wp_drive {Q : Sre.M → Shared → Prop} : ∀ (turns n : Nat) (m m' : Sre.M), n ≤ 4 * turns → n ≠ 0 → Sre.M.runFor n m = m' → m'.outcome.isSome = true → Q m' s → wpAny M A (reDrive turns m) Q E s
  | 0, n, m, m', hn, h0, _, _, _ => by omega
  | turns + 1, n, m, m', hn, h0, hr, ho, hq => by
    show wpAny M A (if (m.runFor reTurnSteps).outcome.isSome then pure (m.runFor reTurnSteps) else do rule "sre.turn"; reDrive turns (m.runFor reTurnSteps)) Q E s
    by_cases h4 : n ≤ 4
    · have e : m.runFor reTurnSteps = m' := by
        have : reTurnSteps = n + (4 - n) := by show 4 = _; omega
        rw [this, runFor_add, hr, runFor_done ho]
      rw [e, if_pos ho]
      exact wpAny_pure hq
    · have e : Sre.M.runFor (n - 4) (m.runFor reTurnSteps) = m' := by
        rw [← hr, show n = 4 + (n - 4) by omega, runFor_add]
        simp [reTurnSteps]
      by_cases ho' : (m.runFor reTurnSteps).outcome.isSome = true
      · rw [if_pos ho']
        rw [runFor_done ho'] at e
        rw [e]
        exact wpAny_pure hq
      · rw [if_neg ho']
        exact wpAny_bind (wpAny_rule (wp_drive turns (n - 4) _ m' (by omega) (by omega) e ho hq))

theorem wp_forUnit {α : Type} {f : α → Sem (ForInStep PUnit)} {Q : PUnit → Shared → Prop} (hf : ∀ a (P : ForInStep PUnit → Shared → Prop), P (.yield ⟨⟩) s → wpAny M A (f a) P E s) (hq : Q ⟨⟩ s) : ∀ l : List α, wpAny M A (forIn l (⟨⟩ : PUnit) (fun a _ => f a)) Q E s
  | [] => wpAny_pure hq
  | a :: l => by
    rw [List.forIn_cons]
    exact wpAny_bind (hf a _ (wp_forUnit hf hq l))

theorem wp_runToEnd {Q : Option Sre.M → Shared → Prop} {m m' : Sre.M} {n : Nat} (hn : n ≤ 2 ^ 60) (h0 : n ≠ 0) (hr : Sre.M.runFor n m = m') (ho : m'.outcome.isSome = true)
    (hq : match m'.outcome with | some .matched => Q (some m') s | some .failed => Q none s | _ => False) : wpAny M A (reRunToEnd m) Q E s := by
  unfold reRunToEnd
  refine wpAny_bind (wp_drive (2 ^ 64) n m m' (by omega) h0 hr ho ?_)
  refine wpAny_bind (wp_forUnit (fun a P hP => ?_) ?_ _)
  · split
    · exact wpAny_bind (wpAny_rule (wpAny_pure hP))
    · exact wpAny_pure hP
  · split at hq
    · rename_i e; rw [e]; exact wpAny_pure hq
    · rename_i e; rw [e]; exact wpAny_pure hq
    · exact hq.elim

theorem wp_found {Q : Option Sre.M → Shared → Prop} {m : Sre.M} {n a b : Nat} (h : Ends m n (Found a b)) (hn : n ≤ 2 ^ 60) (hq : ∀ m', m'.start = a → m'.handed = b → Q (some m') s) : wpAny M A (reRunToEnd m) Q E s := by
  obtain ⟨k, m', hk, hr, h1, h2, h3⟩ := h
  refine wp_runToEnd (n := k) (by omega) (by omega) hr (by rw [h1]; rfl) ?_
  rw [h1]
  exact hq m' h2 h3
theorem wp_lost {Q : Option Sre.M → Shared → Prop} {m : Sre.M} {n : Nat} (h : Ends m n Lost) (hn : n ≤ 2 ^ 60) (hq : Q none s) : wpAny M A (reRunToEnd m) Q E s := by
  obtain ⟨k, m', hk, hr, h1⟩ := h
  unfold Lost at h1
  refine wp_runToEnd (n := k) (by omega) (by omega) hr (by rw [h1]; rfl) ?_
  rw [h1]
  exact hq

/-- a pattern object with its code -/
def PatAt (h : Heap) (p T : Addr) (code : Array Nat) : Prop :=
  ∃ (fs ws : Array Value) (n : Nat), h.get? p = some { cls := .type "re.Pattern", data := .fields fs } ∧ fs.getD 5 .none = .ref T ∧ reRawNat (fs.getD 2 .none) = 0 ∧ reRawNat (fs.getD 6 .none) = 0 ∧
    h.get? T = some { cls := .type "tuple", data := .seq ws n } ∧ (ws.map reRawOf).map (·.toNat) = code

theorem wp_target {p T : Addr} {code : Array Nat} {x : Str} {t : Tok} {Q : ReTarget → Shared → Prop} (hp : PatAt s.heap p T code)
    (hq : Q { pattern := .ref p, string := .str x t, code := code, text := x.cps, kind := 0, groups := 0, pos := 0, lim := x.cps.size } s) : wpAny M A (reWholeTarget (.ref p) (.str x t)) Q E s := by
  obtain ⟨fs, ws, n, ho, h5, h2, h6, hT, hc⟩ := hp
  unfold reWholeTarget
  refine wpAny_bind (wpAny_bind (wpAny_load ho (wpAny_pure ?_)))
  refine wpAny_bind (m := reTextOf (.str x t)) (wpAny_pure ?_)
  show wpAny M A (if (reRawNat (fs.getD 6 .none) == 0 && (0 : Nat) == 1) = true then _ else _) Q E s
  rw [h6, if_neg (show ¬ ((0 : Nat) == 0 && (0 : Nat) == 1) = true by decide)]
  show wpAny M A (if ((0 : Nat) == 1 && (0 : Nat) == 0) = true then _ else _) Q E s
  rw [if_neg (show ¬ ((0 : Nat) == 1 && (0 : Nat) == 0) = true by decide)]
  refine wpAny_bind (m := reNoCollectionInside (.str x t) 0) (wpAny_pure ?_)
  rw [h5, h2]
  refine wpAny_bind (m := reRawItems (.ref T)) (wpAny_bind (wpAny_bind (wpAny_load hT (wpAny_pure (wpAny_pure ?_)))))
  show wpAny M A (pure _) Q E s
  refine wpAny_pure ?_
  show Q { pattern := .ref p, string := .str x t, code := (ws.map reRawOf).map (·.toNat), text := x.cps, kind := 0, groups := 0, pos := 0, lim := x.cps.size } s
  rw [hc]
  exact hq
end
end Mine
end
section
open PySem PySem.W PyProof.Rows PySem.Calls PySem.Spec
namespace Mine
open PySem.Builtin PySem.Builtin.Re

inductive Subs (code text : Array Nat) (repl : List Nat) : Nat → List Nat → Prop
  | lost (d : Nat) (hd : d ≤ text.size) (h : Ends (Sre.forSearch code text 0 d text.size false) (2 ^ 60) Lost) : Subs code text repl d (text.toList.drop d)
  | found (d a b : Nat) (out : List Nat) (hda : d ≤ a) (hab : a < b) (hb : b ≤ text.size) (h : Ends (Sre.forSearch code text 0 d text.size false) (2 ^ 60) (Found a b)) (r : Subs code text repl b out) :
      Subs code text repl d ((text.toList.extract d a) ++ (repl ++ out))

def flat (l : List (Str × Tok)) : List Nat := l.flatMap fun p => p.1.cps.toList
theorem flat_snoc (l : List (Str × Tok)) (p : Str × Tok) : flat (l ++ [p]) = flat l ++ p.1.cps.toList := by simp [flat]
theorem strValues_snoc (l : List (Str × Tok)) (x : Str) (t : Tok) : (strValues l).toArray.push (.str x t) = (strValues (l ++ [(x, t)])).toArray := by simp [strValues]
theorem glued_nil (l : List (Str × Tok)) (e : Str) (he : e.cps = #[]) : Str.glued e (l.map (·.1)) = ⟨(flat l).toArray⟩ := by
  unfold Str.glued
  have go : ∀ (l : List Str) (acc : Array Nat), l.foldl (fun acc p => acc ++ e.cps ++ p.cps) acc = (acc.toList ++ l.flatMap (fun p => p.cps.toList)).toArray := by
    intro l
    induction l with
    | nil => intro acc; simp
    | cons p l ih => intro acc; rw [List.foldl_cons, ih]; simp [he]
  rw [go]
  cases l with
  | nil => simp [flat, Str.empty]
  | cons p l => simp [flat, List.flatMap_map]

theorem patAt_same {h h' : Heap} {p T D : Addr} {code : Array Nat} (hp : PatAt h p T code) (hs : Heap.SameBut D h h') (h1 : p ≠ D) (h2 : T ≠ D) : PatAt h' p T code := by
  obtain ⟨fs, ws, n, ho, h5, h2', h6, hT, hc⟩ := hp
  exact ⟨fs, ws, n, (hs.2 p h1).trans ho, h5, h2', h6, (hs.2 T h2).trans hT, hc⟩

def ListAt (h : Heap) (D : Addr) (l : List (Str × Tok)) : Prop := ∃ k, h.get? D = some { cls := .type "list", data := .seq (strValues l).toArray k }

section
variable {prog : Program} {w : World} {A : Around} {E : Value → Shared → Prop} {s : Shared}

theorem wp_pushText {D : Addr} {l : List (Str × Tok)} {y : Str} {t : Tok} {Q : Unit → Shared → Prop} (hD : ListAt s.heap D l) (hl : l.length < sizeLine)
    (hq : ∀ h', Heap.SameBut D s.heap h' → ListAt h' D (l ++ [(y, t)]) → Q () { s with heap := h' }) : wpAny (model prog w) A (updateSeq D (·.push (.str y t))) Q E s := by
  obtain ⟨k, ho⟩ := hD
  have hsz : (strValues l).toArray.size = l.length := by simp [strValues]
  refine wpAny_updateSeq ho rfl ?_ (by rw [hsz]; exact Nat.le_of_lt hl) (by rw [Array.size_push, hsz]; omega)
  refine hq _ ⟨Heap.size_after_update _ _ _, fun b hb => Heap.get?_update_other _ _ (Ne.symm hb)⟩ ⟨(if ((strValues l).toArray.push (.str y t)).size == (strValues l).toArray.size then k else k + 1), ?_⟩
  rw [Heap.get?_update_self _ ho rfl, ← strValues_snoc]
  rfl

theorem wp_slice {text : Array Nat} {b e : Nat} {Q : Value → Shared → Prop} (h : text.size ≤ sizeLine) (hq : ∀ t tk, Q (.str ⟨text.extract b e⟩ t) { s with toks := tk }) : wpAny (model prog w) A (reSlice text 0 b e) Q E s := by
  show wpAny _ _ (mkStr ⟨text.extract b e⟩) _ _ _
  exact wpAny_mkStr (hq _ _) (by show (text.extract b e).size ≤ sizeLine; rw [Array.size_extract]; omega)
end
def loopArgs (p : Addr) (x : Str) (t : Tok) (r : Str) (u : Tok) (n d : Nat) (D : Addr) : Args :=
  ⟨[.ref p, .str x t, .str r u, rawInt 0, rawInt 0, rawInt n, rawInt d, rawInt d, .bool false, .ref D, .bool false], []⟩

theorem loop_ok {prog : Program} {w : World} {A : Around} {R : Result → Shared → Prop} {p T D : Addr} {code : Array Nat} {x r : Str} {t u : Tok} (hpD : p ≠ D) (hTD : T ≠ D) (hx : x.cps.size ≤ 2 ^ 22) {d : Nat} {out : List Nat}
    (hs : Subs code x.cps r.cps.toList d out) : ∀ (n : Nat) (l : List (Str × Tok)) (s : Shared), PatAt s.heap p T code → ListAt s.heap D l → l.length ≤ 2 * d → (flat l).length + out.length ≤ 2 ^ 24 → (d = x.cps.size → l = [] → x.cps.size = 0) →
      (∀ h' tk t', Heap.SameBut D s.heap h' → R (.ok (.ret (.str ⟨(flat l ++ out).toArray⟩ t'))) { s with heap := h', toks := tk }) →
      codeAny (model prog w) A (.builtin "re.Pattern.sub.loop" (loopArgs p x t r u n d D)) R s := by
  have hline : (2 : Nat) ^ 24 = sizeLine := by rfl
  have tail : ∀ (l : List (Str × Tok)) (s : Shared) (n : Nat), ListAt s.heap D l → (l = [] → x.cps.size = 0) → (flat l).length ≤ 2 ^ 24 → (∀ tk t', R (.ok (.ret (.str ⟨(flat l).toArray⟩ t'))) { s with toks := tk }) →
      wpAny (model prog w) A.in1 (do
        let joiner ← reSlice x.cps 0 0 0
        let it ← seqItems? (.ref D)
        let text ← if (it.getD #[]).isEmpty = true then pure joiner else call (.builtin "str.join") [joiner, .ref D]
        ret text) (fun fin s' => match fin with | Fin.done f => R (Except.ok f) s' | Fin.again c' => c'.quiet = true ∧ codeAny (model prog w) A c' R s') (fun e s' => R (Except.error e) s') s := by
    intro l s n hD he hf hq
    obtain ⟨k, ho⟩ := hD
    refine wpAny_bind (wp_slice (by rw [← hline]; omega) fun t1 tk1 => ?_)
    refine wpAny_bind (m := seqItems? (.ref D)) (wpAny_bind (wpAny_load ho (wpAny_pure ?_)))
    show wpAny _ _ (if ((strValues l).toArray).isEmpty = true then _ else _) _ _ _
    by_cases hl : l = []
    · subst hl
      rw [if_pos (by rfl)]
      refine wpAny_bind (wpAny_pure (wpAny_pure ?_))
      have e0 : x.cps.extract 0 0 = (flat []).toArray := by simp [flat]
      rw [e0]
      exact hq tk1 t1
    · rw [if_neg (by simpa [strValues] using hl)]
      refine wpAny_bind (m := call (.builtin "str.join") [.str ⟨x.cps.extract 0 0⟩ t1, .ref D]) (SC.join (l := l) (texts := l.map (·.1)) ⟨_, ho, rfl, k, rfl⟩ rfl (joinOk_of ?_) fun t' tk' => ?_)
      · have e : ((l.map (·.1)).map (·.length)).sum = (flat l).length := by
          simp only [flat, List.length_flatMap, List.map_map]
          rfl
        rw [e]
        have e0 : (⟨x.cps.extract 0 0⟩ : Str).length = 0 := by show (x.cps.extract 0 0).size = 0; simp
        rw [e0]
        omega
      · refine wpAny_pure ?_
        have e : Txt.join (⟨x.cps.extract 0 0⟩ : Str) (l.map (·.1)) = ⟨(flat l).toArray⟩ := glued_nil l _ (by simp)
        rw [e]
        exact hq tk' t'
  induction hs with
  | lost d hd h =>
    intro n l s hp hD hl hfit he hq
    refine codeAny_builtin entry_loop ?_
    rw [Around.under_plainId plain_loop]
    refine wpAny_bind (m := reWholeTarget (.ref p) (.str x t)) (wp_target hp ?_)
    show wpAny _ _ (if ((0 : Int) == 0) = true then _ else _) _ _ _
    rw [if_pos (show ((0 : Int) == 0) = true from rfl)]
    refine wpAny_bind (m := reLiteralCannotBeTurned (.str r u)) (wpAny_pure ?_)
    show wpAny _ _ (reNextFound { pattern := .ref p, string := .str x t, code := code, text := x.cps, kind := 0, groups := 0, pos := 0, lim := x.cps.size } d false >>= _) _ _ _
    refine wpAny_bind (m := reNextFound _ _ _) (wp_lost h (Nat.le_refl _) ?_)
    show wpAny _ _ (if d < x.cps.size then _ else _) _ _ _
    have hxl : x.cps.toList.length = x.cps.size := Array.length_toList
    by_cases hlt : d < x.cps.size
    · rw [if_pos hlt]
      refine wpAny_bind (m := reSlice x.cps 0 d x.cps.size) (wp_slice (by rw [← hline]; omega) fun t1 tk1 => ?_)
      refine wpAny_bind (wp_pushText (D := D) (l := l) hD (by rw [← hline]; omega) fun h' hsame hD' => ?_)
      have e : flat (l ++ [(⟨x.cps.extract d x.cps.size⟩, t1)]) = flat l ++ x.cps.toList.drop d := by
        rw [flat_snoc]
        simp only [Array.toList_extract, List.extract_eq_take_drop]
        rw [List.take_of_length_le (by rw [List.length_drop]; omega)]
      refine tail (l ++ [(⟨x.cps.extract d x.cps.size⟩, t1)]) _ n hD' (fun h => by simp at h) ?_ fun tk t' => ?_
      · rw [e, List.length_append]; exact hfit
      · rw [e]; exact hq h' tk t' hsame
    · rw [if_neg hlt]
      have e : x.cps.toList.drop d = [] := by rw [List.drop_eq_nil_iff]; omega
      rw [e, List.append_nil] at hq
      refine tail l s n hD (fun h => he (by omega) h) (by omega) fun tk t' => hq s.heap tk t' (Heap.SameBut.refl _ _)
  | found d a b out hda hab hb h _ ih =>
    intro n l s hp hD hl hfit he hq
    refine codeAny_builtin entry_loop ?_
    rw [Around.under_plainId plain_loop]
    refine wpAny_bind (m := reWholeTarget (.ref p) (.str x t)) (wp_target hp ?_)
    show wpAny _ _ (if ((0 : Int) == 0) = true then _ else _) _ _ _
    rw [if_pos (show ((0 : Int) == 0) = true from rfl)]
    refine wpAny_bind (m := reLiteralCannotBeTurned (.str r u)) (wpAny_pure ?_)
    show wpAny _ _ (reNextFound { pattern := .ref p, string := .str x t, code := code, text := x.cps, kind := 0, groups := 0, pos := 0, lim := x.cps.size } d false >>= _) _ _ _
    refine wpAny_bind (m := reNextFound _ _ _) (wp_found h (Nat.le_refl _) fun m' hm1 hm2 => ?_)
    have go : ∀ (l' : List (Str × Tok)) (s' : Shared), s'.heap.objs.size = s'.heap.objs.size → PatAt s'.heap p T code → ListAt s'.heap D l' → l'.length ≤ 2 * d + 1 → (flat l').length + (r.cps.toList ++ out).length ≤ 2 ^ 24 →
        (∀ h' tk t', Heap.SameBut D s'.heap h' → R (.ok (.ret (.str ⟨(flat l' ++ (r.cps.toList ++ out)).toArray⟩ t'))) { s' with heap := h', toks := tk }) →
        wpAny (model prog w) A.in1 (do
          updateSeq D fun y => y.push (.str r u)
          again (Code.builtin "re.Pattern.sub.loop" ⟨[.ref p, .str x t, .str r u, rawInt 0, rawInt 0, rawInt ((n : Int) + 1), rawInt m'.handed, rawInt m'.handed, .bool (m'.handed == m'.start), .ref D, .bool false], []⟩))
          (fun fin s' => match fin with | Fin.done f => R (Except.ok f) s' | Fin.again c' => c'.quiet = true ∧ codeAny (model prog w) A c' R s') (fun e s' => R (Except.error e) s') s' := by
      intro l' s' _ hp' hD' hl' hfit' hq'
      refine wpAny_bind (wp_pushText (D := D) (l := l') hD' (by rw [← hline]; omega) fun h' hsame hD'' => wpAny_pure ⟨plainId_quiet plain_loop _, ?_⟩)
      rw [hm1, hm2]
      have hne : (b == a) = false := beq_false_of_ne (by omega)
      rw [hne]
      have e : flat (l' ++ [(r, u)]) = flat l' ++ r.cps.toList := flat_snoc _ _
      refine ih (n + 1) (l' ++ [(r, u)]) { s' with heap := h' } (patAt_same hp' hsame hpD hTD) hD'' ?_ ?_ (fun _ h => by simp at h) fun h2 tk t' hs2 => ?_
      · rw [List.length_append]; simp only [List.length_cons, List.length_nil]; omega
      · rw [e]; simp only [List.length_append] at hfit' ⊢; omega
      · rw [e, List.append_assoc]
        exact hq' h2 tk t' (hsame.trans hs2)
    show wpAny _ _ (if d < m'.start then _ else _) _ _ _
    by_cases hlt : d < m'.start
    · rw [if_pos hlt]
      refine wpAny_bind (m := reSlice x.cps 0 d m'.start) (wp_slice (by rw [← hline]; omega) fun t1 tk1 => ?_)
      refine wpAny_bind (wp_pushText (D := D) (l := l) hD (by rw [← hline]; omega) fun h' hsame hD' => ?_)
      have e : flat (l ++ [(⟨x.cps.extract d m'.start⟩, t1)]) = flat l ++ x.cps.toList.extract d a := by
        rw [flat_snoc, hm1]
        simp [Array.toList_extract]
      refine go (l ++ [(⟨x.cps.extract d m'.start⟩, t1)]) _ rfl (patAt_same hp hsame hpD hTD) hD' ?_ ?_ fun h2 tk t' hs2 => ?_
      · rw [List.length_append]; simp only [List.length_cons, List.length_nil]; omega
      · rw [e]; simp only [List.length_append] at hfit ⊢; omega
      · rw [e, List.append_assoc]
        exact hq h2 tk t' (hsame.trans hs2)
    · rw [if_neg hlt]
      have hda' : d = a := by omega
      have e : x.cps.toList.extract d a = [] := by subst hda'; simp
      rw [e, List.nil_append] at hq hfit
      exact go l s rfl hp hD (by omega) hfit hq

theorem frD {h₀ h h' : Heap} {L D : Addr} {m : Str → Option Value} (F : Fr h₀ L h m) (hs : Heap.SameBut D h h') (hL : D ≠ L) (hD : h₀.objs.size ≤ D) : Fr h₀ L h' m := by
  obtain ⟨oL, a1, a2, hgL, a3⟩ := F.ns
  exact ⟨⟨oL, a1, a2, (hs.2 L (Ne.symm hL)).trans hgL, a3⟩, fun b o e => (hs.2 b (Nat.ne_of_lt (Nat.lt_of_lt_of_le (Heap.lt_size e) hD))).trans (F.keep b o e), F.above⟩
theorem newsD {h₀ h h' : Heap} {L D : Addr} {news : List (Addr × Obj)} (N : News h₀ L h news) (hs : Heap.SameBut D h h') (hD : ∀ q ∈ news, q.1 ≠ D) : News h₀ L h' news :=
  fun q hq => ⟨(hs.2 q.1 (hD q hq)).trans (N q hq).1, (N q hq).2⟩

theorem patAt_keep {h h' : Heap} {p T : Addr} {code : Array Nat} (hp : PatAt h p T code) (k : ∀ b o, h.get? b = some o → h'.get? b = some o) : PatAt h' p T code := by
  obtain ⟨fs, ws, n, ho, h5, h2', h6, hT, hc⟩ := hp
  exact ⟨fs, ws, n, k _ _ ho, h5, h2', h6, k _ _ hT, hc⟩
theorem patAt_ne {h : Heap} {p T D : Addr} {code : Array Nat} (hp : PatAt h p T code) (hD : h.get? D = none) : p ≠ D ∧ T ≠ D := by
  obtain ⟨fs, ws, n, ho, h5, h2', h6, hT, hc⟩ := hp
  constructor
  · rintro rfl; rw [hD] at ho; cases ho
  · rintro rfl; rw [hD] at hT; cases hT

theorem call_sub {prog : Program} {w : World} {A : Around} {E : Value → Shared → Prop} {s : Shared} {Q : Value → Shared → Prop} {h₀ : Heap} {L : Addr} {m : Str → Option Value} {news : List (Addr × Obj)} {p T : Addr} {code : Array Nat} {x r : Str} {t u : Tok} {out : List Nat}
    (F : Fr h₀ L s.heap m) (N : News h₀ L s.heap news) (hp₀ : PatAt h₀ p T code) (hr : r.cps.contains 92 = false) (hs : Subs code x.cps r.cps.toList 0 out) (hx : x.cps.size ≤ 2 ^ 22) (ho : out.length ≤ 2 ^ 24)
    (hq : ∀ h' tk t', Fr h₀ L h' m → News h₀ L h' news → Q (.str ⟨out.toArray⟩ t') { s with heap := h', toks := tk }) :
    wpAny (model prog w) A (call (.builtin "re.Pattern.sub") [.ref p, .str r u, .str x t]) Q E s := by
  have hp : PatAt s.heap p T code := patAt_keep hp₀ F.keep
  have hT : s.TypeIs (.ref p) "re.Pattern" := by
    obtain ⟨fs, ws, n, ho, _⟩ := hp
    exact ⟨_, ho, rfl⟩
  refine wpAny_call (codeAny_call_builtin slot_sub.plain entry_sub (slot_sub.check _ _ _ _ _ _ _ _ hT (args_sub _ _ _) ?_))
  refine wpAny_bind (m := reNamed "re.Pattern.sub" "sub" ["repl", "string", "count"] 2 [.str r u, .str x t] []) (wpAny_of_eq (a := [some (.str r u), some (.str x t), none]) (by rfl) ?_)
  refine wpAny_bind (wpAny_pure ?_)
  refine wpAny_bind (m := specialOf (.str r u) "__call__") (wpAny_specialOf (typeIs_str _ _ _) str_nocall ?_)
  show wpAny _ _ (if (!r.cps.contains 92) = true then _ else _) _ _ _
  rw [if_pos (by rw [hr]; rfl)]
  show wpAny _ _ (holding [.str r u] (reWholeTarget (.ref p) (.str x t)) >>= _) _ _ _
  refine wpAny_bind (wpAny_holding (wp_target hp ?_))
  show wpAny _ _ (newList [] >>= _) _ _ _
  refine wpAny_bind (newList_N F N (fun h' F' N' => ?_) (by decide))
  refine wpAny_pure ⟨plainId_quiet plain_loop _, ?_⟩
  have hDn : h₀.get? s.heap.objs.size = none := (N' _ (.head _)).2.2
  have hDL : s.heap.objs.size ≠ L := (N' _ (.head _)).2.1
  obtain ⟨n1, n2⟩ := patAt_ne hp₀ hDn
  obtain ⟨oL, _, _, hgL, _⟩ := F.ns
  have hLs := Heap.lt_size hgL
  have hab := F.above
  refine loop_ok (D := s.heap.objs.size) (l := []) (n := 0) (d := 0) n1 n2 hx hs _ (patAt_keep hp₀ F'.keep) ⟨0, (N' _ (.head _)).1⟩ (by simp) (by simp [flat]; omega) (fun h _ => h.symm) fun h2 tk t' hsame => ?_
  have N1 : News h₀ L h' news := fun q hq => N' q (.tail _ hq)
  have F2 := frD F' hsame hDL (Nat.le_trans hab (Nat.le_of_lt hLs))
  have N2 := newsD N1 hsame (fun q hq => Nat.ne_of_lt (Heap.lt_size (N q hq).1))
  exact hq h2 tk t' F2 N2
end Mine
end
section
open PySem PySem.W PyProof.Rows PySem.Calls PySem.Spec
namespace Mine

/-- each end of a row (a return, a feed, both) as both -/
def crlf : List Nat → List Nat
  | [] => []
  | [c] => if Nl c then [13, 10] else [c]
  | c :: e :: r => if c = 13 ∧ e = 10 then 13 :: 10 :: crlf r else if Nl c then 13 :: 10 :: crlf (e :: r) else c :: crlf (e :: r)
/-- one dot more ahead of each row that begins with one -/
def dotted : Bool → List Nat → List Nat
  | _, [] => []
  | b, c :: r => if b = true ∧ c = 46 then 46 :: 46 :: dotted false r else c :: dotted (c == 10) r
def quoted (l : List Nat) : List Nat := dotted true (crlf l)

theorem crlf_plain {c : Nat} (h : Nl c = false) : ∀ r, crlf (c :: r) = c :: crlf r
  | [] => by simp [crlf, h]
  | e :: r => by
    have : ¬ (c = 13 ∧ e = 10) := by rintro ⟨rfl, _⟩; simp [Nl] at h
    simp [crlf, h, this]
theorem crlf_scan : ∀ L : List Nat, ((∀ c ∈ L, Nl c = false) ∧ crlf L = L) ∨ ∃ u c v, L = u ++ c :: v ∧ (∀ c ∈ u, Nl c = false) ∧ Nl c = true ∧ crlf L = u ++ crlf (c :: v)
  | [] => .inl ⟨by simp, rfl⟩
  | c :: r => by
    cases h : Nl c with
    | true => exact .inr ⟨[], c, r, rfl, by simp, h, rfl⟩
    | false =>
      rcases crlf_scan r with ⟨h1, h2⟩ | ⟨u, e, v, h1, h2, h3, h4⟩
      · refine .inl ⟨?_, by rw [crlf_plain h, h2]⟩
        intro x hx
        rcases List.mem_cons.mp hx with rfl | hx
        · exact h
        · exact h1 x hx
      · refine .inr ⟨c :: u, e, v, by rw [h1]; rfl, ?_, h3, by rw [crlf_plain h, h4]; rfl⟩
        intro x hx
        rcases List.mem_cons.mp hx with rfl | hx
        · exact h
        · exact h2 x hx

theorem getD_list (text : Array Nat) (i : Nat) : text.getD i 0 = text.toList.getD i 0 := by
  cases text with
  | mk l =>
    simp only [Array.getD, List.getD, List.size_toArray]
    split
    · rename_i h; rw [List.getElem?_eq_getElem h]; rfl
    · rename_i h; rw [List.getElem?_eq_none (by omega)]; rfl
theorem getD_mid {l u : List Nat} {c : Nat} {v : List Nat} (h : l = u ++ c :: v) : l.getD u.length 0 = c := by subst h; simp
theorem getD_pre {l p u v : List Nat} (h : l = p ++ (u ++ v)) {i : Nat} (h1 : p.length ≤ i) (h2 : i < p.length + u.length) : l.getD i 0 ∈ u := by
  subst h
  rw [List.getD_eq_getElem?_getD, List.getElem?_append_right h1, List.getElem?_append_left (by omega), List.getElem?_eq_getElem (by omega)]
  simp

theorem extract_mid (text : Array Nat) (p u v : List Nat) (h : text.toList = p ++ (u ++ v)) : text.toList.extract p.length (p ++ u).length = u := by
  rw [h, List.extract_eq_take_drop, List.drop_left]
  rw [List.take_left' (by rw [List.length_append]; omega)]

theorem subs2 (text : Array Nat) (hsz : text.size ≤ 2 ^ 22) : ∀ (n : Nat) (L p : List Nat), L.length ≤ n → text.toList = p ++ L → Subs code2 text [13, 10] p.length (crlf L) := by
  have hsize : text.size = text.toList.length := Array.length_toList.symm
  intro n
  induction n with
  | zero =>
    intro L p hn he
    obtain rfl : L = [] := List.eq_nil_of_length_eq_zero (by omega)
    rw [List.append_nil] at he
    have h := Subs.lost (code := code2) (text := text) (repl := [13, 10]) p.length (by rw [hsize, he]; exact Nat.le_refl _) ((for2_lost text p.length (fun i h1 h2 => by rw [hsize, he] at h2; omega)).le (by omega))
    rw [he, List.drop_length] at h
    exact h
  | succ n ih =>
    intro L p hn he
    rcases crlf_scan L with ⟨h1, h2⟩ | ⟨u, c, v, h1, h2, h3, h4⟩
    · have h := Subs.lost (code := code2) (text := text) (repl := [13, 10]) p.length (by rw [hsize, he, List.length_append]; omega) ((for2_lost text p.length (fun i h3 h4 => by
        rw [getD_list]
        refine h1 _ (getD_pre (p := p) (u := L) (v := []) (by rw [List.append_nil]; exact he) h3 ?_)
        rw [hsize, he, List.length_append] at h4; exact h4)).le (by omega))
      rw [he, List.drop_left] at h
      rw [h2]
      exact h
    · have he' : text.toList = p ++ (u ++ c :: v) := by rw [he, h1]
      have hlen : text.size = p.length + (u.length + (v.length + 1)) := by rw [hsize, he']; simp
      have hc : text.getD (p ++ u).length 0 = c := by rw [getD_list]; exact getD_mid (v := v) (by rw [he']; simp)
      have hpu : (p ++ u).length = p.length + u.length := List.length_append
      obtain ⟨seen, hf⟩ := for2_found text p.length (p ++ u).length (by omega) (by omega) (by rw [hc]; exact h3) (fun i h5 h6 => by
        rw [getD_list]
        exact h2 _ (getD_pre he' h5 (by omega)))
      have hex := extract_mid text p u (c :: v) he'
      rw [h4]
      have go : ∀ (k : Nat) (w : List Nat), text.toList = p ++ u ++ c :: v → (p ++ u).length + k + w.length = text.size → (∃ q, text.toList = q ++ w ∧ q.length = (p ++ u).length + k) → 0 < k → w.length ≤ n → crlf (c :: v) = [13, 10] ++ crlf w →
          Ends (M2 text (p ++ u).length seen) 20 (Found (p ++ u).length ((p ++ u).length + k)) → Subs code2 text [13, 10] p.length (u ++ crlf (c :: v)) := by
        intro k w _ hk hq hk0 hw hcr hE
        obtain ⟨q, hq1, hq2⟩ := hq
        have r := ih w q hw hq1
        rw [hq2] at r
        have h := Subs.found (code := code2) (text := text) (repl := [13, 10]) p.length (p ++ u).length ((p ++ u).length + k) (crlf w) (by omega) (by omega) (by omega) (by rw [hf]; exact hE.le (by omega)) r
        rw [hex] at h
        rw [hcr]
        exact h
      have hLn : u.length + (v.length + 1) ≤ n + 1 := by rw [h1] at hn; simpa using hn
      have hnext : ∀ e r, v = e :: r → text.getD ((p ++ u).length + 1) 0 = e := by
        rintro e r rfl
        rw [getD_list]
        have := getD_mid (l := text.toList) (u := p ++ u ++ [c]) (c := e) (v := r) (by rw [he']; simp)
        rw [← this, List.length_append (as := p ++ u)]
        rfl
      by_cases hc10 : c = 10
      · refine go 1 v (by rw [he']; simp) (by omega) ⟨p ++ u ++ [c], by rw [he']; simp, List.length_append⟩ (by omega) (by omega) ?_ (find2_lf text _ seen (by omega) (by rw [hc, hc10]))
        subst hc10
        cases v <;> rfl
      · have hc13 : c = 13 := by
          unfold Nl at h3
          simp only [Bool.or_eq_true, beq_iff_eq] at h3
          omega
        subst hc13
        cases v with
        | nil =>
          refine go 1 [] (by rw [he']; simp) (by simp; simp at hlen; omega) ⟨p ++ u ++ [13], by rw [he']; simp, List.length_append⟩ (by omega) (by simp) rfl (find2_cr text _ seen (by simp at hlen; omega) hc (fun h => by simp at hlen; omega))
        | cons e r =>
          by_cases he10 : e = 10
          · subst he10
            refine go 2 r (by rw [he']; simp) (by simp at hlen ⊢; omega) ⟨p ++ u ++ [13, 10], by rw [he']; simp, List.length_append⟩ (by omega) (by simp at hLn; omega) (by simp [crlf]) (find2_crlf text _ seen (by simp at hlen ⊢; omega) hc (hnext _ _ rfl))
          · refine go 1 (e :: r) (by rw [he']; simp) (by omega) ⟨p ++ u ++ [13], by rw [he']; simp, List.length_append⟩ (by omega) (by omega) (by simp [crlf, he10, Nl]) (find2_cr text _ seen (by omega) hc (fun _ => by rw [hnext _ _ rfl]; exact he10))

/-- behind d signs: is a row's begin here? -/
def bol (text : Array Nat) (d : Nat) : Bool := d == 0 || text.getD (d - 1) 0 == 10
def atBol (b : Bool) (L : List Nat) : Nat → Bool
  | 0 => b
  | i + 1 => L.getD i 0 == 10
def HitL (b : Bool) (L : List Nat) (i : Nat) : Prop := atBol b L i = true ∧ i < L.length ∧ L.getD i 0 = 46
theorem atBol_cons (b : Bool) (c : Nat) (r : List Nat) : ∀ i, atBol b (c :: r) (i + 1) = atBol (c == 10) r i
  | 0 => rfl
  | i + 1 => rfl
theorem hitL_cons (b : Bool) (c : Nat) (r : List Nat) (i : Nat) : HitL b (c :: r) (i + 1) ↔ HitL (c == 10) r i := by
  unfold HitL
  rw [atBol_cons, List.getD_cons_succ, List.length_cons]
  simp
theorem dot_scan : ∀ (L : List Nat) (b : Bool), ((∀ i, ¬ HitL b L i) ∧ dotted b L = L) ∨ ∃ u v, L = u ++ 46 :: v ∧ HitL b L u.length ∧ (∀ i, i < u.length → ¬ HitL b L i) ∧ dotted b L = u ++ (46 :: 46 :: dotted false v)
  | [], b => .inl ⟨fun i h => by simp [HitL] at h, by cases b <;> rfl⟩
  | c :: r, b => by
    by_cases hb : b = true ∧ c = 46
    · obtain ⟨rfl, rfl⟩ := hb
      exact .inr ⟨[], r, rfl, ⟨rfl, by simp, rfl⟩, fun i h => by simp at h, by simp [dotted]⟩
    · have h0 : ¬ HitL b (c :: r) 0 := fun h => hb ⟨h.1, h.2.2⟩
      have hd : dotted b (c :: r) = c :: dotted (c == 10) r := by simp only [dotted]; rw [if_neg hb]
      rcases dot_scan r (c == 10) with ⟨h1, h2⟩ | ⟨u, v, h1, h2, h3, h4⟩
      · refine .inl ⟨fun i => ?_, by rw [hd, h2]⟩
        cases i with
        | zero => exact h0
        | succ i => rw [hitL_cons]; exact h1 i
      · refine .inr ⟨c :: u, v, by rw [h1]; rfl, by rw [List.length_cons, hitL_cons]; exact h2, fun i hi => ?_, by rw [hd, h4]; rfl⟩
        cases i with
        | zero => exact h0
        | succ i => rw [hitL_cons]; exact h3 i (by simpa using hi)

theorem hit_iff (text : Array Nat) (p L : List Nat) (h : text.toList = p ++ L) (i : Nat) : Hit1 text (p.length + i) ↔ HitL (bol text p.length) L i := by
  have hsize : text.size = text.toList.length := Array.length_toList.symm
  have hat : (p.length + i == 0 || text.getD (p.length + i - 1) 0 == 10) = atBol (bol text p.length) L i := by
    cases i with
    | zero => rfl
    | succ i =>
      show (p.length + (i + 1) == 0 || text.getD (p.length + i) 0 == 10) = (L.getD i 0 == 10)
      rw [getD_list, h, List.getD_eq_getElem?_getD, List.getElem?_append_right (by omega), show p.length + i - p.length = i by omega, ← List.getD_eq_getElem?_getD]
      have : (p.length + (i + 1) == 0) = false := beq_false_of_ne (by omega)
      rw [this, Bool.false_or]
  have hget : text.getD (p.length + i) 0 = L.getD i 0 := by
    rw [getD_list, h, List.getD_eq_getElem?_getD, List.getElem?_append_right (by omega), show p.length + i - p.length = i by omega, ← List.getD_eq_getElem?_getD]
  unfold Hit1 HitL
  rw [hat, hget, hsize, h, List.length_append]
  constructor
  · rintro ⟨a, b, c⟩; exact ⟨a, by omega, c⟩
  · rintro ⟨a, b, c⟩; exact ⟨a, by omega, c⟩

theorem subs1 (text : Array Nat) (hsz : text.size ≤ 2 ^ 22) : ∀ (n : Nat) (L p : List Nat), L.length ≤ n → text.toList = p ++ L → Subs code1 text [46, 46] p.length (dotted (bol text p.length) L) := by
  have hsize : text.size = text.toList.length := Array.length_toList.symm
  intro n
  induction n with
  | zero =>
    intro L p hn he
    obtain rfl : L = [] := List.eq_nil_of_length_eq_zero (by omega)
    have h := Subs.lost (code := code1) (text := text) (repl := [46, 46]) p.length (by rw [hsize, he]; simp) ((search1_lost text p.length (fun i h1 h2 => by
      have := h2.2.1; rw [hsize, he] at this; simp at this; omega)).le (by omega))
    rw [he, List.append_nil, List.drop_length] at h
    have e : dotted (bol text p.length) [] = [] := by cases bol text p.length <;> rfl
    rw [e]
    exact h
  | succ n ih =>
    intro L p hn he
    rcases dot_scan L (bol text p.length) with ⟨h1, h2⟩ | ⟨u, v, h1, h2, h3, h4⟩
    · have h := Subs.lost (code := code1) (text := text) (repl := [46, 46]) p.length (by rw [hsize, he, List.length_append]; omega) ((search1_lost text p.length (fun i h3 h4 => by
        obtain ⟨k, rfl⟩ : ∃ k, i = p.length + k := ⟨i - p.length, by omega⟩
        exact h1 k ((hit_iff text p L he k).mp h4))).le (by omega))
      rw [he, List.drop_left] at h
      rw [h2]
      exact h
    · have he' : text.toList = p ++ (u ++ 46 :: v) := by rw [he, h1]
      have he2 : text.toList = (p ++ u ++ [46]) ++ v := by rw [he']; simp
      have hlen : text.size = p.length + (u.length + (v.length + 1)) := by rw [hsize, he']; simp
      have hpu : (p ++ u).length = p.length + u.length := List.length_append
      have hpu1 : (p ++ u ++ [46]).length = p.length + u.length + 1 := by rw [List.length_append, hpu]; rfl
      have hex := extract_mid text p u (46 :: v) he'
      have hLn : u.length + (v.length + 1) ≤ n + 1 := by rw [h1] at hn; simpa using hn
      have r := ih v (p ++ u ++ [46]) (by omega) he2
      have hb : bol text (p ++ u ++ [46]).length = false := by
        rw [hpu1]
        unfold bol
        have e1 : (p.length + u.length + 1 == 0) = false := beq_false_of_ne (by omega)
        have e2 : text.getD (p.length + u.length + 1 - 1) 0 = 46 := by
          rw [getD_list, show p.length + u.length + 1 - 1 = (p ++ u).length by omega]
          exact getD_mid (v := v) (by rw [he']; simp)
        rw [e1, e2]
        rfl
      rw [hb, hpu1] at r
      have hS := search1_found text p.length (p.length + u.length) ((hit_iff text p L he u.length).mpr h2) (by omega) (fun i h5 h6 => by
        obtain ⟨k, rfl⟩ : ∃ k, i = p.length + k := ⟨i - p.length, by omega⟩
        exact fun hh => h3 k (by omega) ((hit_iff text p L he k).mp hh))
      have h := Subs.found (code := code1) (text := text) (repl := [46, 46]) p.length (p.length + u.length) (p.length + u.length + 1) (dotted false v) (by omega) (by omega) (by omega) (hS.le (by omega)) r
      rw [← hpu, hex] at h
      rw [h4]
      exact h

theorem subs_crlf (x : Array Nat) (hsz : x.size ≤ 2 ^ 22) : Subs code2 x [13, 10] 0 (crlf x.toList) := subs2 x hsz x.toList.length x.toList [] (Nat.le_refl _) rfl
theorem subs_dotted (x : Array Nat) (hsz : x.size ≤ 2 ^ 22) : Subs code1 x [46, 46] 0 (dotted true x.toList) := subs1 x hsz x.toList.length x.toList [] (Nat.le_refl _) rfl
theorem crlf_length : ∀ (n : Nat) (l : List Nat), l.length ≤ n → (crlf l).length ≤ 2 * l.length := by
  intro n
  induction n with
  | zero => intro l h; obtain rfl : l = [] := List.eq_nil_of_length_eq_zero (by omega); simp [crlf]
  | succ n ih =>
    intro l h
    match l with
    | [] => simp [crlf]
    | [c] => simp only [crlf]; split <;> simp
    | c :: e :: r =>
      simp only [List.length_cons] at h
      simp only [crlf]
      have h1 := ih r (by omega)
      have h2 := ih (e :: r) (by simp; omega)
      simp only [List.length_cons] at h2
      split
      · simp only [List.length_cons]; omega
      · split
        · simp only [List.length_cons]; omega
        · simp only [List.length_cons]; omega
theorem dotted_length : ∀ (l : List Nat) (b : Bool), (dotted b l).length ≤ 2 * l.length
  | [], b => by cases b <;> simp [dotted]
  | c :: r, b => by
    have h1 := dotted_length r false
    have h2 := dotted_length r (c == 10)
    simp only [dotted]
    split <;> simp only [List.length_cons] <;> omega
end Mine
end
section
open PySem PySem.W PyProof.Rows PySem.Calls PySem.Spec
namespace Mine
open PySem.Builtin PySem.Builtin.Re

section
variable {prog : Program} {w : World} {A : Around} {E : Value → Shared → Prop} {s : Shared} {K : Frag} {h₀ : Heap} {L : Addr} {m : Str → Option Value} {news : List (Addr × Obj)} {p T : Addr} {fs ws : Array Value} {n : Nat} {x r : Str} {t u : Tok}
theorem method_sub_K {M : Model} {pl : Sem Bool} {Q : Value × List Value → Shared → Prop} (F : Fr h₀ L s.heap m) (X : K.In h₀) (e : K.lookup p = some { cls := .type "re.Pattern", data := .fields fs })
    (h : Q (.builtin "re.Pattern.sub", [.ref p]) s) : wpAny M A (getMethod (.ref p) "sub" pl) Q E s := method_sub (F.keep _ _ (X _ _ e)) h

theorem sub1_K {Q : Value → Shared → Prop} (F : Fr h₀ L s.heap m) (X : K.In h₀) (N : News h₀ L s.heap news) (e : K.lookup p = some { cls := .type "re.Pattern", data := .fields fs }) (h5 : fs.getD 5 .none = .ref T)
    (e' : K.lookup T = some { cls := .type "tuple", data := .seq ws n }) (hc : (ws.map reRawOf).map (·.toNat) = code1) (h2 : reRawNat (fs.getD 2 .none) = 0) (h6 : reRawNat (fs.getD 6 .none) = 0)
    (hr : r.cps = #[46, 46]) (hx : x.cps.size ≤ 2 ^ 22)
    (hq : ∀ h' tk t', Fr h₀ L h' m → News h₀ L h' news → Q (.str ⟨(dotted true x.cps.toList).toArray⟩ t') { s with heap := h', toks := tk }) :
    wpAny (model prog w) A (call (.builtin "re.Pattern.sub") [.ref p, .str r u, .str x t]) Q E s := by
  refine call_sub (T := T) (code := code1) F N ⟨fs, ws, n, X _ _ e, h5, h2, h6, X _ _ e', hc⟩ (by rw [hr]; decide +kernel) (by rw [hr]; exact subs_dotted x.cps hx) hx ?_ hq
  have := dotted_length x.cps.toList true
  have hxl : x.cps.toList.length = x.cps.size := Array.length_toList
  omega
theorem sub2_K {Q : Value → Shared → Prop} (F : Fr h₀ L s.heap m) (X : K.In h₀) (N : News h₀ L s.heap news) (e : K.lookup p = some { cls := .type "re.Pattern", data := .fields fs }) (h5 : fs.getD 5 .none = .ref T)
    (e' : K.lookup T = some { cls := .type "tuple", data := .seq ws n }) (hc : (ws.map reRawOf).map (·.toNat) = code2) (h2 : reRawNat (fs.getD 2 .none) = 0) (h6 : reRawNat (fs.getD 6 .none) = 0)
    (hr : r.cps = #[13, 10]) (hx : x.cps.size ≤ 2 ^ 21)
    (hq : ∀ h' tk t', Fr h₀ L h' m → News h₀ L h' news → (crlf x.cps.toList).toArray.size ≤ 2 ^ 22 → Q (.str ⟨(crlf x.cps.toList).toArray⟩ t') { s with heap := h', toks := tk }) :
    wpAny (model prog w) A (call (.builtin "re.Pattern.sub") [.ref p, .str r u, .str x t]) Q E s := by
  have hl := crlf_length x.cps.toList.length x.cps.toList (Nat.le_refl _)
  have hxl : x.cps.toList.length = x.cps.size := Array.length_toList
  refine call_sub (T := T) (code := code2) F N ⟨fs, ws, n, X _ _ e, h5, h2, h6, X _ _ e', hc⟩ (by rw [hr]; decide +kernel) (by rw [hr]; exact subs_crlf x.cps (by omega)) (by omega) (by omega) fun h' tk t' F' N' => hq h' tk t' F' N' ?_
  rw [List.size_toArray]
  omega
end
end Mine
end
section
open PySem PySem.W PyProof.Rows PySem.Calls PySem.Spec
namespace Mine

theorem runs_toks {M : Model} {Γ : PySem.Ctx} {p : Pos} {t : Sem PySem.Fin} {fs : List PySem.Frame} {s s' : Shared} {e : End} (h : Runs M Γ p t fs s e s') : s.toks ≤ s'.toks := by
  induction h <;> (try simp only [Shared.setGen] at *) <;> (try dsimp only at *) <;> omega
theorem wakes_toks {M : Model} {Γ : PySem.Ctx} {p : Pos} {g : Nat} {r : Resume} {s s' : Shared} {res : GenResult} (h : Wakes M Γ p g r s res s') : s.toks ≤ s'.toks := by
  unfold Wakes at h
  split at h
  · exact h.elim
  · split at h
    · obtain ⟨e₁, s₁, h1, _, _, h2⟩ := h
      have := runs_toks h1
      rw [h2]; simpa [Shared.setGen] using this
    · rw [h.2]; exact Nat.le_refl _
    · rw [h.2]; exact Nat.le_refl _
  · first
    | (obtain ⟨e₁, s₁, h1, _, _, h2⟩ := h
       have := runs_toks h1
       rw [h2]; simpa [Shared.setGen] using this)
    | (rw [h.2]; exact Nat.le_refl _)
  all_goals first
    | (obtain ⟨e₁, s₁, h1, _, _, h2⟩ := h
       have := runs_toks h1
       rw [h2]; simpa [Shared.setGen] using this)
    | (rw [h.2]; exact Nat.le_refl _)
theorem wp_toks {α : Type} {M : Model} {Γ : PySem.Ctx} {E : Value → Pos → Shared → Prop} (n : Nat) : ∀ (t : Sem α) (Q : α → Pos → Shared → Prop) (p : Pos) (s : Shared), n ≤ s.toks → Sem.wp M Γ t (fun a p s' => n ≤ s'.toks → Q a p s') E p s → Sem.wp M Γ t Q E p s := by
  intro t
  induction t with
  | pure a => exact fun Q p s hn h => h hn
  | raise e => exact fun Q p s hn h => h
  | unsupported w => exact fun Q p s hn h => h
  | finish e => exact fun Q p s hn h => h
  | rule t k ih => exact fun Q p s hn h => ih () Q p s hn h
  | «at» t k ih => exact fun Q p s hn h => ih () Q _ s hn h
  | load a b k ih => exact fun Q p s hn h => let ⟨o, h1, h2⟩ := h; ⟨o, h1, ih o Q p s hn h2⟩
  | update a b f k ih => exact fun Q p s hn h => ⟨h.1, ih () Q p _ hn h.2⟩
  | alloc o k ih => exact fun Q p s hn h => ih _ Q p _ hn h
  | loadIfAlive a k ih => exact fun Q p s hn h => ih _ Q p _ hn h
  | point l k ih => exact fun Q p s hn h => ih _ Q p _ hn h
  | register a k ih => exact fun Q p s hn h => h
  | fresh k ih => exact fun Q p s hn h => ih _ Q p _ (Nat.le_succ_of_le hn) h
  | ask k ih => exact fun Q p s hn h => ih _ Q p _ hn h
  | choose a b k ih => exact fun Q p s hn h => ⟨h.1, ih _ Q p _ hn h.2⟩
  | os a b k ih => exact fun Q p s hn h => ih _ Q p _ hn h
  | call c a b l k ih => exact fun Q p s hn h => let ⟨r, s', h1, h2⟩ := h; ⟨r, s', h1, ih r Q p s' (Nat.le_trans hn (runs_toks h1)) h2⟩
  | handled a k ih => exact fun Q p s hn h => ih _ Q p _ hn h
  | newGen a k ih => exact fun Q p s hn h => ih _ Q p _ hn h
  | genState a k ih => exact fun Q p s hn h => let ⟨st, h1, h2⟩ := h; ⟨st, h1, ih _ Q p _ hn h2⟩
  | resume a b l k ih => exact fun Q p s hn h => let ⟨r, s', h1, h2⟩ := h; ⟨r, s', h1, ih r Q p s' (Nat.le_trans hn (wakes_toks h1)) h2⟩
  | yield a b l k ih => exact fun Q p s hn h => h
  | stack k ih => exact fun Q p s hn h => ih _ Q p _ hn h
  | fork a k ih => exact fun Q p s hn h => h
  | thread k ih => exact fun Q p s hn h => ih _ Q p _ hn h
  | «await» a b c d k ih => exact fun Q p s hn h => h

/-- the state has made a token: kept by every step -/
def TkGo (n : Nat) (P : Prop) : Prop := 0 < n → P
section
variable {α : Type} {M : Model} {A : Around} {E : Value → Shared → Prop} {s : Shared}
theorem with_toks {t : Sem α} {Q : α → Shared → Prop} (h0 : 0 < s.toks) (h : wpAny M A t (fun a s' => TkGo s'.toks (Q a s')) E s) : wpAny M A t Q E s :=
  fun Γ p hΓ => wp_toks 1 t _ p s h0 (h Γ p hΓ)
theorem execs_cons_tk {st : Stmt} {rest : List Stmt} {env : Env} {Q : Flow → Shared → Prop} (h0 : 0 < s.toks)
    (h : wpAny M A (exec st env) (fun f s₁ => TkGo s₁.toks (match f with | .next => wpAny M A (execs rest env) Q E s₁ | f => Q f s₁)) E s) : wpAny M A (execs (st :: rest) env) Q E s := by
  rw [execs_cons]
  refine wpAny_bind (with_toks h0 (wpAny_mono h (fun f s₁ h₁ h2 => ?_) fun _ _ e => e))
  have h3 := h₁ h2
  cases f with
  | next => exact h3
  | _ => exact wpAny_pure h3
theorem gen_tk {h : Heap} {g : Array GenState} {d : Drawn} {o : OsState} {n : Nat} {t : Sem α} {Q : α → Shared → Prop} (h0 : 0 < n) (k : ∀ tk, 0 < tk → wpAny M A t Q E ⟨h, g, d, tk, o⟩) : wpAny M A t Q E ⟨h, g, d, n, o⟩ := k n h0
end

/-- what a call of f upon vs, d frames deep at most, hands back, whoever calls -/
def Does (prog : Program) (w : World) (K : Frag) (p : Program) (loose : List Str) (mean : ExcName → Option Value) (mg mb : Str → Option Value) (d : Nat) (f : Addr) (vs : List Value) (Out : Value → Prop) : Prop :=
  ∀ (dp un : Nat) (gd : Option (List Code)) (cn : Str) (cs : Scope) (a : Addr) (ccd : Value) (cl : List (Str × Addr)) (outer : List Env) (A₀ : Around) (base h₀ : Heap) (L : Addr) (m : Str → Option Value) (news : List (Addr × Obj)) (s : Shared) (Q E : Value → Shared → Prop),
    Below A₀ base outer h₀ → Fr h₀ L s.heap m → K.In h₀ → News h₀ L s.heap news → Top p loose mean mg mb h₀ → cs.kind = .function → dp + d < recursionLimit → un + 8 * d < cLine → 0 < s.toks →
    (∀ r h' tk', Fr h₀ L h' m → News h₀ L h' news → 0 < tk' → Out r → Q r { s with heap := h', toks := tk' }) →
    wpAny (model prog w) (ktrTop dp un gd cn cs L a ccd cl outer) (call (.ref f) vs) Q E s

theorem does_use {prog : Program} {w : World} {K : Frag} {p : Program} {loose : List Str} {mean : ExcName → Option Value} {mg mb : Str → Option Value} {d : Nat} {f : Addr} {vs : List Value} {Out : Value → Prop} (C : Does prog w K p loose mean mg mb d f vs Out)
    {dp un : Nat} {gd : Option (List Code)} {cn : Str} {cs : Scope} {a : Addr} {ccd : Value} {cl : List (Str × Addr)} {outer : List Env} {A₀ : Around} {base h₀ : Heap} {L : Addr} {m : Str → Option Value} {news : List (Addr × Obj)} {s : Shared} {Q E : Value → Shared → Prop}
    (B : Below A₀ base outer h₀) (F : Fr h₀ L s.heap m) (X : K.In h₀) (N : News h₀ L s.heap news) (T : Top p loose mean mg mb h₀) (hk : cs.kind = .function) (hd : dp + d < recursionLimit) (hu : un + 8 * d < cLine) (h0 : 0 < s.toks)
    (ret : ∀ r h' tk', Out r → Fr h₀ L h' m → News h₀ L h' news → 0 < tk' → Q r { s with heap := h', toks := tk' }) :
    wpAny (model prog w) (ktrTop dp un gd cn cs L a ccd cl outer) (call (.ref f) vs) Q E s :=
  C dp un gd cn cs a ccd cl outer A₀ base h₀ L m news s Q E B F X N T hk hd hu h0 fun r h' tk' F' N' h' o => ret r _ tk' o F' N' h'

/-- a text of just these signs -/
def tx (l : List Nat) : Str := ⟨l.toArray⟩
def IsText (l : List Nat) (v : Value) : Prop := ∃ t, v = .str (tx l) t

/-- the same of a def that hands back a fresh pair: a text, a truth -/
def DoesT (prog : Program) (w : World) (K : Frag) (p : Program) (loose : List Str) (mean : ExcName → Option Value) (mg mb : Str → Option Value) (d : Nat) (f : Addr) (vs : List Value) (y : Str) (b : Bool) : Prop :=
  ∀ (dp un : Nat) (gd : Option (List Code)) (cn : Str) (cs : Scope) (a : Addr) (ccd : Value) (cl : List (Str × Addr)) (outer : List Env) (A₀ : Around) (base h₀ : Heap) (L : Addr) (m : Str → Option Value) (news : List (Addr × Obj)) (s : Shared) (Q E : Value → Shared → Prop),
    Below A₀ base outer h₀ → Fr h₀ L s.heap m → K.In h₀ → News h₀ L s.heap news → Top p loose mean mg mb h₀ → cs.kind = .function → dp + d < recursionLimit → un + 8 * d < cLine → 0 < s.toks →
    (∀ D h' tk' t c, Fr h₀ L h' m → News h₀ L h' ((D, ({ cls := .type "tuple", data := .seq #[.str y t, .bool b] c } : Obj)) :: news) → 0 < tk' → Q (.ref D) { s with heap := h', toks := tk' }) →
    wpAny (model prog w) (ktrTop dp un gd cn cs L a ccd cl outer) (call (.ref f) vs) Q E s
theorem doesT_use {prog : Program} {w : World} {K : Frag} {p : Program} {loose : List Str} {mean : ExcName → Option Value} {mg mb : Str → Option Value} {d : Nat} {f : Addr} {vs : List Value} {y : Str} {b : Bool} (C : DoesT prog w K p loose mean mg mb d f vs y b)
    {dp un : Nat} {gd : Option (List Code)} {cn : Str} {cs : Scope} {a : Addr} {ccd : Value} {cl : List (Str × Addr)} {outer : List Env} {A₀ : Around} {base h₀ : Heap} {L : Addr} {m : Str → Option Value} {news : List (Addr × Obj)} {s : Shared} {Q E : Value → Shared → Prop}
    (B : Below A₀ base outer h₀) (F : Fr h₀ L s.heap m) (X : K.In h₀) (N : News h₀ L s.heap news) (T : Top p loose mean mg mb h₀) (hk : cs.kind = .function) (hd : dp + d < recursionLimit) (hu : un + 8 * d < cLine) (h0 : 0 < s.toks)
    (ret : ∀ D h' tk' t c, Fr h₀ L h' m → News h₀ L h' ((D, ({ cls := .type "tuple", data := .seq #[.str y t, .bool b] c } : Obj)) :: news) → 0 < tk' → Q (.ref D) { s with heap := h', toks := tk' }) :
    wpAny (model prog w) (ktrTop dp un gd cn cs L a ccd cl outer) (call (.ref f) vs) Q E s :=
  C dp un gd cn cs a ccd cl outer A₀ base h₀ L m news s Q E B F X N T hk hd hu h0 ret
end Mine
end
section
open PySem PySem.W PyProof.Rows PySem.Calls PySem.Spec
namespace Mine
open PySem.Builtin PySem.Builtin.Str

def rep (c : Nat) (z l : List Nat) : List Nat := l.flatMap fun k => if k = c then z else [k]
theorem rep_append (c : Nat) (z a b : List Nat) : rep c z (a ++ b) = rep c z a ++ rep c z b := List.flatMap_append
theorem rep_free (c : Nat) (z : List Nat) : ∀ l : List Nat, c ∉ l → rep c z l = l
  | [], _ => rfl
  | k :: r, h => by
    have h1 : ¬ k = c := fun e => h (e ▸ List.mem_cons_self ..)
    have h2 : c ∉ r := fun m => h (List.mem_cons_of_mem _ m)
    show (if k = c then z else [k]) ++ rep c z r = k :: r
    rw [if_neg h1, rep_free c z r h2]; rfl
theorem rep_join (c : Nat) (z : Str) : ∀ parts : List Str, (∀ p ∈ parts, c ∉ p.cps.toList) → rep c z.cps.toList (Str.join ⟨#[c]⟩ parts).cps.toList = (Str.join z parts).cps.toList
  | [], _ => rfl
  | [p], h => rep_free c _ _ (h p (List.mem_singleton.mpr rfl))
  | p :: q :: r, h => by
    have ih := rep_join c z (q :: r) fun a ha => h a (List.mem_cons_of_mem _ ha)
    show rep c _ (p ++ ⟨#[c]⟩ ++ Str.join ⟨#[c]⟩ (q :: r)).cps.toList = (p ++ z ++ Str.join z (q :: r)).cps.toList
    simp only [Str.cps_append, Array.toList_append]
    rw [rep_append, rep_append, ih, rep_free c _ _ (h p (List.mem_cons_self ..))]
    congr 2
    simp [rep]
theorem replace_rep (x z : Str) (c : Nat) : (Txt.replace x ⟨#[c]⟩ z).cps.toList = rep c z.cps.toList x.cps.toList := by
  rw [StrLaws.replace_one, ← rep_join c z _ (StrLaws.split_free x c), StrLaws.join_split]
theorem one_of {a : Str} (h : a.cps.size = 1) : ∃ c, a = ⟨#[c]⟩ := by
  obtain ⟨⟨l⟩⟩ := a
  match l, h with
  | [c], _ => exact ⟨c, rfl⟩
def code (a : Str) : Nat := a.cps.getD 0 0
theorem eq_code {a : Str} (h : a.cps.size = 1) : a = ⟨#[code a]⟩ := by
  obtain ⟨c, rfl⟩ := one_of h
  rfl
theorem replace_none {x a b : Str} (h : a.cps.size = 1) (hn : (occurrences x a 0 x.length 1).isEmpty = true) : Txt.replace x a b = x := by
  obtain ⟨c, rfl⟩ := one_of h
  have h1 := StrLaws.found_one x c
  rw [hn] at h1
  have h2 : c ∉ x.cps.toList := of_decide_eq_false h1.symm
  have h3 := replace_rep x b c
  rw [rep_free c _ _ h2] at h3
  exact Str.ext' (Array.toList_inj.mp h3)
/-- the length when all the signs that are yet to be written have been written -/
def spec (l : List Nat) : Nat := l.length + 5 * l.countP fun c => c == 60 || c == 62 || c == 34 || c == 13 || c == 10 || c == 9
theorem spec_append (a b : List Nat) : spec (a ++ b) = spec a + spec b := by simp [spec]; omega
theorem spec_le (l : List Nat) : spec l ≤ 6 * l.length := by have := List.countP_le_length (p := fun c => c == 60 || c == 62 || c == 34 || c == 13 || c == 10 || c == 9) (l := l); unfold spec; omega
theorem len_spec (l : List Nat) : l.length ≤ spec l := by unfold spec; omega
theorem spec_rep (c k : Nat) (z : List Nat) (h : spec z ≤ k * spec [c]) (hk : 1 ≤ k) : ∀ l, spec (rep c z l) ≤ k * spec l
  | [] => by simp [rep, spec]
  | d :: r => by
    have ih := spec_rep c k z h hk r
    have e1 : rep c z (d :: r) = (if d = c then z else [d]) ++ rep c z r := rfl
    have e2 : spec (d :: r) = spec [d] + spec r := spec_append [d] r
    rw [e1, e2, spec_append, Nat.mul_add]
    split
    · rename_i hd; subst hd; omega
    · have : spec [d] ≤ k * spec [d] := Nat.le_mul_of_pos_left _ hk
      omega

section
variable {prog : Program} {w : World} {A : Around} {E : Value → Shared → Prop} {s : Shared} {h₀ : Heap} {L : Addr} {m : Str → Option Value} {news : List (Addr × Obj)}
theorem replace_tk {x y z : Str} {t : Tok} {u v : Nat} {Q : Value → Shared → Prop} (h0 : 0 < s.toks) (hu : u ≠ 0) (hv : v ≠ 0) (huv : u ≠ v) (hyz : (y == z) = false) (hx : x.cps.size ≤ 983040) (hz : z.length ≤ 6)
    (hq : ∀ t' k, 0 < k → Q (.str (Txt.replace x y z) t') { s with toks := k }) : wpAny (model prog w) A (call (.builtin "str.replace") [.str x t, .str y u, .str z v]) Q E s := by
  refine with_toks h0 (SC.replace hu hv huv hyz ?_ fun t' k hk => hq t' k hk)
  have e : x.length = x.cps.size := rfl
  have h1 : (x.length + 1) * z.length ≤ (x.length + 1) * 6 := Nat.mul_le_mul_left _ hz
  omega

def EscPost (h₀ : Heap) (L : Addr) (m : Str → Option Value) (news : List (Addr × Obj)) (s : Shared) (nm y : Str) (f : Flow) (s' : Shared) : Prop :=
  f = .next ∧ ∃ h' tk t', s' = { s with heap := h', toks := tk } ∧ 0 < tk ∧ Fr h₀ L h' (fun z => if z = nm then some (.str y t') else m z) ∧ News h₀ L h' news
structure EscMark : Prop where
theorem escPost_yes {nm y : Str} {t' : Tok} {h' : Heap} {tk : Nat} (F : Fr h₀ L h' (fun z => if z = nm then some (.str y t') else m z)) (N : News h₀ L h' news) (h0 : 0 < tk) : EscPost h₀ L m news s nm y .next { s with heap := h', toks := tk } :=
  ⟨rfl, h', tk, t', rfl, h0, F, N⟩
theorem escPost_no {nm x a b : Str} {t : Tok} {h' : Heap} {tk : Nat} (hn : (occurrences x a 0 x.length 1).isEmpty = true) (ha : a.cps.size = 1) (F : Fr h₀ L h' m) (N : News h₀ L h' news) (h0 : 0 < tk) (hm : m nm = some (.str x t)) :
    EscPost h₀ L m news s nm (Txt.replace x a b) .next { s with heap := h', toks := tk } := by
  rw [replace_none ha hn]
  refine ⟨rfl, h', tk, t, rfl, h0, ?_, N⟩
  have e : (fun z => if z = nm then some (.str x t) else m z) = m := by
    funext z
    split
    · rename_i h; rw [h, hm]
    · rfl
  rw [e]
  exact F
theorem esc_if {cn : Str} {cs : Scope} {ad : Addr} {ccd : Value} {nm x a b rp : Str} {t : Tok} {k1 k2 k3 : Nat} {p1 p2 p3 p4 p5 p6 p7 p8 p9 p10 p11 : Pos} {Q : Flow → Shared → Prop} (F : Fr h₀ L s.heap m) (N : News h₀ L s.heap news) (hm : m nm = some (.str x t)) (ha : a.cps.size = 1) (B B' : Nat)
    (hB : spec x.cps.toList ≤ B) (hs : ∃ k, spec b.cps.toList ≤ k * spec [code a] ∧ 1 ≤ k ∧ k * B ≤ B')
    (h1 : EscMark → wpAny (model prog w) A (exec (.If (.Compare (.Constant (.str a) k1 p1) [.In] [.Name nm p2] p3) [.Assign [.Name nm p4] (.Call (.Attribute (.Name nm p5) rp p6) [.Constant (.str a) k2 p7, .Constant (.str b) k3 p8] [] p9) p10] [] p11) (envOf cn cs L ad ccd)) (EscPost h₀ L m news s nm (Txt.replace x a b)) E s)
    (h2 : ∀ h' tk t', 0 < tk → spec (Txt.replace x a b).cps.toList ≤ B' → Fr h₀ L h' (fun z => if z = nm then some (.str (Txt.replace x a b) t') else m z) → News h₀ L h' news → Q .next { s with heap := h', toks := tk }) :
    wpAny (model prog w) A (exec (.If (.Compare (.Constant (.str a) k1 p1) [.In] [.Name nm p2] p3) [.Assign [.Name nm p4] (.Call (.Attribute (.Name nm p5) rp p6) [.Constant (.str a) k2 p7, .Constant (.str b) k3 p8] [] p9) p10] [] p11) (envOf cn cs L ad ccd)) Q E s := by
  refine wpAny_mono (h1 ⟨⟩) (fun f s' hp => ?_) fun _ _ e => e
  obtain ⟨rfl, h', tk, t', rfl, h0, F', N'⟩ := hp
  refine h2 h' tk t' h0 ?_ F' N'
  obtain ⟨k, h3, h4, h5⟩ := hs
  have h6 := spec_rep (code a) k b.cps.toList h3 h4 x.cps.toList
  rw [← replace_rep, ← eq_code ha] at h6
  have h7 : k * spec x.cps.toList ≤ k * B := Nat.mul_le_mul_left _ hB
  omega
theorem size_of_spec {x : Str} {B : Nat} (h : spec x.cps.toList ≤ B) (hB : B ≤ 983040) : x.cps.size ≤ 983040 := by
  have h1 := len_spec x.cps.toList
  have h2 : x.cps.toList.length = x.cps.size := Array.length_toList
  omega
end

def escs (ps : List (Str × Str)) (l : List Nat) : List Nat := ps.foldl (fun l p => rep (code p.1) p.2.cps.toList l) l
theorem replace_rep2 (x a b : Str) (ha : a.cps.size = 1) : (Txt.replace x a b).cps.toList = rep (code a) b.cps.toList x.cps.toList := by
  have h := replace_rep x b (code a)
  rw [← eq_code ha] at h
  exact h
theorem escs_snoc (x y a b : Str) (ps : List (Str × Str)) (ha : a.cps.size = 1) (h : y.cps.toList = escs ps x.cps.toList) : (Txt.replace y a b).cps.toList = escs (ps ++ [(a, b)]) x.cps.toList := by
  rw [replace_rep2 _ _ _ ha, h]
  simp [escs]
theorem isText_of {y : Str} {t : Tok} {l : List Nat} (h : y.cps.toList = l) : IsText l (.str y t) := by
  refine ⟨t, ?_⟩
  subst h
  rfl
end Mine
end
section
open PySem PySem.W PyProof.Rows PySem.Calls PySem.Spec
namespace Mine
open PySem.Builtin PySem.Builtin.Str

theorem idx_from_neg (k n : Nat) (hk : 1 ≤ k) : strSliceIndices (some (-(k : Int))) none 1 n = strSliceIndices (some ((n - k : Nat) : Int)) (some (n : Int)) 1 n := by
  unfold strSliceIndices
  simp only [show (1 : Int) > 0 by decide, if_true]
  rw [if_pos (show -(k : Int) < 0 by omega), if_neg (show ¬ (((n - k : Nat) : Int) < 0) by omega), if_neg (show ¬ ((n : Int) < 0) by omega)]
  have e1 : max 0 (min (-(k : Int) + (n : Int)) (n : Int)) = max 0 (min ((n - k : Nat) : Int) (n : Int)) := by omega
  have e2 : max 0 (min (n : Int) (n : Int)) = (n : Int) := by omega
  rw [e1, e2]
theorem idx_to_neg (k n : Nat) (hk : 1 ≤ k) : strSliceIndices none (some (-(k : Int))) 1 n = strSliceIndices (some ((0 : Nat) : Int)) (some ((n - k : Nat) : Int)) 1 n := by
  unfold strSliceIndices
  simp only [show (1 : Int) > 0 by decide, if_true]
  rw [if_pos (show -(k : Int) < 0 by omega), if_neg (show ¬ (((n - k : Nat) : Int) < 0) by omega), if_neg (show ¬ (((0 : Nat) : Int) < 0) by omega)]
  have e1 : max 0 (min (-(k : Int) + (n : Int)) (n : Int)) = max 0 (min ((n - k : Nat) : Int) (n : Int)) := by omega
  have e2 : max 0 (min ((0 : Nat) : Int) (n : Int)) = 0 := by omega
  rw [e1, e2]
theorem slice_from_neg (x : Str) (k : Nat) (hk : 1 ≤ k) : Txt.slice x (some (-(k : Int))) none = ⟨(x.cps.toList.drop (x.length - k)).toArray⟩ := by
  have e : Txt.slice x (some (-(k : Int))) none = StrLaws.sliceText x (some ((x.length - k : Nat) : Int)) (some (x.length : Int)) := by
    unfold Txt.slice StrLaws.sliceText
    rw [idx_from_neg k _ hk]
  rw [e, StrLaws.sliceText_nat x (by omega) (Nat.le_refl _)]
  rw [List.take_of_length_le]
  rw [List.length_drop]
  exact Nat.le_of_eq (by rw [Array.length_toList]; rfl)
theorem slice_to_neg (x : Str) (k : Nat) (hk : 1 ≤ k) : Txt.slice x none (some (-(k : Int))) = ⟨(x.cps.toList.take (x.length - k)).toArray⟩ := by
  have e : Txt.slice x none (some (-(k : Int))) = StrLaws.sliceText x (some ((0 : Nat) : Int)) (some ((x.length - k : Nat) : Int)) := by
    unfold Txt.slice StrLaws.sliceText
    rw [idx_to_neg k _ hk]
  rw [e, StrLaws.sliceText_nat x (by omega) (by omega)]
  simp
theorem tx_toList (l : List Nat) : (tx l).cps.toList = l := rfl
theorem tx_of {x : Str} {l : List Nat} (h : x.cps.toList = l) : x = tx l := by subst h; rfl
theorem tx_length (l : List Nat) : (tx l).length = l.length := List.size_toArray
theorem tx_append (a b : List Nat) : tx a ++ tx b = tx (a ++ b) := by
  apply Str.ext'
  rw [Str.cps_append]
  simp [tx]
theorem tx_inj {a b : List Nat} : tx a = tx b ↔ a = b := ⟨fun h => by have := congrArg (fun x : Str => x.cps.toList) h; simpa [tx] using this, fun h => by rw [h]⟩
theorem tx_beq (a b : List Nat) : (tx a == tx b) = (a == b) := by
  rw [Bool.eq_iff_iff, beq_iff_eq, beq_iff_eq, tx_inj]
theorem item_tx (p : List Nat) (c : Nat) (r : List Nat) (i : Int) (hi : i = p.length) : Txt.item (tx (p ++ c :: r)) i = tx [c] := by
  subst hi
  unfold Txt.item Txt.charAt
  have h0 : (0 : Int) ≤ (p.length : Int) := by omega
  have hn : (tx (p ++ c :: r)).cps[(p.length : Int).toNat]? = some c := by
    show (p ++ c :: r).toArray[p.length]? = some c
    simp
  rw [StrLaws.at_nonneg h0 hn]
  rfl

section
variable {prog : Program} {w : World} {A : Around} {E : Value → Shared → Prop} {s : Shared} {x y : Str} {t u : Tok}
theorem eq_known {b : Bool} {Q : Value → Shared → Prop} (h : (x == y) = b) (hq : Q (.bool b) s) : wpAny (model prog w) A (compareOp .Eq (.str x t) (.str y u)) Q E s := by
  refine PyProof.Rows.eq_str ?_
  rw [h]
  exact hq
theorem ne_known {b : Bool} {Q : Value → Shared → Prop} (h : (x == y) = !b) (hq : Q (.bool b) s) : wpAny (model prog w) A (compareOp .NotEq (.str x t) (.str y u)) Q E s := by
  refine PySem.P.ne_str ?_
  have e : (x.cps.toList != y.cps.toList) = b := by
    have h1 : (x.cps.toList == y.cps.toList) = (x == y) := by
      rw [Bool.eq_iff_iff, beq_iff_eq, beq_iff_eq]
      exact ⟨fun h => Str.ext' (Array.toList_inj.mp h), fun h => by rw [h]⟩
    rw [bne, h1, h, Bool.not_not]
  rw [e]
  exact hq
end
theorem add_plain {prog : Program} {w : World} {A : Around} {E : Value → Shared → Prop} {s : Shared} {x y : Str} {t u : Tok} {Q : Value → Shared → Prop} (hs : x.length + y.length ≤ 16777216) (h : ∀ t' k, Q (.str (x ++ y) t') { s with toks := k }) :
    wpAny (model prog w) A (binaryOp .Add (.str x t) (.str y u)) Q E s := KXadd.add (Nat.le_refl _) (Nat.le_refl _) hs fun t' k _ => h t' k
theorem add_tk {prog : Program} {w : World} {A : Around} {E : Value → Shared → Prop} {s : Shared} {x y : Str} {t u : Tok} {Q : Value → Shared → Prop} (h0 : 0 < s.toks) (hs : x.length + y.length ≤ 16777216) (h : ∀ t' k, 0 < k → Q (.str (x ++ y) t') { s with toks := k }) :
    wpAny (model prog w) A (binaryOp .Add (.str x t) (.str y u)) Q E s := with_toks h0 (add_plain hs fun t' k hk => h t' k hk)
theorem slice_tk_ns {prog : Program} {w : World} {A : Around} {E : Value → Shared → Prop} {s : Shared} {h₀ : Heap} {L : Addr} {m : Str → Option Value} {news : List (Addr × Obj)} {value slice : Expr} {x : Str} {t : Tok} {j : Int} {uj : Tok} {Q : Value → Shared → Prop} (h0 : 0 < s.toks) (F : Fr h₀ L s.heap m) (N : News h₀ L s.heap news) (hsz : x.length ≤ 16777216)
    (h : ∀ h' t' k, 0 < k → Fr h₀ L h' m → News h₀ L h' news → Q (.str (Txt.slice x none (some j)) t') { s with heap := h', toks := k })
    (hs : subscripted slice false (.str x t) (.ref s.heap.objs.size) = operate [.ref s.heap.objs.size, .str x t] (getItem (.str x t) (.ref s.heap.objs.size)) := by with_unfolding_all rfl)
    (ht : ∀ r, letTemporaryGo value (.str x t) r = pure () := by intro _; with_unfolding_all rfl) :
    wpAny (model prog w) A (subscriptTail value slice (.str x t) (.ref s.heap.objs.size)) Q E { s with heap := s.heap.push { cls := .type "slice", data := .fields #[.none, .int j uj, .none] } } :=
  with_toks h0 (slice_strN_ns F N (fun h' t' k F' N' hk => h h' t' k hk F' N') hs ht (by rw [sizeLine_eq]; exact hsz))
theorem slice_tk_sn {prog : Program} {w : World} {A : Around} {E : Value → Shared → Prop} {s : Shared} {h₀ : Heap} {L : Addr} {m : Str → Option Value} {news : List (Addr × Obj)} {value slice : Expr} {x : Str} {t : Tok} {i : Int} {ui : Tok} {Q : Value → Shared → Prop} (h0 : 0 < s.toks) (F : Fr h₀ L s.heap m) (N : News h₀ L s.heap news) (hsz : x.length ≤ 16777216)
    (h : ∀ h' t' k, 0 < k → Fr h₀ L h' m → News h₀ L h' news → Q (.str (Txt.slice x (some i) none) t') { s with heap := h', toks := k })
    (hs : subscripted slice false (.str x t) (.ref s.heap.objs.size) = operate [.ref s.heap.objs.size, .str x t] (getItem (.str x t) (.ref s.heap.objs.size)) := by with_unfolding_all rfl)
    (ht : ∀ r, letTemporaryGo value (.str x t) r = pure () := by intro _; with_unfolding_all rfl) :
    wpAny (model prog w) A (subscriptTail value slice (.str x t) (.ref s.heap.objs.size)) Q E { s with heap := s.heap.push { cls := .type "slice", data := .fields #[.int i ui, .none, .none] } } :=
  with_toks h0 (slice_strN_sn F N (fun h' t' k F' N' hk => h h' t' k hk F' N') hs ht (by rw [sizeLine_eq]; exact hsz))
theorem slice_tk_ss {prog : Program} {w : World} {A : Around} {E : Value → Shared → Prop} {s : Shared} {h₀ : Heap} {L : Addr} {m : Str → Option Value} {news : List (Addr × Obj)} {value slice : Expr} {x : Str} {t : Tok} {i j : Int} {ui uj : Tok} {Q : Value → Shared → Prop} (h0 : 0 < s.toks) (F : Fr h₀ L s.heap m) (N : News h₀ L s.heap news) (hsz : x.length ≤ 16777216)
    (h : ∀ h' t' k, 0 < k → Fr h₀ L h' m → News h₀ L h' news → Q (.str (Txt.slice x (some i) (some j)) t') { s with heap := h', toks := k })
    (hs : subscripted slice false (.str x t) (.ref s.heap.objs.size) = operate [.ref s.heap.objs.size, .str x t] (getItem (.str x t) (.ref s.heap.objs.size)) := by with_unfolding_all rfl)
    (ht : ∀ r, letTemporaryGo value (.str x t) r = pure () := by intro _; with_unfolding_all rfl) :
    wpAny (model prog w) A (subscriptTail value slice (.str x t) (.ref s.heap.objs.size)) Q E { s with heap := s.heap.push { cls := .type "slice", data := .fields #[.int i ui, .int j uj, .none] } } :=
  with_toks h0 (slice_strN_ss F N (fun h' t' k F' N' hk => h h' t' k hk F' N') hs ht (by rw [sizeLine_eq]; exact hsz))
theorem len_one (x : Str) (i : Int) : (Txt.item x i).length = 1 := rfl
theorem news_tail {h₀ h : Heap} {L : Addr} {q : Addr × Obj} {news : List (Addr × Obj)} (N : News h₀ L h (q :: news)) : News h₀ L h news := fun p hp => N p (.tail _ hp)
/-- the walk stands still here -/
def StopHere (P : Prop) : Prop := P
theorem stop_here {P : Prop} (h : StopHere P) : P := h
end Mine
end
section
open PySem PySem.W PyProof.Rows PySem.Calls PySem.Spec
namespace Mine

/-- what parse257 hands back of a reply, behind its first five signs -/
def parsed : List Nat → List Nat
  | [] => []
  | [c] => if c = 34 then [] else [c]
  | c :: e :: r => if c = 34 then (if e = 34 then 34 :: parsed r else []) else c :: parsed (e :: r)
def ask : List Nat := [50, 53, 55, 32, 34]
theorem parsed_plain {c : Nat} (h : c ≠ 34) : ∀ r, parsed (c :: r) = c :: parsed r
  | [] => by simp [parsed, h]
  | e :: r => by simp [parsed, h]

def PM (i : Int) (ti : Tok) (D : Str) (td : Tok) (uc : Option Value) (m₀ : Str → Option Value) : Str → Option Value :=
  fun z => if z = Str.ofString "i" then some (.int i ti) else if z = Str.ofString "dirname" then some (.str D td) else if z = Str.ofString "c" then uc else m₀ z
def PJ (l : List Nat) (m₀ : Str → Option Value) (news : List (Addr × Obj)) (n : Nat) (m : Str → Option Value) (news' : List (Addr × Obj)) : Prop :=
  ∃ (i : Int) (pre rest : List Nat) (D : Str) (ti td : Tok) (uc : Option Value), l = pre ++ rest ∧ i = 5 + (pre.length : Int) ∧ parsed l = D.cps.toList ++ parsed rest ∧ D.length ≤ pre.length ∧ n = rest.length ∧ news' = news ∧ m = PM i ti D td uc m₀
section
variable {prog : Program} {w : World} {A : Around} {E : Value → Shared → Prop} {Q : Flow → Shared → Prop} {s : Shared} {env : Env} {h₀ : Heap} {L : Addr} {m₀ : Str → Option Value} {news : List (Addr × Obj)}
theorem parse_loop {test : Expr} {body : List Stmt} {pos : Pos} {l : List Nat} {ti td : Tok} {D₀ : Str} (F : Fr h₀ L s.heap m₀) (N : News h₀ L s.heap news) (hi : m₀ (Str.ofString "i") = some (.int 5 ti)) (hd : m₀ (Str.ofString "dirname") = some (.str D₀ td)) (hD : D₀.cps = #[])
    (turn : ∀ (i : Int) (pre rest : List Nat) (D : Str) (ti td : Tok) (uc : Option Value) (h₁ : Heap) (tk₁ : Nat), l = pre ++ rest → i = 5 + (pre.length : Int) → parsed l = D.cps.toList ++ parsed rest → D.length ≤ pre.length → Fr h₀ L h₁ (PM i ti D td uc m₀) → News h₀ L h₁ news →
      wpAny (model prog w) A (isTrue test env (eval test env)) (fun b s₂ => if b = true then wpAny (model prog w) A (execs body env) (WhileStep2 h₀ L s (PJ l m₀ news) Q rest.length) E s₂ else Q .next s₂) E { s with heap := h₁, toks := tk₁ })
    (hE : PassesOwn (model prog w) A env E := by passes_own) :
    wpAny (model prog w) A (exec (.While test body [] pos) env) Q E s := by
  refine While_inv2 (PJ l m₀ news) (n₀ := l.length) F N ⟨5, [], l, D₀, ti, td, m₀ (Str.ofString "c"), rfl, rfl, by rw [hD]; rfl, by show D₀.cps.size ≤ 0; rw [hD]; exact Nat.le_refl _, rfl, rfl, ?_⟩ ?_ hE
  · funext z
    unfold PM
    split
    · rename_i h; rw [h, hi]
    · split
      · rename_i h; rw [h, hd]
      · split
        · rename_i h; rw [h]
        · rfl
  · rintro n m₁ news₁ h₁ tk₁ F₁ N₁ ⟨i, pre, rest, D, ti', td', uc, h1, h2, h3, h4, h5, h6, h7⟩
    subst h6 h7 h5
    exact turn i pre rest D ti' td' uc h₁ tk₁ h1 h2 h3 h4 F₁ N₁
theorem ws_next {l : List Nat} {n tk : Nat} {h' : Heap} {m₂ : Str → Option Value} (i' : Int) (pre' rest' : List Nat) (D' : Str) (ti' td' : Tok) (uc' : Option Value) (F : Fr h₀ L h' m₂) (N : News h₀ L h' news) (hm : m₂ = PM i' ti' D' td' uc' m₀)
    (h1 : l = pre' ++ rest') (h2 : i' = 5 + (pre'.length : Int)) (h3 : parsed l = D'.cps.toList ++ parsed rest') (h4 : D'.length ≤ pre'.length) (h5 : rest'.length < n) :
    WhileStep2 h₀ L s (PJ l m₀ news) Q n .next { s with heap := h', toks := tk } :=
  ⟨h', tk, m₂, news, rest'.length, rfl, F, N, h5, i', pre', rest', D', ti', td', uc', h1, h2, h3, h4, rfl, rfl, hm⟩
end
end Mine
end
section
open PySem PySem.W PyProof.Rows PySem.Calls PySem.Spec
namespace Mine
/-- n times the same signs -/
def rp (n : Nat) (z : List Nat) : List Nat := (List.replicate n z).flatten
theorem rp_succ (n : Nat) (z : List Nat) : rp (n + 1) z = z ++ rp n z := by simp [rp, List.replicate_succ]
theorem rp_zero (z : List Nat) : rp 0 z = [] := rfl
theorem rp_length (n : Nat) (z : List Nat) : (rp n z).length = n * z.length := by
  induction n with
  | zero => simp [rp]
  | succ n ih => rw [rp_succ, List.length_append, ih, Nat.succ_mul]; omega
theorem rp_one (n c : Nat) : rp n [c] = List.replicate n c := by
  induction n with
  | zero => rfl
  | succ n ih => rw [rp_succ, ih]; rfl
theorem rep_rp (c : Nat) (z l : List Nat) (n : Nat) : rep c z (rp n l) = rp n (rep c z l) := by
  induction n with
  | zero => rfl
  | succ n ih => rw [rp_succ, rp_succ, rep_append, ih]
theorem escs_rp (ps : List (Str × Str)) : ∀ (l : List Nat) (n : Nat), escs ps (rp n l) = rp n (escs ps l) := by
  induction ps with
  | nil => intro l n; rfl
  | cons p r ih =>
    intro l n
    show escs r (rep (code p.1) p.2.cps.toList (rp n l)) = rp n (escs r (rep (code p.1) p.2.cps.toList l))
    rw [rep_rp, ih]
def sgn (pick : Int) : Nat := if pick < 4 then 60 else if pick < 8 then 62 else 34
def wr (c : Nat) : List Nat := if c = 60 then [38, 108, 116, 59] else if c = 62 then [38, 103, 116, 59] else [38, 113, 117, 111, 116, 59]
theorem fin_pick {P : Int → Prop} (h : ∀ k : Fin 11, P (k.val : Int)) (pick : Int) (h0 : 0 ≤ pick) (h1 : pick < 11) : P pick := by
  have := h ⟨pick.toNat, by omega⟩
  have e : ((pick.toNat : Nat) : Int) = pick := by omega
  rw [e] at this
  exact this
theorem fit1 : ∀ pick : Int, 0 ≤ pick → pick < 11 → ([0, 4] : List Int).any (fun x => x == pick) = true → escs [("&", "&amp;"), ("<", "&lt;"), (">", "&gt;")] [sgn pick] = wr (sgn pick) := fun p a b => fin_pick (P := fun pick => ([0, 4] : List Int).any (fun x => x == pick) = true → escs [("&", "&amp;"), ("<", "&lt;"), (">", "&gt;")] [sgn pick] = wr (sgn pick)) (by decide +kernel) p a b
theorem fit2 : ∀ pick : Int, 0 ≤ pick → pick < 11 → ([1, 5, 8] : List Int).any (fun x => x == pick) = true → escs [("&", "&amp;"), ("<", "&lt;"), (">", "&gt;"), ("\"", "&quot;"), ("\r", "&#13;"), ("\n", "&#10;"), ("\t", "&#09;")] [sgn pick] = wr (sgn pick) := fun p a b => fin_pick (P := fun pick => ([1, 5, 8] : List Int).any (fun x => x == pick) = true → escs [("&", "&amp;"), ("<", "&lt;"), (">", "&gt;"), ("\"", "&quot;"), ("\r", "&#13;"), ("\n", "&#10;"), ("\t", "&#09;")] [sgn pick] = wr (sgn pick)) (by decide +kernel) p a b
theorem fit3 : ∀ pick : Int, 0 ≤ pick → pick < 11 → ([2, 6] : List Int).any (fun x => x == pick) = true → escs [("&", "&amp;"), ("<", "&lt;"), (">", "&gt;"), ("\r", "&#xD;")] [sgn pick] = wr (sgn pick) := fun p a b => fin_pick (P := fun pick => ([2, 6] : List Int).any (fun x => x == pick) = true → escs [("&", "&amp;"), ("<", "&lt;"), (">", "&gt;"), ("\r", "&#xD;")] [sgn pick] = wr (sgn pick)) (by decide +kernel) p a b
theorem fit4 : ∀ pick : Int, 0 ≤ pick → pick < 11 → ([3, 10] : List Int).any (fun x => x == pick) = true → escs [("&", "&amp;"), ("<", "&lt;"), ("\"", "&quot;"), ("\t", "&#x9;"), ("\n", "&#xA;"), ("\r", "&#xD;")] [sgn pick] = wr (sgn pick) := fun p a b => fin_pick (P := fun pick => ([3, 10] : List Int).any (fun x => x == pick) = true → escs [("&", "&amp;"), ("<", "&lt;"), ("\"", "&quot;"), ("\t", "&#x9;"), ("\n", "&#xA;"), ("\r", "&#xD;")] [sgn pick] = wr (sgn pick)) (by decide +kernel) p a b
theorem fit5 : ∀ pick : Int, 0 ≤ pick → pick < 11 → ([0, 4] : List Int).any (fun x => x == pick) = false → ([1, 5, 8] : List Int).any (fun x => x == pick) = false → ([2, 6] : List Int).any (fun x => x == pick) = false → ([3, 10] : List Int).any (fun x => x == pick) = false → escs [("&", "&amp;"), (">", "&gt;"), ("\"", "&quot;")] [sgn pick] = wr (sgn pick) := fun p a b => fin_pick (P := fun pick => ([0, 4] : List Int).any (fun x => x == pick) = false → ([1, 5, 8] : List Int).any (fun x => x == pick) = false → ([2, 6] : List Int).any (fun x => x == pick) = false → ([3, 10] : List Int).any (fun x => x == pick) = false → escs [("&", "&amp;"), (">", "&gt;"), ("\"", "&quot;")] [sgn pick] = wr (sgn pick)) (by decide +kernel) p a b
theorem isText_rp {ps : List (Str × Str)} {x : Str} {n c : Nat} {z : List Nat} {v : Value} (hx : x.cps.toList = rp n [c]) (h : escs ps [c] = z) (hv : IsText (escs ps x.cps.toList) v) : IsText (rp n z) v := by
  rw [hx, escs_rp, h] at hv
  exact hv
theorem spec_rp (n : Nat) (c : Nat) (hn : n ≤ 16384) : spec (rp n [c]) ≤ 98304 := by
  have h := spec_le (rp n [c])
  rw [rp_length] at h
  simp only [List.length_singleton, Nat.mul_one] at h
  omega

theorem parsed_two (k : Nat) (r : List Nat) : parsed (List.replicate (2 * k) 34 ++ r) = List.replicate k 34 ++ parsed r := by
  induction k with
  | zero => simp
  | succ k ih =>
    rw [show 2 * (k + 1) = 2 * k + 1 + 1 by omega, List.replicate_succ, List.replicate_succ, List.replicate_succ]
    show parsed (34 :: 34 :: (List.replicate (2 * k) 34 ++ r)) = 34 :: (List.replicate k 34 ++ parsed r)
    simp [parsed, ih]
theorem parsed_even (n : Nat) (h : (n % 2 == 0) = true) : parsed (List.replicate n 34 ++ [13, 10, 33]) = List.replicate (n / 2) 34 ++ [13, 10, 33] := by
  have h1 : n % 2 = 0 := by simpa using h
  rw [show List.replicate n 34 = List.replicate (2 * (n / 2)) 34 by congr 1; omega, parsed_two]
  rfl
theorem parsed_odd (n : Nat) (h : (n % 2 == 0) = false) : parsed (List.replicate n 34 ++ [13, 10, 33]) = List.replicate (n / 2) 34 := by
  have h1 : n % 2 = 1 := by have h0 : n % 2 ≠ 0 := (by simpa using h); omega
  rw [show List.replicate n 34 = List.replicate (2 * (n / 2)) 34 ++ [34] by rw [show ([34] : List Nat) = List.replicate 1 34 from rfl, List.replicate_append_replicate]; congr 1; omega, List.append_assoc, parsed_two]
  simp [parsed]
theorem tail3 (k : Nat) : Txt.slice (tx (List.replicate k 34 ++ [13, 10, 33])) (some (-3)) none = tx [13, 10, 33] := by
  have h := slice_from_neg (tx (List.replicate k 34 ++ [13, 10, 33])) 3 (by decide)
  rw [tx_toList, tx_length] at h
  refine Eq.trans (show _ = _ from h) ?_
  show tx _ = _
  congr 1
  rw [List.length_append, List.length_replicate]
  show List.drop (k + 3 - 3) _ = _
  rw [Nat.add_sub_cancel, List.drop_left' List.length_replicate]
theorem init3 (k : Nat) : Txt.slice (tx (List.replicate k 34 ++ [13, 10, 33])) none (some (-3)) = tx (List.replicate k 34) := by
  have h := slice_to_neg (tx (List.replicate k 34 ++ [13, 10, 33])) 3 (by decide)
  rw [tx_toList, tx_length] at h
  refine Eq.trans (show _ = _ from h) ?_
  show tx _ = _
  congr 1
  rw [List.length_append, List.length_replicate]
  show List.take (k + 3 - 3) _ = _
  rw [Nat.add_sub_cancel, List.take_left' List.length_replicate]
theorem tail3_no (k : Nat) : (Txt.slice (tx (List.replicate k 34)) (some (-3)) none == tx [13, 10, 33]) = false := by
  have h := slice_from_neg (tx (List.replicate k 34)) 3 (by decide)
  rw [tx_toList, tx_length] at h
  have h2 : Txt.slice (tx (List.replicate k 34)) (some (-3)) none = tx (List.drop ((List.replicate k 34).length - 3) (List.replicate k 34)) := h
  rw [h2, tx_beq, List.drop_replicate]
  apply beq_false_of_ne
  intro e
  have h3 : (13 : Nat) ∈ List.replicate (k - ((List.replicate k 34).length - 3)) 34 := by rw [e]; simp
  have := List.eq_of_mem_replicate h3
  omega
end Mine
end
section
open PySem PySem.W PyProof.Rows PySem.Calls PySem.Spec
namespace Mine
open PySem.Builtin PySem.Builtin.Str PySem.StrLaws

/-- out is l with z in place of y, from the left on -/
inductive RepTo (y z : List Nat) : List Nat → List Nat → Prop
  | none (l : List Nat) (h : ∀ k, ¬ y <+: l.drop k) : RepTo y z l l
  | hit (u r out : List Nat) (h : ∀ k, k < u.length → ¬ y <+: (u ++ (y ++ r)).drop k) (hr : RepTo y z r out) : RepTo y z (u ++ (y ++ r)) (u ++ (z ++ out))

theorem RepTo.det {y z : List Nat} {l o : List Nat} (h : RepTo y z l o) : ∀ {o' : List Nat}, RepTo y z l o' → o = o' := by
  induction h with
  | none l hn =>
    intro o' h'
    cases h' with
    | none _ _ => rfl
    | hit u r out _ _ =>
      exact absurd ⟨r, by rw [List.drop_left]⟩ (hn u.length)
  | hit u r out hu _ ih =>
    intro o' h'
    generalize hl : u ++ (y ++ r) = l at h'
    cases h' with
    | none _ hn =>
      exfalso
      exact hn u.length ⟨r, by rw [← hl, List.drop_left]⟩
    | hit u' r' out' hu' hr' =>
      have h1 : y <+: (u ++ (y ++ r)).drop u'.length := ⟨r', by rw [hl, List.drop_left]⟩
      have h2 : y <+: (u' ++ (y ++ r')).drop u.length := ⟨r, by rw [← hl, List.drop_left]⟩
      have hlen : u.length = u'.length := by
        rcases Nat.lt_trichotomy u.length u'.length with h | h | h
        · exact absurd h2 (hu' _ h)
        · exact h
        · exact absurd h1 (hu _ h)
      have h3 := List.append_inj hl hlen
      have h4 := List.append_cancel_left h3.2
      subst h4
      rw [h3.1, ih hr']

theorem at_iff (x y : Str) (i : Nat) : At x y x.length i ↔ y.cps.toList <+: x.cps.toList.drop i ∧ i + y.length ≤ x.length := by
  unfold At
  rw [subAt_eq, beq_iff_eq]
  have hy : y.cps.toList.length = y.length := Array.length_toList
  constructor
  · rintro ⟨h1, h2⟩
    refine ⟨?_, h1⟩
    rw [← h2]
    exact List.take_prefix _ _
  · rintro ⟨h1, h2⟩
    refine ⟨h2, ?_⟩
    rw [List.prefix_iff_eq_take] at h1
    rw [hy] at h1
    exact h1.symm

theorem at_of_prefix {x y : Str} {i : Nat} (hy : 1 ≤ y.length) (h : y.cps.toList <+: x.cps.toList.drop i) : At x y x.length i := by
  refine (at_iff x y i).mpr ⟨h, ?_⟩
  have h1 := h.length_le
  rw [List.length_drop] at h1
  have h2 : y.cps.toList.length = y.length := Array.length_toList
  have h3 : x.cps.toList.length = x.length := Array.length_toList
  omega
theorem repTo_parts (x y z : Str) (hy : 1 ≤ y.length) : ∀ (cuts : List Nat) (a f : Nat), ChainG x y x.length a cuts f → (∀ k, f ≤ k → ¬ At x y x.length k) → a ≤ x.length →
    RepTo y.cps.toList z.cps.toList (x.cps.toList.drop a) (Str.join z (partsFrom x y.length a cuts)).cps.toList := by
  have h3 : x.cps.toList.length = x.length := Array.length_toList
  have h2 : y.cps.toList.length = y.length := Array.length_toList
  intro cuts
  induction cuts with
  | nil =>
    intro a f hG hn ha
    have hf : f = a := hG
    subst hf
    have e : (Str.join z (partsFrom x y.length f [])).cps.toList = x.cps.toList.drop f := by
      show (strSub x f x.length).cps.toList = _
      rw [strSub_toList, List.take_of_length_le (by rw [List.length_drop, h3]; exact Nat.le_refl _)]
    rw [e]
    refine RepTo.none _ fun k hk => ?_
    rw [List.drop_drop] at hk
    exact hn (f + k) (by omega) (at_of_prefix hy hk)
  | cons c r ih =>
    intro a f hG hn ha
    obtain ⟨hac, hat, hno, hG'⟩ := hG
    have hat' := (at_iff x y c).mp hat
    obtain ⟨v, hv⟩ := hat'.1
    have hdrop : x.cps.toList.drop (c + y.length) = v := by rw [← List.drop_drop, ← hv, List.drop_left' h2]
    have hsplit : x.cps.toList.drop a = (x.cps.toList.drop a).take (c - a) ++ (y.cps.toList ++ v) := by
      rw [hv]
      have e : x.cps.toList.drop c = (x.cps.toList.drop a).drop (c - a) := by rw [List.drop_drop]; congr 1; omega
      rw [e, List.take_append_drop]
    have hul : ((x.cps.toList.drop a).take (c - a)).length = c - a := by
      rw [List.length_take, List.length_drop, h3]
      have := hat'.2
      omega
    have hne := partsFrom_ne x y.length (c + y.length) r
    obtain ⟨p, q, hpq⟩ := hne
    have e : (Str.join z (partsFrom x y.length a (c :: r))).cps.toList = (x.cps.toList.drop a).take (c - a) ++ (z.cps.toList ++ (Str.join z (partsFrom x y.length (c + y.length) r)).cps.toList) := by
      show (Str.join z (strSub x a c :: partsFrom x y.length (c + y.length) r)).cps.toList = _
      rw [hpq]
      show (strSub x a c ++ z ++ Str.join z (p :: q)).cps.toList = _
      rw [Str.cps_append, Str.cps_append, Array.toList_append, Array.toList_append, strSub_toList, List.append_assoc]
    have ih' := ih (c + y.length) f hG' hn (by exact hat'.2)
    rw [hdrop] at ih'
    rw [e]
    have hh := RepTo.hit ((x.cps.toList.drop a).take (c - a)) v _ (fun k hk hp => by
      rw [← hsplit, List.drop_drop] at hp
      rw [hul] at hk
      exact hno (a + k) (by omega) (by omega) (at_of_prefix hy hp)) ih'
    rw [← hsplit] at hh
    exact hh
theorem replace_repTo (x y z : Str) (hy : 1 ≤ y.length) : RepTo y.cps.toList z.cps.toList x.cps.toList (Txt.replace x y z).cps.toList := by
  obtain ⟨f, hG, hn⟩ := occ_tight x y hy
  have h := repTo_parts x y z hy _ 0 f hG hn (Nat.zero_le _)
  rw [List.drop_zero] at h
  unfold Txt.replace
  split
  · rename_i hc
    have h0 : (y.length == 0) = false := beq_false_of_ne (by omega)
    rw [h0, Bool.false_and, Bool.or_false, List.isEmpty_iff] at hc
    rw [hc] at h
    have e : (Str.join z (partsFrom x y.length 0 [])).cps.toList = x.cps.toList := by
      show (strSub x 0 x.length).cps.toList = _
      rw [sub_whole]
    rw [e] at h
    exact h
  · rw [glued_eq_join, partsBetween_eq]
    exact h
/-- replace, by what it must be -/
theorem replace_is {y z l o : List Nat} (hy : 1 ≤ y.length) (h : RepTo y z l o) : Txt.replace (tx l) (tx y) (tx z) = tx o := by
  have h1 := replace_repTo (tx l) (tx y) (tx z) (by rw [tx_length]; exact hy)
  exact tx_of (h1.det h)
theorem repTo_free {y z l : List Nat} (d : Nat) (hy : d ∈ y) (hl : d ∉ l) : RepTo y z l l :=
  RepTo.none l fun k h => hl (List.mem_of_mem_drop (h.subset hy))
theorem repTo_rp {y z : List Nat} (hy : y ≠ []) : ∀ n, RepTo y z (rp n y) (rp n z)
  | 0 => RepTo.none [] fun k h => by
    rw [List.drop_nil] at h
    exact hy (List.prefix_nil.mp h)
  | n + 1 => by
    rw [rp_succ, rp_succ]
    exact RepTo.hit [] (rp n y) (rp n z) (fun k h => by simp at h) (repTo_rp hy n)
theorem mem_rp {d n : Nat} {z : List Nat} (h : d ∈ rp n z) : d ∈ z := by
  induction n with
  | zero => simp [rp] at h
  | succ n ih =>
    rw [rp_succ] at h
    rcases List.mem_append.mp h with h | h
    · exact h
    · exact ih h
theorem mul_one (c : Nat) (n : Nat) : Txt.mul (tx [c]) (n : Int) = tx (rp n [c]) := by
  unfold Txt.mul
  have go : ∀ (n : Nat) (a : Array Nat), List.foldl (fun x1 x2 => x1 ++ x2) a (List.replicate n (tx [c]).cps) = (a.toList ++ rp n [c]).toArray := by
    intro n
    induction n with
    | zero => intro a; simp [rp]
    | succ n ih =>
      intro a
      rw [List.replicate_succ, List.foldl_cons, ih, rp_succ]
      simp [tx]
  split
  · have : n = 0 := by omega
    subst this
    rfl
  · split
    · rename_i h1 h2
      have h3 : n = 1 := by
        have : ((tx [c]).length == 0) = false := rfl
        rw [this, Bool.or_false, beq_iff_eq] at h2
        omega
      subst h3
      rfl
    · show (⟨List.foldl (fun x1 x2 => x1 ++ x2) #[] (List.replicate (n : Int).toNat (tx [c]).cps)⟩ : Str) = _
      rw [Int.toNat_natCast, go]
      simp [tx]
theorem sign_at : ∀ pick : Int, 0 ≤ pick → pick < 11 → Txt.item (Str.ofString "<<<<>>>>\"\"\"") pick = tx [sgn pick] := fun p a b => fin_pick (P := fun pick => Txt.item (Str.ofString "<<<<>>>>\"\"\"") pick = tx [sgn pick]) (by decide +kernel) p a b
/-- the three ways back from the names to the signs -/
theorem back_to (c n : Nat) (hc : c = 60 ∨ c = 62 ∨ c = 34) :
    Txt.replace (tx (rp n (wr c))) (Str.ofString "&lt;") (Str.ofString "<") = tx (rp n (if c = 60 then [60] else wr c)) ∧
    Txt.replace (tx (rp n (if c = 60 then [60] else wr c))) (Str.ofString "&gt;") (Str.ofString ">") = tx (rp n (if c = 34 then wr c else [c])) ∧
    Txt.replace (tx (rp n (if c = 34 then wr c else [c]))) (Str.ofString "&quot;") (Str.ofString "\"") = tx (rp n [c]) := by
  have e1 : Str.ofString "&lt;" = tx [38, 108, 116, 59] := rfl
  have e2 : Str.ofString "&gt;" = tx [38, 103, 116, 59] := rfl
  have e3 : Str.ofString "&quot;" = tx [38, 113, 117, 111, 116, 59] := rfl
  have f1 : Str.ofString "<" = tx [60] := rfl
  have f2 : Str.ofString ">" = tx [62] := rfl
  have f3 : Str.ofString "\"" = tx [34] := rfl
  rw [e1, e2, e3, f1, f2, f3]
  rcases hc with rfl | rfl | rfl
  · refine ⟨replace_is (by decide) (repTo_rp (by decide) n), replace_is (by decide) (repTo_free 103 (by decide) fun h => ?_), replace_is (by decide) (repTo_free 113 (by decide) fun h => ?_)⟩
    · exact absurd (mem_rp h) (by decide)
    · exact absurd (mem_rp h) (by decide)
  · refine ⟨replace_is (by decide) (repTo_free 108 (by decide) fun h => ?_), replace_is (by decide) (repTo_rp (by decide) n), replace_is (by decide) (repTo_free 113 (by decide) fun h => ?_)⟩
    · exact absurd (mem_rp h) (by decide)
    · exact absurd (mem_rp h) (by decide)
  · refine ⟨replace_is (by decide) (repTo_free 108 (by decide) fun h => ?_), replace_is (by decide) (repTo_free 103 (by decide) fun h => ?_), replace_is (by decide) (repTo_rp (by decide) n)⟩
    · exact absurd (mem_rp h) (by decide)
    · exact absurd (mem_rp h) (by decide)

theorem join_tk {prog : Program} {w : World} {A : Around} {E : Value → Shared → Prop} {s : Shared} {Q : Value → Shared → Prop} {α : Type} {D : Addr} {ys : List Value} {as : List α} {f : α → Str} {x : Str} {t : Tok} (h0 : 0 < s.toks) (hl : s.heap.IsList D ys.toArray) (hc : CarriedAll ys (as.map fun a => PyData.str (f a))) (hf : ∀ a, (f a).length ≤ 1) (hx : x.length ≤ 64) (hb : as.length ≤ 100000)
    (h : ∀ t' k, 0 < k → Q (.str (Txt.join x (as.map f)) t') { s with toks := k }) : wpAny (model prog w) A (call (.builtin "str.join") [.str x t, .ref D]) Q E s := by
  refine with_toks h0 (join_listC hl (by simpa using CarriedAll.strsOf hc) hx ?_ fun t' k hk => h t' k hk)
  have e : ((as.map f).map (·.length)).sum ≤ as.length := by
    clear hc hb h
    induction as with
    | nil => simp
    | cons a r ih => simp only [List.map_cons, List.sum_cons, List.length_cons]; have := hf a; omega
  rw [List.length_map]
  omega
theorem flat_dots : ∀ l : List Str, flat ((l.map fun _ => Str.ofString ".").map fun y => (y, 0)) = List.replicate l.length 46
  | [] => rfl
  | a :: r => by
    have h2 : flat (List.map (fun y => (y, 0)) (List.map (fun _ => Str.ofString ".") (a :: r))) = 46 :: flat (List.map (fun y => (y, 0)) (List.map (fun _ => Str.ofString ".") r)) := rfl
    rw [h2, List.length_cons, List.replicate_succ, flat_dots r]
theorem glued_dots (l : List Str) : Txt.join (Str.ofString "") (l.map fun _ => Str.ofString ".") = tx (List.replicate l.length 46) := by
  have h := glued_nil ((l.map fun _ => Str.ofString ".").map fun y => (y, 0)) (Str.ofString "") (by decide +kernel)
  rw [List.map_map] at h
  have e : (List.map ((fun x => x.fst) ∘ fun y => (y, 0)) (List.map (fun _ => Str.ofString ".") l) : List Str) = List.map (fun _ => Str.ofString ".") l := by simp
  rw [e, flat_dots] at h
  exact h
theorem kept_rp (n : Nat) (z : List Nat) (k : Nat) (h : ((signs (tx z)).filter fun a => a != Str.ofString "&").length = k) : ((signs (tx (rp n z))).filter fun a => a != Str.ofString "&").length = n * k := by
  induction n with
  | zero => simp [rp_zero, signs, tx]
  | succ n ih =>
    have e : signs (tx (rp (n + 1) z)) = signs (tx z) ++ signs (tx (rp n z)) := by rw [rp_succ]; simp [signs, tx]
    rw [e, List.filter_append, List.length_append, h, ih, Nat.succ_mul]
    omega

theorem item_text_at {prog : Program} {w : World} {A : Around} {E : Value → Shared → Prop} {s : Shared} {value slice : PySem.Expr} {l : Addr} {vs : List Value} {k : Int} {u : Tok} {Q : Value → Shared → Prop} {P : Str → Prop}
    (hl : s.heap.IsList l vs.toArray) (h0 : 0 ≤ k) (hhi : k < 2 ^ 63) (hx : ∃ e t, vs[k.toNat]? = some (.str e t) ∧ P e) (h : ∀ e t, P e → Q (.str e t) s)
    (hs : subscripted slice false (.ref l) (.int k u) = operate [.ref l, .int k u] (getItem (.ref l) (.int k u)) := by with_unfolding_all rfl) :
    wpAny (model prog w) A (subscriptTail value slice (.ref l) (.int k u)) Q E s := by
  obtain ⟨e, t, hx, hp⟩ := hx
  exact tail_any hl.typeIs slot_list_getitem.lookup (wpAny_getItem_list hl h0 hhi (by simpa using hx) (h e t hp)) hs
/-- an end of a row -/
def EndOk (e : Str) : Prop := e = tx [13] ∨ e = tx [10] ∨ e = tx [13, 10]
theorem EndOk.len {e : Str} (h : EndOk e) : e.length ≤ 2 := by rcases h with rfl | rfl | rfl <;> decide
theorem end_at (pick : Int) (hp0 : 0 ≤ pick) (t1 t2 t3 : Tok) : ∃ e t, ([.str (Str.ofString "\r") t1, .str (Str.ofString "\n") t2, .str (Str.ofString "\r\n") t3] : List Value)[(Int.fmod pick 3).toNat]? = some (.str e t) ∧ EndOk e := by
  have h1 : Int.fmod pick 3 = pick % 3 := Int.fmod_eq_emod_of_nonneg _ (by decide)
  have h2 : pick % 3 = 0 ∨ pick % 3 = 1 ∨ pick % 3 = 2 := by omega
  rw [h1]
  rcases h2 with h | h | h <;> rw [h]
  · exact ⟨_, _, rfl, .inl rfl⟩
  · exact ⟨_, _, rfl, .inr (.inl rfl)⟩
  · exact ⟨_, _, rfl, .inr (.inr rfl)⟩
theorem fmod3 (pick : Int) (hp0 : 0 ≤ pick) : 0 ≤ Int.fmod pick 3 ∧ Int.fmod pick 3 < 2 ^ 63 := by
  have h1 : Int.fmod pick 3 = pick % 3 := Int.fmod_eq_emod_of_nonneg _ (by decide)
  rw [h1]; constructor <;> omega

/-! what is sent -/
def D46 (n : Nat) : List Nat := List.replicate n 46
theorem D46_succ (n : Nat) : D46 (n + 1) = 46 :: D46 n := List.replicate_succ
theorem crlf_cons {c : Nat} (h : Nl c = false) (r : List Nat) : crlf (c :: r) = c :: crlf r := crlf_plain h r
theorem crlf_dots (n : Nat) (r : List Nat) : crlf (D46 n ++ r) = D46 n ++ crlf r := by
  induction n with
  | zero => rfl
  | succ n ih => rw [D46_succ, List.cons_append, crlf_plain (by rfl), ih]; rfl
theorem dotted_dots_false (n : Nat) (r : List Nat) : dotted false (D46 n ++ r) = D46 n ++ dotted false r := by
  induction n with
  | zero => rfl
  | succ n ih => rw [D46_succ, List.cons_append]; show (if false = true ∧ 46 = 46 then _ else 46 :: dotted (46 == 10) (D46 n ++ r)) = _; simp [ih]
theorem dotted_dots (n : Nat) (r : List Nat) (hn : 1 ≤ n) : dotted true (D46 n ++ r) = D46 (n + 1) ++ dotted false r := by
  obtain ⟨k, rfl⟩ : ∃ k, n = k + 1 := ⟨n - 1, by omega⟩
  rw [D46_succ, List.cons_append]
  show 46 :: 46 :: dotted false (D46 k ++ r) = _
  rw [dotted_dots_false, D46_succ, D46_succ]
  rfl
theorem crlf_end {e : List Nat} (h : e = [13] ∨ e = [10] ∨ e = [13, 10]) {c : Nat} (hc : Nl c = false) (r : List Nat) : crlf (e ++ c :: r) = 13 :: 10 :: c :: crlf r := by
  have hc10 : c ≠ 10 := by rintro rfl; cases hc
  rcases h with rfl | rfl | rfl
  · show crlf (13 :: c :: r) = _
    simp [crlf, hc10, Nl, crlf_plain hc]
  · show crlf (10 :: c :: r) = _
    simp [crlf, Nl, crlf_plain hc]
  · show crlf (13 :: 10 :: c :: r) = _
    simp [crlf, crlf_plain hc]
/-- a page of two rows, sent once -/
theorem sent_once {e : List Nat} (h : e = [13] ∨ e = [10] ∨ e = [13, 10]) (n m : Nat) (hn : 1 ≤ n) (hm : 1 ≤ m) : quoted (D46 n ++ (e ++ (D46 m ++ [33]))) = D46 (n + 1) ++ ([13, 10] ++ (D46 (m + 1) ++ [33])) := by
  obtain ⟨k, rfl⟩ : ∃ k, m = k + 1 := ⟨m - 1, by omega⟩
  unfold quoted
  rw [crlf_dots, show e ++ (D46 (k + 1) ++ [33]) = e ++ 46 :: (D46 k ++ [33]) from rfl, crlf_end h (by rfl), crlf_dots, dotted_dots _ _ hn]
  congr 1
  show 13 :: dotted false (10 :: 46 :: (D46 k ++ crlf [33])) = _
  show 13 :: 10 :: dotted true (46 :: (D46 k ++ crlf [33])) = _
  rw [show 46 :: (D46 k ++ crlf [33]) = D46 (k + 1) ++ [33] from rfl, dotted_dots _ _ (by omega)]
  rfl

theorem page_sent {ds e : Str} {d : Nat} (hds : ds = tx (D46 d)) (hE : EndOk e) (hd : 1 ≤ d) : ∃ pg : Str, ds ++ e ++ Str.ofString ".!" = pg ∧ pg.length ≤ d + 4 ∧ quoted pg.cps.toList = D46 (d + 1) ++ ([13, 10] ++ (D46 2 ++ [33])) := by
  refine ⟨_, rfl, ?_, ?_⟩
  · rw [Str.length_append, Str.length_append, hds, tx_length]
    have h1 := hE.len
    have h2 : (Str.ofString ".!").length = 2 := rfl
    have h3 : (D46 d).length = d := List.length_replicate
    omega
  · have h2 : Str.ofString ".!" = tx (D46 1 ++ [33]) := rfl
    rw [h2, hds]
    rcases hE with rfl | rfl | rfl <;> rw [tx_append, tx_append, tx_toList, List.append_assoc]
    · exact sent_once (.inl rfl) d 1 hd (by decide)
    · exact sent_once (.inr (.inl rfl)) d 1 hd (by decide)
    · exact sent_once (.inr (.inr rfl)) d 1 hd (by decide)

/-- Does, where no token is asked for -/
def Does0 (prog : Program) (w : World) (K : Frag) (p : Program) (loose : List Str) (mean : ExcName → Option Value) (mg mb : Str → Option Value) (d : Nat) (f : Addr) (vs : List Value) (Out : Value → Prop) : Prop :=
  ∀ (dp un : Nat) (gd : Option (List Code)) (cn : Str) (cs : Scope) (a : Addr) (ccd : Value) (cl : List (Str × Addr)) (outer : List Env) (A₀ : Around) (base h₀ : Heap) (L : Addr) (m : Str → Option Value) (news : List (Addr × Obj)) (s : Shared) (Q E : Value → Shared → Prop),
    Below A₀ base outer h₀ → Fr h₀ L s.heap m → K.In h₀ → News h₀ L s.heap news → Top p loose mean mg mb h₀ → cs.kind = .function → dp + d < recursionLimit → un + 8 * d < cLine →
    (∀ r h' tk', Fr h₀ L h' m → News h₀ L h' news → Out r → Q r { s with heap := h', toks := tk' }) →
    wpAny (model prog w) (ktrTop dp un gd cn cs L a ccd cl outer) (call (.ref f) vs) Q E s
theorem does0_use {prog : Program} {w : World} {K : Frag} {p : Program} {loose : List Str} {mean : ExcName → Option Value} {mg mb : Str → Option Value} {d : Nat} {f : Addr} {vs : List Value} {Out : Value → Prop} (C : Does0 prog w K p loose mean mg mb d f vs Out)
    {dp un : Nat} {gd : Option (List Code)} {cn : Str} {cs : Scope} {a : Addr} {ccd : Value} {cl : List (Str × Addr)} {outer : List Env} {A₀ : Around} {base h₀ : Heap} {L : Addr} {m : Str → Option Value} {news : List (Addr × Obj)} {s : Shared} {Q E : Value → Shared → Prop}
    (B : Below A₀ base outer h₀) (F : Fr h₀ L s.heap m) (X : K.In h₀) (N : News h₀ L s.heap news) (T : Top p loose mean mg mb h₀) (hk : cs.kind = .function) (hd : dp + d < recursionLimit) (hu : un + 8 * d < cLine)
    (ret : ∀ r h' tk', Out r → Fr h₀ L h' m → News h₀ L h' news → Q r { s with heap := h', toks := tk' }) :
    wpAny (model prog w) (ktrTop dp un gd cn cs L a ccd cl outer) (call (.ref f) vs) Q E s :=
  C dp un gd cn cs a ccd cl outer A₀ base h₀ L m news s Q E B F X N T hk hd hu fun r h' tk' F' N' o => ret r _ tk' o F' N'

theorem cut_tail (u v : List Nat) (k : Nat) (hk : v.length = k) (h1 : 1 ≤ k) : Txt.slice (tx (u ++ v)) (some (-(k : Int))) none = tx v := by
  rw [slice_from_neg _ k h1, tx_toList, tx_length, List.length_append, hk, Nat.add_sub_cancel, List.drop_left' rfl]
  rfl
theorem cut_init (u v : List Nat) (k : Nat) (hk : v.length = k) (h1 : 1 ≤ k) : Txt.slice (tx (u ++ v)) none (some (-(k : Int))) = tx u := by
  rw [slice_to_neg _ k h1, tx_toList, tx_length, List.length_append, hk, Nat.add_sub_cancel, List.take_left' rfl]
  rfl
theorem dots_to_quotes (n : Nat) : Txt.replace (tx (D46 n)) (Str.ofString ".") (Str.ofString "\"") = tx (List.replicate n 34) := by
  refine tx_of ?_
  rw [replace_rep2 _ _ _ (by decide +kernel), tx_toList]
  have e1 : code (Str.ofString ".") = 46 := by decide +kernel
  have e2 : (Str.ofString "\"").cps.toList = [34] := by decide +kernel
  rw [e1, e2, show D46 n = rp n [46] from (rp_one n 46).symm, rep_rp, ← rp_one n 34]
  rfl
def fac (pick : Int) : Nat := (wr (sgn pick)).length - 1
theorem fac_is (pick : Int) : fac pick = if pick < 8 then 3 else 5 := by
  unfold fac sgn
  by_cases h1 : pick < 4
  · rw [if_pos h1, if_pos (by omega)]; rfl
  · rw [if_neg h1]
    by_cases h2 : pick < 8
    · rw [if_pos h2, if_pos h2]; rfl
    · rw [if_neg h2, if_neg h2]; rfl
end Mine
end
section
open PySem PySem.W PyProof.Rows PySem.Calls PySem.Spec
namespace Mine
def LoopJ (h₀ : Heap) (L : Addr) (s : Shared) (I : Addr) (it : Obj) (news : List (Addr × Obj)) (J : (Str → Option Value) → Prop) (f : Flow) (s₂ : Shared) : Prop :=
  f = .next ∧ ∃ h' tk' m', s₂ = { s with heap := h', toks := tk' } ∧ 0 < tk' ∧ Fr h₀ L h' m' ∧ News h₀ L h' ((I, it) :: news) ∧ J m'
theorem for_rangeJ {prog : Program} {w : World} {A : Around} {E : Value → Shared → Prop} {s : Shared} {env : Env} {Q : Flow → Shared → Prop} {h₀ : Heap} {x : Str} {px : Pos} {body : List Stmt} {r : Addr} {a b : Int} {t u v : Tok} {n : Nat} {m₀ : Str → Option Value} {news : List (Addr × Obj)} (J : Nat → (Str → Option Value) → Prop)
    (hr : IsRange s.heap r a b 1 t u v) (hsmall : Builtin.Range.small a b 1 = true) (hn : Builtin.Range.rangeSize a b 1 = (n : Int)) (F : Fr h₀ env.locals s.heap m₀) (N : News h₀ env.locals s.heap news) (h0 : 0 < s.toks) (hJ0 : J 0 m₀)
    (hh : A.handled = none) (hx : env.kindOf x = some .local) (hp : (env.scope.kind == .class || (env.scope.kind == .module && env.locals != env.globals)) = false)
    (step : ∀ i t h tk m (I : Addr) (it : Obj), i < n → 0 < tk → J i m → (∀ q ∈ news, q.1 < I) → Fr h₀ env.locals h (fun y => if y = x then some (.int (a + (i : Nat)) t) else m y) → News h₀ env.locals h ((I, it) :: news) →
      wpAny (model prog w) A (execs body env) (LoopJ h₀ env.locals s I it news (J (i + 1))) E { s with heap := h, toks := tk })
    (done : ∀ h tk m, 0 < tk → J n m → Fr h₀ env.locals h m → News h₀ env.locals h news → Q .next { s with heap := h, toks := tk })
    (hE : PassesOwn (model prog w) A env E := by passes_own) :
    wpAny (model prog w) A (pyIter (.ref r)) (fun it s₂ =>
      codeAny (model prog w) A (.forLoop (.Name x px) it body [] env) (fun r s' => match r with | .ok f => Q f s' | .error e => cameBackBy (model prog w) A env E e s') s₂) E s := by
  refine wpAny_pyIter_range hr hsmall ?_
  have hIL : s.heap.objs.size ≠ env.locals := fun e => by
    obtain ⟨oL, _, _, hgL, _⟩ := F.ns
    exact absurd (Heap.lt_size hgL) (by rw [← e]; exact Nat.lt_irrefl _)
  have hI0 : h₀.get? s.heap.objs.size = none := by
    cases hq : h₀.get? s.heap.objs.size with
    | none => rfl
    | some o => exact absurd (Heap.lt_size (F.keep _ _ hq)) (Nat.lt_irrefl _)
  have hab : h₀.objs.size ≤ s.heap.objs.size := by
    obtain ⟨oL, _, _, hgL, _⟩ := F.ns
    exact Nat.le_trans F.above (Nat.le_of_lt (Heap.lt_size hgL))
  have hNI : ∀ q ∈ news, q.1 < s.heap.objs.size := fun q hq => Heap.lt_size (N q hq).1
  have hne : ∀ q ∈ news, q.1 ≠ s.heap.objs.size := fun q hq => Nat.ne_of_lt (hNI q hq)
  refine codeAny_forLoop (fun k s' => ∃ h' tk m' i, s' = { s with heap := h', toks := tk } ∧ 0 < tk ∧ IsRangeIter h' s.heap.objs.size (a + (i : Nat)) ((n : Int) - (i : Nat)) 1 ∧ Fr h₀ env.locals h' m' ∧ News h₀ env.locals h' news ∧ J i m' ∧ i ≤ n ∧ k = n + 1 - i) ?_ (n + 1)
    ⟨_, s.toks, m₀, 0, rfl, h0, ?_, F.push _, fun q hq => ⟨Heap.get?_push_of_some _ (N q hq).1, (N q hq).2⟩, hJ0, Nat.zero_le _, rfl⟩
  · rintro k s' ⟨h', tk, m', i, rfl, h0', hit', F', N', hJ, hi, rfl⟩
    by_cases hlt : i < n
    · refine wpAny_pyNext_range_item hit' (by omega) fun h₁ hit₁ hs₁ => ?_
      have F₁ := frD F' hs₁ hIL hab
      have N₁ := newsD N' hs₁ hne
      refine wpAny_assign_Name (wpAny_storeName_local hx F₁.ns (fun h₂ hn₂ hs₂ => ?_) hp)
      have F₂ := F₁.set hn₂ hs₂
      have N₂ := N₁.set hs₂
      have hit₂ : IsRangeIter h₂ s.heap.objs.size (a + (i : Nat) + 1) ((n : Int) - (i : Nat) - 1) 1 := (hs₂.2 _ hIL).trans hit₁
      have N₃ : News h₀ env.locals h₂ ((s.heap.objs.size, _) :: news) := fun q hq => by
        rcases List.mem_cons.mp hq with rfl | hq
        · exact ⟨hit₂, hIL, hI0⟩
        · exact N₂ q hq
      refine wpAny_mono (wpAny_passesOwn hE (step i _ h₂ _ m' _ _ hlt (Nat.succ_pos _) hJ hNI F₂ N₃)) (fun f s₃ h₃ => ?_) fun _ _ e => e
      obtain ⟨rfl, h₃', tk₃, m₃, rfl, h0₃, F₃, N₄, hJ₃⟩ := h₃
      refine ⟨n + 1 - (i + 1), by omega, h₃', tk₃, m₃, i + 1, rfl, h0₃, ?_, F₃, news_tail N₄, hJ₃, hlt, rfl⟩
      have hit₃ : IsRangeIter h₃' s.heap.objs.size (a + (i : Nat) + 1) ((n : Int) - (i : Nat) - 1) 1 := (N₄ _ (.head _)).1
      have e1 : a + ((i + 1 : Nat) : Int) = a + (i : Nat) + 1 := by omega
      have e2 : (n : Int) - ((i + 1 : Nat) : Int) = (n : Int) - (i : Nat) - 1 := by omega
      rw [e1, e2]
      exact hit₃
    · have hin : i = n := by omega
      subst hin
      refine wpAny_pyNext_range_end hh hit' (by omega) fun h₁ he₁ => wpAny_execs_nil ?_
      have F₁ : Fr h₀ env.locals h₁ m' := ⟨F'.ns.extBut he₁ (Ne.symm hIL), fun b o e => he₁ b o (fun hb => by rw [hb, hI0] at e; cases e) (F'.keep b o e), F'.above⟩
      have N₁ : News h₀ env.locals h₁ news := fun q hq => ⟨he₁ _ _ (hne q hq) (N' q hq).1, (N' q hq).2⟩
      exact done h₁ tk m' h0' hJ F₁ N₁
  · show Heap.get? _ _ = _
    rw [hn]
    have e1 : a + ((0 : Nat) : Int) = a := by omega
    have e2 : (n : Int) - ((0 : Nat) : Int) = n := by omega
    rw [e1, e2]
    exact Heap.get?_push_size _ rfl
end Mine
end
section
open PySem PySem.W PyProof.Rows PySem.Calls PySem.Spec
namespace Mine
def LoopR (h₀ : Heap) (L : Addr) (s : Shared) (I : Addr) (it : Obj) (news : List (Addr × Obj)) (J : (Str → Option Value) → Prop) (Q : Flow → Shared → Prop) : Flow → Shared → Prop
  | .next, s₂ => LoopJ h₀ L s I it news J .next s₂
  | .ret v, s₂ => Q (.ret v) s₂
  | _, _ => False
/-- a range loop by an invariant; a turn may hand back -/
theorem for_rangeR {prog : Program} {w : World} {A : Around} {E : Value → Shared → Prop} {s : Shared} {env : Env} {Q : Flow → Shared → Prop} {h₀ : Heap} {x : Str} {px : Pos} {body : List Stmt} {r : Addr} {a b : Int} {t u v : Tok} {n : Nat} {m₀ : Str → Option Value} {news : List (Addr × Obj)} (J : Nat → (Str → Option Value) → Prop)
    (hr : IsRange s.heap r a b 1 t u v) (hsmall : Builtin.Range.small a b 1 = true) (hn : Builtin.Range.rangeSize a b 1 = (n : Int)) (F : Fr h₀ env.locals s.heap m₀) (N : News h₀ env.locals s.heap news) (h0 : 0 < s.toks) (hJ0 : J 0 m₀)
    (hh : A.handled = none) (hx : env.kindOf x = some .local) (hp : (env.scope.kind == .class || (env.scope.kind == .module && env.locals != env.globals)) = false)
    (step : ∀ i t h tk m (I : Addr) (it : Obj), i < n → 0 < tk → J i m → (∀ q ∈ news, q.1 < I) → Fr h₀ env.locals h (fun y => if y = x then some (.int (a + (i : Nat)) t) else m y) → News h₀ env.locals h ((I, it) :: news) →
      wpAny (model prog w) A (execs body env) (LoopR h₀ env.locals s I it news (J (i + 1)) Q) E { s with heap := h, toks := tk })
    (done : ∀ h tk m, 0 < tk → J n m → Fr h₀ env.locals h m → News h₀ env.locals h news → Q .next { s with heap := h, toks := tk })
    (hE : PassesOwn (model prog w) A env E := by passes_own) :
    wpAny (model prog w) A (pyIter (.ref r)) (fun it s₂ =>
      codeAny (model prog w) A (.forLoop (.Name x px) it body [] env) (fun r s' => match r with | .ok f => Q f s' | .error e => cameBackBy (model prog w) A env E e s') s₂) E s := by
  refine wpAny_pyIter_range hr hsmall ?_
  have hIL : s.heap.objs.size ≠ env.locals := fun e => by
    obtain ⟨oL, _, _, hgL, _⟩ := F.ns
    exact absurd (Heap.lt_size hgL) (by rw [← e]; exact Nat.lt_irrefl _)
  have hI0 : h₀.get? s.heap.objs.size = none := by
    cases hq : h₀.get? s.heap.objs.size with
    | none => rfl
    | some o => exact absurd (Heap.lt_size (F.keep _ _ hq)) (Nat.lt_irrefl _)
  have hab : h₀.objs.size ≤ s.heap.objs.size := by
    obtain ⟨oL, _, _, hgL, _⟩ := F.ns
    exact Nat.le_trans F.above (Nat.le_of_lt (Heap.lt_size hgL))
  have hNI : ∀ q ∈ news, q.1 < s.heap.objs.size := fun q hq => Heap.lt_size (N q hq).1
  have hne : ∀ q ∈ news, q.1 ≠ s.heap.objs.size := fun q hq => Nat.ne_of_lt (hNI q hq)
  refine codeAny_forLoop (fun k s' => ∃ h' tk m' i, s' = { s with heap := h', toks := tk } ∧ 0 < tk ∧ IsRangeIter h' s.heap.objs.size (a + (i : Nat)) ((n : Int) - (i : Nat)) 1 ∧ Fr h₀ env.locals h' m' ∧ News h₀ env.locals h' news ∧ J i m' ∧ i ≤ n ∧ k = n + 1 - i) ?_ (n + 1)
    ⟨_, s.toks, m₀, 0, rfl, h0, ?_, F.push _, fun q hq => ⟨Heap.get?_push_of_some _ (N q hq).1, (N q hq).2⟩, hJ0, Nat.zero_le _, rfl⟩
  · rintro k s' ⟨h', tk, m', i, rfl, h0', hit', F', N', hJ, hi, rfl⟩
    by_cases hlt : i < n
    · refine wpAny_pyNext_range_item hit' (by omega) fun h₁ hit₁ hs₁ => ?_
      have F₁ := frD F' hs₁ hIL hab
      have N₁ := newsD N' hs₁ hne
      refine wpAny_assign_Name (wpAny_storeName_local hx F₁.ns (fun h₂ hn₂ hs₂ => ?_) hp)
      have F₂ := F₁.set hn₂ hs₂
      have N₂ := N₁.set hs₂
      have hit₂ : IsRangeIter h₂ s.heap.objs.size (a + (i : Nat) + 1) ((n : Int) - (i : Nat) - 1) 1 := (hs₂.2 _ hIL).trans hit₁
      have N₃ : News h₀ env.locals h₂ ((s.heap.objs.size, _) :: news) := fun q hq => by
        rcases List.mem_cons.mp hq with rfl | hq
        · exact ⟨hit₂, hIL, hI0⟩
        · exact N₂ q hq
      refine wpAny_mono (wpAny_passesOwn hE (step i _ h₂ _ m' _ _ hlt (Nat.succ_pos _) hJ hNI F₂ N₃)) (fun f s₃ h₃ => ?_) fun _ _ e => e
      cases f with
      | ret v => exact h₃
      | brk => exact h₃.elim
      | cont => exact h₃.elim
      | next =>
      obtain ⟨-, h₃', tk₃, m₃, rfl, h0₃, F₃, N₄, hJ₃⟩ := h₃
      refine ⟨n + 1 - (i + 1), by omega, h₃', tk₃, m₃, i + 1, rfl, h0₃, ?_, F₃, news_tail N₄, hJ₃, hlt, rfl⟩
      have hit₃ : IsRangeIter h₃' s.heap.objs.size (a + (i : Nat) + 1) ((n : Int) - (i : Nat) - 1) 1 := (N₄ _ (.head _)).1
      have e1 : a + ((i + 1 : Nat) : Int) = a + (i : Nat) + 1 := by omega
      have e2 : (n : Int) - ((i + 1 : Nat) : Int) = (n : Int) - (i : Nat) - 1 := by omega
      rw [e1, e2]
      exact hit₃
    · have hin : i = n := by omega
      subst hin
      refine wpAny_pyNext_range_end hh hit' (by omega) fun h₁ he₁ => wpAny_execs_nil ?_
      have F₁ : Fr h₀ env.locals h₁ m' := ⟨F'.ns.extBut he₁ (Ne.symm hIL), fun b o e => he₁ b o (fun hb => by rw [hb, hI0] at e; cases e) (F'.keep b o e), F'.above⟩
      have N₁ : News h₀ env.locals h₁ news := fun q hq => ⟨he₁ _ _ (hne q hq) (N' q hq).1, (N' q hq).2⟩
      exact done h₁ tk m' h0' hJ F₁ N₁
  · show Heap.get? _ _ = _
    rw [hn]
    have e1 : a + ((0 : Nat) : Int) = a := by omega
    have e2 : (n : Int) - ((0 : Nat) : Int) = n := by omega
    rw [e1, e2]
    exact Heap.get?_push_size _ rfl
end Mine
end
section
open PySem PySem.W PyProof.Rows PySem.Calls PySem.Spec
namespace Mine
/-- what a call of f upon vs hands back, where l is a list of the ledger: these items -/
def DoesL (prog : Program) (w : World) (K : Frag) (p : Program) (loose : List Str) (mean : ExcName → Option Value) (mg mb : Str → Option Value) (d : Nat) (f : Addr) (vs : List Value) (l : Addr) (items : List Value) (c : Nat) (Out : Value → Prop) : Prop :=
  ∀ (dp un : Nat) (gd : Option (List Code)) (cn : Str) (cs : Scope) (a : Addr) (ccd : Value) (cl : List (Str × Addr)) (outer : List Env) (A₀ : Around) (base h₀ : Heap) (L : Addr) (m : Str → Option Value) (news : List (Addr × Obj)) (s : Shared) (Q E : Value → Shared → Prop),
    Below A₀ base outer h₀ → Fr h₀ L s.heap m → K.In h₀ → News h₀ L s.heap ((l, listOf items.toArray c) :: news) → Top p loose mean mg mb h₀ → cs.kind = .function → dp + d < recursionLimit → un + 8 * d < cLine → 0 < s.toks →
    (∀ r h' tk', Fr h₀ L h' m → News h₀ L h' ((l, listOf items.toArray c) :: news) → 0 < tk' → Out r → Q r { s with heap := h', toks := tk' }) →
    wpAny (model prog w) (ktrTop dp un gd cn cs L a ccd cl outer) (call (.ref f) vs) Q E s
theorem doesL_use {prog : Program} {w : World} {K : Frag} {p : Program} {loose : List Str} {mean : ExcName → Option Value} {mg mb : Str → Option Value} {d : Nat} {f : Addr} {vs : List Value} {l : Addr} {items : List Value} {c : Nat} {Out : Value → Prop} (C : DoesL prog w K p loose mean mg mb d f vs l items c Out)
    {dp un : Nat} {gd : Option (List Code)} {cn : Str} {cs : Scope} {a : Addr} {ccd : Value} {cl : List (Str × Addr)} {outer : List Env} {A₀ : Around} {base h₀ : Heap} {L : Addr} {m : Str → Option Value} {news : List (Addr × Obj)} {s : Shared} {Q E : Value → Shared → Prop}
    (B : Below A₀ base outer h₀) (F : Fr h₀ L s.heap m) (X : K.In h₀) (N : News h₀ L s.heap news) (T : Top p loose mean mg mb h₀) (hk : cs.kind = .function) (hd : dp + d < recursionLimit) (hu : un + 8 * d < cLine) (h0 : 0 < s.toks) (hm : (l, listOf items.toArray c) ∈ news)
    (ret : ∀ r h' tk', Out r → Fr h₀ L h' m → News h₀ L h' news → 0 < tk' → Q r { s with heap := h', toks := tk' }) :
    wpAny (model prog w) (ktrTop dp un gd cn cs L a ccd cl outer) (call (.ref f) vs) Q E s :=
  C dp un gd cn cs a ccd cl outer A₀ base h₀ L m news s Q E B F X (fun q hq => by
    rcases List.mem_cons.mp hq with rfl | hq
    · exact N _ hm
    · exact N q hq) T hk hd hu h0 fun r h' tk' F' N' h' o => ret r _ tk' o F' (fun q hq => N' q (List.mem_cons_of_mem _ hq)) h'
/-- a loop over a list of the ledger that the turns leave as it is, by an invariant, tokens kept -/
theorem for_listJ {prog : Program} {w : World} {A : Around} {E : Value → Shared → Prop} {s : Shared} {env : Env} {Q : Flow → Shared → Prop} {h₀ : Heap} {x : Str} {px : Pos} {body : List Stmt} {l : Addr} {vs : List Value} {m₀ : Str → Option Value} {news : List (Addr × Obj)} (J : Nat → (Str → Option Value) → Prop)
    {c : Nat} (hm : (l, listOf vs.toArray c) ∈ news) (F : Fr h₀ env.locals s.heap m₀) (N : News h₀ env.locals s.heap news) (h0 : 0 < s.toks) (hJ0 : J 0 m₀)
    (hh : A.handled = none) (hx : env.kindOf x = some .local) (hp : (env.scope.kind == .class || (env.scope.kind == .module && env.locals != env.globals)) = false)
    (step : ∀ i v h tk m (I : Addr) (it : Obj), vs[i]? = some v → 0 < tk → J i m → (∀ q ∈ news, q.1 < I) → Fr h₀ env.locals h (fun y => if y = x then some v else m y) → News h₀ env.locals h ((I, it) :: news) →
      wpAny (model prog w) A (execs body env) (LoopJ h₀ env.locals s I it news (J (i + 1))) E { s with heap := h, toks := tk })
    (done : ∀ h tk m, 0 < tk → J vs.length m → Fr h₀ env.locals h m → News h₀ env.locals h news → Q .next { s with heap := h, toks := tk })
    (hE : PassesOwn (model prog w) A env E := by passes_own) :
    wpAny (model prog w) A (pyIter (.ref l)) (fun it s₂ =>
      codeAny (model prog w) A (.forLoop (.Name x px) it body [] env) (fun r s' => match r with | .ok f => Q f s' | .error e => cameBackBy (model prog w) A env E e s') s₂) E s := by
  refine wpAny_pyIter_list (items := vs.toArray) ⟨_, (N _ hm).1, rfl, c, rfl⟩ ?_
  have hIL : s.heap.objs.size ≠ env.locals := fun e => by
    obtain ⟨oL, _, _, hgL, _⟩ := F.ns
    exact absurd (Heap.lt_size hgL) (by rw [← e]; exact Nat.lt_irrefl _)
  have hI0 : h₀.get? s.heap.objs.size = none := by
    cases hq : h₀.get? s.heap.objs.size with
    | none => rfl
    | some o => exact absurd (Heap.lt_size (F.keep _ _ hq)) (Nat.lt_irrefl _)
  have hab : h₀.objs.size ≤ s.heap.objs.size := by
    obtain ⟨oL, _, _, hgL, _⟩ := F.ns
    exact Nat.le_trans F.above (Nat.le_of_lt (Heap.lt_size hgL))
  have hNI : ∀ q ∈ news, q.1 < s.heap.objs.size := fun q hq => Heap.lt_size (N q hq).1
  have hne : ∀ q ∈ news, q.1 ≠ s.heap.objs.size := fun q hq => Nat.ne_of_lt (hNI q hq)
  refine codeAny_forLoop (fun k s' => ∃ h' tk m' i, s' = { s with heap := h', toks := tk } ∧ 0 < tk ∧ h'.IsListIter s.heap.objs.size l i ∧ Fr h₀ env.locals h' m' ∧ News h₀ env.locals h' news ∧ J i m' ∧ i ≤ vs.length ∧ k = vs.length + 1 - i) ?_ (vs.length + 1)
    ⟨_, s.toks, m₀, 0, rfl, h0, ⟨_, Heap.get?_push_size _ rfl, rfl, rfl⟩, F.push _, fun q hq => ⟨Heap.get?_push_of_some _ (N q hq).1, (N q hq).2⟩, hJ0, Nat.zero_le _, rfl⟩
  rintro k s' ⟨h', tk, m', i, rfl, h0', hit', F', N', hJ, hi, rfl⟩
  have hl' : h'.IsList l vs.toArray := ⟨_, (N' _ hm).1, rfl, c, rfl⟩
  by_cases hlt : i < vs.length
  · have hv : vs[i]? = some vs[i] := List.getElem?_eq_getElem hlt
    refine wpAny_pyNext_list_item hit' hl' (x := vs[i]) (by simp [hv]) fun h₁ hit₁ hs₁ => ?_
    have F₁ := frD F' hs₁ hIL hab
    have N₁ := newsD N' hs₁ hne
    refine wpAny_assign_Name (wpAny_storeName_local hx F₁.ns (fun h₂ hn₂ hs₂ => ?_) hp)
    have F₂ := F₁.set hn₂ hs₂
    have N₂ := N₁.set hs₂
    have hit₂ : h₂.IsListIter s.heap.objs.size l (i + 1) := hit₁.at fun o e => (hs₂.2 _ hIL).trans e
    obtain ⟨it, hgit, hcit, hdit⟩ := hit₂
    have N₃ : News h₀ env.locals h₂ ((s.heap.objs.size, it) :: news) := fun q hq => by
      rcases List.mem_cons.mp hq with rfl | hq
      · exact ⟨hgit, hIL, hI0⟩
      · exact N₂ q hq
    refine wpAny_mono (wpAny_passesOwn hE (step i _ h₂ _ m' _ _ hv (Nat.succ_pos _) hJ hNI F₂ N₃)) (fun f s₃ h₃ => ?_) fun _ _ e => e
    obtain ⟨rfl, h₃', tk₃, m₃, rfl, h0₃, F₃, N₄, hJ₃⟩ := h₃
    exact ⟨vs.length + 1 - (i + 1), by omega, h₃', tk₃, m₃, i + 1, rfl, h0₃, ⟨it, (N₄ _ (.head _)).1, hcit, hdit⟩, F₃, news_tail N₄, hJ₃, hlt, rfl⟩
  · have hin : i = vs.length := by omega
    subst hin
    refine wpAny_pyNext_list_end hh hit' hl' (by simp) fun h₁ he₁ => wpAny_execs_nil ?_
    have F₁ : Fr h₀ env.locals h₁ m' := ⟨F'.ns.extBut he₁ (Ne.symm hIL), fun b o e => he₁ b o (fun hb => by rw [hb, hI0] at e; cases e) (F'.keep b o e), F'.above⟩
    have N₁ : News h₀ env.locals h₁ news := fun q hq => ⟨he₁ _ _ (hne q hq) (N' q hq).1, (N' q hq).2⟩
    exact done h₁ tk m' h0' hJ F₁ N₁
end Mine
end
section
open PySem PySem.W PyProof.Rows PySem.Calls PySem.Spec
namespace Mine
open PySem.Builtin PySem.Builtin.Str PySem.StrLaws
/-- the parts of l between the y's, from the left on -/
inductive SplTo (y : List Nat) : List Nat → List (List Nat) → Prop
  | none (l : List Nat) (h : ∀ k, ¬ y <+: l.drop k) : SplTo y l [l]
  | hit (u r : List Nat) (out : List (List Nat)) (h : ∀ k, k < u.length → ¬ y <+: (u ++ (y ++ r)).drop k) (hr : SplTo y r out) : SplTo y (u ++ (y ++ r)) (u :: out)
theorem SplTo.det {y l : List Nat} {o : List (List Nat)} (h : SplTo y l o) : ∀ {o' : List (List Nat)}, SplTo y l o' → o = o' := by
  induction h with
  | none l hn =>
    intro o' h'
    cases h' with
    | none _ _ => rfl
    | hit u r out _ _ => exact absurd ⟨r, by rw [List.drop_left]⟩ (hn u.length)
  | hit u r out hu _ ih =>
    intro o' h'
    generalize hl : u ++ (y ++ r) = l at h'
    cases h' with
    | none _ hn =>
      exfalso
      exact hn u.length ⟨r, by rw [← hl, List.drop_left]⟩
    | hit u' r' out' hu' hr' =>
      have h1 : y <+: (u ++ (y ++ r)).drop u'.length := ⟨r', by rw [hl, List.drop_left]⟩
      have h2 : y <+: (u' ++ (y ++ r')).drop u.length := ⟨r, by rw [← hl, List.drop_left]⟩
      have hlen : u.length = u'.length := by
        rcases Nat.lt_trichotomy u.length u'.length with h | h | h
        · exact absurd h2 (hu' _ h)
        · exact h
        · exact absurd h1 (hu _ h)
      have h3 := List.append_inj hl hlen
      have h4 := List.append_cancel_left h3.2
      subst h4
      rw [h3.1, ih hr']
theorem splTo_parts (x y : Str) (hy : 1 ≤ y.length) : ∀ (cuts : List Nat) (a f : Nat), ChainG x y x.length a cuts f → (∀ k, f ≤ k → ¬ At x y x.length k) → a ≤ x.length →
    SplTo y.cps.toList (x.cps.toList.drop a) ((partsFrom x y.length a cuts).map fun p => p.cps.toList) := by
  have h3 : x.cps.toList.length = x.length := Array.length_toList
  have h2 : y.cps.toList.length = y.length := Array.length_toList
  intro cuts
  induction cuts with
  | nil =>
    intro a f hG hn ha
    have hf : f = a := hG
    subst hf
    have e : ((partsFrom x y.length f []).map fun p => p.cps.toList) = [x.cps.toList.drop f] := by
      show [(strSub x f x.length).cps.toList] = _
      rw [strSub_toList, List.take_of_length_le (by rw [List.length_drop, h3]; exact Nat.le_refl _)]
    rw [e]
    refine SplTo.none _ fun k hk => ?_
    rw [List.drop_drop] at hk
    exact hn (f + k) (by omega) (at_of_prefix hy hk)
  | cons c r ih =>
    intro a f hG hn ha
    obtain ⟨hac, hat, hno, hG'⟩ := hG
    have hat' := (at_iff x y c).mp hat
    obtain ⟨v, hv⟩ := hat'.1
    have hdrop : x.cps.toList.drop (c + y.length) = v := by rw [← List.drop_drop, ← hv, List.drop_left' h2]
    have hsplit : x.cps.toList.drop a = (x.cps.toList.drop a).take (c - a) ++ (y.cps.toList ++ v) := by
      rw [hv]
      have e : x.cps.toList.drop c = (x.cps.toList.drop a).drop (c - a) := by rw [List.drop_drop]; congr 1; omega
      rw [e, List.take_append_drop]
    have hul : ((x.cps.toList.drop a).take (c - a)).length = c - a := by
      rw [List.length_take, List.length_drop, h3]
      have := hat'.2
      omega
    have e : ((partsFrom x y.length a (c :: r)).map fun p => p.cps.toList) = (x.cps.toList.drop a).take (c - a) :: ((partsFrom x y.length (c + y.length) r).map fun p => p.cps.toList) := by
      show (strSub x a c).cps.toList :: _ = _
      rw [strSub_toList]
    have ih' := ih (c + y.length) f hG' hn (by exact hat'.2)
    rw [hdrop] at ih'
    rw [e]
    have hh := SplTo.hit ((x.cps.toList.drop a).take (c - a)) v _ (fun k hk hp => by
      rw [← hsplit, List.drop_drop] at hp
      rw [hul] at hk
      exact hno (a + k) (by omega) (by omega) (at_of_prefix hy hp)) ih'
    rw [← hsplit] at hh
    exact hh
theorem partsFrom_length (x : Str) (w : Nat) : ∀ (cuts : List Nat) (a : Nat), (partsFrom x w a cuts).length = cuts.length + 1
  | [], _ => rfl
  | c :: r, a => by show (strSub x a c :: partsFrom x w (c + w) r).length = _; rw [List.length_cons, partsFrom_length x w r, List.length_cons]
theorem occ_splTo (x y : Str) (hy : 1 ≤ y.length) : SplTo y.cps.toList x.cps.toList ((partsFrom x y.length 0 (occurrences x y 0 x.length (x.length + 1))).map fun p => p.cps.toList) := by
  obtain ⟨f, hG, hn⟩ := occ_tight x y hy
  have h := splTo_parts x y hy _ 0 f hG hn (Nat.zero_le _)
  rw [List.drop_zero] at h
  exact h
/-- count, by the parts -/
theorem count_is {y l : List Nat} {o : List (List Nat)} (hy : 1 ≤ y.length) (h : SplTo y l o) : Txt.count (tx l) (tx y) = (o.length : Int) - 1 := by
  have h1 := occ_splTo (tx l) (tx y) (by rw [tx_length]; exact hy)
  have h2 : _ = o := h1.det h
  unfold Txt.count
  rw [← h2, List.length_map, partsFrom_length]
  omega
/-- split, by the parts: the key is of small signs and no longer than the text -/
theorem split_is {y l : List Nat} {o : List (List Nat)} (hy : 1 ≤ y.length) (hk : PySem.Builtin.Str.strKind (tx y) = 1) (hl : y.length ≤ l.length) (h : SplTo y l o) : Txt.split (tx l) (tx y) = o.map tx := by
  have h1 := occ_splTo (tx l) (tx y) (by rw [tx_length]; exact hy)
  have h2 : _ = o := h1.det h
  have hs : 1 ≤ PySem.Builtin.Str.strKind (tx l) := by unfold PySem.Builtin.Str.strKind; split <;> (try split) <;> decide
  have hm : ∀ ps : List Str, (ps.map fun p => p.cps.toList).map tx = ps := by
    intro ps
    rw [List.map_map]
    conv => rhs; rw [← List.map_id ps]
    exact List.map_congr_left fun p _ => by show tx p.cps.toList = p; exact tx_of rfl
  unfold Txt.split
  have e1 : decide ((tx l).length < (tx y).length) = false := decide_eq_false (by rw [tx_length, tx_length]; omega)
  have e2 : decide (PySem.Builtin.Str.strKind (tx l) < PySem.Builtin.Str.strKind (tx y)) = false := decide_eq_false (by rw [hk]; omega)
  rw [e1, e2, Bool.or_false, if_neg (by decide)]
  rw [← h2, hm]
  split
  · rename_i hc
    rw [List.isEmpty_iff] at hc
    rw [hc]
    show _ = [strSub (tx l) 0 (tx l).length]
    rw [sub_whole]
  · rw [partsBetween_eq]
end Mine
end
section
open PySem PySem.W PyProof.Rows
namespace Mine
open_top hd for PySem.Challenge.rw_wn0061_02
end Mine
end
section
open PySem PySem.W PyProof.Rows PySem.Calls PySem.Spec
namespace Mine
local macro_rules | `(tactic| walk_at "getMethod ref") => `(tactic| (k_here; (with_reducible show wpAny _ _ (getMethod (Value.ref _) (PySem.Str.ofString "sub") _) _ _ _); k_dflt (refine' method_sub_K ?k1 ?k2 ?k3 ?_; (case k1 => k_asm); (case k2 => k_asm); (case k3 => k_is); k_whole)))
local macro_rules | `(tactic| walk_at "call builtin:re.Pattern.sub") => `(tactic| (k_here; k_dflt (refine' sub2_K ?k1 ?k2 ?k3 ?k4 ?k5 ?k6 ?k7 ?k8 ?k9 ?ka ?kb ?_; (case k1 => k_asm); (case k2 => k_asm); (case k3 => k_asm); (case k4 => k_is); (case k5 => exact rfl); (case k6 => k_is); (case k7 => decide +kernel); (case k8 => exact rfl); (case k9 => exact rfl); (case ka => decide +kernel); (case kb => first | assumption | omega); k_whole); intro h9 tk9 t9 F9 N9 z9))
local macro_rules | `(tactic| walk_at "call builtin:re.Pattern.sub") => `(tactic| (k_here; k_dflt (refine' sub1_K ?k1 ?k2 ?k3 ?k4 ?k5 ?k6 ?k7 ?k8 ?k9 ?ka ?kb ?_; (case k1 => k_asm); (case k2 => k_asm); (case k3 => k_asm); (case k4 => k_is); (case k5 => exact rfl); (case k6 => k_is); (case k7 => decide +kernel); (case k8 => exact rfl); (case k9 => exact rfl); (case ka => decide +kernel); (case kb => first | assumption | omega); k_whole); intro h9 tk9 t9 F9 N9))
local macro_rules | `(tactic| walk_at "execs nil") => `(tactic| (k_here; (with_reducible show wpAny _ _ _ _ _ ⟨_, _, _, _ + _, _⟩); (refine gen_tk (by first | assumption | omega) ?_); intro tk9 hTk9))
local macro_rules | `(tactic| walk_at "execs cons") => `(tactic| (k_here; (refine' execs_cons_tk ?h0 ?_; (case h0 => (try dsimp only); first | assumption | omega)); (try k_fold)))
local macro_rules | `(tactic| walk_at "execs cons") => `(tactic| (k_here; (with_reducible show wpAny _ _ _ _ _ ⟨_, _, _, _ + _, _⟩); (refine gen_tk (by first | assumption | omega) ?_); intro tk9 hTk9))
local macro_rules | `(tactic| walk_at "TkGo") => `(tactic| (intro hTk9; (try dsimp only at hTk9 ⊢)))
local macro_rules | `(tactic| walk_at "call builtin:str.replace") => `(tactic| (k_here; k_dflt (show wpAny _ _ (call (Value.builtin "str.replace") [Value.str _ _, Value.str _ _, Value.str _ _]) _ _ _); (refine' replace_tk ?k0 ?k1 ?k2 ?k3 ?k4 ?k5 ?k6 ?_; (case k0 => (try dsimp only); first | assumption | omega); (case k1 => omega); (case k2 => omega); (case k3 => omega); (case k4 => decide +kernel); (case k5 => first | assumption | exact size_of_spec (by assumption) (by omega)); (case k6 => decide +kernel); k_whole); intro t9 k9 hTk9))
local macro_rules | `(tactic| walk_at "EscPost") => `(tactic| first | exact escPost_yes (by assumption) (by assumption) (by first | assumption | omega) | exact escPost_no (by assumption) (by decide +kernel) (by assumption) (by assumption) (by first | assumption | omega) rfl)
local macro_rules | `(tactic| walk_at "exec If") => `(tactic| (k_here; (fail_if_success (have hM9 : EscMark := by assumption)); (with_reducible show wpAny _ _ (exec (Stmt.If (Expr.Compare (Expr.Constant (Const.str _) _ _) [CmpOp.In] [Expr.Name _ _] _) [Stmt.Assign [Expr.Name _ _] (Expr.Call _ _ _ _) _] [] _) _) _ _ _); (rename Fr _ _ _ _ => eF'); (rename News _ _ _ _ => eN'); (rename (spec _ ≤ _) => eB'); k_dflt (refine' esc_if eF' eN' ?km ?ka _ 491520 eB' ?ks ?k1 ?_; (case km => exact rfl); (case ka => decide +kernel); (case ks => first | exact ⟨1, by decide +kernel, by decide, by decide⟩ | exact ⟨5, by decide +kernel, by decide, by decide⟩); (case k1 => (intro hM9;  (repeat' (first | (k_unfold; (try dsimp only)) | walk1 | (dsimp only; walk1) | (leave1; try dsimp only) | fail "no step"))))); intro h9 tk9 t9 hTk9 hB9 F9 N9))
local macro_rules | `(tactic| walk_at "subscriptTail Name Slice str ref") => `(tactic| (k_here; (with_reducible show wpAny _ _ (subscriptTail _ (Expr.Slice none (some _) none _) _ _) _ _ _); (rename Fr _ _ _ _ => sF'); (rename News _ _ _ _ => sN'); (refine' slice_tk_ns (s := ⟨_, _, _, _, _⟩) ?h0 sF' sN' ?h1 ?_ ?hs ?ht; (case h0 => (try dsimp only); first | assumption | omega); (case h1 => first | omega | (simp only [len_one, Str.length_append]; omega)); (case hs => with_unfolding_all rfl); (case ht => intro _; with_unfolding_all rfl)); intro h9 t9 k9 hTk9 F9 N9))
local macro_rules | `(tactic| walk_at "subscriptTail Name Slice str ref") => `(tactic| (k_here; (with_reducible show wpAny _ _ (subscriptTail _ (Expr.Slice (some _) none none _) _ _) _ _ _); (rename Fr _ _ _ _ => sF'); (rename News _ _ _ _ => sN'); (refine' slice_tk_sn (s := ⟨_, _, _, _, _⟩) ?h0 sF' sN' ?h1 ?_ ?hs ?ht; (case h0 => (try dsimp only); first | assumption | omega); (case h1 => first | omega | (simp only [len_one, Str.length_append]; omega)); (case hs => with_unfolding_all rfl); (case ht => intro _; with_unfolding_all rfl)); intro h9 t9 k9 hTk9 F9 N9))
local macro_rules | `(tactic| walk_at "subscriptTail Name Slice str ref") => `(tactic| (k_here; (with_reducible show wpAny _ _ (subscriptTail _ (Expr.Slice (some _) (some _) none _) _ _) _ _ _); (rename Fr _ _ _ _ => sF'); (rename News _ _ _ _ => sN'); (refine' slice_tk_ss (s := ⟨_, _, _, _, _⟩) ?h0 sF' sN' ?h1 ?_ ?hs ?ht; (case h0 => (try dsimp only); first | assumption | omega); (case h1 => first | omega | (simp only [len_one, Str.length_append]; omega)); (case hs => with_unfolding_all rfl); (case ht => intro _; with_unfolding_all rfl)); intro h9 t9 k9 hTk9 F9 N9))

theorem esc_cdata (w : World) (loose : List Str) (mean : ExcName → Option Value) (mg mb : Str → Option Value) (x : Str) (t : Tok) (hx : spec x.cps.toList ≤ 98304) :
    Does PySem.Challenge.rw_wn0061_02.row.prog w (hd.heap_39 w.params) hd.view_39 loose mean mg mb 2 94 [.str x t] (IsText (escs [("&", "&amp;"), ("<", "&lt;"), (">", "&gt;")] x.cps.toList)) := by
  k_fill
  w_top off
  unfold Does
  intro dp un gd cn cs a ccd cl outer A₀ base h₀ L m news s Q E B F X N T hk hd hu h0 hret
  refine with_toks h0 ?_
  refine wpAny_call ?_
  k_dflt ktr_enter
  (repeat' (first | (k_unfold; (try dsimp only)) | walk1 | (dsimp only; walk1) | (leave1; try dsimp only) | fail "no step"))
  exact hret _ _ _ (by assumption) (by assumption) (by assumption) (isText_of (by
    refine escs_snoc x _ _ _ [("&", "&amp;"), ("<", "&lt;")] (by decide +kernel) ?_
    refine escs_snoc x _ _ _ [("&", "&amp;")] (by decide +kernel) ?_
    refine escs_snoc x _ _ _ [] (by decide +kernel) ?_
    rfl))

theorem esc_attrib (w : World) (loose : List Str) (mean : ExcName → Option Value) (mg mb : Str → Option Value) (x : Str) (t : Tok) (hx : spec x.cps.toList ≤ 98304) :
    Does PySem.Challenge.rw_wn0061_02.row.prog w (hd.heap_39 w.params) hd.view_39 loose mean mg mb 2 101 [.str x t] (IsText (escs [("&", "&amp;"), ("<", "&lt;"), (">", "&gt;"), ("\"", "&quot;"), ("\r", "&#13;"), ("\n", "&#10;"), ("\t", "&#09;")] x.cps.toList)) := by
  k_fill
  w_top off
  unfold Does
  intro dp un gd cn cs a ccd cl outer A₀ base h₀ L m news s Q E B F X N T hk hd hu h0 hret
  refine with_toks h0 ?_
  refine wpAny_call ?_
  k_dflt ktr_enter
  (repeat' (first | (k_unfold; (try dsimp only)) | walk1 | (dsimp only; walk1) | (leave1; try dsimp only) | fail "no step"))
  exact hret _ _ _ (by assumption) (by assumption) (by assumption) (isText_of (by
    refine escs_snoc x _ _ _ [("&", "&amp;"), ("<", "&lt;"), (">", "&gt;"), ("\"", "&quot;"), ("\r", "&#13;"), ("\n", "&#10;")] (by decide +kernel) ?_
    refine escs_snoc x _ _ _ [("&", "&amp;"), ("<", "&lt;"), (">", "&gt;"), ("\"", "&quot;"), ("\r", "&#13;")] (by decide +kernel) ?_
    refine escs_snoc x _ _ _ [("&", "&amp;"), ("<", "&lt;"), (">", "&gt;"), ("\"", "&quot;")] (by decide +kernel) ?_
    refine escs_snoc x _ _ _ [("&", "&amp;"), ("<", "&lt;"), (">", "&gt;")] (by decide +kernel) ?_
    refine escs_snoc x _ _ _ [("&", "&amp;"), ("<", "&lt;")] (by decide +kernel) ?_
    refine escs_snoc x _ _ _ [("&", "&amp;")] (by decide +kernel) ?_
    refine escs_snoc x _ _ _ [] (by decide +kernel) ?_
    rfl))

theorem esc_html (w : World) (loose : List Str) (mean : ExcName → Option Value) (mg mb : Str → Option Value) (x : Str) (t : Tok) (hx : spec x.cps.toList ≤ 98304) :
    Does PySem.Challenge.rw_wn0061_02.row.prog w (hd.heap_39 w.params) hd.view_39 loose mean mg mb 2 108 [.str x t] (IsText (escs [("&", "&amp;"), (">", "&gt;"), ("\"", "&quot;")] x.cps.toList)) := by
  k_fill
  w_top off
  unfold Does
  intro dp un gd cn cs a ccd cl outer A₀ base h₀ L m news s Q E B F X N T hk hd hu h0 hret
  refine with_toks h0 ?_
  refine wpAny_call ?_
  k_dflt ktr_enter
  (repeat' (first | (k_unfold; (try dsimp only)) | walk1 | (dsimp only; walk1) | (leave1; try dsimp only) | fail "no step"))
  exact hret _ _ _ (by assumption) (by assumption) (by assumption) (isText_of (by
    refine escs_snoc x _ _ _ [("&", "&amp;"), (">", "&gt;")] (by decide +kernel) ?_
    refine escs_snoc x _ _ _ [("&", "&amp;")] (by decide +kernel) ?_
    refine escs_snoc x _ _ _ [] (by decide +kernel) ?_
    rfl))

theorem esc_cc14n (w : World) (loose : List Str) (mean : ExcName → Option Value) (mg mb : Str → Option Value) (x : Str) (t : Tok) (hx : spec x.cps.toList ≤ 98304) :
    Does PySem.Challenge.rw_wn0061_02.row.prog w (hd.heap_39 w.params) hd.view_39 loose mean mg mb 2 115 [.str x t] (IsText (escs [("&", "&amp;"), ("<", "&lt;"), (">", "&gt;"), ("\r", "&#xD;")] x.cps.toList)) := by
  k_fill
  w_top off
  unfold Does
  intro dp un gd cn cs a ccd cl outer A₀ base h₀ L m news s Q E B F X N T hk hd hu h0 hret
  refine with_toks h0 ?_
  refine wpAny_call ?_
  k_dflt ktr_enter
  (repeat' (first | (k_unfold; (try dsimp only)) | walk1 | (dsimp only; walk1) | (leave1; try dsimp only) | fail "no step"))
  exact hret _ _ _ (by assumption) (by assumption) (by assumption) (isText_of (by
    refine escs_snoc x _ _ _ [("&", "&amp;"), ("<", "&lt;"), (">", "&gt;")] (by decide +kernel) ?_
    refine escs_snoc x _ _ _ [("&", "&amp;"), ("<", "&lt;")] (by decide +kernel) ?_
    refine escs_snoc x _ _ _ [("&", "&amp;")] (by decide +kernel) ?_
    refine escs_snoc x _ _ _ [] (by decide +kernel) ?_
    rfl))

theorem esc_ac14n (w : World) (loose : List Str) (mean : ExcName → Option Value) (mg mb : Str → Option Value) (x : Str) (t : Tok) (hx : spec x.cps.toList ≤ 98304) :
    Does PySem.Challenge.rw_wn0061_02.row.prog w (hd.heap_39 w.params) hd.view_39 loose mean mg mb 2 122 [.str x t] (IsText (escs [("&", "&amp;"), ("<", "&lt;"), ("\"", "&quot;"), ("\t", "&#x9;"), ("\n", "&#xA;"), ("\r", "&#xD;")] x.cps.toList)) := by
  k_fill
  w_top off
  unfold Does
  intro dp un gd cn cs a ccd cl outer A₀ base h₀ L m news s Q E B F X N T hk hd hu h0 hret
  refine with_toks h0 ?_
  refine wpAny_call ?_
  k_dflt ktr_enter
  (repeat' (first | (k_unfold; (try dsimp only)) | walk1 | (dsimp only; walk1) | (leave1; try dsimp only) | fail "no step"))
  exact hret _ _ _ (by assumption) (by assumption) (by assumption) (isText_of (by
    refine escs_snoc x _ _ _ [("&", "&amp;"), ("<", "&lt;"), ("\"", "&quot;"), ("\t", "&#x9;"), ("\n", "&#xA;")] (by decide +kernel) ?_
    refine escs_snoc x _ _ _ [("&", "&amp;"), ("<", "&lt;"), ("\"", "&quot;"), ("\t", "&#x9;")] (by decide +kernel) ?_
    refine escs_snoc x _ _ _ [("&", "&amp;"), ("<", "&lt;"), ("\"", "&quot;")] (by decide +kernel) ?_
    refine escs_snoc x _ _ _ [("&", "&amp;"), ("<", "&lt;")] (by decide +kernel) ?_
    refine escs_snoc x _ _ _ [("&", "&amp;")] (by decide +kernel) ?_
    refine escs_snoc x _ _ _ [] (by decide +kernel) ?_
    rfl))
end Mine
end
section
open PySem PySem.W PyProof.Rows PySem.Calls PySem.Spec
namespace Mine
local macro_rules | `(tactic| walk_at "getMethod ref") => `(tactic| (k_here; (with_reducible show wpAny _ _ (getMethod (Value.ref _) (PySem.Str.ofString "sub") _) _ _ _); k_dflt (refine' method_sub_K ?k1 ?k2 ?k3 ?_; (case k1 => k_asm); (case k2 => k_asm); (case k3 => k_is); k_whole)))
local macro_rules | `(tactic| walk_at "call builtin:re.Pattern.sub") => `(tactic| (k_here; k_dflt (refine' sub2_K ?k1 ?k2 ?k3 ?k4 ?k5 ?k6 ?k7 ?k8 ?k9 ?ka ?kb ?_; (case k1 => k_asm); (case k2 => k_asm); (case k3 => k_asm); (case k4 => k_is); (case k5 => exact rfl); (case k6 => k_is); (case k7 => decide +kernel); (case k8 => exact rfl); (case k9 => exact rfl); (case ka => decide +kernel); (case kb => first | assumption | omega); k_whole); intro h9 tk9 t9 F9 N9 z9))
local macro_rules | `(tactic| walk_at "call builtin:re.Pattern.sub") => `(tactic| (k_here; k_dflt (refine' sub1_K ?k1 ?k2 ?k3 ?k4 ?k5 ?k6 ?k7 ?k8 ?k9 ?ka ?kb ?_; (case k1 => k_asm); (case k2 => k_asm); (case k3 => k_asm); (case k4 => k_is); (case k5 => exact rfl); (case k6 => k_is); (case k7 => decide +kernel); (case k8 => exact rfl); (case k9 => exact rfl); (case ka => decide +kernel); (case kb => first | assumption | omega); k_whole); intro h9 tk9 t9 F9 N9))
local macro_rules | `(tactic| walk_at "execs nil") => `(tactic| (k_here; (with_reducible show wpAny _ _ _ _ _ ⟨_, _, _, _ + _, _⟩); (refine gen_tk (by first | assumption | omega) ?_); intro tk9 hTk9))
local macro_rules | `(tactic| walk_at "execs cons") => `(tactic| (k_here; (refine' execs_cons_tk ?h0 ?_; (case h0 => (try dsimp only); first | assumption | omega)); (try k_fold)))
local macro_rules | `(tactic| walk_at "execs cons") => `(tactic| (k_here; (with_reducible show wpAny _ _ _ _ _ ⟨_, _, _, _ + _, _⟩); (refine gen_tk (by first | assumption | omega) ?_); intro tk9 hTk9))
local macro_rules | `(tactic| walk_at "TkGo") => `(tactic| (intro hTk9; (try dsimp only at hTk9 ⊢)))
local macro_rules | `(tactic| walk_at "call builtin:str.replace") => `(tactic| (k_here; k_dflt (show wpAny _ _ (call (Value.builtin "str.replace") [Value.str _ _, Value.str _ _, Value.str _ _]) _ _ _); (refine' replace_tk ?k0 ?k1 ?k2 ?k3 ?k4 ?k5 ?k6 ?_; (case k0 => (try dsimp only); first | assumption | omega); (case k1 => omega); (case k2 => omega); (case k3 => omega); (case k4 => decide +kernel); (case k5 => first | assumption | exact size_of_spec (by assumption) (by omega)); (case k6 => decide +kernel); k_whole); intro t9 k9 hTk9))
local macro_rules | `(tactic| walk_at "EscPost") => `(tactic| first | exact escPost_yes (by assumption) (by assumption) (by first | assumption | omega) | exact escPost_no (by assumption) (by decide +kernel) (by assumption) (by assumption) (by first | assumption | omega) rfl)
local macro_rules | `(tactic| walk_at "exec If") => `(tactic| (k_here; (fail_if_success (have hM9 : EscMark := by assumption)); (with_reducible show wpAny _ _ (exec (Stmt.If (Expr.Compare (Expr.Constant (Const.str _) _ _) [CmpOp.In] [Expr.Name _ _] _) [Stmt.Assign [Expr.Name _ _] (Expr.Call _ _ _ _) _] [] _) _) _ _ _); (rename Fr _ _ _ _ => eF'); (rename News _ _ _ _ => eN'); (rename (spec _ ≤ _) => eB'); k_dflt (refine' esc_if eF' eN' ?km ?ka _ 491520 eB' ?ks ?k1 ?_; (case km => exact rfl); (case ka => decide +kernel); (case ks => first | exact ⟨1, by decide +kernel, by decide, by decide⟩ | exact ⟨5, by decide +kernel, by decide, by decide⟩); (case k1 => (intro hM9;  (repeat' (first | (k_unfold; (try dsimp only)) | walk1 | (dsimp only; walk1) | (leave1; try dsimp only) | fail "no step"))))); intro h9 tk9 t9 hTk9 hB9 F9 N9))
local macro_rules | `(tactic| walk_at "subscriptTail Name Slice str ref") => `(tactic| (k_here; (with_reducible show wpAny _ _ (subscriptTail _ (Expr.Slice none (some _) none _) _ _) _ _ _); (rename Fr _ _ _ _ => sF'); (rename News _ _ _ _ => sN'); (refine' slice_tk_ns (s := ⟨_, _, _, _, _⟩) ?h0 sF' sN' ?h1 ?_ ?hs ?ht; (case h0 => (try dsimp only); first | assumption | omega); (case h1 => first | omega | (simp only [len_one, Str.length_append]; omega)); (case hs => with_unfolding_all rfl); (case ht => intro _; with_unfolding_all rfl)); intro h9 t9 k9 hTk9 F9 N9))
local macro_rules | `(tactic| walk_at "subscriptTail Name Slice str ref") => `(tactic| (k_here; (with_reducible show wpAny _ _ (subscriptTail _ (Expr.Slice (some _) none none _) _ _) _ _ _); (rename Fr _ _ _ _ => sF'); (rename News _ _ _ _ => sN'); (refine' slice_tk_sn (s := ⟨_, _, _, _, _⟩) ?h0 sF' sN' ?h1 ?_ ?hs ?ht; (case h0 => (try dsimp only); first | assumption | omega); (case h1 => first | omega | (simp only [len_one, Str.length_append]; omega)); (case hs => with_unfolding_all rfl); (case ht => intro _; with_unfolding_all rfl)); intro h9 t9 k9 hTk9 F9 N9))
local macro_rules | `(tactic| walk_at "subscriptTail Name Slice str ref") => `(tactic| (k_here; (with_reducible show wpAny _ _ (subscriptTail _ (Expr.Slice (some _) (some _) none _) _ _) _ _ _); (rename Fr _ _ _ _ => sF'); (rename News _ _ _ _ => sN'); (refine' slice_tk_ss (s := ⟨_, _, _, _, _⟩) ?h0 sF' sN' ?h1 ?_ ?hs ?ht; (case h0 => (try dsimp only); first | assumption | omega); (case h1 => first | omega | (simp only [len_one, Str.length_append]; omega)); (case hs => with_unfolding_all rfl); (case ht => intro _; with_unfolding_all rfl)); intro h9 t9 k9 hTk9 F9 N9))

local macro_rules | `(tactic| walk_at "compareOp Eq str str") => `(tactic| (k_here; (refine eq_known (by assumption) ?_)))
local macro_rules | `(tactic| walk_at "compareOp NotEq str str") => `(tactic| (k_here; (refine ne_known (by assumption) ?_)))
local macro_rules | `(tactic| walk_at "binaryOp Add str str") => `(tactic| (k_here; (refine' add_plain ?h1 ?_; (case h1 => first | omega | (simp only [len_one]; omega))); intro t9 k9))
local macro_rules | `(tactic| walk_at "exec While") => `(tactic| (k_here; refine stop_here ?_))
local macro_rules | `(tactic| walk_at "WhileStep2") => `(tactic| (k_here; (with_reducible show WhileStep2 _ _ _ _ _ _ Flow.next _); refine stop_here ?_))
local macro_rules | `(tactic| walk_at "WhileStep2") => `(tactic| (k_here; (with_reducible show WhileStep2 _ _ _ _ _ _ Flow.brk _); dsimp only [WhileStep2]))
theorem parse_ok (w : World) (loose : List Str) (mean : ExcName → Option Value) (mg mb : Str → Option Value) (x : Str) (t : Tok) (l : List Nat) (hxe : x = tx (ask ++ l)) (hx : l.length ≤ 1000000) :
    Does PySem.Challenge.rw_wn0061_02.row.prog w (hd.heap_39 w.params) hd.view_39 loose mean mg mb 2 63 [.str x t] (IsText (parsed l)) := by
  k_fill
  w_top off
  unfold Does
  intro dp un gd cn cs a ccd cl outer A₀ base h₀ L m news s Q E B F X N T hk hd hu h0 hret
  refine with_toks h0 ?_
  refine wpAny_call ?_
  have hxl : x.length = 5 + l.length := by rw [hxe, tx_length, List.length_append]; rfl
  have hs1 : (Txt.slice x none (some 3) == Str.ofString "257") = !false := by
    have h := StrLaws.sliceText_to (x := tx (ask ++ l)) (j := 3) ⟨by decide, by rw [tx_toList, List.length_append]; have : ask.length = 5 := rfl; omega⟩
    rw [hxe, show Txt.slice (tx (ask ++ l)) none (some 3) = StrLaws.sliceText (tx (ask ++ l)) none (some 3) from rfl, h]
    exact beq_iff_eq.mpr rfl
  have hs2 : (Txt.slice x (some 3) (some 5) == Str.ofString " \"") = !false := by
    have h := StrLaws.sliceText_plain (x := tx (ask ++ l)) (i := 3) (j := 5) ⟨by decide, by decide, by rw [tx_toList, List.length_append]; have : ask.length = 5 := rfl; omega⟩
    rw [hxe, show Txt.slice (tx (ask ++ l)) (some 3) (some 5) = StrLaws.sliceText (tx (ask ++ l)) (some 3) (some 5) from rfl, h]
    exact beq_iff_eq.mpr rfl
  have hit0 : ∀ (i : Int) (p : List Nat) (c : Nat) (r : List Nat), l = p ++ c :: r → i = 5 + (p.length : Int) → Txt.item x i = tx [c] := by
    intro i p c r h1 h2
    rw [hxe, h1, ← List.append_assoc]
    exact item_tx _ _ _ _ (by rw [List.length_append, h2]; rfl)
  clear hxe
  k_dflt ktr_enter
  (repeat' (first | (k_unfold; (try dsimp only)) | walk1 | (dsimp only; walk1) | (leave1; try dsimp only) | fail "no step"))
  unfold StopHere
  refine parse_loop (l := l) (by assumption) (by assumption) rfl rfl (by decide +kernel) ?_
  intro i pre rest D ti td uc h₁ tk₁ hpre hi hpar hD F1 N1
  have hln : l.length = pre.length + rest.length := by rw [hpre, List.length_append]
  have hD2 : D.length ≤ 1000000 := by omega
  cases rest with
  | nil => 
    simp only [List.length_nil] at hln
    have hDl : D.cps.toList = parsed l := by rw [hpar]; simp [parsed]
    (repeat' (first | (k_unfold; (try dsimp only)) | walk1 | (dsimp only; walk1) | (leave1; try dsimp only) | fail "no step"))
    exact hret _ _ _ (by assumption) (by assumption) (by assumption) (isText_of hDl)
  | cons c r =>
    simp only [List.length_cons] at hln
    have hit : Txt.item x i = tx [c] := hit0 i pre c r hpre hi
    have hadd : (D ++ Txt.item x i).cps.toList = D.cps.toList ++ [c] := by rw [hit, Str.cps_append]; simp [tx]
    have hadl : (D ++ Txt.item x i).length = D.length + 1 := by rw [Str.length_append, hit]; rfl
    by_cases hc : c = 34
    · subst hc
      have hq1 : (Txt.item x i == Str.ofString "\"") = true := by rw [hit]; exact beq_iff_eq.mpr rfl
      cases r with
      | nil =>
        simp only [List.length_nil] at hln
        have hDl : D.cps.toList = parsed l := by rw [hpar]; simp [parsed]
        (repeat' (first | (k_unfold; (try dsimp only)) | walk1 | (dsimp only; walk1) | (leave1; try dsimp only) | fail "no step"))
        exact hret _ _ _ (by assumption) (by assumption) (by assumption) (isText_of hDl)
      | cons e r =>
        simp only [List.length_cons] at hln
        have hit2 : Txt.item x (i + 1) = tx [e] := hit0 (i + 1) (pre ++ [34]) e r (by rw [hpre]; simp) (by rw [List.length_append, hi]; show 5 + (pre.length : Int) + 1 = 5 + ((pre.length + 1 : Nat) : Int); omega)
        by_cases he : e = 34
        · subst he
          have hq2 : (Txt.item x (i + 1) == Str.ofString "\"") = !false := by rw [hit2]; exact beq_iff_eq.mpr rfl
          (repeat' (first | (k_unfold; (try dsimp only)) | walk1 | (dsimp only; walk1) | (leave1; try dsimp only) | fail "no step"))
          unfold StopHere
          refine ws_next (i + 1 + 1) (pre ++ [34, 34]) r (D ++ Txt.item x i) _ _ _ (by assumption) (by assumption) (by
            funext z
            by_cases h1 : z = Str.ofString "i"
            · subst h1; rfl
            · by_cases h2 : z = Str.ofString "dirname"
              · subst h2; rfl
              · by_cases h3 : z = Str.ofString "c"
                · subst h3; rfl
                · simp only [PM, if_neg h1, if_neg h2, if_neg h3]) ?_ ?_ ?_ ?_ ?_
          · rw [hpre]; simp
          · rw [List.length_append, hi]; show 5 + (pre.length : Int) + 1 + 1 = 5 + ((pre.length + 2 : Nat) : Int); omega
          · rw [hpar, hadd]; simp [parsed]
          · rw [hadl, List.length_append]; simp; omega
          · simp only [List.length_cons]; omega
        · have hq2 : (Txt.item x (i + 1) == Str.ofString "\"") = !true := by
            rw [hit2, show Str.ofString "\"" = tx [34] from rfl, tx_beq]
            simpa using he
          have hDl : D.cps.toList = parsed l := by rw [hpar]; simp [parsed, he]
          (repeat' (first | (k_unfold; (try dsimp only)) | walk1 | (dsimp only; walk1) | (leave1; try dsimp only) | fail "no step"))
          exact hret _ _ _ (by assumption) (by assumption) (by assumption) (isText_of hDl)
    · have hq1 : (Txt.item x i == Str.ofString "\"") = false := by
        rw [hit, show Str.ofString "\"" = tx [34] from rfl, tx_beq]
        simpa using hc
      (repeat' (first | (k_unfold; (try dsimp only)) | walk1 | (dsimp only; walk1) | (leave1; try dsimp only) | fail "no step"))
      unfold StopHere
      refine ws_next (i + 1) (pre ++ [c]) r (D ++ Txt.item x i) _ _ _ (by assumption) (by assumption) (by
        funext z
        by_cases h1 : z = Str.ofString "i"
        · subst h1; rfl
        · by_cases h2 : z = Str.ofString "dirname"
          · subst h2; rfl
          · by_cases h3 : z = Str.ofString "c"
            · subst h3; rfl
            · simp only [PM, if_neg h1, if_neg h2, if_neg h3]) ?_ ?_ ?_ ?_ ?_
      · rw [hpre]; simp
      · rw [List.length_append, hi]; show 5 + (pre.length : Int) + 1 = 5 + ((pre.length + 1 : Nat) : Int); omega
      · rw [hpar, hadd, parsed_plain hc]; simp
      · rw [hadl, List.length_append]; simp; omega
      · simp only [List.length_cons]; omega

theorem parse_is (w : World) (loose : List Str) (mean : ExcName → Option Value) (mg mb : Str → Option Value) (x : Str) (t : Tok) (l y : List Nat) (hxe : x = tx (ask ++ l)) (hy : parsed l = y) (hx : l.length ≤ 1000000) :
    Does PySem.Challenge.rw_wn0061_02.row.prog w (hd.heap_39 w.params) hd.view_39 loose mean mg mb 2 63 [.str x t] (IsText y) := by
  rw [← hy]
  exact parse_ok w loose mean mg mb x t l hxe hx
end Mine
end
section
open PySem PySem.W PyProof.Rows PySem.Calls PySem.Spec
namespace Mine
local macro_rules | `(tactic| walk_at "pad 0") => `(tactic| fail "pad")
local macro_rules | `(tactic| walk_at "pad 1") => `(tactic| fail "pad")
local macro_rules | `(tactic| walk_at "pad 2") => `(tactic| fail "pad")
local macro_rules | `(tactic| walk_at "pad 3") => `(tactic| fail "pad")
local macro_rules | `(tactic| walk_at "pad 4") => `(tactic| fail "pad")
local macro_rules | `(tactic| walk_at "pad 5") => `(tactic| fail "pad")
local macro_rules | `(tactic| walk_at "pad 6") => `(tactic| fail "pad")
local macro_rules | `(tactic| walk_at "getMethod ref") => `(tactic| (k_here; (with_reducible show wpAny _ _ (getMethod (Value.ref _) (PySem.Str.ofString "sub") _) _ _ _); k_dflt (refine' method_sub_K ?k1 ?k2 ?k3 ?_; (case k1 => k_asm); (case k2 => k_asm); (case k3 => k_is); k_whole)))
local macro_rules | `(tactic| walk_at "call builtin:re.Pattern.sub") => `(tactic| (k_here; k_dflt (refine' sub2_K ?k1 ?k2 ?k3 ?k4 ?k5 ?k6 ?k7 ?k8 ?k9 ?ka ?kb ?_; (case k1 => k_asm); (case k2 => k_asm); (case k3 => k_asm); (case k4 => k_is); (case k5 => exact rfl); (case k6 => k_is); (case k7 => decide +kernel); (case k8 => exact rfl); (case k9 => exact rfl); (case ka => decide +kernel); (case kb => first | assumption | omega); k_whole); intro h9 tk9 t9 F9 N9 z9))
local macro_rules | `(tactic| walk_at "call builtin:re.Pattern.sub") => `(tactic| (k_here; k_dflt (refine' sub1_K ?k1 ?k2 ?k3 ?k4 ?k5 ?k6 ?k7 ?k8 ?k9 ?ka ?kb ?_; (case k1 => k_asm); (case k2 => k_asm); (case k3 => k_asm); (case k4 => k_is); (case k5 => exact rfl); (case k6 => k_is); (case k7 => decide +kernel); (case k8 => exact rfl); (case k9 => exact rfl); (case ka => decide +kernel); (case kb => first | assumption | omega); k_whole); intro h9 tk9 t9 F9 N9))
local macro_rules | `(tactic| walk_at "execs nil") => `(tactic| (k_here; (with_reducible show wpAny _ _ _ _ _ ⟨_, _, _, _ + _, _⟩); (refine gen_tk (by first | assumption | omega) ?_); intro tk9 hTk9))
local macro_rules | `(tactic| walk_at "execs cons") => `(tactic| (k_here; (refine' execs_cons_tk ?h0 ?_; (case h0 => (try dsimp only); first | assumption | omega)); (try k_fold)))
local macro_rules | `(tactic| walk_at "execs cons") => `(tactic| (k_here; (with_reducible show wpAny _ _ _ _ _ ⟨_, _, _, _ + _, _⟩); (refine gen_tk (by first | assumption | omega) ?_); intro tk9 hTk9))
local macro_rules | `(tactic| walk_at "TkGo") => `(tactic| (intro hTk9; (try dsimp only at hTk9 ⊢)))
local macro_rules | `(tactic| walk_at "call builtin:str.replace") => `(tactic| (k_here; k_dflt (show wpAny _ _ (call (Value.builtin "str.replace") [Value.str _ _, Value.str _ _, Value.str _ _]) _ _ _); (refine' replace_tk ?k0 ?k1 ?k2 ?k3 ?k4 ?k5 ?k6 ?_; (case k0 => (try dsimp only); first | assumption | omega); (case k1 => omega); (case k2 => omega); (case k3 => omega); (case k4 => decide +kernel); (case k5 => first | assumption | exact size_of_spec (by assumption) (by omega)); (case k6 => decide +kernel); k_whole); intro t9 k9 hTk9))
local macro_rules | `(tactic| walk_at "EscPost") => `(tactic| first | exact escPost_yes (by assumption) (by assumption) (by first | assumption | omega) | exact escPost_no (by assumption) (by decide +kernel) (by assumption) (by assumption) (by first | assumption | omega) rfl)
local macro_rules | `(tactic| walk_at "exec If") => `(tactic| (k_here; (fail_if_success (have hM9 : EscMark := by assumption)); (with_reducible show wpAny _ _ (exec (Stmt.If (Expr.Compare (Expr.Constant (Const.str _) _ _) [CmpOp.In] [Expr.Name _ _] _) [Stmt.Assign [Expr.Name _ _] (Expr.Call _ _ _ _) _] [] _) _) _ _ _); (rename Fr _ _ _ _ => eF'); (rename News _ _ _ _ => eN'); (rename (spec _ ≤ _) => eB'); k_dflt (refine' esc_if eF' eN' ?km ?ka _ 491520 eB' ?ks ?k1 ?_; (case km => exact rfl); (case ka => decide +kernel); (case ks => first | exact ⟨1, by decide +kernel, by decide, by decide⟩ | exact ⟨5, by decide +kernel, by decide, by decide⟩); (case k1 => (intro hM9;  (repeat' (first | (k_unfold; (try dsimp only)) | walk1 | (dsimp only; walk1) | (leave1; try dsimp only) | fail "no step"))))); intro h9 tk9 t9 hTk9 hB9 F9 N9))
local macro_rules | `(tactic| walk_at "subscriptTail Name Slice str ref") => `(tactic| (k_here; (with_reducible show wpAny _ _ (subscriptTail _ (Expr.Slice none (some _) none _) _ _) _ _ _); (rename Fr _ _ _ _ => sF'); (rename News _ _ _ _ => sN'); (refine' slice_tk_ns (s := ⟨_, _, _, _, _⟩) ?h0 sF' sN' ?h1 ?_ ?hs ?ht; (case h0 => (try dsimp only); first | assumption | omega); (case h1 => first | omega | (simp only [len_one, Str.length_append]; omega)); (case hs => with_unfolding_all rfl); (case ht => intro _; with_unfolding_all rfl)); intro h9 t9 k9 hTk9 F9 N9))
local macro_rules | `(tactic| walk_at "subscriptTail Name Slice str ref") => `(tactic| (k_here; (with_reducible show wpAny _ _ (subscriptTail _ (Expr.Slice (some _) none none _) _ _) _ _ _); (rename Fr _ _ _ _ => sF'); (rename News _ _ _ _ => sN'); (refine' slice_tk_sn (s := ⟨_, _, _, _, _⟩) ?h0 sF' sN' ?h1 ?_ ?hs ?ht; (case h0 => (try dsimp only); first | assumption | omega); (case h1 => first | omega | (simp only [len_one, Str.length_append]; omega)); (case hs => with_unfolding_all rfl); (case ht => intro _; with_unfolding_all rfl)); intro h9 t9 k9 hTk9 F9 N9))
local macro_rules | `(tactic| walk_at "subscriptTail Name Slice str ref") => `(tactic| (k_here; (with_reducible show wpAny _ _ (subscriptTail _ (Expr.Slice (some _) (some _) none _) _ _) _ _ _); (rename Fr _ _ _ _ => sF'); (rename News _ _ _ _ => sN'); (refine' slice_tk_ss (s := ⟨_, _, _, _, _⟩) ?h0 sF' sN' ?h1 ?_ ?hs ?ht; (case h0 => (try dsimp only); first | assumption | omega); (case h1 => first | omega | (simp only [len_one, Str.length_append]; omega)); (case hs => with_unfolding_all rfl); (case ht => intro _; with_unfolding_all rfl)); intro h9 t9 k9 hTk9 F9 N9))

theorem quote_is (w : World) (loose : List Str) (mean : ExcName → Option Value) (mg mb : Str → Option Value) (x : Str) (t : Tok) (y : List Nat) (hy : quoted x.cps.toList = y) (hx : x.cps.size ≤ 2 ^ 21) :
    Does0 PySem.Challenge.rw_wn0061_02.row.prog w (hd.heap_39 w.params) hd.view_39 loose mean mg mb 2 80 [.str x t] (IsText y) := by
  k_fill
  w_top off
  subst hy
  unfold Does0
  intro dp un gd cn cs a ccd cl outer A₀ base h₀ L m news s Q E B F X N T hk hd hu hret
  refine wpAny_call ?_
  k_dflt ktr_enter
  (repeat' (first | (k_unfold; (try dsimp only)) | walk1 | (dsimp only; walk1) | (leave1; try dsimp only) | fail "no step"))
  exact hret _ _ _ (by assumption) (by assumption) ⟨_, rfl⟩
end Mine
end
section
open PySem PySem.W PyProof.Rows PySem.Calls PySem.Spec
namespace Mine
local macro_rules | `(tactic| walk_at "getMethod ref") => `(tactic| (k_here; (with_reducible show wpAny _ _ (getMethod (Value.ref _) (PySem.Str.ofString "sub") _) _ _ _); k_dflt (refine' method_sub_K ?k1 ?k2 ?k3 ?_; (case k1 => k_asm); (case k2 => k_asm); (case k3 => k_is); k_whole)))
local macro_rules | `(tactic| walk_at "call builtin:re.Pattern.sub") => `(tactic| (k_here; k_dflt (refine' sub2_K ?k1 ?k2 ?k3 ?k4 ?k5 ?k6 ?k7 ?k8 ?k9 ?ka ?kb ?_; (case k1 => k_asm); (case k2 => k_asm); (case k3 => k_asm); (case k4 => k_is); (case k5 => exact rfl); (case k6 => k_is); (case k7 => decide +kernel); (case k8 => exact rfl); (case k9 => exact rfl); (case ka => decide +kernel); (case kb => first | assumption | omega); k_whole); intro h9 tk9 t9 F9 N9 z9))
local macro_rules | `(tactic| walk_at "call builtin:re.Pattern.sub") => `(tactic| (k_here; k_dflt (refine' sub1_K ?k1 ?k2 ?k3 ?k4 ?k5 ?k6 ?k7 ?k8 ?k9 ?ka ?kb ?_; (case k1 => k_asm); (case k2 => k_asm); (case k3 => k_asm); (case k4 => k_is); (case k5 => exact rfl); (case k6 => k_is); (case k7 => decide +kernel); (case k8 => exact rfl); (case k9 => exact rfl); (case ka => decide +kernel); (case kb => first | assumption | omega); k_whole); intro h9 tk9 t9 F9 N9))
local macro_rules | `(tactic| walk_at "execs nil") => `(tactic| (k_here; (with_reducible show wpAny _ _ _ _ _ ⟨_, _, _, _ + _, _⟩); (refine gen_tk (by first | assumption | omega) ?_); intro tk9 hTk9))
local macro_rules | `(tactic| walk_at "execs cons") => `(tactic| (k_here; (refine' execs_cons_tk ?h0 ?_; (case h0 => (try dsimp only); first | assumption | omega)); (try k_fold)))
local macro_rules | `(tactic| walk_at "execs cons") => `(tactic| (k_here; (with_reducible show wpAny _ _ _ _ _ ⟨_, _, _, _ + _, _⟩); (refine gen_tk (by first | assumption | omega) ?_); intro tk9 hTk9))
local macro_rules | `(tactic| walk_at "TkGo") => `(tactic| (intro hTk9; (try dsimp only at hTk9 ⊢)))
local macro_rules | `(tactic| walk_at "call builtin:str.replace") => `(tactic| (k_here; k_dflt (show wpAny _ _ (call (Value.builtin "str.replace") [Value.str _ _, Value.str _ _, Value.str _ _]) _ _ _); (refine' replace_tk ?k0 ?k1 ?k2 ?k3 ?k4 ?k5 ?k6 ?_; (case k0 => (try dsimp only); first | assumption | omega); (case k1 => omega); (case k2 => omega); (case k3 => omega); (case k4 => decide +kernel); (case k5 => first | assumption | exact size_of_spec (by assumption) (by omega)); (case k6 => decide +kernel); k_whole); intro t9 k9 hTk9))
local macro_rules | `(tactic| walk_at "EscPost") => `(tactic| first | exact escPost_yes (by assumption) (by assumption) (by first | assumption | omega) | exact escPost_no (by assumption) (by decide +kernel) (by assumption) (by assumption) (by first | assumption | omega) rfl)
local macro_rules | `(tactic| walk_at "exec If") => `(tactic| (k_here; (fail_if_success (have hM9 : EscMark := by assumption)); (with_reducible show wpAny _ _ (exec (Stmt.If (Expr.Compare (Expr.Constant (Const.str _) _ _) [CmpOp.In] [Expr.Name _ _] _) [Stmt.Assign [Expr.Name _ _] (Expr.Call _ _ _ _) _] [] _) _) _ _ _); (rename Fr _ _ _ _ => eF'); (rename News _ _ _ _ => eN'); (rename (spec _ ≤ _) => eB'); k_dflt (refine' esc_if eF' eN' ?km ?ka _ 491520 eB' ?ks ?k1 ?_; (case km => exact rfl); (case ka => decide +kernel); (case ks => first | exact ⟨1, by decide +kernel, by decide, by decide⟩ | exact ⟨5, by decide +kernel, by decide, by decide⟩); (case k1 => (intro hM9;  (repeat' (first | (k_unfold; (try dsimp only)) | walk1 | (dsimp only; walk1) | (leave1; try dsimp only) | fail "no step"))))); intro h9 tk9 t9 hTk9 hB9 F9 N9))
local macro_rules | `(tactic| walk_at "subscriptTail Name Slice str ref") => `(tactic| (k_here; (with_reducible show wpAny _ _ (subscriptTail _ (Expr.Slice none (some _) none _) _ _) _ _ _); (rename Fr _ _ _ _ => sF'); (rename News _ _ _ _ => sN'); (refine' slice_tk_ns (s := ⟨_, _, _, _, _⟩) ?h0 sF' sN' ?h1 ?_ ?hs ?ht; (case h0 => (try dsimp only); first | assumption | omega); (case h1 => first | omega | (simp only [len_one, Str.length_append]; omega)); (case hs => with_unfolding_all rfl); (case ht => intro _; with_unfolding_all rfl)); intro h9 t9 k9 hTk9 F9 N9))
local macro_rules | `(tactic| walk_at "subscriptTail Name Slice str ref") => `(tactic| (k_here; (with_reducible show wpAny _ _ (subscriptTail _ (Expr.Slice (some _) none none _) _ _) _ _ _); (rename Fr _ _ _ _ => sF'); (rename News _ _ _ _ => sN'); (refine' slice_tk_sn (s := ⟨_, _, _, _, _⟩) ?h0 sF' sN' ?h1 ?_ ?hs ?ht; (case h0 => (try dsimp only); first | assumption | omega); (case h1 => first | omega | (simp only [len_one, Str.length_append]; omega)); (case hs => with_unfolding_all rfl); (case ht => intro _; with_unfolding_all rfl)); intro h9 t9 k9 hTk9 F9 N9))
local macro_rules | `(tactic| walk_at "subscriptTail Name Slice str ref") => `(tactic| (k_here; (with_reducible show wpAny _ _ (subscriptTail _ (Expr.Slice (some _) (some _) none _) _ _) _ _ _); (rename Fr _ _ _ _ => sF'); (rename News _ _ _ _ => sN'); (refine' slice_tk_ss (s := ⟨_, _, _, _, _⟩) ?h0 sF' sN' ?h1 ?_ ?hs ?ht; (case h0 => (try dsimp only); first | assumption | omega); (case h1 => first | omega | (simp only [len_one, Str.length_append]; omega)); (case hs => with_unfolding_all rfl); (case ht => intro _; with_unfolding_all rfl)); intro h9 t9 k9 hTk9 F9 N9))
local macro_rules | `(tactic| walk_at "UnrEnd") => `(tactic| (k_here; (rename News _ _ _ (_ :: _) => uN'); k_dflt (refine' UnrEnd.intro ?f uN' _ (fun _ h => h) (fun p hp => Nat.ne_of_lt (ktn_ltOf ?a p hp)) ?_; (case f => assumption); (case a => assumption))))
def wd (m : Nat) : List Nat := List.replicate m 34 ++ 97 :: (List.replicate m 34 ++ [33])
def v2f : Nat → Nat → Nat
  | 0, _ => 0
  | f + 1, m => if m % 2 = 1 then 0 else 1 + v2f f (m / 2)
theorem wd_even : ∀ m, m < 23 → m % 2 = 0 → parsed (wd m) = wd (m / 2) := by decide +kernel
theorem wd_odd : ∀ m, m < 23 → m % 2 = 1 → parsed (wd m) = List.replicate (m / 2) 34 := by decide +kernel
theorem wd_len : ∀ m, m < 23 → (wd m).length ≤ 100 := by decide +kernel
theorem wd_end : ∀ m, m < 23 → (Txt.slice (tx (wd m)) (some (-1)) none == Str.ofString "!") = !false := by decide +kernel
theorem qs_end : ∀ m, m < 23 → (Txt.slice (tx (List.replicate m 34)) (some (-1)) none == Str.ofString "!") = !true := by decide +kernel
def GJ (V : Nat) (i : Nat) (m : Str → Option Value) : Prop :=
  ∃ (rd : Str) (t : Tok) (c : Nat) (u : Str → Option Value), rd = tx (wd c) ∧ c < 23 ∧ i + v2f (10 - i) c = V ∧ m = fun y => if y = Str.ofString "read" then some (.str rd t) else u y
theorem GJ_of {V i c : Nat} {m : Str → Option Value} {rd : Str} {t : Tok} (h1 : m (Str.ofString "read") = some (.str rd t)) (hr : rd = tx (wd c)) (hc : c < 23) (hv : i + v2f (10 - i) c = V) : GJ V i m := by
  refine ⟨rd, t, c, m, hr, hc, hv, ?_⟩
  funext y
  split
  · rename_i h; rw [h, h1]
  · rfl
local macro_rules | `(tactic| walk_at "call ref") => `(tactic| (k_here; (rename (_ = tx (ask ++ _)) => eX'); (rename (parsed _ = _) => eY'); k_dflt (refine' does_use (parse_is _ _ _ _ _ _ _ _ _ eX' eY' ?hx) ?k1 ?k2 ?k3 ?k4 ?k5 ?kK ?kd ?ku ?k0 ?_; (case k1 => k_asm); (case k2 => k_asm); (case k3 => k_asm); (case k4 => k_asm); (case k5 => k_asm); (case kK => first | exact rfl | assumption); (case hx => omega); (case kd => ktr_room); (case ku => ktr_units); (case k0 => (try dsimp only); first | assumption | omega); k_whole); intro r9 h9 tk9 O9 F9 N9 hTk9; (obtain ⟨t9, e9⟩ := O9); subst e9; (try dsimp only)))
local macro_rules | `(tactic| walk_at "compareOp Eq str str") => `(tactic| (k_here; (refine eq_known (by assumption) ?_)))
local macro_rules | `(tactic| walk_at "compareOp NotEq str str") => `(tactic| (k_here; (refine ne_known (by assumption) ?_)))
local macro_rules | `(tactic| walk_at "binaryOp Add str str") => `(tactic| (k_here; (refine' add_plain ?h1 ?_; (case h1 => first | omega | (simp only [len_one, Str.length_append]; omega))); intro t9 k9))
local macro_rules | `(tactic| walk_at "binaryOp Add str str") => `(tactic| (k_here; (refine' add_tk ?h0 ?h1 ?_; (case h0 => (try dsimp only); first | assumption | omega); (case h1 => first | omega | (simp only [len_one, Str.length_append]; omega))); intro t9 k9 hTk9))
local macro_rules | `(tactic| walk_at "execs cons") => `(tactic| (k_here; (fail_if_success (have hM9 : EscMark := by assumption)); refine stop_here ?_))
local macro_rules | `(tactic| walk_at "exec For Name Call cons nil") => `(tactic| (k_here; refine stop_here ?_))
local macro_rules | `(tactic| walk_at "pyIter ref") => `(tactic| (k_here; refine stop_here ?_))
local macro_rules | `(tactic| walk_at "LoopR") => `(tactic| (refine stop_here ?_))

theorem gone_ok (w : World) (loose : List Str) (mean : ExcName → Option Value) (mg mb : Str → Option Value) (x : Str) (t : Tok) (M : Nat) (hxe : x = tx (wd M)) (hM : M < 23) :
    Does PySem.Challenge.rw_wn0061_02.row.prog w (hd.heap_39 w.params) hd.view_39 loose mean mg mb 4 157 [.str x t] (fun v => ∃ t, v = .int ((v2f 10 M : Nat) : Int) t) := by
  k_fill
  w_top off
  unfold Does
  intro dp un gd cn cs a ccd cl outer A₀ base h₀ L m news s Q E B F X N T hk hd hu h0 hret
  refine with_toks h0 ?_
  refine wpAny_call ?_
  k_dflt ktr_enter
  (repeat' (first | (k_unfold; (try dsimp only)) | walk1 | (dsimp only; walk1) | (leave1; try dsimp only) | fail "no step"))
  (unfold StopHere; (try (refine gen_tk (by first | assumption | omega) ?_; intro tk9 hTk9)); refine' execs_cons_tk ?h0 ?_; (case h0 => (try dsimp only); first | assumption | omega); (try k_fold);  (repeat' (first | (k_unfold; (try dsimp only)) | walk1 | (dsimp only; walk1) | (leave1; try dsimp only) | fail "no step")))
  ((unfold StopHere; (try (refine gen_tk (by first | assumption | omega) ?_; intro tk9 hTk9)); refine' execs_cons_tk ?h0 ?_; (case h0 => (try dsimp only); first | assumption | omega); (try k_fold);  (repeat' (first | (k_unfold; (try dsimp only)) | walk1 | (dsimp only; walk1) | (leave1; try dsimp only) | fail "no step"))); unfold StopHere; refine wpAny_For ?_ (by intro _; rfl); refine with_toks (by first | assumption | omega) ?_;  (repeat' (first | (k_unfold; (try dsimp only)) | walk1 | (dsimp only; walk1) | (leave1; try dsimp only) | fail "no step")))
  unfold StopHere
  (rename Fr _ _ _ _ => F1)
  refine for_rangeR (n := 10) (GJ (v2f 10 M)) (by assumption) (by decide) (by decide) F1 (by assumption) (by first | assumption | omega) (GJ_of rfl hxe hM (by rw [Nat.zero_add])) (by first | rfl | assumption) (by rfl) (by rfl) ?step ?done
  case step =>
    intro i ti h tk m' I it hi hTk hJ hI F2 N2
    have hMark : EscMark := ⟨⟩
    obtain ⟨rd, t1, c, u, hrd, hc, hV, hm⟩ := hJ
    subst hm
    have hX : Str.ofString "257 \"" ++ rd = tx (ask ++ wd c) := by rw [hrd, show Str.ofString "257 \"" = tx ask from rfl, tx_append]
    have hl : rd.length ≤ 100 := by rw [hrd, tx_length]; exact wd_len c hc
    have hl2 := wd_len c hc
    have hc1 : (Str.ofString "257 \"").length = 5 := rfl
    obtain ⟨y, hy⟩ : ∃ y, parsed (wd c) = y := ⟨_, rfl⟩
    rcases Nat.mod_two_eq_zero_or_one c with hp | hp
    · have hy2 : y = wd (c / 2) := by rw [← hy, wd_even c hc hp]
      have hyl : (tx y).length ≤ 100 := by rw [hy2, tx_length]; exact wd_len _ (by omega)
      have he : (Txt.slice (tx y) (some (-1)) none == Str.ofString "!") = !false := by rw [hy2]; exact wd_end _ (by omega)
      have hv : i + 1 + v2f (10 - (i + 1)) (c / 2) = v2f 10 M := by
        rw [← hV, show 10 - i = (10 - (i + 1)) + 1 by omega]
        show _ = i + (if c % 2 = 1 then 0 else 1 + v2f (10 - (i + 1)) (c / 2))
        rw [if_neg (by omega)]
        omega
      clear hrd
      (repeat' (first | (k_unfold; (try dsimp only)) | walk1 | (dsimp only; walk1) | (leave1; try dsimp only) | fail "no step"))
      unfold StopHere
      (rename Fr _ _ _ _ => F5)
      exact ⟨rfl, _, _, _, rfl, by assumption, F5, (by first | assumption | exact news_tail (by assumption) | exact news_tail (news_tail (by assumption)) | exact news_tail (news_tail (news_tail (by assumption))) | exact news_tail (news_tail (news_tail (news_tail (by assumption)))) | exact news_tail (news_tail (news_tail (news_tail (news_tail (by assumption))))) | exact news_tail (news_tail (news_tail (news_tail (news_tail (news_tail (by assumption))))))) , GJ_of (c := c / 2) rfl (by rw [hy2]) (by omega) hv⟩
    · have hy2 : y = List.replicate (c / 2) 34 := by rw [← hy, wd_odd c hc hp]
      have hyl : (tx y).length ≤ 100 := by rw [hy2, tx_length, List.length_replicate]; omega
      have he : (Txt.slice (tx y) (some (-1)) none == Str.ofString "!") = !true := by rw [hy2]; exact qs_end _ (by omega)
      have hv : v2f 10 M = i := by
        rw [← hV, show 10 - i = (10 - (i + 1)) + 1 by omega]
        show i + (if c % 2 = 1 then 0 else 1 + v2f (10 - (i + 1)) (c / 2)) = i
        rw [if_pos hp]
        omega
      clear hrd
      (repeat' (first | (k_unfold; (try dsimp only)) | walk1 | (dsimp only; walk1) | (leave1; try dsimp only) | fail "no step"))
      unfold StopHere LoopR
      (repeat' (first | (k_unfold; (try dsimp only)) | walk1 | (dsimp only; walk1) | (leave1; try dsimp only) | fail "no step"))
      exact hret _ _ _ (by assumption) (by first | assumption | exact news_tail (by assumption) | exact news_tail (news_tail (by assumption)) | exact news_tail (news_tail (news_tail (by assumption))) | exact news_tail (news_tail (news_tail (news_tail (by assumption)))) | exact news_tail (news_tail (news_tail (news_tail (news_tail (by assumption))))) | exact news_tail (news_tail (news_tail (news_tail (news_tail (news_tail (by assumption))))))) (by omega) ⟨_, by rw [hv, Int.zero_add]⟩
  case done =>
    intro h tk m' hTk hJ F2 N2
    obtain ⟨rd, t1, c, u, hrd, hc, hV, hm⟩ := hJ
    subst hm
    have hv : v2f 10 M = 10 := by rw [← hV]; rfl
    (repeat' (first | (k_unfold; (try dsimp only)) | walk1 | (dsimp only; walk1) | (leave1; try dsimp only) | fail "no step"))
    (unfold StopHere; (try (refine gen_tk (by first | assumption | omega) ?_; intro tk9 hTk9)); refine' execs_cons_tk ?h0 ?_; (case h0 => (try dsimp only); first | assumption | omega); (try k_fold);  (repeat' (first | (k_unfold; (try dsimp only)) | walk1 | (dsimp only; walk1) | (leave1; try dsimp only) | fail "no step")))
    exact hret _ _ _ (by assumption) (by first | assumption | exact news_tail (by assumption) | exact news_tail (news_tail (by assumption)) | exact news_tail (news_tail (news_tail (by assumption))) | exact news_tail (news_tail (news_tail (news_tail (by assumption)))) | exact news_tail (news_tail (news_tail (news_tail (news_tail (by assumption))))) | exact news_tail (news_tail (news_tail (news_tail (news_tail (news_tail (by assumption))))))) (by omega) ⟨_, by rw [hv]; rfl⟩
end Mine
end
section
open PySem PySem.W PyProof.Rows PySem.Calls PySem.Spec
namespace Mine
local macro_rules | `(tactic| walk_at "pad 0") => `(tactic| fail "pad")
local macro_rules | `(tactic| walk_at "pad 1") => `(tactic| fail "pad")
local macro_rules | `(tactic| walk_at "pad 2") => `(tactic| fail "pad")
local macro_rules | `(tactic| walk_at "pad 3") => `(tactic| fail "pad")
local macro_rules | `(tactic| walk_at "pad 4") => `(tactic| fail "pad")
local macro_rules | `(tactic| walk_at "pad 5") => `(tactic| fail "pad")
local macro_rules | `(tactic| walk_at "getMethod ref") => `(tactic| (k_here; (with_reducible show wpAny _ _ (getMethod (Value.ref _) (PySem.Str.ofString "sub") _) _ _ _); k_dflt (refine' method_sub_K ?k1 ?k2 ?k3 ?_; (case k1 => k_asm); (case k2 => k_asm); (case k3 => k_is); k_whole)))
local macro_rules | `(tactic| walk_at "call builtin:re.Pattern.sub") => `(tactic| (k_here; k_dflt (refine' sub2_K ?k1 ?k2 ?k3 ?k4 ?k5 ?k6 ?k7 ?k8 ?k9 ?ka ?kb ?_; (case k1 => k_asm); (case k2 => k_asm); (case k3 => k_asm); (case k4 => k_is); (case k5 => exact rfl); (case k6 => k_is); (case k7 => decide +kernel); (case k8 => exact rfl); (case k9 => exact rfl); (case ka => decide +kernel); (case kb => first | assumption | omega); k_whole); intro h9 tk9 t9 F9 N9 z9))
local macro_rules | `(tactic| walk_at "call builtin:re.Pattern.sub") => `(tactic| (k_here; k_dflt (refine' sub1_K ?k1 ?k2 ?k3 ?k4 ?k5 ?k6 ?k7 ?k8 ?k9 ?ka ?kb ?_; (case k1 => k_asm); (case k2 => k_asm); (case k3 => k_asm); (case k4 => k_is); (case k5 => exact rfl); (case k6 => k_is); (case k7 => decide +kernel); (case k8 => exact rfl); (case k9 => exact rfl); (case ka => decide +kernel); (case kb => first | assumption | omega); k_whole); intro h9 tk9 t9 F9 N9))
local macro_rules | `(tactic| walk_at "execs nil") => `(tactic| (k_here; (with_reducible show wpAny _ _ _ _ _ ⟨_, _, _, _ + _, _⟩); (refine gen_tk (by first | assumption | omega) ?_); intro tk9 hTk9))
local macro_rules | `(tactic| walk_at "execs cons") => `(tactic| (k_here; (refine' execs_cons_tk ?h0 ?_; (case h0 => (try dsimp only); first | assumption | omega)); (try k_fold)))
local macro_rules | `(tactic| walk_at "execs cons") => `(tactic| (k_here; (with_reducible show wpAny _ _ _ _ _ ⟨_, _, _, _ + _, _⟩); (refine gen_tk (by first | assumption | omega) ?_); intro tk9 hTk9))
local macro_rules | `(tactic| walk_at "TkGo") => `(tactic| (intro hTk9; (try dsimp only at hTk9 ⊢)))
local macro_rules | `(tactic| walk_at "call builtin:str.replace") => `(tactic| (k_here; k_dflt (show wpAny _ _ (call (Value.builtin "str.replace") [Value.str _ _, Value.str _ _, Value.str _ _]) _ _ _); (refine' replace_tk ?k0 ?k1 ?k2 ?k3 ?k4 ?k5 ?k6 ?_; (case k0 => (try dsimp only); first | assumption | omega); (case k1 => omega); (case k2 => omega); (case k3 => omega); (case k4 => decide +kernel); (case k5 => first | assumption | exact size_of_spec (by assumption) (by omega)); (case k6 => decide +kernel); k_whole); intro t9 k9 hTk9))
local macro_rules | `(tactic| walk_at "EscPost") => `(tactic| first | exact escPost_yes (by assumption) (by assumption) (by first | assumption | omega) | exact escPost_no (by assumption) (by decide +kernel) (by assumption) (by assumption) (by first | assumption | omega) rfl)
local macro_rules | `(tactic| walk_at "exec If") => `(tactic| (k_here; (fail_if_success (have hM9 : EscMark := by assumption)); (with_reducible show wpAny _ _ (exec (Stmt.If (Expr.Compare (Expr.Constant (Const.str _) _ _) [CmpOp.In] [Expr.Name _ _] _) [Stmt.Assign [Expr.Name _ _] (Expr.Call _ _ _ _) _] [] _) _) _ _ _); (rename Fr _ _ _ _ => eF'); (rename News _ _ _ _ => eN'); (rename (spec _ ≤ _) => eB'); k_dflt (refine' esc_if eF' eN' ?km ?ka _ 491520 eB' ?ks ?k1 ?_; (case km => exact rfl); (case ka => decide +kernel); (case ks => first | exact ⟨1, by decide +kernel, by decide, by decide⟩ | exact ⟨5, by decide +kernel, by decide, by decide⟩); (case k1 => (intro hM9;  (repeat' (first | (k_unfold; (try dsimp only)) | walk1 | (dsimp only; walk1) | (leave1; try dsimp only) | fail "no step"))))); intro h9 tk9 t9 hTk9 hB9 F9 N9))
local macro_rules | `(tactic| walk_at "subscriptTail Name Slice str ref") => `(tactic| (k_here; (with_reducible show wpAny _ _ (subscriptTail _ (Expr.Slice none (some _) none _) _ _) _ _ _); (rename Fr _ _ _ _ => sF'); (rename News _ _ _ _ => sN'); (refine' slice_tk_ns (s := ⟨_, _, _, _, _⟩) ?h0 sF' sN' ?h1 ?_ ?hs ?ht; (case h0 => (try dsimp only); first | assumption | omega); (case h1 => first | omega | (simp only [len_one, Str.length_append]; omega)); (case hs => with_unfolding_all rfl); (case ht => intro _; with_unfolding_all rfl)); intro h9 t9 k9 hTk9 F9 N9))
local macro_rules | `(tactic| walk_at "subscriptTail Name Slice str ref") => `(tactic| (k_here; (with_reducible show wpAny _ _ (subscriptTail _ (Expr.Slice (some _) none none _) _ _) _ _ _); (rename Fr _ _ _ _ => sF'); (rename News _ _ _ _ => sN'); (refine' slice_tk_sn (s := ⟨_, _, _, _, _⟩) ?h0 sF' sN' ?h1 ?_ ?hs ?ht; (case h0 => (try dsimp only); first | assumption | omega); (case h1 => first | omega | (simp only [len_one, Str.length_append]; omega)); (case hs => with_unfolding_all rfl); (case ht => intro _; with_unfolding_all rfl)); intro h9 t9 k9 hTk9 F9 N9))
local macro_rules | `(tactic| walk_at "subscriptTail Name Slice str ref") => `(tactic| (k_here; (with_reducible show wpAny _ _ (subscriptTail _ (Expr.Slice (some _) (some _) none _) _ _) _ _ _); (rename Fr _ _ _ _ => sF'); (rename News _ _ _ _ => sN'); (refine' slice_tk_ss (s := ⟨_, _, _, _, _⟩) ?h0 sF' sN' ?h1 ?_ ?hs ?ht; (case h0 => (try dsimp only); first | assumption | omega); (case h1 => first | omega | (simp only [len_one, Str.length_append]; omega)); (case hs => with_unfolding_all rfl); (case ht => intro _; with_unfolding_all rfl)); intro h9 t9 k9 hTk9 F9 N9))
local macro_rules | `(tactic| walk_at "UnrEnd") => `(tactic| (k_here; (rename News _ _ _ (_ :: _) => uN'); k_dflt (refine' UnrEnd.intro ?f uN' _ (fun _ h => h) (fun p hp => Nat.ne_of_lt (ktn_ltOf ?a p hp)) ?_; (case f => assumption); (case a => assumption))))
local macro_rules | `(tactic| walk_at "compareOp Eq str str") => `(tactic| (k_here; (refine eq_known (by assumption) ?_)))
local macro_rules | `(tactic| walk_at "compareOp NotEq str str") => `(tactic| (k_here; (refine ne_known (by assumption) ?_)))
local macro_rules | `(tactic| walk_at "binaryOp Add str str") => `(tactic| (k_here; (refine' add_plain ?h1 ?_; (case h1 => first | omega | (simp only [len_one, Str.length_append]; omega))); intro t9 k9))
local macro_rules | `(tactic| walk_at "binaryOp Add str str") => `(tactic| (k_here; (refine' add_tk ?h0 ?h1 ?_; (case h0 => (try dsimp only); first | assumption | omega); (case h1 => first | omega | (simp only [len_one, Str.length_append]; omega))); intro t9 k9 hTk9))

theorem off_ok (w : World) (loose : List Str) (mean : ExcName → Option Value) (mg mb : Str → Option Value) (wr nm : Str) (t t2 : Tok) (l z : List Nat) (hw : wr = tx (l ++ z)) (hz : nm = tx z) (h1 : 1 ≤ z.length) (hl : l.length + z.length ≤ 1000) :
    Does PySem.Challenge.rw_wn0061_02.row.prog w (hd.heap_39 w.params) hd.view_39 loose mean mg mb 2 136 [.str wr t, .str nm t2] (IsText l) := by
  k_fill
  w_top off
  unfold Does
  intro dp un gd cn cs a ccd cl outer A₀ base h₀ L m news s Q E B F X N T hk hd hu h0 hret
  refine with_toks h0 ?_
  refine wpAny_call ?_
  have hn : nm.length = z.length := by rw [hz, tx_length]
  have hwl : wr.length ≤ 1000 := by rw [hw, tx_length, List.length_append]; exact hl
  have e1 : (Txt.slice wr (some (-((nm.length : Nat) : Int))) none == nm) = !false := by
    rw [hn, hw, cut_tail l z _ rfl h1, hz]
    simp
  have e2 : Txt.slice wr none (some (-((nm.length : Nat) : Int))) = tx l := by
    rw [hn, hw]
    exact cut_init l z _ rfl h1
  have hnl : nm.length ≤ 1000 := by omega
  clear hw hz hl hn
  k_dflt ktr_enter
  (repeat' (first | (k_unfold; (try dsimp only)) | walk1 | (dsimp only; walk1) | (leave1; try dsimp only) | fail "no step"))
  exact hret _ _ _ (by assumption) (by first | assumption | exact news_tail (by assumption) | exact news_tail (news_tail (by assumption)) | exact news_tail (news_tail (news_tail (by assumption))) | exact news_tail (news_tail (news_tail (news_tail (by assumption)))) | exact news_tail (news_tail (news_tail (news_tail (news_tail (by assumption))))) | exact news_tail (news_tail (news_tail (news_tail (news_tail (news_tail (by assumption))))))) (by omega) ⟨_, by rw [e2]⟩
end Mine
end
section
open PySem PySem.W PyProof.Rows PySem.Calls PySem.Spec
namespace Mine
local macro_rules | `(tactic| walk_at "pad 0") => `(tactic| fail "pad")
local macro_rules | `(tactic| walk_at "pad 1") => `(tactic| fail "pad")
local macro_rules | `(tactic| walk_at "pad 2") => `(tactic| fail "pad")
local macro_rules | `(tactic| walk_at "pad 3") => `(tactic| fail "pad")
local macro_rules | `(tactic| walk_at "pad 4") => `(tactic| fail "pad")
local macro_rules | `(tactic| walk_at "pad 5") => `(tactic| fail "pad")
local macro_rules | `(tactic| walk_at "pad 6") => `(tactic| fail "pad")
local macro_rules | `(tactic| walk_at "getMethod ref") => `(tactic| (k_here; (with_reducible show wpAny _ _ (getMethod (Value.ref _) (PySem.Str.ofString "sub") _) _ _ _); k_dflt (refine' method_sub_K ?k1 ?k2 ?k3 ?_; (case k1 => k_asm); (case k2 => k_asm); (case k3 => k_is); k_whole)))
local macro_rules | `(tactic| walk_at "call builtin:re.Pattern.sub") => `(tactic| (k_here; k_dflt (refine' sub2_K ?k1 ?k2 ?k3 ?k4 ?k5 ?k6 ?k7 ?k8 ?k9 ?ka ?kb ?_; (case k1 => k_asm); (case k2 => k_asm); (case k3 => k_asm); (case k4 => k_is); (case k5 => exact rfl); (case k6 => k_is); (case k7 => decide +kernel); (case k8 => exact rfl); (case k9 => exact rfl); (case ka => decide +kernel); (case kb => first | assumption | omega); k_whole); intro h9 tk9 t9 F9 N9 z9))
local macro_rules | `(tactic| walk_at "call builtin:re.Pattern.sub") => `(tactic| (k_here; k_dflt (refine' sub1_K ?k1 ?k2 ?k3 ?k4 ?k5 ?k6 ?k7 ?k8 ?k9 ?ka ?kb ?_; (case k1 => k_asm); (case k2 => k_asm); (case k3 => k_asm); (case k4 => k_is); (case k5 => exact rfl); (case k6 => k_is); (case k7 => decide +kernel); (case k8 => exact rfl); (case k9 => exact rfl); (case ka => decide +kernel); (case kb => first | assumption | omega); k_whole); intro h9 tk9 t9 F9 N9))
local macro_rules | `(tactic| walk_at "execs nil") => `(tactic| (k_here; (with_reducible show wpAny _ _ _ _ _ ⟨_, _, _, _ + _, _⟩); (refine gen_tk (by first | assumption | omega) ?_); intro tk9 hTk9))
local macro_rules | `(tactic| walk_at "execs cons") => `(tactic| (k_here; (refine' execs_cons_tk ?h0 ?_; (case h0 => (try dsimp only); first | assumption | omega)); (try k_fold)))
local macro_rules | `(tactic| walk_at "execs cons") => `(tactic| (k_here; (with_reducible show wpAny _ _ _ _ _ ⟨_, _, _, _ + _, _⟩); (refine gen_tk (by first | assumption | omega) ?_); intro tk9 hTk9))
local macro_rules | `(tactic| walk_at "TkGo") => `(tactic| (intro hTk9; (try dsimp only at hTk9 ⊢)))
local macro_rules | `(tactic| walk_at "call builtin:str.replace") => `(tactic| (k_here; k_dflt (show wpAny _ _ (call (Value.builtin "str.replace") [Value.str _ _, Value.str _ _, Value.str _ _]) _ _ _); (refine' replace_tk ?k0 ?k1 ?k2 ?k3 ?k4 ?k5 ?k6 ?_; (case k0 => (try dsimp only); first | assumption | omega); (case k1 => omega); (case k2 => omega); (case k3 => omega); (case k4 => decide +kernel); (case k5 => first | assumption | exact size_of_spec (by assumption) (by omega)); (case k6 => decide +kernel); k_whole); intro t9 k9 hTk9))
local macro_rules | `(tactic| walk_at "EscPost") => `(tactic| first | exact escPost_yes (by assumption) (by assumption) (by first | assumption | omega) | exact escPost_no (by assumption) (by decide +kernel) (by assumption) (by assumption) (by first | assumption | omega) rfl)
local macro_rules | `(tactic| walk_at "exec If") => `(tactic| (k_here; (fail_if_success (have hM9 : EscMark := by assumption)); (with_reducible show wpAny _ _ (exec (Stmt.If (Expr.Compare (Expr.Constant (Const.str _) _ _) [CmpOp.In] [Expr.Name _ _] _) [Stmt.Assign [Expr.Name _ _] (Expr.Call _ _ _ _) _] [] _) _) _ _ _); (rename Fr _ _ _ _ => eF'); (rename News _ _ _ _ => eN'); (rename (spec _ ≤ _) => eB'); k_dflt (refine' esc_if eF' eN' ?km ?ka _ 491520 eB' ?ks ?k1 ?_; (case km => exact rfl); (case ka => decide +kernel); (case ks => first | exact ⟨1, by decide +kernel, by decide, by decide⟩ | exact ⟨5, by decide +kernel, by decide, by decide⟩); (case k1 => (intro hM9;  (repeat' (first | (k_unfold; (try dsimp only)) | walk1 | (dsimp only; walk1) | (leave1; try dsimp only) | fail "no step"))))); intro h9 tk9 t9 hTk9 hB9 F9 N9))
local macro_rules | `(tactic| walk_at "subscriptTail Name Slice str ref") => `(tactic| (k_here; (with_reducible show wpAny _ _ (subscriptTail _ (Expr.Slice none (some _) none _) _ _) _ _ _); (rename Fr _ _ _ _ => sF'); (rename News _ _ _ _ => sN'); (refine' slice_tk_ns (s := ⟨_, _, _, _, _⟩) ?h0 sF' sN' ?h1 ?_ ?hs ?ht; (case h0 => (try dsimp only); first | assumption | omega); (case h1 => first | omega | (simp only [len_one, Str.length_append]; omega)); (case hs => with_unfolding_all rfl); (case ht => intro _; with_unfolding_all rfl)); intro h9 t9 k9 hTk9 F9 N9))
local macro_rules | `(tactic| walk_at "subscriptTail Name Slice str ref") => `(tactic| (k_here; (with_reducible show wpAny _ _ (subscriptTail _ (Expr.Slice (some _) none none _) _ _) _ _ _); (rename Fr _ _ _ _ => sF'); (rename News _ _ _ _ => sN'); (refine' slice_tk_sn (s := ⟨_, _, _, _, _⟩) ?h0 sF' sN' ?h1 ?_ ?hs ?ht; (case h0 => (try dsimp only); first | assumption | omega); (case h1 => first | omega | (simp only [len_one, Str.length_append]; omega)); (case hs => with_unfolding_all rfl); (case ht => intro _; with_unfolding_all rfl)); intro h9 t9 k9 hTk9 F9 N9))
local macro_rules | `(tactic| walk_at "subscriptTail Name Slice str ref") => `(tactic| (k_here; (with_reducible show wpAny _ _ (subscriptTail _ (Expr.Slice (some _) (some _) none _) _ _) _ _ _); (rename Fr _ _ _ _ => sF'); (rename News _ _ _ _ => sN'); (refine' slice_tk_ss (s := ⟨_, _, _, _, _⟩) ?h0 sF' sN' ?h1 ?_ ?hs ?ht; (case h0 => (try dsimp only); first | assumption | omega); (case h1 => first | omega | (simp only [len_one, Str.length_append]; omega)); (case hs => with_unfolding_all rfl); (case ht => intro _; with_unfolding_all rfl)); intro h9 t9 k9 hTk9 F9 N9))
local macro_rules | `(tactic| walk_at "UnrEnd") => `(tactic| (k_here; (rename News _ _ _ (_ :: _) => uN'); k_dflt (refine' UnrEnd.intro ?f uN' _ (fun _ h => h) (fun p hp => Nat.ne_of_lt (ktn_ltOf ?a p hp)) ?_; (case f => assumption); (case a => assumption))))
theorem mul_any (z : List Nat) (hz : z.length ≠ 0) (n : Nat) : Txt.mul (tx z) (n : Int) = tx (rp n z) := by
  unfold Txt.mul
  have go : ∀ (n : Nat) (a : Array Nat), List.foldl (fun x1 x2 => x1 ++ x2) a (List.replicate n (tx z).cps) = (a.toList ++ rp n z).toArray := by
    intro n
    induction n with
    | zero => intro a; simp [rp]
    | succ n ih =>
      intro a
      rw [List.replicate_succ, List.foldl_cons, ih, rp_succ]
      simp [tx]
  have hz2 : ((tx z).length == 0) = false := by rw [tx_length]; exact beq_false_of_ne hz
  split
  · have : n = 0 := by omega
    subst this
    rfl
  · split
    · rename_i h1 h2
      have h3 : n = 1 := by
        rw [hz2, Bool.or_false, beq_iff_eq] at h2
        omega
      subst h3
      simp [rp]
    · show (⟨List.foldl (fun x1 x2 => x1 ++ x2) #[] (List.replicate (n : Int).toNat (tx z).cps)⟩ : Str) = _
      rw [Int.toNat_natCast, go]
      simp [tx]
def AMP : List Nat := [97, 109, 112, 59]
def pg (d a : Nat) : List Nat := D46 (d + 1) ++ (38 :: rp a AMP)
local macro_rules | `(tactic| walk_at "compareOp Eq str str") => `(tactic| (k_here; (refine eq_known (by assumption) ?_)))
local macro_rules | `(tactic| walk_at "compareOp NotEq str str") => `(tactic| (k_here; (refine ne_known (by assumption) ?_)))
local macro_rules | `(tactic| walk_at "binaryOp Add str str") => `(tactic| (k_here; (refine' add_plain ?h1 ?_; (case h1 => first | omega | (simp only [len_one, Str.length_append]; omega))); intro t9 k9))
local macro_rules | `(tactic| walk_at "binaryOp Add str str") => `(tactic| (k_here; (refine' add_tk ?h0 ?h1 ?_; (case h0 => (try dsimp only); first | assumption | omega); (case h1 => first | omega | (simp only [len_one, Str.length_append]; omega))); intro t9 k9 hTk9))

theorem page_ok (w : World) (loose : List Str) (mean : ExcName → Option Value) (mg mb : Str → Option Value) (d e : Int) (t t2 : Tok) (l : List Nat) (hd0 : 0 ≤ d) (hd1 : d ≤ 20) (he0 : 0 ≤ e) (he1 : e ≤ 20) (hl : pg d.toNat e.toNat = l) :
    Does PySem.Challenge.rw_wn0061_02.row.prog w (hd.heap_39 w.params) hd.view_39 loose mean mg mb 2 150 [.int d t, .int e t2] (IsText l) := by
  k_fill
  w_top off
  unfold Does
  intro dp un gd cn cs a ccd cl outer A₀ base h₀ L m news s Q E B F X N T hk hd hu h0 hret
  refine with_toks h0 ?_
  refine wpAny_call ?_
  have e1 : Txt.mul (Str.ofString ".") (d + 1) = tx (D46 (d.toNat + 1)) := by
    have h := mul_one 46 (d.toNat + 1)
    rw [rp_one] at h
    rw [show d + 1 = ((d.toNat + 1 : Nat) : Int) by omega]
    exact h
  have e2 : Txt.mul (Str.ofString "amp;") e = tx (rp e.toNat AMP) := by
    have h := mul_any AMP (by decide) e.toNat
    rw [show ((e.toNat : Nat) : Int) = e by omega] at h
    exact h
  obtain ⟨y1, hy1⟩ : ∃ y, Txt.mul (Str.ofString ".") (d + 1) = y := ⟨_, rfl⟩
  obtain ⟨y2, hy2⟩ : ∃ y, Txt.mul (Str.ofString "amp;") e = y := ⟨_, rfl⟩
  k_dflt ktr_enter
  (repeat' (first | (k_unfold; (try dsimp only)) | walk1 | (dsimp only; walk1) | (leave1; try dsimp only) | fail "no step"))
  exact hret _ _ _ (by assumption) (by first | assumption | exact news_tail (by assumption) | exact news_tail (news_tail (by assumption)) | exact news_tail (news_tail (news_tail (by assumption))) | exact news_tail (news_tail (news_tail (news_tail (by assumption)))) | exact news_tail (news_tail (news_tail (news_tail (news_tail (by assumption))))) | exact news_tail (news_tail (news_tail (news_tail (news_tail (news_tail (by assumption))))))) (by omega) ⟨_, by rw [e1, e2, show Str.ofString "&" = tx [38] from rfl, tx_append, tx_append, ← hl]; unfold pg; rw [List.append_assoc]; rfl⟩
end Mine
end
section
open PySem PySem.W PyProof.Rows PySem.Calls PySem.Spec
namespace Mine
local macro_rules | `(tactic| walk_at "pad 0") => `(tactic| fail "pad")
local macro_rules | `(tactic| walk_at "pad 1") => `(tactic| fail "pad")
local macro_rules | `(tactic| walk_at "pad 2") => `(tactic| fail "pad")
local macro_rules | `(tactic| walk_at "pad 3") => `(tactic| fail "pad")
local macro_rules | `(tactic| walk_at "pad 4") => `(tactic| fail "pad")
local macro_rules | `(tactic| walk_at "getMethod ref") => `(tactic| (k_here; (with_reducible show wpAny _ _ (getMethod (Value.ref _) (PySem.Str.ofString "sub") _) _ _ _); k_dflt (refine' method_sub_K ?k1 ?k2 ?k3 ?_; (case k1 => k_asm); (case k2 => k_asm); (case k3 => k_is); k_whole)))
local macro_rules | `(tactic| walk_at "call builtin:re.Pattern.sub") => `(tactic| (k_here; k_dflt (refine' sub2_K ?k1 ?k2 ?k3 ?k4 ?k5 ?k6 ?k7 ?k8 ?k9 ?ka ?kb ?_; (case k1 => k_asm); (case k2 => k_asm); (case k3 => k_asm); (case k4 => k_is); (case k5 => exact rfl); (case k6 => k_is); (case k7 => decide +kernel); (case k8 => exact rfl); (case k9 => exact rfl); (case ka => decide +kernel); (case kb => first | assumption | omega); k_whole); intro h9 tk9 t9 F9 N9 z9))
local macro_rules | `(tactic| walk_at "call builtin:re.Pattern.sub") => `(tactic| (k_here; k_dflt (refine' sub1_K ?k1 ?k2 ?k3 ?k4 ?k5 ?k6 ?k7 ?k8 ?k9 ?ka ?kb ?_; (case k1 => k_asm); (case k2 => k_asm); (case k3 => k_asm); (case k4 => k_is); (case k5 => exact rfl); (case k6 => k_is); (case k7 => decide +kernel); (case k8 => exact rfl); (case k9 => exact rfl); (case ka => decide +kernel); (case kb => first | assumption | omega); k_whole); intro h9 tk9 t9 F9 N9))
local macro_rules | `(tactic| walk_at "execs nil") => `(tactic| (k_here; (with_reducible show wpAny _ _ _ _ _ ⟨_, _, _, _ + _, _⟩); (refine gen_tk (by first | assumption | omega) ?_); intro tk9 hTk9))
local macro_rules | `(tactic| walk_at "execs cons") => `(tactic| (k_here; (refine' execs_cons_tk ?h0 ?_; (case h0 => (try dsimp only); first | assumption | omega)); (try k_fold)))
local macro_rules | `(tactic| walk_at "execs cons") => `(tactic| (k_here; (with_reducible show wpAny _ _ _ _ _ ⟨_, _, _, _ + _, _⟩); (refine gen_tk (by first | assumption | omega) ?_); intro tk9 hTk9))
local macro_rules | `(tactic| walk_at "TkGo") => `(tactic| (intro hTk9; (try dsimp only at hTk9 ⊢)))
local macro_rules | `(tactic| walk_at "call builtin:str.replace") => `(tactic| (k_here; k_dflt (show wpAny _ _ (call (Value.builtin "str.replace") [Value.str _ _, Value.str _ _, Value.str _ _]) _ _ _); (refine' replace_tk ?k0 ?k1 ?k2 ?k3 ?k4 ?k5 ?k6 ?_; (case k0 => (try dsimp only); first | assumption | omega); (case k1 => omega); (case k2 => omega); (case k3 => omega); (case k4 => decide +kernel); (case k5 => first | assumption | exact size_of_spec (by assumption) (by omega)); (case k6 => decide +kernel); k_whole); intro t9 k9 hTk9))
local macro_rules | `(tactic| walk_at "EscPost") => `(tactic| first | exact escPost_yes (by assumption) (by assumption) (by first | assumption | omega) | exact escPost_no (by assumption) (by decide +kernel) (by assumption) (by assumption) (by first | assumption | omega) rfl)
local macro_rules | `(tactic| walk_at "exec If") => `(tactic| (k_here; (fail_if_success (have hM9 : EscMark := by assumption)); (with_reducible show wpAny _ _ (exec (Stmt.If (Expr.Compare (Expr.Constant (Const.str _) _ _) [CmpOp.In] [Expr.Name _ _] _) [Stmt.Assign [Expr.Name _ _] (Expr.Call _ _ _ _) _] [] _) _) _ _ _); (rename Fr _ _ _ _ => eF'); (rename News _ _ _ _ => eN'); (rename (spec _ ≤ _) => eB'); k_dflt (refine' esc_if eF' eN' ?km ?ka _ 491520 eB' ?ks ?k1 ?_; (case km => exact rfl); (case ka => decide +kernel); (case ks => first | exact ⟨1, by decide +kernel, by decide, by decide⟩ | exact ⟨5, by decide +kernel, by decide, by decide⟩); (case k1 => (intro hM9;  (repeat' (first | (k_unfold; (try dsimp only)) | walk1 | (dsimp only; walk1) | (leave1; try dsimp only) | fail "no step"))))); intro h9 tk9 t9 hTk9 hB9 F9 N9))
local macro_rules | `(tactic| walk_at "subscriptTail Name Slice str ref") => `(tactic| (k_here; (with_reducible show wpAny _ _ (subscriptTail _ (Expr.Slice none (some _) none _) _ _) _ _ _); (rename Fr _ _ _ _ => sF'); (rename News _ _ _ _ => sN'); (refine' slice_tk_ns (s := ⟨_, _, _, _, _⟩) ?h0 sF' sN' ?h1 ?_ ?hs ?ht; (case h0 => (try dsimp only); first | assumption | omega); (case h1 => first | omega | (simp only [len_one, Str.length_append]; omega)); (case hs => with_unfolding_all rfl); (case ht => intro _; with_unfolding_all rfl)); intro h9 t9 k9 hTk9 F9 N9))
local macro_rules | `(tactic| walk_at "subscriptTail Name Slice str ref") => `(tactic| (k_here; (with_reducible show wpAny _ _ (subscriptTail _ (Expr.Slice (some _) none none _) _ _) _ _ _); (rename Fr _ _ _ _ => sF'); (rename News _ _ _ _ => sN'); (refine' slice_tk_sn (s := ⟨_, _, _, _, _⟩) ?h0 sF' sN' ?h1 ?_ ?hs ?ht; (case h0 => (try dsimp only); first | assumption | omega); (case h1 => first | omega | (simp only [len_one, Str.length_append]; omega)); (case hs => with_unfolding_all rfl); (case ht => intro _; with_unfolding_all rfl)); intro h9 t9 k9 hTk9 F9 N9))
local macro_rules | `(tactic| walk_at "subscriptTail Name Slice str ref") => `(tactic| (k_here; (with_reducible show wpAny _ _ (subscriptTail _ (Expr.Slice (some _) (some _) none _) _ _) _ _ _); (rename Fr _ _ _ _ => sF'); (rename News _ _ _ _ => sN'); (refine' slice_tk_ss (s := ⟨_, _, _, _, _⟩) ?h0 sF' sN' ?h1 ?_ ?hs ?ht; (case h0 => (try dsimp only); first | assumption | omega); (case h1 => first | omega | (simp only [len_one, Str.length_append]; omega)); (case hs => with_unfolding_all rfl); (case ht => intro _; with_unfolding_all rfl)); intro h9 t9 k9 hTk9 F9 N9))
local macro_rules | `(tactic| walk_at "UnrEnd") => `(tactic| (k_here; (rename News _ _ _ (_ :: _) => uN'); k_dflt (refine' UnrEnd.intro ?f uN' _ (fun _ h => h) (fun p hp => Nat.ne_of_lt (ktn_ltOf ?a p hp)) ?_; (case f => assumption); (case a => assumption))))
local macro_rules | `(tactic| walk_at "call ref") => `(tactic| (k_here; (rename (quoted _ = _) => eQ'); k_dflt (refine' does0_use (quote_is _ _ _ _ _ _ _ _ eQ' ?hx) ?k1 ?k2 ?k3 ?k4 ?k5 ?kK ?kd ?ku ?_; (case k1 => k_asm); (case k2 => k_asm); (case k3 => k_asm); (case k4 => k_asm); (case k5 => k_asm); (case kK => first | exact rfl | assumption); (case hx => first | assumption | omega); (case kd => ktr_room); (case ku => ktr_units); k_whole); intro r9 h9 tk9 O9 F9 N9; k_dflt ((obtain ⟨t9, e9⟩ := O9); subst e9); (try dsimp only)))
local macro_rules | `(tactic| walk_at "compareOp Eq str str") => `(tactic| (k_here; (refine eq_known (by assumption) ?_)))
local macro_rules | `(tactic| walk_at "compareOp NotEq str str") => `(tactic| (k_here; (refine ne_known (by assumption) ?_)))
local macro_rules | `(tactic| walk_at "binaryOp Add str str") => `(tactic| (k_here; (refine' add_plain ?h1 ?_; (case h1 => first | omega | (simp only [len_one, Str.length_append]; omega))); intro t9 k9))
local macro_rules | `(tactic| walk_at "binaryOp Add str str") => `(tactic| (k_here; (refine' add_tk ?h0 ?h1 ?_; (case h0 => (try dsimp only); first | assumption | omega); (case h1 => first | omega | (simp only [len_one, Str.length_append]; omega))); intro t9 k9 hTk9))

theorem amp_free (d a : Nat) : 13 ∉ pg d a ∧ 10 ∉ pg d a := by
  have h : ∀ c : Nat, c ≠ 46 → c ≠ 38 → c ∉ AMP → c ∉ pg d a := by
    intro c h1 h2 h3 hc
    unfold pg at hc
    rcases List.mem_append.mp hc with hc | hc
    · exact h1 (List.eq_of_mem_replicate hc)
    · rcases List.mem_cons.mp hc with hc | hc
      · exact h2 hc
      · exact h3 (mem_rp hc)
  exact ⟨h 13 (by decide) (by decide) (by decide), h 10 (by decide) (by decide) (by decide)⟩
theorem pg_length (d a : Nat) : (pg d a).length = d + 2 + 4 * a := by
  unfold pg
  rw [List.length_append, List.length_cons, rp_length]
  unfold D46
  rw [List.length_replicate]
  show d + 1 + (a * 4 + 1) = _
  omega
theorem crlf_free : ∀ (l r : List Nat), 13 ∉ l → 10 ∉ l → crlf (l ++ r) = l ++ crlf r := by
  intro l
  induction l with
  | nil => intro r _ _; rfl
  | cons c l ih =>
    intro r h1 h2
    have hc : Nl c = false := by
      have a1 : c ≠ 13 := fun e => h1 (by rw [e]; exact List.mem_cons_self ..)
      have a2 : c ≠ 10 := fun e => h2 (by rw [e]; exact List.mem_cons_self ..)
      unfold Nl
      simp [a1, a2]
    rw [List.cons_append, crlf_cons hc, ih r (fun h => h1 (List.mem_cons_of_mem _ h)) (fun h => h2 (List.mem_cons_of_mem _ h)), List.cons_append]
theorem dotted_free : ∀ (l r : List Nat), 10 ∉ l → dotted false (l ++ r) = l ++ dotted false r := by
  intro l
  induction l with
  | nil => intro r _; rfl
  | cons c l ih =>
    intro r h
    have h1 : (c == 10) = false := by
      rw [beq_eq_false_iff_ne]
      exact fun e => h (by rw [e]; exact List.mem_cons_self ..)
    rw [List.cons_append]
    show (if false = true ∧ c = 46 then _ else c :: dotted (c == 10) (l ++ r)) = _
    rw [if_neg (by simp), h1, ih r fun hm => h (List.mem_cons_of_mem _ hm)]
    rfl
theorem pg_cons (d a : Nat) : pg d a = 46 :: (D46 d ++ (38 :: rp a AMP)) := rfl
theorem page_quoted {e : List Nat} (h : e = [13] ∨ e = [10] ∨ e = [13, 10]) (d a : Nat) : quoted ([33] ++ (e ++ (pg d a ++ (e ++ [46])))) = [33] ++ ([13, 10] ++ (pg (d + 1) a ++ ([13, 10] ++ [46, 46]))) := by
  obtain ⟨tl, htl⟩ : ∃ tl, D46 d ++ (38 :: rp a AMP) = tl := ⟨_, rfl⟩
  have hf := amp_free d a
  rw [pg_cons, htl] at hf
  have h13 : 13 ∉ tl := fun hm => hf.1 (List.mem_cons_of_mem _ hm)
  have h10 : 10 ∉ tl := fun hm => hf.2 (List.mem_cons_of_mem _ hm)
  have e2 : pg (d + 1) a = 46 :: 46 :: tl := by rw [pg_cons, ← htl]; rfl
  rw [e2, pg_cons, htl]
  unfold quoted
  have c1 : crlf ([33] ++ (e ++ (46 :: tl ++ (e ++ [46])))) = 33 :: 13 :: 10 :: 46 :: (tl ++ (13 :: 10 :: 46 :: [])) := by
    show crlf (33 :: (e ++ (46 :: (tl ++ (e ++ [46]))))) = _
    rw [crlf_cons (by rfl), crlf_end h (by rfl), crlf_free _ _ h13 h10, crlf_end h (by rfl)]
    rfl
  rw [c1]
  show 33 :: dotted false (13 :: 10 :: 46 :: (tl ++ (13 :: 10 :: 46 :: []))) = _
  show 33 :: 13 :: 10 :: 46 :: 46 :: dotted false (tl ++ (13 :: 10 :: 46 :: [])) = _
  rw [dotted_free _ _ h10]
  rfl
theorem hit_free {y0 : Nat} {y u r : List Nat} (hu : y0 ∉ u) : ∀ k, k < u.length → ¬ (y0 :: y) <+: (u ++ r).drop k := by
  intro k hk hp
  rw [List.drop_append_of_le_length (Nat.le_of_lt hk), List.drop_eq_getElem_cons hk, List.cons_append] at hp
  have h := (List.cons_prefix_cons.mp hp).1
  exact hu (by rw [h]; exact List.getElem_mem hk)
theorem none_free {y0 : Nat} {y l : List Nat} (hl : y0 ∉ l) : ∀ k, ¬ (y0 :: y) <+: l.drop k := by
  intro k hp
  exact hl (List.mem_of_mem_drop (hp.subset (List.mem_cons_self ..)))
theorem page_split (d a : Nat) : Txt.split (tx ([33] ++ ([13, 10] ++ (pg (d + 1) a ++ ([13, 10] ++ [46, 46]))))) (Str.ofString "\r\n") = [Str.ofString "!", tx (pg (d + 1) a), Str.ofString ".."] := by
  have h1 : SplTo [13, 10] ([33] ++ ([13, 10] ++ (pg (d + 1) a ++ ([13, 10] ++ [46, 46])))) [[33], pg (d + 1) a, [46, 46]] :=
    .hit _ _ _ (hit_free (by decide)) (.hit _ _ _ (hit_free (amp_free _ _).1) (.none _ (none_free (by decide))))
  have h2 := split_is (y := [13, 10]) (by decide) (by decide +kernel) (by simp) h1
  exact h2
theorem dots_parts : ∀ (n : Nat) (r : List Nat) (o : List (List Nat)), SplTo [46] r o → ∃ o', SplTo [46] (D46 n ++ r) o' ∧ o'.length = n + o.length := by
  intro n
  induction n with
  | zero => intro r o h; exact ⟨o, h, by omega⟩
  | succ n ih =>
    intro r o h
    obtain ⟨o', h', hl⟩ := ih r o h
    refine ⟨[] :: o', ?_, by rw [List.length_cons, hl]; omega⟩
    exact SplTo.hit [] (D46 n ++ r) o' (by intro k hk; exact absurd hk (Nat.not_lt_zero _)) h'
theorem amps_parts : ∀ a : Nat, ∃ o, SplTo AMP (rp a AMP) o ∧ o.length = a + 1 := by
  intro a
  induction a with
  | zero => exact ⟨[[]], .none _ (none_free (by decide)), rfl⟩
  | succ a ih =>
    obtain ⟨o, h, hl⟩ := ih
    refine ⟨[] :: o, ?_, by rw [List.length_cons, hl]⟩
    rw [rp_succ]
    exact SplTo.hit [] (rp a AMP) o (by intro k hk; exact absurd hk (Nat.not_lt_zero _)) h
theorem count_dots (d a : Nat) : Txt.count (tx (pg d a)) (Str.ofString ".") = (d : Int) + 1 := by
  have hn : 46 ∉ 38 :: rp a AMP := by
    intro hc
    rcases List.mem_cons.mp hc with hc | hc
    · exact absurd hc (by decide)
    · exact absurd (mem_rp hc) (by decide)
  obtain ⟨o, h, hl⟩ := dots_parts (d + 1) (38 :: rp a AMP) _ (.none _ (none_free hn))
  have h2 := count_is (y := [46]) (by decide) h
  have h3 : Txt.count (tx (pg d a)) (Str.ofString ".") = (o.length : Int) - 1 := h2
  rw [h3, hl]
  simp only [List.length_cons, List.length_nil]
  omega
theorem count_amps (d a : Nat) : Txt.count (tx (pg d a)) (Str.ofString "amp;") = (a : Int) := by
  have hn : 97 ∉ D46 (d + 1) ++ [38] := by
    intro hc
    rcases List.mem_append.mp hc with hc | hc
    · exact absurd (List.eq_of_mem_replicate hc) (by decide)
    · exact absurd hc (by decide)
  have e : pg d a = (D46 (d + 1) ++ [38]) ++ rp a AMP := by unfold pg; rw [List.append_assoc]; rfl
  have key : ∃ o, SplTo AMP (pg d a) o ∧ o.length = a + 1 := by
    rw [e]
    cases a with
    | zero => exact ⟨[_], .none _ (none_free (by rw [rp_zero, List.append_nil]; exact hn)), rfl⟩
    | succ a =>
      obtain ⟨o, h, hl⟩ := amps_parts a
      rw [rp_succ]
      exact ⟨_, SplTo.hit _ _ _ (hit_free hn) h, by rw [List.length_cons, hl]⟩
  obtain ⟨o, h, hl⟩ := key
  have h3 : Txt.count (tx (pg d a)) (Str.ofString "amp;") = (o.length : Int) - 1 := count_is (y := AMP) (by decide) h
  rw [h3, hl]
  omega
theorem split3_tk {prog : Program} {w : World} {A : Around} {E : Value → Shared → Prop} {s : Shared} {h₀ : Heap} {L : Addr} {m : Str → Option Value} {news : List (Addr × Obj)} {x y p q r : Str} {t u : Tok} {Q : Value → Shared → Prop} (h0 : 0 < s.toks) (F : Fr h₀ L s.heap m) (N : News h₀ L s.heap news)
    (hs : Txt.split x y = [p, q, r]) (hy : (y.length == 0) = false) (hx : x.length ≤ 100000)
    (h : ∀ D t1 t2 t3 h' k, 0 < k → Fr h₀ L h' m → News h₀ L h' ((D, listOf (List.toArray [.str p t1, .str q t2, .str r t3]) 0) :: news) → (∀ p ∈ news, p.1 < D) → Q (.ref D) { s with heap := h', toks := k }) :
    wpAny (model prog w) A (call (.builtin "str.split") [.str x t, .str y u]) Q E s := by
  refine with_toks h0 (PySem.W.KSpl.split1 F N hy (fun D l h' k e _ F' N' hD hk => ?_) (Nat.le_trans (Nat.add_le_add_right hx 2) (by decide)))
  rw [hs] at e
  obtain ⟨t1, l1, rfl, e1⟩ := PySem.W.KSpl.cons_of e
  obtain ⟨t2, l2, rfl, e2⟩ := PySem.W.KSpl.cons_of e1
  obtain ⟨t3, l3, rfl, e3⟩ := PySem.W.KSpl.cons_of e2
  have e4 := PySem.W.KSpl.nil_of e3
  subst e4
  exact h D t1 t2 t3 h' k hk F' N' hD
local macro_rules | `(tactic| walk_at "call builtin:str.split") => `(tactic| (k_here; k_dflt (refine' split3_tk ?h0 ?F ?N (by assumption) ?hy ?hx ?_; (case h0 => (try dsimp only); first | assumption | omega); (case F => k_asm); (case N => k_asm); (case hy => decide +kernel); (case hx => assumption)); intro D' t1' t2' t3' h' k' hTk9 F' N' l1; (try k_lt l1); (try dsimp only)))
local macro_rules | `(tactic| walk_at "compareOp NotEq ref ref") => `(tactic| (k_here; (with_reducible show wpAny _ _ (compareOp CmpOp.NotEq (Value.ref _) (Value.ref _)) _ _ _); k_dflt (refine ne_dataH (by ked_read) (by ked_read) (by ke_shaped) (by ke_shaped) (by ktr_units) ?_); ked_norm))
theorem sent_ok (w : World) (loose : List Str) (mean : ExcName → Option Value) (mg mb : Str → Option Value) (e x : Str) (t t2 : Tok) (d a : Nat) (he : EndOk e) (hx : x = tx (pg d a)) (hd1 : d ≤ 20) (ha1 : a ≤ 20) :
    Does PySem.Challenge.rw_wn0061_02.row.prog w (hd.heap_39 w.params) hd.view_39 loose mean mg mb 20 129 [.str e t, .str x t2] (IsText (pg (d + 1) a)) := by
  k_fill
  w_top off
  unfold Does
  intro dp un gd cn cs ad ccd cl outer A₀ base h₀ L m news s Q E B F X N T hk hd hu h0 hret
  refine with_toks h0 ?_
  refine wpAny_call ?_
  have hel := EndOk.len he
  have hxl : x.length ≤ 1000 := by rw [hx, tx_length, pg_length]; omega
  have hc1 : (Str.ofString "!").length = 1 := rfl
  have hc2 : (Str.ofString ".").length = 1 := rfl
  have hc3 : (Str.ofString "\r\n").length = 2 := rfl
  obtain ⟨Y, hY⟩ : ∃ Y, quoted (Str.ofString "!" ++ e ++ x ++ e ++ Str.ofString ".").cps.toList = Y := ⟨_, rfl⟩
  have hsz : (Str.ofString "!" ++ e ++ x ++ e ++ Str.ofString ".").cps.size ≤ 2 ^ 21 := by
    show (Str.ofString "!" ++ e ++ x ++ e ++ Str.ofString ".").length ≤ _
    simp only [Str.length_append]
    omega
  have hYv : Y = [33] ++ ([13, 10] ++ (pg (d + 1) a ++ ([13, 10] ++ [46, 46]))) := by
    rw [← hY, hx]
    have e1 : ∃ el, e = tx el ∧ (el = [13] ∨ el = [10] ∨ el = [13, 10]) := by
      rcases he with h | h | h
      · exact ⟨_, h, .inl rfl⟩
      · exact ⟨_, h, .inr (.inl rfl)⟩
      · exact ⟨_, h, .inr (.inr rfl)⟩
    obtain ⟨el, rfl, hee⟩ := e1
    rw [show Str.ofString "!" = tx [33] from rfl, show Str.ofString "." = tx [46] from rfl, tx_append, tx_append, tx_append, tx_append, tx_toList, List.append_assoc, List.append_assoc, List.append_assoc, page_quoted hee]
  have hSp : Txt.split (tx Y) (Str.ofString "\r\n") = [Str.ofString "!", tx (pg (d + 1) a), Str.ofString ".."] := by rw [hYv]; exact page_split d a
  have hYl : (tx Y).length ≤ 100000 := by
    rw [hYv, tx_length]
    simp only [List.length_append, pg_length, List.length_cons, List.length_nil]
    omega
  clear hYv hx
  k_dflt ktr_enter
  (repeat' (first | (k_unfold; (try dsimp only)) | walk1 | (dsimp only; walk1) | (leave1; try dsimp only) | fail "no step"))
  exact hret _ _ _ (by assumption) (by first | assumption | exact news_tail (by assumption) | exact news_tail (news_tail (by assumption)) | exact news_tail (news_tail (news_tail (by assumption))) | exact news_tail (news_tail (news_tail (news_tail (by assumption)))) | exact news_tail (news_tail (news_tail (news_tail (news_tail (by assumption))))) | exact news_tail (news_tail (news_tail (news_tail (news_tail (news_tail (by assumption))))))) (by omega) ⟨_, rfl⟩
end Mine
end
section
open PySem PySem.W PyProof.Rows PySem.Calls PySem.Spec
namespace Mine
local macro_rules | `(tactic| walk_at "pad 0") => `(tactic| fail "pad")
local macro_rules | `(tactic| walk_at "pad 1") => `(tactic| fail "pad")
local macro_rules | `(tactic| walk_at "getMethod ref") => `(tactic| (k_here; (with_reducible show wpAny _ _ (getMethod (Value.ref _) (PySem.Str.ofString "sub") _) _ _ _); k_dflt (refine' method_sub_K ?k1 ?k2 ?k3 ?_; (case k1 => k_asm); (case k2 => k_asm); (case k3 => k_is); k_whole)))
local macro_rules | `(tactic| walk_at "call builtin:re.Pattern.sub") => `(tactic| (k_here; k_dflt (refine' sub2_K ?k1 ?k2 ?k3 ?k4 ?k5 ?k6 ?k7 ?k8 ?k9 ?ka ?kb ?_; (case k1 => k_asm); (case k2 => k_asm); (case k3 => k_asm); (case k4 => k_is); (case k5 => exact rfl); (case k6 => k_is); (case k7 => decide +kernel); (case k8 => exact rfl); (case k9 => exact rfl); (case ka => decide +kernel); (case kb => first | assumption | omega); k_whole); intro h9 tk9 t9 F9 N9 z9))
local macro_rules | `(tactic| walk_at "call builtin:re.Pattern.sub") => `(tactic| (k_here; k_dflt (refine' sub1_K ?k1 ?k2 ?k3 ?k4 ?k5 ?k6 ?k7 ?k8 ?k9 ?ka ?kb ?_; (case k1 => k_asm); (case k2 => k_asm); (case k3 => k_asm); (case k4 => k_is); (case k5 => exact rfl); (case k6 => k_is); (case k7 => decide +kernel); (case k8 => exact rfl); (case k9 => exact rfl); (case ka => decide +kernel); (case kb => first | assumption | omega); k_whole); intro h9 tk9 t9 F9 N9))
local macro_rules | `(tactic| walk_at "execs nil") => `(tactic| (k_here; (with_reducible show wpAny _ _ _ _ _ ⟨_, _, _, _ + _, _⟩); (refine gen_tk (by first | assumption | omega) ?_); intro tk9 hTk9))
local macro_rules | `(tactic| walk_at "execs cons") => `(tactic| (k_here; (refine' execs_cons_tk ?h0 ?_; (case h0 => (try dsimp only); first | assumption | omega)); (try k_fold)))
local macro_rules | `(tactic| walk_at "execs cons") => `(tactic| (k_here; (with_reducible show wpAny _ _ _ _ _ ⟨_, _, _, _ + _, _⟩); (refine gen_tk (by first | assumption | omega) ?_); intro tk9 hTk9))
local macro_rules | `(tactic| walk_at "TkGo") => `(tactic| (intro hTk9; (try dsimp only at hTk9 ⊢)))
local macro_rules | `(tactic| walk_at "call builtin:str.replace") => `(tactic| (k_here; k_dflt (show wpAny _ _ (call (Value.builtin "str.replace") [Value.str _ _, Value.str _ _, Value.str _ _]) _ _ _); (refine' replace_tk ?k0 ?k1 ?k2 ?k3 ?k4 ?k5 ?k6 ?_; (case k0 => (try dsimp only); first | assumption | omega); (case k1 => omega); (case k2 => omega); (case k3 => omega); (case k4 => decide +kernel); (case k5 => first | assumption | exact size_of_spec (by assumption) (by omega)); (case k6 => decide +kernel); k_whole); intro t9 k9 hTk9))
local macro_rules | `(tactic| walk_at "EscPost") => `(tactic| first | exact escPost_yes (by assumption) (by assumption) (by first | assumption | omega) | exact escPost_no (by assumption) (by decide +kernel) (by assumption) (by assumption) (by first | assumption | omega) rfl)
local macro_rules | `(tactic| walk_at "exec If") => `(tactic| (k_here; (fail_if_success (have hM9 : EscMark := by assumption)); (with_reducible show wpAny _ _ (exec (Stmt.If (Expr.Compare (Expr.Constant (Const.str _) _ _) [CmpOp.In] [Expr.Name _ _] _) [Stmt.Assign [Expr.Name _ _] (Expr.Call _ _ _ _) _] [] _) _) _ _ _); (rename Fr _ _ _ _ => eF'); (rename News _ _ _ _ => eN'); (rename (spec _ ≤ _) => eB'); k_dflt (refine' esc_if eF' eN' ?km ?ka _ 491520 eB' ?ks ?k1 ?_; (case km => exact rfl); (case ka => decide +kernel); (case ks => first | exact ⟨1, by decide +kernel, by decide, by decide⟩ | exact ⟨5, by decide +kernel, by decide, by decide⟩); (case k1 => (intro hM9;  (repeat' (first | (k_unfold; (try dsimp only)) | walk1 | (dsimp only; walk1) | (leave1; try dsimp only) | fail "no step"))))); intro h9 tk9 t9 hTk9 hB9 F9 N9))
local macro_rules | `(tactic| walk_at "subscriptTail Name Slice str ref") => `(tactic| (k_here; (with_reducible show wpAny _ _ (subscriptTail _ (Expr.Slice none (some _) none _) _ _) _ _ _); (rename Fr _ _ _ _ => sF'); (rename News _ _ _ _ => sN'); (refine' slice_tk_ns (s := ⟨_, _, _, _, _⟩) ?h0 sF' sN' ?h1 ?_ ?hs ?ht; (case h0 => (try dsimp only); first | assumption | omega); (case h1 => first | omega | (simp only [len_one, Str.length_append]; omega)); (case hs => with_unfolding_all rfl); (case ht => intro _; with_unfolding_all rfl)); intro h9 t9 k9 hTk9 F9 N9))
local macro_rules | `(tactic| walk_at "subscriptTail Name Slice str ref") => `(tactic| (k_here; (with_reducible show wpAny _ _ (subscriptTail _ (Expr.Slice (some _) none none _) _ _) _ _ _); (rename Fr _ _ _ _ => sF'); (rename News _ _ _ _ => sN'); (refine' slice_tk_sn (s := ⟨_, _, _, _, _⟩) ?h0 sF' sN' ?h1 ?_ ?hs ?ht; (case h0 => (try dsimp only); first | assumption | omega); (case h1 => first | omega | (simp only [len_one, Str.length_append]; omega)); (case hs => with_unfolding_all rfl); (case ht => intro _; with_unfolding_all rfl)); intro h9 t9 k9 hTk9 F9 N9))
local macro_rules | `(tactic| walk_at "subscriptTail Name Slice str ref") => `(tactic| (k_here; (with_reducible show wpAny _ _ (subscriptTail _ (Expr.Slice (some _) (some _) none _) _ _) _ _ _); (rename Fr _ _ _ _ => sF'); (rename News _ _ _ _ => sN'); (refine' slice_tk_ss (s := ⟨_, _, _, _, _⟩) ?h0 sF' sN' ?h1 ?_ ?hs ?ht; (case h0 => (try dsimp only); first | assumption | omega); (case h1 => first | omega | (simp only [len_one, Str.length_append]; omega)); (case hs => with_unfolding_all rfl); (case ht => intro _; with_unfolding_all rfl)); intro h9 t9 k9 hTk9 F9 N9))
local macro_rules | `(tactic| walk_at "UnrEnd") => `(tactic| (k_here; (rename News _ _ _ (_ :: _) => uN'); k_dflt (refine' UnrEnd.intro ?f uN' _ (fun _ h => h) (fun p hp => Nat.ne_of_lt (ktn_ltOf ?a p hp)) ?_; (case f => assumption); (case a => assumption))))
theorem escs_append (ps : List (Str × Str)) : ∀ a b : List Nat, escs ps (a ++ b) = escs ps a ++ escs ps b := by
  unfold escs
  induction ps with
  | nil => intro a b; rfl
  | cons p ps ih => intro a b; simp only [List.foldl_cons]; rw [rep_append, ih]
theorem escs_pg (ps : List (Str × Str)) (h1 : escs ps [46] = [46]) (h2 : escs ps [38] = [38, 97, 109, 112, 59]) (h3 : escs ps AMP = AMP) (d a : Nat) (z y : List Nat) (hz : escs ps z = y) : escs ps (pg d a ++ z) = pg d (a + 1) ++ y := by
  have e1 : escs ps (D46 (d + 1)) = D46 (d + 1) := by
    have h := escs_rp ps [46] (d + 1)
    rw [h1, rp_one] at h
    exact h
  have e2 : escs ps (rp a AMP) = rp a AMP := by rw [escs_rp, h3]
  have e3 : escs ps (38 :: rp a AMP) = 38 :: rp (a + 1) AMP := by
    rw [show (38 :: rp a AMP : List Nat) = [38] ++ rp a AMP from rfl, escs_append, h2, e2, rp_succ]
    rfl
  rw [escs_append, hz]
  unfold pg
  rw [escs_append, e1, e3]
theorem spec_pg (d a : Nat) (hd1 : d ≤ 20) (ha1 : a ≤ 20) (z : List Nat) (hz : z.length ≤ 10) : spec (pg d a ++ z) ≤ 98304 := by
  have h := spec_le (pg d a ++ z)
  rw [List.length_append, pg_length] at h
  omega
theorem wr_cdata (w : World) (loose : List Str) (mean : ExcName → Option Value) (mg mb : Str → Option Value) (x : Str) (t : Tok) (d a : Nat) (hx : x = tx (pg d a)) (hd1 : d ≤ 20) (ha1 : a ≤ 20) :
    Does PySem.Challenge.rw_wn0061_02.row.prog w (hd.heap_39 w.params) hd.view_39 loose mean mg mb 2 94 [.str (x ++ Str.ofString "<") t] (IsText (pg d (a + 1) ++ [38, 108, 116, 59])) := by
  have e : (x ++ Str.ofString "<").cps.toList = pg d a ++ [60] := by rw [hx, show Str.ofString "<" = tx [60] from rfl, tx_append, tx_toList]
  have h := esc_cdata w loose mean mg mb (x ++ Str.ofString "<") t (by rw [e]; exact spec_pg d a hd1 ha1 _ (by simp))
  rw [e, escs_pg [("&", "&amp;"), ("<", "&lt;"), (">", "&gt;")] (by decide +kernel) (by decide +kernel) (by decide +kernel) d a [60] [38, 108, 116, 59] (by decide +kernel)] at h
  exact h
theorem wr_attrib (w : World) (loose : List Str) (mean : ExcName → Option Value) (mg mb : Str → Option Value) (x : Str) (t : Tok) (d a : Nat) (hx : x = tx (pg d a)) (hd1 : d ≤ 20) (ha1 : a ≤ 20) :
    Does PySem.Challenge.rw_wn0061_02.row.prog w (hd.heap_39 w.params) hd.view_39 loose mean mg mb 2 101 [.str (x ++ Str.ofString "\t") t] (IsText (pg d (a + 1) ++ [38, 35, 48, 57, 59])) := by
  have e : (x ++ Str.ofString "\t").cps.toList = pg d a ++ [9] := by rw [hx, show Str.ofString "\t" = tx [9] from rfl, tx_append, tx_toList]
  have h := esc_attrib w loose mean mg mb (x ++ Str.ofString "\t") t (by rw [e]; exact spec_pg d a hd1 ha1 _ (by simp))
  rw [e, escs_pg [("&", "&amp;"), ("<", "&lt;"), (">", "&gt;"), ("\"", "&quot;"), ("\r", "&#13;"), ("\n", "&#10;"), ("\t", "&#09;")] (by decide +kernel) (by decide +kernel) (by decide +kernel) d a [9] [38, 35, 48, 57, 59] (by decide +kernel)] at h
  exact h
theorem wr_html (w : World) (loose : List Str) (mean : ExcName → Option Value) (mg mb : Str → Option Value) (x : Str) (t : Tok) (d a : Nat) (hx : x = tx (pg d a)) (hd1 : d ≤ 20) (ha1 : a ≤ 20) :
    Does PySem.Challenge.rw_wn0061_02.row.prog w (hd.heap_39 w.params) hd.view_39 loose mean mg mb 2 108 [.str (x ++ Str.ofString "\"") t] (IsText (pg d (a + 1) ++ [38, 113, 117, 111, 116, 59])) := by
  have e : (x ++ Str.ofString "\"").cps.toList = pg d a ++ [34] := by rw [hx, show Str.ofString "\"" = tx [34] from rfl, tx_append, tx_toList]
  have h := esc_html w loose mean mg mb (x ++ Str.ofString "\"") t (by rw [e]; exact spec_pg d a hd1 ha1 _ (by simp))
  rw [e, escs_pg [("&", "&amp;"), (">", "&gt;"), ("\"", "&quot;")] (by decide +kernel) (by decide +kernel) (by decide +kernel) d a [34] [38, 113, 117, 111, 116, 59] (by decide +kernel)] at h
  exact h
theorem wr_cc14n (w : World) (loose : List Str) (mean : ExcName → Option Value) (mg mb : Str → Option Value) (x : Str) (t : Tok) (d a : Nat) (hx : x = tx (pg d a)) (hd1 : d ≤ 20) (ha1 : a ≤ 20) :
    Does PySem.Challenge.rw_wn0061_02.row.prog w (hd.heap_39 w.params) hd.view_39 loose mean mg mb 2 115 [.str (x ++ Str.ofString "\r") t] (IsText (pg d (a + 1) ++ [38, 35, 120, 68, 59])) := by
  have e : (x ++ Str.ofString "\r").cps.toList = pg d a ++ [13] := by rw [hx, show Str.ofString "\r" = tx [13] from rfl, tx_append, tx_toList]
  have h := esc_cc14n w loose mean mg mb (x ++ Str.ofString "\r") t (by rw [e]; exact spec_pg d a hd1 ha1 _ (by simp))
  rw [e, escs_pg [("&", "&amp;"), ("<", "&lt;"), (">", "&gt;"), ("\r", "&#xD;")] (by decide +kernel) (by decide +kernel) (by decide +kernel) d a [13] [38, 35, 120, 68, 59] (by decide +kernel)] at h
  exact h
theorem wr_ac14n (w : World) (loose : List Str) (mean : ExcName → Option Value) (mg mb : Str → Option Value) (x : Str) (t : Tok) (d a : Nat) (hx : x = tx (pg d a)) (hd1 : d ≤ 20) (ha1 : a ≤ 20) :
    Does PySem.Challenge.rw_wn0061_02.row.prog w (hd.heap_39 w.params) hd.view_39 loose mean mg mb 2 122 [.str (x ++ Str.ofString "\n") t] (IsText (pg d (a + 1) ++ [38, 35, 120, 65, 59])) := by
  have e : (x ++ Str.ofString "\n").cps.toList = pg d a ++ [10] := by rw [hx, show Str.ofString "\n" = tx [10] from rfl, tx_append, tx_toList]
  have h := esc_ac14n w loose mean mg mb (x ++ Str.ofString "\n") t (by rw [e]; exact spec_pg d a hd1 ha1 _ (by simp))
  rw [e, escs_pg [("&", "&amp;"), ("<", "&lt;"), ("\"", "&quot;"), ("\t", "&#x9;"), ("\n", "&#xA;"), ("\r", "&#xD;")] (by decide +kernel) (by decide +kernel) (by decide +kernel) d a [10] [38, 35, 120, 65, 59] (by decide +kernel)] at h
  exact h
local macro_rules | `(tactic| walk_at "call ref") => `(tactic| (k_here; k_dflt (refine' does_use (wr_cdata _ _ _ _ _ _ _ _ _ ?hx ?h1 ?h2) ?k1 ?k2 ?k3 ?k4 ?k5 ?kK ?kd ?ku ?k0 ?_; (case k1 => k_asm); (case k2 => k_asm); (case k3 => k_asm); (case k4 => k_asm); (case k5 => k_asm); (case kK => first | exact rfl | assumption); (case hx => assumption); (case h1 => assumption); (case h2 => assumption); (case kd => ktr_room); (case ku => ktr_units); (case k0 => (try dsimp only); first | assumption | omega); k_whole); intro r9 h9 tk9 O9 F9 N9 hTk9; k_dflt ((obtain ⟨t9, e9⟩ := O9); subst e9); (try dsimp only)))
local macro_rules | `(tactic| walk_at "call ref") => `(tactic| (k_here; k_dflt (refine' does_use (wr_attrib _ _ _ _ _ _ _ _ _ ?hx ?h1 ?h2) ?k1 ?k2 ?k3 ?k4 ?k5 ?kK ?kd ?ku ?k0 ?_; (case k1 => k_asm); (case k2 => k_asm); (case k3 => k_asm); (case k4 => k_asm); (case k5 => k_asm); (case kK => first | exact rfl | assumption); (case hx => assumption); (case h1 => assumption); (case h2 => assumption); (case kd => ktr_room); (case ku => ktr_units); (case k0 => (try dsimp only); first | assumption | omega); k_whole); intro r9 h9 tk9 O9 F9 N9 hTk9; k_dflt ((obtain ⟨t9, e9⟩ := O9); subst e9); (try dsimp only)))
local macro_rules | `(tactic| walk_at "call ref") => `(tactic| (k_here; k_dflt (refine' does_use (wr_html _ _ _ _ _ _ _ _ _ ?hx ?h1 ?h2) ?k1 ?k2 ?k3 ?k4 ?k5 ?kK ?kd ?ku ?k0 ?_; (case k1 => k_asm); (case k2 => k_asm); (case k3 => k_asm); (case k4 => k_asm); (case k5 => k_asm); (case kK => first | exact rfl | assumption); (case hx => assumption); (case h1 => assumption); (case h2 => assumption); (case kd => ktr_room); (case ku => ktr_units); (case k0 => (try dsimp only); first | assumption | omega); k_whole); intro r9 h9 tk9 O9 F9 N9 hTk9; k_dflt ((obtain ⟨t9, e9⟩ := O9); subst e9); (try dsimp only)))
local macro_rules | `(tactic| walk_at "call ref") => `(tactic| (k_here; k_dflt (refine' does_use (wr_cc14n _ _ _ _ _ _ _ _ _ ?hx ?h1 ?h2) ?k1 ?k2 ?k3 ?k4 ?k5 ?kK ?kd ?ku ?k0 ?_; (case k1 => k_asm); (case k2 => k_asm); (case k3 => k_asm); (case k4 => k_asm); (case k5 => k_asm); (case kK => first | exact rfl | assumption); (case hx => assumption); (case h1 => assumption); (case h2 => assumption); (case kd => ktr_room); (case ku => ktr_units); (case k0 => (try dsimp only); first | assumption | omega); k_whole); intro r9 h9 tk9 O9 F9 N9 hTk9; k_dflt ((obtain ⟨t9, e9⟩ := O9); subst e9); (try dsimp only)))
local macro_rules | `(tactic| walk_at "call ref") => `(tactic| (k_here; k_dflt (refine' does_use (wr_ac14n _ _ _ _ _ _ _ _ _ ?hx ?h1 ?h2) ?k1 ?k2 ?k3 ?k4 ?k5 ?kK ?kd ?ku ?k0 ?_; (case k1 => k_asm); (case k2 => k_asm); (case k3 => k_asm); (case k4 => k_asm); (case k5 => k_asm); (case kK => first | exact rfl | assumption); (case hx => assumption); (case h1 => assumption); (case h2 => assumption); (case kd => ktr_room); (case ku => ktr_units); (case k0 => (try dsimp only); first | assumption | omega); k_whole); intro r9 h9 tk9 O9 F9 N9 hTk9; k_dflt ((obtain ⟨t9, e9⟩ := O9); subst e9); (try dsimp only)))
local macro_rules | `(tactic| walk_at "call ref") => `(tactic| (k_here; k_dflt (refine' does_use (off_ok _ _ _ _ _ _ _ _ _ _ _ rfl rfl ?h1 ?hl) ?k1 ?k2 ?k3 ?k4 ?k5 ?kK ?kd ?ku ?k0 ?_; (case k1 => k_asm); (case k2 => k_asm); (case k3 => k_asm); (case k4 => k_asm); (case k5 => k_asm); (case kK => first | exact rfl | assumption); (case h1 => decide); (case hl => (rw [pg_length]; simp only [List.length_cons, List.length_nil]; omega)); (case kd => ktr_room); (case ku => ktr_units); (case k0 => (try dsimp only); first | assumption | omega); k_whole); intro r9 h9 tk9 O9 F9 N9 hTk9; k_dflt ((obtain ⟨t9, e9⟩ := O9); subst e9); (try dsimp only)))
local macro_rules | `(tactic| walk_at "call ref") => `(tactic| (k_here; k_dflt (refine' does_use (sent_ok _ _ _ _ _ _ _ _ _ _ _ ?he ?hx ?h1 ?h2) ?k1 ?k2 ?k3 ?k4 ?k5 ?kK ?kd ?ku ?k0 ?_; (case k1 => k_asm); (case k2 => k_asm); (case k3 => k_asm); (case k4 => k_asm); (case k5 => k_asm); (case kK => first | exact rfl | assumption); (case hx => assumption); (case he => first | exact .inl rfl | exact .inr (.inl rfl) | exact .inr (.inr rfl)); (case h1 => assumption); (case h2 => assumption); (case kd => ktr_room); (case ku => ktr_units); (case k0 => (try dsimp only); first | assumption | omega); k_whole); intro r9 h9 tk9 O9 F9 N9 hTk9; k_dflt ((obtain ⟨t9, e9⟩ := O9); subst e9); (try dsimp only)))
local macro_rules | `(tactic| walk_at "compareOp Eq str str") => `(tactic| (k_here; (refine eq_known (by assumption) ?_)))
local macro_rules | `(tactic| walk_at "compareOp NotEq str str") => `(tactic| (k_here; (refine ne_known (by assumption) ?_)))
local macro_rules | `(tactic| walk_at "binaryOp Add str str") => `(tactic| (k_here; (refine' add_plain ?h1 ?_; (case h1 => first | omega | (simp only [len_one, Str.length_append]; omega))); intro t9 k9))
local macro_rules | `(tactic| walk_at "binaryOp Add str str") => `(tactic| (k_here; (refine' add_tk ?h0 ?h1 ?_; (case h0 => (try dsimp only); first | assumption | omega); (case h1 => first | omega | (simp only [len_one, Str.length_append]; omega))); intro t9 k9 hTk9))

theorem deed_ok (w : World) (loose : List Str) (mean : ExcName → Option Value) (mg mb : Str → Option Value) (deed : Int) (x : Str) (t t2 : Tok) (d a : Nat) (l : List Nat) (hx : x = tx (pg d a)) (hd1 : d ≤ 20) (ha1 : a ≤ 20) (hb0 : 0 ≤ deed) (hb1 : deed < 8) (hl : (if deed < 3 then pg (d + 1) a else pg d (a + 1)) = l) :
    Does PySem.Challenge.rw_wn0061_02.row.prog w (hd.heap_39 w.params) hd.view_39 loose mean mg mb 30 143 [.int deed t, .str x t2] (IsText l) := by
  k_fill
  w_top off
  unfold Does
  intro dp un gd cn cs ad ccd cl outer A₀ base h₀ L m news s Q E B F X N T hk hd hu h0 hret
  refine with_toks h0 ?_
  refine wpAny_call ?_
  have hxl : x.length ≤ 1000 := by rw [hx, tx_length, pg_length]; omega
  have hc1 : (Str.ofString "<").length = 1 := rfl
  have hc2 : (Str.ofString "\t").length = 1 := rfl
  have hc3 : (Str.ofString "\"").length = 1 := rfl
  have hc4 : (Str.ofString "\r").length = 1 := rfl
  have hc5 : (Str.ofString "\n").length = 1 := rfl
  rcases Int.lt_or_le deed 3 with hc | hc
  · rw [if_pos hc] at hl
    subst hl
    have hcs : deed = 0 ∨ deed = 1 ∨ deed = 2 := by omega
    rcases hcs with rfl | rfl | rfl
    all_goals (k_dflt ktr_enter)
    all_goals (repeat' (first | (k_unfold; (try dsimp only)) | walk1 | (dsimp only; walk1) | (leave1; try dsimp only) | fail "no step"))
    all_goals (exact hret _ _ _ (by assumption) (by first | assumption | exact news_tail (by assumption) | exact news_tail (news_tail (by assumption)) | exact news_tail (news_tail (news_tail (by assumption))) | exact news_tail (news_tail (news_tail (news_tail (by assumption)))) | exact news_tail (news_tail (news_tail (news_tail (news_tail (by assumption))))) | exact news_tail (news_tail (news_tail (news_tail (news_tail (news_tail (by assumption))))))) (by omega) ⟨_, rfl⟩)
  · rw [if_neg (by omega)] at hl
    subst hl
    k_dflt ktr_enter
    (repeat' (first | (k_unfold; (try dsimp only)) | walk1 | (dsimp only; walk1) | (leave1; try dsimp only) | fail "no step"))
    all_goals (exact hret _ _ _ (by assumption) (by first | assumption | exact news_tail (by assumption) | exact news_tail (news_tail (by assumption)) | exact news_tail (news_tail (news_tail (by assumption))) | exact news_tail (news_tail (news_tail (news_tail (by assumption)))) | exact news_tail (news_tail (news_tail (news_tail (news_tail (by assumption))))) | exact news_tail (news_tail (news_tail (news_tail (news_tail (news_tail (by assumption))))))) (by omega) ⟨_, rfl⟩)
end Mine
end
section
open PySem PySem.W PyProof.Rows PySem.Calls PySem.Spec
namespace Mine
local macro_rules | `(tactic| walk_at "pad 0") => `(tactic| fail "pad")
local macro_rules | `(tactic| walk_at "pad 1") => `(tactic| fail "pad")
local macro_rules | `(tactic| walk_at "pad 2") => `(tactic| fail "pad")
local macro_rules | `(tactic| walk_at "pad 3") => `(tactic| fail "pad")
local macro_rules | `(tactic| walk_at "pad 4") => `(tactic| fail "pad")
local macro_rules | `(tactic| walk_at "pad 5") => `(tactic| fail "pad")
local macro_rules | `(tactic| walk_at "pad 6") => `(tactic| fail "pad")
local macro_rules | `(tactic| walk_at "pad 7") => `(tactic| fail "pad")
local macro_rules | `(tactic| walk_at "pad 8") => `(tactic| fail "pad")
local macro_rules | `(tactic| walk_at "pad 9") => `(tactic| fail "pad")
local macro_rules | `(tactic| walk_at "pad 10") => `(tactic| fail "pad")
local macro_rules | `(tactic| walk_at "pad 11") => `(tactic| fail "pad")
local macro_rules | `(tactic| walk_at "pad 12") => `(tactic| fail "pad")
local macro_rules | `(tactic| walk_at "pad 13") => `(tactic| fail "pad")
local macro_rules | `(tactic| walk_at "getMethod ref") => `(tactic| (k_here; (with_reducible show wpAny _ _ (getMethod (Value.ref _) (PySem.Str.ofString "sub") _) _ _ _); k_dflt (refine' method_sub_K ?k1 ?k2 ?k3 ?_; (case k1 => k_asm); (case k2 => k_asm); (case k3 => k_is); k_whole)))
local macro_rules | `(tactic| walk_at "call builtin:re.Pattern.sub") => `(tactic| (k_here; k_dflt (refine' sub2_K ?k1 ?k2 ?k3 ?k4 ?k5 ?k6 ?k7 ?k8 ?k9 ?ka ?kb ?_; (case k1 => k_asm); (case k2 => k_asm); (case k3 => k_asm); (case k4 => k_is); (case k5 => exact rfl); (case k6 => k_is); (case k7 => decide +kernel); (case k8 => exact rfl); (case k9 => exact rfl); (case ka => decide +kernel); (case kb => first | assumption | omega); k_whole); intro h9 tk9 t9 F9 N9 z9))
local macro_rules | `(tactic| walk_at "call builtin:re.Pattern.sub") => `(tactic| (k_here; k_dflt (refine' sub1_K ?k1 ?k2 ?k3 ?k4 ?k5 ?k6 ?k7 ?k8 ?k9 ?ka ?kb ?_; (case k1 => k_asm); (case k2 => k_asm); (case k3 => k_asm); (case k4 => k_is); (case k5 => exact rfl); (case k6 => k_is); (case k7 => decide +kernel); (case k8 => exact rfl); (case k9 => exact rfl); (case ka => decide +kernel); (case kb => first | assumption | omega); k_whole); intro h9 tk9 t9 F9 N9))
local macro_rules | `(tactic| walk_at "execs nil") => `(tactic| (k_here; (with_reducible show wpAny _ _ _ _ _ ⟨_, _, _, _ + _, _⟩); (refine gen_tk (by first | assumption | omega) ?_); intro tk9 hTk9))
local macro_rules | `(tactic| walk_at "execs cons") => `(tactic| (k_here; (refine' execs_cons_tk ?h0 ?_; (case h0 => (try dsimp only); first | assumption | omega)); (try k_fold)))
local macro_rules | `(tactic| walk_at "execs cons") => `(tactic| (k_here; (with_reducible show wpAny _ _ _ _ _ ⟨_, _, _, _ + _, _⟩); (refine gen_tk (by first | assumption | omega) ?_); intro tk9 hTk9))
local macro_rules | `(tactic| walk_at "TkGo") => `(tactic| (intro hTk9; (try dsimp only at hTk9 ⊢)))
local macro_rules | `(tactic| walk_at "call builtin:str.replace") => `(tactic| (k_here; k_dflt (show wpAny _ _ (call (Value.builtin "str.replace") [Value.str _ _, Value.str _ _, Value.str _ _]) _ _ _); (refine' replace_tk ?k0 ?k1 ?k2 ?k3 ?k4 ?k5 ?k6 ?_; (case k0 => (try dsimp only); first | assumption | omega); (case k1 => omega); (case k2 => omega); (case k3 => omega); (case k4 => decide +kernel); (case k5 => first | assumption | exact size_of_spec (by assumption) (by omega)); (case k6 => decide +kernel); k_whole); intro t9 k9 hTk9))
local macro_rules | `(tactic| walk_at "EscPost") => `(tactic| first | exact escPost_yes (by assumption) (by assumption) (by first | assumption | omega) | exact escPost_no (by assumption) (by decide +kernel) (by assumption) (by assumption) (by first | assumption | omega) rfl)
local macro_rules | `(tactic| walk_at "exec If") => `(tactic| (k_here; (fail_if_success (have hM9 : EscMark := by assumption)); (with_reducible show wpAny _ _ (exec (Stmt.If (Expr.Compare (Expr.Constant (Const.str _) _ _) [CmpOp.In] [Expr.Name _ _] _) [Stmt.Assign [Expr.Name _ _] (Expr.Call _ _ _ _) _] [] _) _) _ _ _); (rename Fr _ _ _ _ => eF'); (rename News _ _ _ _ => eN'); (rename (spec _ ≤ _) => eB'); k_dflt (refine' esc_if eF' eN' ?km ?ka _ 491520 eB' ?ks ?k1 ?_; (case km => exact rfl); (case ka => decide +kernel); (case ks => first | exact ⟨1, by decide +kernel, by decide, by decide⟩ | exact ⟨5, by decide +kernel, by decide, by decide⟩); (case k1 => (intro hM9;  (repeat' (first | (k_unfold; (try dsimp only)) | walk1 | (dsimp only; walk1) | (leave1; try dsimp only) | fail "no step"))))); intro h9 tk9 t9 hTk9 hB9 F9 N9))
local macro_rules | `(tactic| walk_at "subscriptTail Name Slice str ref") => `(tactic| (k_here; (with_reducible show wpAny _ _ (subscriptTail _ (Expr.Slice none (some _) none _) _ _) _ _ _); (rename Fr _ _ _ _ => sF'); (rename News _ _ _ _ => sN'); (refine' slice_tk_ns (s := ⟨_, _, _, _, _⟩) ?h0 sF' sN' ?h1 ?_ ?hs ?ht; (case h0 => (try dsimp only); first | assumption | omega); (case h1 => first | omega | (simp only [len_one, Str.length_append]; omega)); (case hs => with_unfolding_all rfl); (case ht => intro _; with_unfolding_all rfl)); intro h9 t9 k9 hTk9 F9 N9))
local macro_rules | `(tactic| walk_at "subscriptTail Name Slice str ref") => `(tactic| (k_here; (with_reducible show wpAny _ _ (subscriptTail _ (Expr.Slice (some _) none none _) _ _) _ _ _); (rename Fr _ _ _ _ => sF'); (rename News _ _ _ _ => sN'); (refine' slice_tk_sn (s := ⟨_, _, _, _, _⟩) ?h0 sF' sN' ?h1 ?_ ?hs ?ht; (case h0 => (try dsimp only); first | assumption | omega); (case h1 => first | omega | (simp only [len_one, Str.length_append]; omega)); (case hs => with_unfolding_all rfl); (case ht => intro _; with_unfolding_all rfl)); intro h9 t9 k9 hTk9 F9 N9))
local macro_rules | `(tactic| walk_at "subscriptTail Name Slice str ref") => `(tactic| (k_here; (with_reducible show wpAny _ _ (subscriptTail _ (Expr.Slice (some _) (some _) none _) _ _) _ _ _); (rename Fr _ _ _ _ => sF'); (rename News _ _ _ _ => sN'); (refine' slice_tk_ss (s := ⟨_, _, _, _, _⟩) ?h0 sF' sN' ?h1 ?_ ?hs ?ht; (case h0 => (try dsimp only); first | assumption | omega); (case h1 => first | omega | (simp only [len_one, Str.length_append]; omega)); (case hs => with_unfolding_all rfl); (case ht => intro _; with_unfolding_all rfl)); intro h9 t9 k9 hTk9 F9 N9))
local macro_rules | `(tactic| walk_at "UnrEnd") => `(tactic| (k_here; (rename News _ _ _ (_ :: _) => uN'); k_dflt (refine' UnrEnd.intro ?f uN' _ (fun _ h => h) (fun p hp => Nat.ne_of_lt (ktn_ltOf ?a p hp)) ?_; (case f => assumption); (case a => assumption))))
def onesOf : Nat → Nat → Nat
  | 0, _ => 0
  | f + 1, n => n % 2 + onesOf f (n / 2)
theorem ones_ok (w : World) (loose : List Str) (mean : ExcName → Option Value) (mg mb : Str → Option Value) (n : Int) (t : Tok) (r : Int) (h0 : 1 ≤ n) (h1 : n ≤ 8) (hr : ((onesOf 4 n.toNat : Nat) : Int) = r) :
    Does PySem.Challenge.rw_wn0061_02.row.prog w (hd.heap_39 w.params) hd.view_39 loose mean mg mb 4 169 [.int n t] (fun v => ∃ t, v = .int r t) := by
  k_fill
  w_top off
  unfold Does
  intro dp un gd cn cs ad ccd cl outer A₀ base h₀ L m news s Q E B F X N T hk hd hu h0 hret
  refine with_toks h0 ?_
  refine wpAny_call ?_
  have hcs : n = 1 ∨ n = 2 ∨ n = 3 ∨ n = 4 ∨ n = 5 ∨ n = 6 ∨ n = 7 ∨ n = 8 := by omega
  rcases hcs with rfl | rfl | rfl | rfl | rfl | rfl | rfl | rfl
  all_goals (k_dflt ktr_enter)
  all_goals (repeat' (first | (k_unfold; (try dsimp only)) | walk1 | (dsimp only; walk1) | (leave1; try dsimp only) | fail "no step"))
  all_goals (exact hret _ _ _ (by assumption) (by first | assumption | exact news_tail (by assumption) | exact news_tail (news_tail (by assumption)) | exact news_tail (news_tail (news_tail (by assumption))) | exact news_tail (news_tail (news_tail (news_tail (by assumption)))) | exact news_tail (news_tail (news_tail (news_tail (news_tail (by assumption))))) | exact news_tail (news_tail (news_tail (news_tail (news_tail (news_tail (by assumption))))))) (by omega) ⟨_, by rw [← hr]; rfl⟩)
end Mine
end
section
open PySem PySem.W PyProof.Rows PySem.Calls PySem.Spec
namespace Mine
local macro_rules | `(tactic| walk_at "pad 0") => `(tactic| fail "pad")
local macro_rules | `(tactic| walk_at "pad 1") => `(tactic| fail "pad")
local macro_rules | `(tactic| walk_at "pad 2") => `(tactic| fail "pad")
local macro_rules | `(tactic| walk_at "pad 3") => `(tactic| fail "pad")
local macro_rules | `(tactic| walk_at "pad 4") => `(tactic| fail "pad")
local macro_rules | `(tactic| walk_at "pad 5") => `(tactic| fail "pad")
local macro_rules | `(tactic| walk_at "pad 6") => `(tactic| fail "pad")
local macro_rules | `(tactic| walk_at "pad 7") => `(tactic| fail "pad")
local macro_rules | `(tactic| walk_at "pad 8") => `(tactic| fail "pad")
local macro_rules | `(tactic| walk_at "pad 9") => `(tactic| fail "pad")
local macro_rules | `(tactic| walk_at "getMethod ref") => `(tactic| (k_here; (with_reducible show wpAny _ _ (getMethod (Value.ref _) (PySem.Str.ofString "sub") _) _ _ _); k_dflt (refine' method_sub_K ?k1 ?k2 ?k3 ?_; (case k1 => k_asm); (case k2 => k_asm); (case k3 => k_is); k_whole)))
local macro_rules | `(tactic| walk_at "call builtin:re.Pattern.sub") => `(tactic| (k_here; k_dflt (refine' sub2_K ?k1 ?k2 ?k3 ?k4 ?k5 ?k6 ?k7 ?k8 ?k9 ?ka ?kb ?_; (case k1 => k_asm); (case k2 => k_asm); (case k3 => k_asm); (case k4 => k_is); (case k5 => exact rfl); (case k6 => k_is); (case k7 => decide +kernel); (case k8 => exact rfl); (case k9 => exact rfl); (case ka => decide +kernel); (case kb => first | assumption | omega); k_whole); intro h9 tk9 t9 F9 N9 z9))
local macro_rules | `(tactic| walk_at "call builtin:re.Pattern.sub") => `(tactic| (k_here; k_dflt (refine' sub1_K ?k1 ?k2 ?k3 ?k4 ?k5 ?k6 ?k7 ?k8 ?k9 ?ka ?kb ?_; (case k1 => k_asm); (case k2 => k_asm); (case k3 => k_asm); (case k4 => k_is); (case k5 => exact rfl); (case k6 => k_is); (case k7 => decide +kernel); (case k8 => exact rfl); (case k9 => exact rfl); (case ka => decide +kernel); (case kb => first | assumption | omega); k_whole); intro h9 tk9 t9 F9 N9))
local macro_rules | `(tactic| walk_at "execs nil") => `(tactic| (k_here; (with_reducible show wpAny _ _ _ _ _ ⟨_, _, _, _ + _, _⟩); (refine gen_tk (by first | assumption | omega) ?_); intro tk9 hTk9))
local macro_rules | `(tactic| walk_at "execs cons") => `(tactic| (k_here; (refine' execs_cons_tk ?h0 ?_; (case h0 => (try dsimp only); first | assumption | omega)); (try k_fold)))
local macro_rules | `(tactic| walk_at "execs cons") => `(tactic| (k_here; (with_reducible show wpAny _ _ _ _ _ ⟨_, _, _, _ + _, _⟩); (refine gen_tk (by first | assumption | omega) ?_); intro tk9 hTk9))
local macro_rules | `(tactic| walk_at "TkGo") => `(tactic| (intro hTk9; (try dsimp only at hTk9 ⊢)))
local macro_rules | `(tactic| walk_at "call builtin:str.replace") => `(tactic| (k_here; k_dflt (show wpAny _ _ (call (Value.builtin "str.replace") [Value.str _ _, Value.str _ _, Value.str _ _]) _ _ _); (refine' replace_tk ?k0 ?k1 ?k2 ?k3 ?k4 ?k5 ?k6 ?_; (case k0 => (try dsimp only); first | assumption | omega); (case k1 => omega); (case k2 => omega); (case k3 => omega); (case k4 => decide +kernel); (case k5 => first | assumption | exact size_of_spec (by assumption) (by omega)); (case k6 => decide +kernel); k_whole); intro t9 k9 hTk9))
local macro_rules | `(tactic| walk_at "EscPost") => `(tactic| first | exact escPost_yes (by assumption) (by assumption) (by first | assumption | omega) | exact escPost_no (by assumption) (by decide +kernel) (by assumption) (by assumption) (by first | assumption | omega) rfl)
local macro_rules | `(tactic| walk_at "exec If") => `(tactic| (k_here; (fail_if_success (have hM9 : EscMark := by assumption)); (with_reducible show wpAny _ _ (exec (Stmt.If (Expr.Compare (Expr.Constant (Const.str _) _ _) [CmpOp.In] [Expr.Name _ _] _) [Stmt.Assign [Expr.Name _ _] (Expr.Call _ _ _ _) _] [] _) _) _ _ _); (rename Fr _ _ _ _ => eF'); (rename News _ _ _ _ => eN'); (rename (spec _ ≤ _) => eB'); k_dflt (refine' esc_if eF' eN' ?km ?ka _ 491520 eB' ?ks ?k1 ?_; (case km => exact rfl); (case ka => decide +kernel); (case ks => first | exact ⟨1, by decide +kernel, by decide, by decide⟩ | exact ⟨5, by decide +kernel, by decide, by decide⟩); (case k1 => (intro hM9;  (repeat' (first | (k_unfold; (try dsimp only)) | walk1 | (dsimp only; walk1) | (leave1; try dsimp only) | fail "no step"))))); intro h9 tk9 t9 hTk9 hB9 F9 N9))
local macro_rules | `(tactic| walk_at "subscriptTail Name Slice str ref") => `(tactic| (k_here; (with_reducible show wpAny _ _ (subscriptTail _ (Expr.Slice none (some _) none _) _ _) _ _ _); (rename Fr _ _ _ _ => sF'); (rename News _ _ _ _ => sN'); (refine' slice_tk_ns (s := ⟨_, _, _, _, _⟩) ?h0 sF' sN' ?h1 ?_ ?hs ?ht; (case h0 => (try dsimp only); first | assumption | omega); (case h1 => first | omega | (simp only [len_one, Str.length_append]; omega)); (case hs => with_unfolding_all rfl); (case ht => intro _; with_unfolding_all rfl)); intro h9 t9 k9 hTk9 F9 N9))
local macro_rules | `(tactic| walk_at "subscriptTail Name Slice str ref") => `(tactic| (k_here; (with_reducible show wpAny _ _ (subscriptTail _ (Expr.Slice (some _) none none _) _ _) _ _ _); (rename Fr _ _ _ _ => sF'); (rename News _ _ _ _ => sN'); (refine' slice_tk_sn (s := ⟨_, _, _, _, _⟩) ?h0 sF' sN' ?h1 ?_ ?hs ?ht; (case h0 => (try dsimp only); first | assumption | omega); (case h1 => first | omega | (simp only [len_one, Str.length_append]; omega)); (case hs => with_unfolding_all rfl); (case ht => intro _; with_unfolding_all rfl)); intro h9 t9 k9 hTk9 F9 N9))
local macro_rules | `(tactic| walk_at "subscriptTail Name Slice str ref") => `(tactic| (k_here; (with_reducible show wpAny _ _ (subscriptTail _ (Expr.Slice (some _) (some _) none _) _ _) _ _ _); (rename Fr _ _ _ _ => sF'); (rename News _ _ _ _ => sN'); (refine' slice_tk_ss (s := ⟨_, _, _, _, _⟩) ?h0 sF' sN' ?h1 ?_ ?hs ?ht; (case h0 => (try dsimp only); first | assumption | omega); (case h1 => first | omega | (simp only [len_one, Str.length_append]; omega)); (case hs => with_unfolding_all rfl); (case ht => intro _; with_unfolding_all rfl)); intro h9 t9 k9 hTk9 F9 N9))
local macro_rules | `(tactic| walk_at "UnrEnd") => `(tactic| (k_here; (rename News _ _ _ (_ :: _) => uN'); k_dflt (refine' UnrEnd.intro ?f uN' _ (fun _ h => h) (fun p hp => Nat.ne_of_lt (ktn_ltOf ?a p hp)) ?_; (case f => assumption); (case a => assumption))))
theorem fmod_lt (x k : Int) (hk : 0 < k) : 0 ≤ Int.fmod x k ∧ Int.fmod x k < k := by
  rw [Int.fmod_eq_emod_of_nonneg _ (by omega)]
  exact ⟨Int.emod_nonneg _ (by omega), Int.emod_lt_of_pos _ hk⟩
theorem fdiv_le (x k : Int) (hx : 0 ≤ x) (hk : 0 < k) : 0 ≤ Int.fdiv x k ∧ Int.fdiv x k ≤ x := by
  rw [Int.fdiv_eq_ediv_of_nonneg _ (by omega)]
  exact ⟨Int.ediv_nonneg hx (by omega), Int.ediv_le_self _ hx⟩
def cst (x y : Int) (i : Nat) (c : Int) : Int := Int.fdiv (Int.fmod (Int.fdiv x (2 ^ i)) 2 + Int.fmod (Int.fdiv y (2 ^ i)) 2 + c) 2
def cry (x y : Int) : Nat → Int × Int
  | 0 => (0, 0)
  | i + 1 => (cst x y i (cry x y i).1, (cry x y i).2 + cst x y i (cry x y i).1)
theorem cst_bnd (x y : Int) (i : Nat) (c : Int) (h0 : 0 ≤ c) (h1 : c ≤ 1) : 0 ≤ cst x y i c ∧ cst x y i c ≤ 1 := by
  unfold cst
  have h2 := fmod_lt (Int.fdiv x (2 ^ i)) 2 (by decide)
  have h3 := fmod_lt (Int.fdiv y (2 ^ i)) 2 (by decide)
  rw [Int.fdiv_eq_ediv_of_nonneg _ (by decide)]
  omega
theorem cry_bnd (x y : Int) : ∀ i, (0 ≤ (cry x y i).1 ∧ (cry x y i).1 ≤ 1) ∧ 0 ≤ (cry x y i).2 ∧ (cry x y i).2 ≤ i
  | 0 => by simp [cry]
  | i + 1 => by
    have h := cry_bnd x y i
    have h2 := cst_bnd x y i _ h.1.1 h.1.2
    show (0 ≤ cst x y i (cry x y i).1 ∧ cst x y i (cry x y i).1 ≤ 1) ∧ 0 ≤ (cry x y i).2 + cst x y i (cry x y i).1 ∧ (cry x y i).2 + cst x y i (cry x y i).1 ≤ ((i + 1 : Nat) : Int)
    omega
def CM (c : Int) (t1 : Tok) (cs : Int) (t2 : Tok) (x : Int) (t3 : Tok) (y : Int) (t4 : Tok) (u : Str → Option Value) : Str → Option Value :=
  fun z => if z = Str.ofString "carry" then some (.int c t1) else if z = Str.ofString "carries" then some (.int cs t2) else if z = Str.ofString "first" then some (.int x t3) else if z = Str.ofString "second" then some (.int y t4) else u z
def CJ (x y : Int) (i : Nat) (m : Str → Option Value) : Prop :=
  ∃ (c : Int) (t1 : Tok) (cs : Int) (t2 : Tok) (t3 t4 : Tok) (u : Str → Option Value), c = (cry x y i).1 ∧ cs = (cry x y i).2 ∧ m = CM c t1 cs t2 x t3 y t4 u
theorem CJ_of {x y : Int} {i : Nat} {m : Str → Option Value} {c cs : Int} {t1 t2 t3 t4 : Tok} (h1 : m (Str.ofString "carry") = some (.int c t1)) (h2 : m (Str.ofString "carries") = some (.int cs t2)) (h3 : m (Str.ofString "first") = some (.int x t3)) (h4 : m (Str.ofString "second") = some (.int y t4))
    (hc : c = (cry x y i).1) (hcs : cs = (cry x y i).2) : CJ x y i m := by
  refine ⟨c, t1, cs, t2, t3, t4, m, hc, hcs, ?_⟩
  funext z
  unfold CM
  split
  · rename_i h; rw [h, h1]
  · split
    · rename_i h; rw [h, h2]
    · split
      · rename_i h; rw [h, h3]
      · split
        · rename_i h; rw [h, h4]
        · rfl
theorem pow_as {prog : Program} {w : World} {A : Around} {E : Value → Shared → Prop} {s : Shared} {n P : Int} {t u : Tok} {Q : Value → Shared → Prop} (h : (2 : Int) ^ n.toNat = P) (h0 : 0 ≤ n) (h1 : n ≤ 1000) (hq : Q (.int P s.toks) { s with toks := s.toks + 1 }) :
    wpAny (model prog w) A (binaryOp .Pow (.int 2 t) (.int n u)) Q E s := by
  refine pow_int_small h0 (by omega) (by decide) ?_
  rw [h]
  exact hq
local macro_rules | `(tactic| walk_at "binaryOp Pow int int") => `(tactic| (k_here; (refine pow_as (by assumption) (by omega) (by omega) ?_)))
local macro_rules | `(tactic| walk_at "execs cons") => `(tactic| (k_here; (fail_if_success (have hM9 : EscMark := by assumption)); refine stop_here ?_))
local macro_rules | `(tactic| walk_at "exec For Name Call cons nil") => `(tactic| (k_here; refine stop_here ?_))
local macro_rules | `(tactic| walk_at "pyIter ref") => `(tactic| (k_here; refine stop_here ?_))
local macro_rules | `(tactic| walk_at "LoopJ") => `(tactic| (refine stop_here ?_))

theorem carries_ok (w : World) (loose : List Str) (mean : ExcName → Option Value) (mg mb : Str → Option Value) (x y : Int) (t t2 : Tok) (r : Int) (hx0 : 0 ≤ x) (hx1 : x ≤ 14) (hy0 : 0 ≤ y) (hy1 : y ≤ 8) (hr : (cry x y 6).2 = r) :
    Does PySem.Challenge.rw_wn0061_02.row.prog w (hd.heap_39 w.params) hd.view_39 loose mean mg mb 4 176 [.int x t, .int y t2] (fun v => ∃ t, v = .int r t) := by
  k_fill
  w_top off
  unfold Does
  intro dp un gd cn cs ad ccd cl outer A₀ base h₀ L m news s Q E B F X N T hk hd hu h0 hret
  refine with_toks h0 ?_
  refine wpAny_call ?_
  k_dflt ktr_enter
  (repeat' (first | (k_unfold; (try dsimp only)) | walk1 | (dsimp only; walk1) | (leave1; try dsimp only) | fail "no step"))
  (unfold StopHere; (try (refine gen_tk (by first | assumption | omega) ?_; intro tk9 hTk9)); refine' execs_cons_tk ?h0 ?_; (case h0 => (try dsimp only); first | assumption | omega); (try k_fold);  (repeat' (first | (k_unfold; (try dsimp only)) | walk1 | (dsimp only; walk1) | (leave1; try dsimp only) | fail "no step")))
  (unfold StopHere; (try (refine gen_tk (by first | assumption | omega) ?_; intro tk9 hTk9)); refine' execs_cons_tk ?h0 ?_; (case h0 => (try dsimp only); first | assumption | omega); (try k_fold);  (repeat' (first | (k_unfold; (try dsimp only)) | walk1 | (dsimp only; walk1) | (leave1; try dsimp only) | fail "no step")))
  ((unfold StopHere; (try (refine gen_tk (by first | assumption | omega) ?_; intro tk9 hTk9)); refine' execs_cons_tk ?h0 ?_; (case h0 => (try dsimp only); first | assumption | omega); (try k_fold);  (repeat' (first | (k_unfold; (try dsimp only)) | walk1 | (dsimp only; walk1) | (leave1; try dsimp only) | fail "no step"))); unfold StopHere; refine wpAny_For ?_ (by intro _; rfl); refine with_toks (by first | assumption | omega) ?_;  (repeat' (first | (k_unfold; (try dsimp only)) | walk1 | (dsimp only; walk1) | (leave1; try dsimp only) | fail "no step")))
  unfold StopHere
  (rename Fr _ _ _ _ => F1)
  refine for_rangeJ (n := 6) (CJ x y) (by assumption) (by decide) (by decide) F1 (by assumption) (by first | assumption | omega) (CJ_of rfl rfl rfl rfl rfl rfl) (by first | rfl | assumption) (by rfl) (by rfl) ?step ?done
  case step =>
    intro i ti h tk m' I it hi hTk hJ hI F2 N2
    have hMark : EscMark := ⟨⟩
    obtain ⟨c, t1, cs, t3, t4, t5, u, hc, hcs, hm⟩ := hJ
    subst hm
    unfold CM at F2
    have hbc := cry_bnd x y i
    rw [← hc, ← hcs] at hbc
    obtain ⟨P, hP⟩ : ∃ P, (2 : Int) ^ ((0 : Int) + (i : Nat)).toNat = P := ⟨_, rfl⟩
    have hPi : (2 : Int) ^ i = P := by rw [← hP, Int.zero_add, Int.toNat_natCast]
    have hPb : 1 ≤ P ∧ P ≤ 32 := by
      rw [← hPi]
      have hi6 : i = 0 ∨ i = 1 ∨ i = 2 ∨ i = 3 ∨ i = 4 ∨ i = 5 := by omega
      rcases hi6 with rfl | rfl | rfl | rfl | rfl | rfl <;> decide
    have hqx := fdiv_le x P hx0 (by omega)
    have hqy := fdiv_le y P hy0 (by omega)
    have hrx := fmod_lt (Int.fdiv x P) 2 (by decide)
    have hry := fmod_lt (Int.fdiv y P) 2 (by decide)
    have hst : Int.fdiv (Int.fmod (Int.fdiv x P) 2 + Int.fmod (Int.fdiv y P) 2 + c) 2 = (cry x y (i + 1)).1 := by rw [← hPi, hc]; rfl
    have hst2 : cs + (cry x y (i + 1)).1 = (cry x y (i + 1)).2 := by rw [hcs]; rfl
    (repeat' (first | (k_unfold; (try dsimp only)) | walk1 | (dsimp only; walk1) | (leave1; try dsimp only) | fail "no step"))
    unfold StopHere
    (rename Fr _ _ _ _ => F5)
    exact ⟨rfl, _, _, _, rfl, by assumption, F5, (by first | assumption | exact news_tail (by assumption) | exact news_tail (news_tail (by assumption)) | exact news_tail (news_tail (news_tail (by assumption))) | exact news_tail (news_tail (news_tail (news_tail (by assumption)))) | exact news_tail (news_tail (news_tail (news_tail (news_tail (by assumption))))) | exact news_tail (news_tail (news_tail (news_tail (news_tail (news_tail (by assumption))))))) , CJ_of rfl rfl rfl rfl hst (by rw [hst]; exact hst2)⟩
  case done =>
    intro h tk m' hTk hJ F2 N2
    obtain ⟨c, t1, cs, t3, t4, t5, u, hc, hcs, hm⟩ := hJ
    subst hm
    unfold CM at F2
    (repeat' (first | (k_unfold; (try dsimp only)) | walk1 | (dsimp only; walk1) | (leave1; try dsimp only) | fail "no step"))
    (unfold StopHere; (try (refine gen_tk (by first | assumption | omega) ?_; intro tk9 hTk9)); refine' execs_cons_tk ?h0 ?_; (case h0 => (try dsimp only); first | assumption | omega); (try k_fold);  (repeat' (first | (k_unfold; (try dsimp only)) | walk1 | (dsimp only; walk1) | (leave1; try dsimp only) | fail "no step")))
    exact hret _ _ _ (by assumption) (by first | assumption | exact news_tail (by assumption) | exact news_tail (news_tail (by assumption)) | exact news_tail (news_tail (news_tail (by assumption))) | exact news_tail (news_tail (news_tail (news_tail (by assumption)))) | exact news_tail (news_tail (news_tail (news_tail (news_tail (by assumption))))) | exact news_tail (news_tail (news_tail (news_tail (news_tail (news_tail (by assumption))))))) (by omega) ⟨_, by rw [← hr, hcs]⟩
end Mine
end
section
open PySem PySem.W PyProof.Rows PySem.Calls PySem.Spec
namespace Mine
local macro_rules | `(tactic| walk_at "pad 0") => `(tactic| fail "pad")
local macro_rules | `(tactic| walk_at "pad 1") => `(tactic| fail "pad")
local macro_rules | `(tactic| walk_at "getMethod ref") => `(tactic| (k_here; (with_reducible show wpAny _ _ (getMethod (Value.ref _) (PySem.Str.ofString "sub") _) _ _ _); k_dflt (refine' method_sub_K ?k1 ?k2 ?k3 ?_; (case k1 => k_asm); (case k2 => k_asm); (case k3 => k_is); k_whole)))
local macro_rules | `(tactic| walk_at "call builtin:re.Pattern.sub") => `(tactic| (k_here; k_dflt (refine' sub2_K ?k1 ?k2 ?k3 ?k4 ?k5 ?k6 ?k7 ?k8 ?k9 ?ka ?kb ?_; (case k1 => k_asm); (case k2 => k_asm); (case k3 => k_asm); (case k4 => k_is); (case k5 => exact rfl); (case k6 => k_is); (case k7 => decide +kernel); (case k8 => exact rfl); (case k9 => exact rfl); (case ka => decide +kernel); (case kb => first | assumption | omega); k_whole); intro h9 tk9 t9 F9 N9 z9))
local macro_rules | `(tactic| walk_at "call builtin:re.Pattern.sub") => `(tactic| (k_here; k_dflt (refine' sub1_K ?k1 ?k2 ?k3 ?k4 ?k5 ?k6 ?k7 ?k8 ?k9 ?ka ?kb ?_; (case k1 => k_asm); (case k2 => k_asm); (case k3 => k_asm); (case k4 => k_is); (case k5 => exact rfl); (case k6 => k_is); (case k7 => decide +kernel); (case k8 => exact rfl); (case k9 => exact rfl); (case ka => decide +kernel); (case kb => first | assumption | omega); k_whole); intro h9 tk9 t9 F9 N9))
local macro_rules | `(tactic| walk_at "execs nil") => `(tactic| (k_here; (with_reducible show wpAny _ _ _ _ _ ⟨_, _, _, _ + _, _⟩); (refine gen_tk (by first | assumption | omega) ?_); intro tk9 hTk9))
local macro_rules | `(tactic| walk_at "execs cons") => `(tactic| (k_here; (refine' execs_cons_tk ?h0 ?_; (case h0 => (try dsimp only); first | assumption | omega)); (try k_fold)))
local macro_rules | `(tactic| walk_at "execs cons") => `(tactic| (k_here; (with_reducible show wpAny _ _ _ _ _ ⟨_, _, _, _ + _, _⟩); (refine gen_tk (by first | assumption | omega) ?_); intro tk9 hTk9))
local macro_rules | `(tactic| walk_at "TkGo") => `(tactic| (intro hTk9; (try dsimp only at hTk9 ⊢)))
local macro_rules | `(tactic| walk_at "call builtin:str.replace") => `(tactic| (k_here; k_dflt (show wpAny _ _ (call (Value.builtin "str.replace") [Value.str _ _, Value.str _ _, Value.str _ _]) _ _ _); (refine' replace_tk ?k0 ?k1 ?k2 ?k3 ?k4 ?k5 ?k6 ?_; (case k0 => (try dsimp only); first | assumption | omega); (case k1 => omega); (case k2 => omega); (case k3 => omega); (case k4 => decide +kernel); (case k5 => first | assumption | exact size_of_spec (by assumption) (by omega)); (case k6 => decide +kernel); k_whole); intro t9 k9 hTk9))
local macro_rules | `(tactic| walk_at "EscPost") => `(tactic| first | exact escPost_yes (by assumption) (by assumption) (by first | assumption | omega) | exact escPost_no (by assumption) (by decide +kernel) (by assumption) (by assumption) (by first | assumption | omega) rfl)
local macro_rules | `(tactic| walk_at "exec If") => `(tactic| (k_here; (fail_if_success (have hM9 : EscMark := by assumption)); (with_reducible show wpAny _ _ (exec (Stmt.If (Expr.Compare (Expr.Constant (Const.str _) _ _) [CmpOp.In] [Expr.Name _ _] _) [Stmt.Assign [Expr.Name _ _] (Expr.Call _ _ _ _) _] [] _) _) _ _ _); (rename Fr _ _ _ _ => eF'); (rename News _ _ _ _ => eN'); (rename (spec _ ≤ _) => eB'); k_dflt (refine' esc_if eF' eN' ?km ?ka _ 491520 eB' ?ks ?k1 ?_; (case km => exact rfl); (case ka => decide +kernel); (case ks => first | exact ⟨1, by decide +kernel, by decide, by decide⟩ | exact ⟨5, by decide +kernel, by decide, by decide⟩); (case k1 => (intro hM9;  (repeat' (first | (k_unfold; (try dsimp only)) | walk1 | (dsimp only; walk1) | (leave1; try dsimp only) | fail "no step"))))); intro h9 tk9 t9 hTk9 hB9 F9 N9))
local macro_rules | `(tactic| walk_at "subscriptTail Name Slice str ref") => `(tactic| (k_here; (with_reducible show wpAny _ _ (subscriptTail _ (Expr.Slice none (some _) none _) _ _) _ _ _); (rename Fr _ _ _ _ => sF'); (rename News _ _ _ _ => sN'); (refine' slice_tk_ns (s := ⟨_, _, _, _, _⟩) ?h0 sF' sN' ?h1 ?_ ?hs ?ht; (case h0 => (try dsimp only); first | assumption | omega); (case h1 => first | omega | (simp only [len_one, Str.length_append]; omega)); (case hs => with_unfolding_all rfl); (case ht => intro _; with_unfolding_all rfl)); intro h9 t9 k9 hTk9 F9 N9))
local macro_rules | `(tactic| walk_at "subscriptTail Name Slice str ref") => `(tactic| (k_here; (with_reducible show wpAny _ _ (subscriptTail _ (Expr.Slice (some _) none none _) _ _) _ _ _); (rename Fr _ _ _ _ => sF'); (rename News _ _ _ _ => sN'); (refine' slice_tk_sn (s := ⟨_, _, _, _, _⟩) ?h0 sF' sN' ?h1 ?_ ?hs ?ht; (case h0 => (try dsimp only); first | assumption | omega); (case h1 => first | omega | (simp only [len_one, Str.length_append]; omega)); (case hs => with_unfolding_all rfl); (case ht => intro _; with_unfolding_all rfl)); intro h9 t9 k9 hTk9 F9 N9))
local macro_rules | `(tactic| walk_at "subscriptTail Name Slice str ref") => `(tactic| (k_here; (with_reducible show wpAny _ _ (subscriptTail _ (Expr.Slice (some _) (some _) none _) _ _) _ _ _); (rename Fr _ _ _ _ => sF'); (rename News _ _ _ _ => sN'); (refine' slice_tk_ss (s := ⟨_, _, _, _, _⟩) ?h0 sF' sN' ?h1 ?_ ?hs ?ht; (case h0 => (try dsimp only); first | assumption | omega); (case h1 => first | omega | (simp only [len_one, Str.length_append]; omega)); (case hs => with_unfolding_all rfl); (case ht => intro _; with_unfolding_all rfl)); intro h9 t9 k9 hTk9 F9 N9))
local macro_rules | `(tactic| walk_at "UnrEnd") => `(tactic| (k_here; (rename News _ _ _ (_ :: _) => uN'); k_dflt (refine' UnrEnd.intro ?f uN' _ (fun _ h => h) (fun p hp => Nat.ne_of_lt (ktn_ltOf ?a p hp)) ?_; (case f => assumption); (case a => assumption))))
def nsent (ns : List Int) : Nat := ns.countP fun n => decide (n < 3)
def rdg (b : Nat) : Nat → Nat
  | 0 => 0
  | i + 1 => rdg b i + v2f 10 (b + i + 1)
theorem nsent_le (ns : List Int) : nsent ns ≤ ns.length := List.countP_le_length
def RM (pgx : Str) (t1 : Tok) (ct : Int) (t2 : Tok) (x : Int) (t3 : Tok) (y : Int) (t4 : Tok) (D : Addr) (u : Str → Option Value) : Str → Option Value :=
  fun z => if z = Str.ofString "page" then some (.str pgx t1) else if z = Str.ofString "count" then some (.int ct t2) else if z = Str.ofString "dots" then some (.int x t3) else if z = Str.ofString "amps" then some (.int y t4) else if z = Str.ofString "deeds" then some (.ref D) else u z
def RJ (x y : Int) (D : Addr) (ns : List Int) (i : Nat) (m : Str → Option Value) : Prop :=
  ∃ (pgx : Str) (t1 : Tok) (ct : Int) (t2 t3 t4 : Tok) (u : Str → Option Value) (d a : Nat), pgx = tx (pg d a) ∧ d = x.toNat + nsent (ns.take i) ∧ d + a = x.toNat + y.toNat + i ∧ ct = ((rdg (x.toNat + y.toNat) i : Nat) : Int) ∧ m = RM pgx t1 ct t2 x t3 y t4 D u
theorem RJ_of {x y : Int} {D : Addr} {ns : List Int} {i d a : Nat} {m : Str → Option Value} {pgx : Str} {ct : Int} {t1 t2 t3 t4 : Tok} (h1 : m (Str.ofString "page") = some (.str pgx t1)) (h2 : m (Str.ofString "count") = some (.int ct t2)) (h3 : m (Str.ofString "dots") = some (.int x t3)) (h4 : m (Str.ofString "amps") = some (.int y t4)) (h5 : m (Str.ofString "deeds") = some (.ref D))
    (hp : pgx = tx (pg d a)) (hd : d = x.toNat + nsent (ns.take i)) (ha : d + a = x.toNat + y.toNat + i) (hc : ct = ((rdg (x.toNat + y.toNat) i : Nat) : Int)) : RJ x y D ns i m := by
  refine ⟨pgx, t1, ct, t2, t3, t4, m, d, a, hp, hd, ha, hc, ?_⟩
  funext z
  unfold RM
  split
  · rename_i h; rw [h, h1]
  · split
    · rename_i h; rw [h, h2]
    · split
      · rename_i h; rw [h, h3]
      · split
        · rename_i h; rw [h, h4]
        · split
          · rename_i h; rw [h, h5]
          · rfl
theorem count_as {prog : Program} {w : World} {A : Around} {E : Value → Shared → Prop} {s : Shared} {x y : Str} {c : Int} {t u : Tok} {Q : Value → Shared → Prop} (h : Txt.count x y = c) (hq : Q (.int c s.toks) { s with toks := s.toks + 1 }) : wpAny (model prog w) A (call (.builtin "str.count") [.str x t, .str y u]) Q E s := by
  refine SC.count ?_
  rw [h]
  exact hq
theorem wd_text (k : Int) (M : Nat) (h : k = (M : Int)) : Txt.mul (Str.ofString "\"") k ++ Str.ofString "a" ++ Txt.mul (Str.ofString "\"") k ++ Str.ofString "!" = tx (wd M) := by
  subst h
  have h1 := mul_one 34 M
  rw [rp_one] at h1
  have h2 : Txt.mul (Str.ofString "\"") (M : Int) = tx (List.replicate M 34) := h1
  rw [h2, show Str.ofString "a" = tx [97] from rfl, show Str.ofString "!" = tx [33] from rfl, tx_append, tx_append, tx_append]
  unfold wd
  simp
theorem step_item {vs : List Value} {ns : List Int} (h : IntsAre vs ns) {i : Nat} {v : Value} (hv : vs[i]? = some v) : ∃ n t, ns[i]? = some n ∧ v = .int n t := by
  obtain ⟨k, t, e, hk⟩ := IntsAre.at h i v hv
  exact ⟨k, t, hk, e⟩
theorem next_page (v : Int) (d a : Nat) : ∃ d' a', (if v < 3 then pg (d + 1) a else pg d (a + 1)) = pg d' a' ∧ d' = d + (if v < 3 then 1 else 0) ∧ d' + a' = d + a + 1 := by
  split
  · exact ⟨d + 1, a, rfl, rfl, by omega⟩
  · exact ⟨d, a + 1, rfl, rfl, by omega⟩
theorem take_next {ns : List Int} {i : Nat} {v : Int} (h : ns[i]? = some v) : nsent (ns.take (i + 1)) = nsent (ns.take i) + (if v < 3 then 1 else 0) := by
  rw [List.take_add_one, h]
  unfold nsent
  rw [List.countP_append]
  simp [List.countP_cons]
theorem len_sent {prog : Program} {w : World} {A : Around} {E : Value → Shared → Prop} {s : Shared} {l : Addr} {ys : List Value} {ns : List Int} {Q : Value → Shared → Prop} (hl : s.heap.IsList l ys.toArray) (hc : CarriedAll ys (List.map PyData.int (List.filter (fun a => decide (a < 3)) ns))) (hb : ns.length ≤ 8)
    (h : Q (.int ((nsent ns : Nat) : Int) (s.toks + 1)) { s with toks := s.toks + 1 + 1 }) : wpAny (model prog w) A (call (.builtin "len") [.ref l]) Q E s := by
  have e : (List.map PyData.int (List.filter (fun a => decide (a < 3)) ns)).length = nsent ns := by
    rw [List.length_map]
    unfold nsent
    rw [List.countP_eq_length_filter]
  have h1 := nsent_le ns
  refine len_list_made hl hc (by rw [e]; exact Nat.le_trans (Nat.le_trans h1 hb) (by decide)) ?_
  rw [e]
  exact h
theorem len_ints {prog : Program} {w : World} {A : Around} {E : Value → Shared → Prop} {s : Shared} {h₀ : Heap} {L l : Addr} {news : List (Addr × Obj)} {ys : List Value} {ns : List Int} {Q : Value → Shared → Prop} (N : News h₀ L s.heap news) {c : Nat} (hm : (l, listOf ys.toArray c) ∈ news) (hi : IntsAre ys ns) (hb : ns.length ≤ 8)
    (h : Q (.int ((ns.length : Nat) : Int) (s.toks + 1)) { s with toks := s.toks + 1 + 1 }) : wpAny (model prog w) A (call (.builtin "len") [.ref l]) Q E s := by
  have e : (ys.toArray.size : Int) = ((ns.length : Nat) : Int) := by rw [List.size_toArray, hi.length]
  refine len_list (items := ys.toArray) ⟨_, (N _ hm).1, rfl, c, rfl⟩ (by rw [e]; exact Int.lt_of_le_of_lt (Int.ofNat_le.mpr hb) (by decide)) ?_
  rw [e]
  exact h
local macro_rules | `(tactic| walk_at "call builtin:len") => `(tactic| (k_here; (with_reducible show wpAny _ _ (call (Value.builtin "len") [Value.ref _]) _ _ _); (refine' len_ints ?N9 ?m9 ?i9 ?b9 ?_; (case N9 => assumption); (case m9 => exact List.mem_cons_self ..); (case i9 => assumption); (case b9 => assumption))))
local macro_rules | `(tactic| walk_at "call builtin:len") => `(tactic| (k_here; (with_reducible show wpAny _ _ (call (Value.builtin "len") [Value.ref _]) _ _ _); (refine len_sent (by assumption) (by assumption) (by assumption) ?_)))
local macro_rules | `(tactic| walk_at "call builtin:str.count") => `(tactic| (k_here; (refine count_as (by assumption) ?_)))
local macro_rules | `(tactic| walk_at "call ref") => `(tactic| (k_here; k_dflt (refine' does_use (page_ok _ _ _ _ _ _ _ _ _ _ ?p1 ?p2 ?p3 ?p4 rfl) ?k1 ?k2 ?k3 ?k4 ?k5 ?kK ?kd ?ku ?k0 ?_; (case k1 => k_asm); (case k2 => k_asm); (case k3 => k_asm); (case k4 => k_asm); (case k5 => k_asm); (case kK => first | exact rfl | assumption); (case p1 => omega); (case p2 => omega); (case p3 => omega); (case p4 => omega); (case kd => ktr_room); (case ku => ktr_units); (case k0 => (try dsimp only); first | assumption | omega); k_whole); intro r9 h9 tk9 O9 F9 N9 hTk9; k_dflt ((obtain ⟨t9, e9⟩ := O9); subst e9); (try dsimp only)))
local macro_rules | `(tactic| walk_at "call ref") => `(tactic| (k_here; k_dflt (refine' does_use (deed_ok _ _ _ _ _ _ _ _ _ _ _ _ (by assumption) ?h1 ?h2 ?h3 ?h4 (by assumption)) ?k1 ?k2 ?k3 ?k4 ?k5 ?kK ?kd ?ku ?k0 ?_; (case k1 => k_asm); (case k2 => k_asm); (case k3 => k_asm); (case k4 => k_asm); (case k5 => k_asm); (case kK => first | exact rfl | assumption); (case h1 => omega); (case h2 => omega); (case h3 => omega); (case h4 => omega); (case kd => ktr_room); (case ku => ktr_units); (case k0 => (try dsimp only); first | assumption | omega); k_whole); intro r9 h9 tk9 O9 F9 N9 hTk9; k_dflt ((obtain ⟨t9, e9⟩ := O9); subst e9); (try dsimp only)))
local macro_rules | `(tactic| walk_at "call ref") => `(tactic| (k_here; k_dflt (refine' does_use (gone_ok _ _ _ _ _ _ _ _ (by assumption) ?h1) ?k1 ?k2 ?k3 ?k4 ?k5 ?kK ?kd ?ku ?k0 ?_; (case k1 => k_asm); (case k2 => k_asm); (case k3 => k_asm); (case k4 => k_asm); (case k5 => k_asm); (case kK => first | exact rfl | assumption); (case h1 => omega); (case kd => ktr_room); (case ku => ktr_units); (case k0 => (try dsimp only); first | assumption | omega); k_whole); intro r9 h9 tk9 O9 F9 N9 hTk9; k_dflt ((obtain ⟨t9, e9⟩ := O9); subst e9); (try dsimp only)))
local macro_rules | `(tactic| walk_at "compareOp Eq str str") => `(tactic| (k_here; (refine eq_known (by assumption) ?_)))
local macro_rules | `(tactic| walk_at "compareOp NotEq str str") => `(tactic| (k_here; (refine ne_known (by assumption) ?_)))
local macro_rules | `(tactic| walk_at "binaryOp Add str str") => `(tactic| (k_here; (refine' add_plain ?h1 ?_; (case h1 => first | omega | (simp only [len_one, Str.length_append]; omega))); intro t9 k9))
local macro_rules | `(tactic| walk_at "binaryOp Add str str") => `(tactic| (k_here; (refine' add_tk ?h0 ?h1 ?_; (case h0 => (try dsimp only); first | assumption | omega); (case h1 => first | omega | (simp only [len_one, Str.length_append]; omega))); intro t9 k9 hTk9))
local macro_rules | `(tactic| walk_at "execs cons") => `(tactic| (k_here; (fail_if_success (have hM9 : EscMark := by assumption)); refine stop_here ?_))
local macro_rules | `(tactic| walk_at "exec For Name Name cons nil") => `(tactic| (k_here; refine stop_here ?_))
local macro_rules | `(tactic| walk_at "pyIter ref") => `(tactic| (k_here; refine stop_here ?_))
local macro_rules | `(tactic| walk_at "LoopJ") => `(tactic| (refine stop_here ?_))

theorem readings_ok (w : World) (loose : List Str) (mean : ExcName → Option Value) (mg mb : Str → Option Value) (x y : Int) (t t2 : Tok) (D : Addr) (vs : List Value) (c : Nat) (ns : List Int) (r : Int) (hx0 : 0 ≤ x) (hx1 : x ≤ 7) (hy0 : 0 ≤ y) (hy1 : y ≤ 7) (hvn : IntsAre vs ns) (hn8 : ns.length ≤ 8) (hns : ∀ v ∈ ns, 0 ≤ v ∧ v < 8) (hr : ((rdg (x.toNat + y.toNat) ns.length : Nat) : Int) = r) :
    DoesL PySem.Challenge.rw_wn0061_02.row.prog w (hd.heap_39 w.params) hd.view_39 loose mean mg mb 60 162 [.int x t, .int y t2, .ref D] D vs c (fun v => ∃ t, v = .int r t) := by
  k_fill
  w_top off
  unfold DoesL
  intro dp un gd cn cs ad ccd cl outer A₀ base h₀ L m news s Q E B F X N T hk hd hu h0 hret
  refine with_toks h0 ?_
  refine wpAny_call ?_
  k_dflt ktr_enter
  (repeat' (first | (k_unfold; (try dsimp only)) | walk1 | (dsimp only; walk1) | (leave1; try dsimp only) | fail "no step"))
  (unfold StopHere; (try (refine gen_tk (by first | assumption | omega) ?_; intro tk9 hTk9)); refine' execs_cons_tk ?h0 ?_; (case h0 => (try dsimp only); first | assumption | omega); (try k_fold);  (repeat' (first | (k_unfold; (try dsimp only)) | walk1 | (dsimp only; walk1) | (leave1; try dsimp only) | fail "no step")))
  (unfold StopHere; (try (refine gen_tk (by first | assumption | omega) ?_; intro tk9 hTk9)); refine' execs_cons_tk ?h0 ?_; (case h0 => (try dsimp only); first | assumption | omega); (try k_fold);  (repeat' (first | (k_unfold; (try dsimp only)) | walk1 | (dsimp only; walk1) | (leave1; try dsimp only) | fail "no step")))
  ((unfold StopHere; (try (refine gen_tk (by first | assumption | omega) ?_; intro tk9 hTk9)); refine' execs_cons_tk ?h0 ?_; (case h0 => (try dsimp only); first | assumption | omega); (try k_fold);  (repeat' (first | (k_unfold; (try dsimp only)) | walk1 | (dsimp only; walk1) | (leave1; try dsimp only) | fail "no step"))); unfold StopHere; refine wpAny_For ?_ (by intro _; rfl); refine with_toks (by first | assumption | omega) ?_;  (repeat' (first | (k_unfold; (try dsimp only)) | walk1 | (dsimp only; walk1) | (leave1; try dsimp only) | fail "no step")))
  unfold StopHere
  (rename Fr _ _ _ _ => F1)
  refine for_listJ (vs := vs) (c := c) (RJ x y D ns) ?hm9 F1 (by assumption) (by first | assumption | omega) (RJ_of (d := x.toNat) (a := y.toNat) rfl rfl rfl rfl rfl rfl ?hd9 ?ha9 rfl) (by first | rfl | assumption) (by rfl) (by rfl) ?step ?done
  case hm9 => exact List.mem_cons_self ..
  case hd9 => rfl
  case ha9 => omega
  case step =>
    intro i v h tk m' I it hv hTk hJ hI F2 N2
    have hMark : EscMark := ⟨⟩
    obtain ⟨dv, tv, hni, hvv⟩ := step_item hvn hv
    subst hvv
    have hin : i < ns.length := by
      rcases Nat.lt_or_ge i ns.length with h | h
      · exact h
      · rw [List.getElem?_eq_none h] at hni; cases hni
    have hdb := hns dv (List.mem_of_getElem? hni)
    obtain ⟨pgx, t1, ct, t3, t4, t5, u, d, a, hpg, hd9, ha9, hct, hm⟩ := hJ
    subst hm
    unfold RM at F2
    have hsl := nsent_le (ns.take i)
    rw [List.length_take] at hsl
    obtain ⟨d', a', hda, hd2, ha2⟩ := next_page dv d a
    have hd3 : d' = x.toNat + nsent (ns.take (i + 1)) := by rw [take_next hni, hd2, hd9]; omega
    have ha3 : d' + a' = x.toNat + y.toNat + (i + 1) := by omega
    have hcd := count_dots d' a'
    have hca := count_amps d' a'
    have hk : (d' : Int) + 1 - 1 + (a' : Int) = ((d' + a' : Nat) : Int) := by omega
    have hwd := wd_text _ _ hk
    have hml : (Txt.mul (Str.ofString "\"") ((d' : Int) + 1 - 1 + (a' : Int))).length ≤ 100 := by
      have h1 := mul_one 34 (d' + a')
      rw [rp_one] at h1
      have h2 : Txt.mul (Str.ofString "\"") ((d' + a' : Nat) : Int) = tx (List.replicate (d' + a') 34) := h1
      rw [hk, h2, tx_length, List.length_replicate]
      omega
    have hc1 : (Str.ofString "a").length = 1 := rfl
    have hc2 : (Str.ofString "!").length = 1 := rfl
    have hrd : ct + ((v2f 10 (d' + a') : Nat) : Int) = ((rdg (x.toNat + y.toNat) (i + 1) : Nat) : Int) := by
      rw [hct, ha3, ← Int.natCast_add]
      rfl
    (repeat' (first | (k_unfold; (try dsimp only)) | walk1 | (dsimp only; walk1) | (leave1; try dsimp only) | fail "no step"))
    unfold StopHere
    (rename Fr _ _ _ _ => F5)
    exact ⟨rfl, _, _, _, rfl, by assumption, F5, (by first | assumption | exact news_tail (by assumption) | exact news_tail (news_tail (by assumption)) | exact news_tail (news_tail (news_tail (by assumption))) | exact news_tail (news_tail (news_tail (news_tail (by assumption)))) | exact news_tail (news_tail (news_tail (news_tail (news_tail (by assumption))))) | exact news_tail (news_tail (news_tail (news_tail (news_tail (news_tail (by assumption))))))) , RJ_of rfl rfl rfl rfl rfl rfl hd3 ha3 hrd⟩
  case done =>
    intro h tk m' hTk hJ F2 N2
    rw [hvn.length] at hJ
    obtain ⟨pgx, t1, ct, t3, t4, t5, u, d, a, hpg, hd9, ha9, hct, hm⟩ := hJ
    subst hm
    unfold RM at F2
    rw [List.take_of_length_le (Nat.le_refl _)] at hd9
    have hsl := nsent_le ns
    have hne : (pgx == tx (pg (x + (nsent ns : Nat)).toNat (y + (ns.length : Nat) - (nsent ns : Nat)).toNat)) = !false := by
      rw [hpg, show (x + ((nsent ns : Nat) : Int)).toNat = d by omega, show (y + ((ns.length : Nat) : Int) - ((nsent ns : Nat) : Int)).toNat = a by omega]
      simp
    (repeat' (first | (k_unfold; (try dsimp only)) | walk1 | (dsimp only; walk1) | (leave1; try dsimp only) | fail "no step"))
    (unfold StopHere; (try (refine gen_tk (by first | assumption | omega) ?_; intro tk9 hTk9)); refine' execs_cons_tk ?h0 ?_; (case h0 => (try dsimp only); first | assumption | omega); (try k_fold);  (repeat' (first | (k_unfold; (try dsimp only)) | walk1 | (dsimp only; walk1) | (leave1; try dsimp only) | fail "no step")))
    (unfold StopHere; (try (refine gen_tk (by first | assumption | omega) ?_; intro tk9 hTk9)); refine' execs_cons_tk ?h0 ?_; (case h0 => (try dsimp only); first | assumption | omega); (try k_fold);  (repeat' (first | (k_unfold; (try dsimp only)) | walk1 | (dsimp only; walk1) | (leave1; try dsimp only) | fail "no step")))
    (unfold StopHere; (try (refine gen_tk (by first | assumption | omega) ?_; intro tk9 hTk9)); refine' execs_cons_tk ?h0 ?_; (case h0 => (try dsimp only); first | assumption | omega); (try k_fold);  (repeat' (first | (k_unfold; (try dsimp only)) | walk1 | (dsimp only; walk1) | (leave1; try dsimp only) | fail "no step")))
    exact hret _ _ _ (by assumption) (by first | assumption | exact news_tail (by assumption) | exact news_tail (news_tail (by assumption)) | exact news_tail (news_tail (news_tail (by assumption))) | exact news_tail (news_tail (news_tail (news_tail (by assumption)))) | exact news_tail (news_tail (news_tail (news_tail (news_tail (by assumption))))) | exact news_tail (news_tail (news_tail (news_tail (news_tail (news_tail (by assumption))))))) (by omega) ⟨_, by rw [← hr, hct]⟩
end Mine
end
section
open PySem PySem.W PyProof.Rows PySem.Calls PySem.Spec
namespace Mine
local macro_rules | `(tactic| walk_at "pad 0") => `(tactic| fail "pad")
local macro_rules | `(tactic| walk_at "pad 1") => `(tactic| fail "pad")
local macro_rules | `(tactic| walk_at "pad 2") => `(tactic| fail "pad")
local macro_rules | `(tactic| walk_at "pad 3") => `(tactic| fail "pad")
local macro_rules | `(tactic| walk_at "pad 4") => `(tactic| fail "pad")
local macro_rules | `(tactic| walk_at "pad 5") => `(tactic| fail "pad")
local macro_rules | `(tactic| walk_at "pad 6") => `(tactic| fail "pad")
local macro_rules | `(tactic| walk_at "pad 7") => `(tactic| fail "pad")
local macro_rules | `(tactic| walk_at "pad 8") => `(tactic| fail "pad")
local macro_rules | `(tactic| walk_at "pad 9") => `(tactic| fail "pad")
local macro_rules | `(tactic| walk_at "pad 10") => `(tactic| fail "pad")
local macro_rules | `(tactic| walk_at "getMethod ref") => `(tactic| (k_here; (with_reducible show wpAny _ _ (getMethod (Value.ref _) (PySem.Str.ofString "sub") _) _ _ _); k_dflt (refine' method_sub_K ?k1 ?k2 ?k3 ?_; (case k1 => k_asm); (case k2 => k_asm); (case k3 => k_is); k_whole)))
local macro_rules | `(tactic| walk_at "call builtin:re.Pattern.sub") => `(tactic| (k_here; k_dflt (refine' sub2_K ?k1 ?k2 ?k3 ?k4 ?k5 ?k6 ?k7 ?k8 ?k9 ?ka ?kb ?_; (case k1 => k_asm); (case k2 => k_asm); (case k3 => k_asm); (case k4 => k_is); (case k5 => exact rfl); (case k6 => k_is); (case k7 => decide +kernel); (case k8 => exact rfl); (case k9 => exact rfl); (case ka => decide +kernel); (case kb => first | assumption | omega); k_whole); intro h9 tk9 t9 F9 N9 z9))
local macro_rules | `(tactic| walk_at "call builtin:re.Pattern.sub") => `(tactic| (k_here; k_dflt (refine' sub1_K ?k1 ?k2 ?k3 ?k4 ?k5 ?k6 ?k7 ?k8 ?k9 ?ka ?kb ?_; (case k1 => k_asm); (case k2 => k_asm); (case k3 => k_asm); (case k4 => k_is); (case k5 => exact rfl); (case k6 => k_is); (case k7 => decide +kernel); (case k8 => exact rfl); (case k9 => exact rfl); (case ka => decide +kernel); (case kb => first | assumption | omega); k_whole); intro h9 tk9 t9 F9 N9))
local macro_rules | `(tactic| walk_at "execs nil") => `(tactic| (k_here; (with_reducible show wpAny _ _ _ _ _ ⟨_, _, _, _ + _, _⟩); (refine gen_tk (by first | assumption | omega) ?_); intro tk9 hTk9))
local macro_rules | `(tactic| walk_at "execs cons") => `(tactic| (k_here; (refine' execs_cons_tk ?h0 ?_; (case h0 => (try dsimp only); first | assumption | omega)); (try k_fold)))
local macro_rules | `(tactic| walk_at "execs cons") => `(tactic| (k_here; (with_reducible show wpAny _ _ _ _ _ ⟨_, _, _, _ + _, _⟩); (refine gen_tk (by first | assumption | omega) ?_); intro tk9 hTk9))
local macro_rules | `(tactic| walk_at "TkGo") => `(tactic| (intro hTk9; (try dsimp only at hTk9 ⊢)))
local macro_rules | `(tactic| walk_at "call builtin:str.replace") => `(tactic| (k_here; k_dflt (show wpAny _ _ (call (Value.builtin "str.replace") [Value.str _ _, Value.str _ _, Value.str _ _]) _ _ _); (refine' replace_tk ?k0 ?k1 ?k2 ?k3 ?k4 ?k5 ?k6 ?_; (case k0 => (try dsimp only); first | assumption | omega); (case k1 => omega); (case k2 => omega); (case k3 => omega); (case k4 => decide +kernel); (case k5 => first | assumption | exact size_of_spec (by assumption) (by omega)); (case k6 => decide +kernel); k_whole); intro t9 k9 hTk9))
local macro_rules | `(tactic| walk_at "EscPost") => `(tactic| first | exact escPost_yes (by assumption) (by assumption) (by first | assumption | omega) | exact escPost_no (by assumption) (by decide +kernel) (by assumption) (by assumption) (by first | assumption | omega) rfl)
local macro_rules | `(tactic| walk_at "exec If") => `(tactic| (k_here; (fail_if_success (have hM9 : EscMark := by assumption)); (with_reducible show wpAny _ _ (exec (Stmt.If (Expr.Compare (Expr.Constant (Const.str _) _ _) [CmpOp.In] [Expr.Name _ _] _) [Stmt.Assign [Expr.Name _ _] (Expr.Call _ _ _ _) _] [] _) _) _ _ _); (rename Fr _ _ _ _ => eF'); (rename News _ _ _ _ => eN'); (rename (spec _ ≤ _) => eB'); k_dflt (refine' esc_if eF' eN' ?km ?ka _ 491520 eB' ?ks ?k1 ?_; (case km => exact rfl); (case ka => decide +kernel); (case ks => first | exact ⟨1, by decide +kernel, by decide, by decide⟩ | exact ⟨5, by decide +kernel, by decide, by decide⟩); (case k1 => (intro hM9;  (repeat' (first | (k_unfold; (try dsimp only)) | walk1 | (dsimp only; walk1) | (leave1; try dsimp only) | fail "no step"))))); intro h9 tk9 t9 hTk9 hB9 F9 N9))
local macro_rules | `(tactic| walk_at "subscriptTail Name Slice str ref") => `(tactic| (k_here; (with_reducible show wpAny _ _ (subscriptTail _ (Expr.Slice none (some _) none _) _ _) _ _ _); (rename Fr _ _ _ _ => sF'); (rename News _ _ _ _ => sN'); (refine' slice_tk_ns (s := ⟨_, _, _, _, _⟩) ?h0 sF' sN' ?h1 ?_ ?hs ?ht; (case h0 => (try dsimp only); first | assumption | omega); (case h1 => first | omega | (simp only [len_one, Str.length_append]; omega)); (case hs => with_unfolding_all rfl); (case ht => intro _; with_unfolding_all rfl)); intro h9 t9 k9 hTk9 F9 N9))
local macro_rules | `(tactic| walk_at "subscriptTail Name Slice str ref") => `(tactic| (k_here; (with_reducible show wpAny _ _ (subscriptTail _ (Expr.Slice (some _) none none _) _ _) _ _ _); (rename Fr _ _ _ _ => sF'); (rename News _ _ _ _ => sN'); (refine' slice_tk_sn (s := ⟨_, _, _, _, _⟩) ?h0 sF' sN' ?h1 ?_ ?hs ?ht; (case h0 => (try dsimp only); first | assumption | omega); (case h1 => first | omega | (simp only [len_one, Str.length_append]; omega)); (case hs => with_unfolding_all rfl); (case ht => intro _; with_unfolding_all rfl)); intro h9 t9 k9 hTk9 F9 N9))
local macro_rules | `(tactic| walk_at "subscriptTail Name Slice str ref") => `(tactic| (k_here; (with_reducible show wpAny _ _ (subscriptTail _ (Expr.Slice (some _) (some _) none _) _ _) _ _ _); (rename Fr _ _ _ _ => sF'); (rename News _ _ _ _ => sN'); (refine' slice_tk_ss (s := ⟨_, _, _, _, _⟩) ?h0 sF' sN' ?h1 ?_ ?hs ?ht; (case h0 => (try dsimp only); first | assumption | omega); (case h1 => first | omega | (simp only [len_one, Str.length_append]; omega)); (case hs => with_unfolding_all rfl); (case ht => intro _; with_unfolding_all rfl)); intro h9 t9 k9 hTk9 F9 N9))
local macro_rules | `(tactic| walk_at "UnrEnd") => `(tactic| (k_here; (rename News _ _ _ (_ :: _) => uN'); k_dflt (refine' UnrEnd.intro ?f uN' _ (fun _ h => h) (fun p hp => Nat.ne_of_lt (ktn_ltOf ?a p hp)) ?_; (case f => assumption); (case a => assumption))))
theorem slice3_ints {prog : Program} {w : World} {A : Around} {E : Value → Shared → Prop} {s : Shared} {h₀ : Heap} {L l : Addr} {m : Str → Option Value} {news : List (Addr × Obj)} {value slice : PySem.Expr} {vs : List Value} {ns : List Int} {vl vu vk : Value} {lo hi st : Option Int} {ops : List Value} {Q : Value → Shared → Prop}
    (F : Fr h₀ L s.heap m) (N : News h₀ L s.heap news) (hl : s.heap.IsList l vs.toArray) (pl : IsPart vl lo) (pu : IsPart vu hi) (pk : IsPart vk st) (h0 : st ≠ some 0) (hi' : IntsAre vs ns)
    (h : ∀ D ws ms h', Fr h₀ L h' m → News h₀ L h' ((D, listOf (List.toArray ws) 0) :: news) → (∀ p ∈ news, p.1 < D) → IntsAre ws ms → ms.length ≤ ns.length → Q (.ref D) { s with heap := h' })
    (hs : subscripted slice false (.ref l) (.ref s.heap.objs.size) = operate ops (getItem (.ref l) (.ref s.heap.objs.size))) (ht : ∀ r, letTemporaryGo value (.ref l) r = pure ()) (hz : vs.toArray.size ≤ sizeLine) :
    wpAny (model prog w) A (subscriptTail value slice (.ref l) (.ref s.heap.objs.size)) Q E { s with heap := s.heap.push { cls := .type "slice", data := .fields #[vl, vu, vk] } } := by
  refine slice_list3 F N hl pl pu pk h0 (fun h' F' N' => h _ (slicePick vs.toArray lo hi st).toList _ h' F' ?_ (fun p hp => Nat.lt_succ_of_lt (Heap.lt_size (N p hp).1)) (IntsAre.pick hi' lo hi st) ?_) hs ht hz
  · rw [Array.toArray_toList]; exact N'
  · have q := slicePick_size_le vs.toArray lo hi st
    rw [← (IntsAre.pick hi' lo hi st).length, ← hi'.length, Array.length_toList]
    simpa using q
local macro_rules | `(tactic| walk_at "subscriptTail Name Slice ref ref") => `(tactic| (k_here; (with_reducible show wpAny _ _ (subscriptTail _ (PySem.Expr.Slice _ _ (some _) _) (Value.ref _) (Value.ref _)) _ _ _); k_dflt (refine' slice3_ints ?F ?N ?l ?p ?q ?k ?o ?i ?_ ?s ?t ?z; (case F => k_asm); (case N => k_asm); (case l => kmk_list); (case p => kmk_part); (case q => kmk_part); (case k => kmk_part); (case o => decide); (case i => l_ints); (case s => with_unfolding_all rfl); (case t => kmk_pure); (case z => kmk_size)); intro D' ws' ms' h' F' N' l1 hI' hL'; (try k_lt l1); (try k_sweep)))
local macro_rules | `(tactic| walk_at "binaryOp FloorDiv int int") => `(tactic| (k_here; (with_reducible show wpAny _ _ (binaryOp Operator.FloorDiv (Value.int _ _) (Value.int ((8 : Int) ^ (_ : Nat)) _)) _ _ _); (refine floordiv_int ?kbe ?_); (case kbe => exact Int.ne_of_gt (pow_pos_of (by decide) _))))
theorem rdg_bare : ∀ n, 1 ≤ n → n ≤ 8 → rdg 0 n + onesOf 4 n = n := by
  intro n h1 h8
  have hc : n = 1 ∨ n = 2 ∨ n = 3 ∨ n = 4 ∨ n = 5 ∨ n = 6 ∨ n = 7 ∨ n = 8 := by omega
  rcases hc with rfl | rfl | rfl | rfl | rfl | rfl | rfl | rfl <;> decide +kernel
theorem rdg_table : ∀ (b : Fin 15) (n : Fin 9), 1 ≤ n.val → ((rdg b.val n.val : Nat) : Int) + ((onesOf 4 n.val : Nat) : Int) = ((n.val : Nat) : Int) + (cry ((b.val : Nat) : Int) ((n.val : Nat) : Int) 6).2 := by decide +kernel
theorem rdg_full (b n : Nat) (hb : b ≤ 14) (h1 : 1 ≤ n) (h8 : n ≤ 8) : ((rdg b n : Nat) : Int) = ((n : Nat) : Int) - ((onesOf 4 n : Nat) : Int) + (cry ((b : Nat) : Int) ((n : Nat) : Int) 6).2 := by
  have h := rdg_table ⟨b, by omega⟩ ⟨n, by omega⟩ h1
  have h' : ((rdg b n : Nat) : Int) + ((onesOf 4 n : Nat) : Int) = ((n : Nat) : Int) + (cry ((b : Nat) : Int) ((n : Nat) : Int) 6).2 := h
  omega
theorem deeds_len (Y : Int) (g : Int → Int) : 1 ≤ (List.map g (rangeKs 0 (1 + Int.fmod Y 8 - 0).toNat)).length ∧ (List.map g (rangeKs 0 (1 + Int.fmod Y 8 - 0).toNat)).length ≤ 8 := by
  rw [List.length_map, rangeKs_length]
  have h := fmod_lt Y 8 (by decide)
  omega
theorem deeds_in (f : Int → Int) (n : Nat) : ∀ v ∈ List.map (fun k => Int.fmod (f k) 8) (rangeKs 0 n), 0 ≤ v ∧ v < 8 := by
  intro v hv
  obtain ⟨k, _, rfl⟩ := List.mem_map.mp hv
  exact fmod_lt _ 8 (by decide)
theorem bare_ok (w : World) (loose : List Str) (mean : ExcName → Option Value) (mg mb : Str → Option Value) (t t2 : Tok) (D : Addr) (vs : List Value) (c : Nat) (ns : List Int) (hvn : IntsAre vs ns) (hn1 : 1 ≤ ns.length) (hn8 : ns.length ≤ 8) (hns : ∀ v ∈ ns, 0 ≤ v ∧ v < 8) :
    DoesL PySem.Challenge.rw_wn0061_02.row.prog w (hd.heap_39 w.params) hd.view_39 loose mean mg mb 60 162 [.int 0 t, .int 0 t2, .ref D] D vs c (fun v => ∃ t, v = .int (((ns.length : Nat) : Int) - ((onesOf 4 ns.length : Nat) : Int)) t) :=
  readings_ok w loose mean mg mb 0 0 t t2 D vs c ns _ (by decide) (by decide) (by decide) (by decide) hvn hn8 hns (by
    have h := rdg_bare ns.length hn1 hn8
    show ((rdg 0 ns.length : Nat) : Int) = _
    omega)
theorem full_ok (w : World) (loose : List Str) (mean : ExcName → Option Value) (mg mb : Str → Option Value) (x y : Int) (t t2 : Tok) (D : Addr) (vs : List Value) (c : Nat) (ns : List Int) (hx0 : 0 ≤ x) (hx1 : x ≤ 7) (hy0 : 0 ≤ y) (hy1 : y ≤ 7) (hvn : IntsAre vs ns) (hn1 : 1 ≤ ns.length) (hn8 : ns.length ≤ 8) (hns : ∀ v ∈ ns, 0 ≤ v ∧ v < 8) :
    DoesL PySem.Challenge.rw_wn0061_02.row.prog w (hd.heap_39 w.params) hd.view_39 loose mean mg mb 60 162 [.int x t, .int y t2, .ref D] D vs c (fun v => ∃ t, v = .int (((ns.length : Nat) : Int) - ((onesOf 4 ns.length : Nat) : Int) + (cry (x + y) ((ns.length : Nat) : Int) 6).2) t) :=
  readings_ok w loose mean mg mb x y t t2 D vs c ns _ hx0 hx1 hy0 hy1 hvn hn8 hns (by
    have h := rdg_full (x.toNat + y.toNat) ns.length (by omega) hn1 hn8
    rw [show ((x.toNat + y.toNat : Nat) : Int) = x + y by omega] at h
    exact h)
theorem ones_is (w : World) (loose : List Str) (mean : ExcName → Option Value) (mg mb : Str → Option Value) (t : Tok) (n : Nat) (hn1 : 1 ≤ n) (hn8 : n ≤ 8) :
    Does PySem.Challenge.rw_wn0061_02.row.prog w (hd.heap_39 w.params) hd.view_39 loose mean mg mb 4 169 [.int ((n : Nat) : Int) t] (fun v => ∃ t, v = .int ((onesOf 4 n : Nat) : Int) t) :=
  ones_ok w loose mean mg mb ((n : Nat) : Int) t _ (by omega) (by omega) (by rw [Int.toNat_natCast])
theorem carries_is (w : World) (loose : List Str) (mean : ExcName → Option Value) (mg mb : Str → Option Value) (x y : Int) (t t2 : Tok) (n : Nat) (hx0 : 0 ≤ x) (hx1 : x ≤ 7) (hy0 : 0 ≤ y) (hy1 : y ≤ 7) (hn8 : n ≤ 8) :
    Does PySem.Challenge.rw_wn0061_02.row.prog w (hd.heap_39 w.params) hd.view_39 loose mean mg mb 4 176 [.int (x + y) t, .int ((n : Nat) : Int) t2] (fun v => ∃ t, v = .int (cry (x + y) ((n : Nat) : Int) 6).2 t) :=
  carries_ok w loose mean mg mb (x + y) ((n : Nat) : Int) t t2 _ (by omega) (by omega) (by omega) (by omega) rfl
local macro_rules | `(tactic| walk_at "call ref") => `(tactic| (k_here; k_dflt (refine' doesL_use (bare_ok _ _ _ _ _ _ _ _ _ _ _ ?hvn ?h1 ?h8 ?hns) ?k1 ?k2 ?k3 ?k4 ?k5 ?kK ?kd ?ku ?k0 ?hm ?_; (case k1 => k_asm); (case k2 => k_asm); (case k3 => k_asm); (case k4 => k_asm); (case k5 => k_asm); (case kK => first | exact rfl | assumption); (case hm => first | exact List.mem_cons_self .. | exact List.mem_cons_of_mem _ (List.mem_cons_self ..)); (case hvn => assumption); (case h1 => exact (deeds_len _ _).1); (case h8 => exact (deeds_len _ _).2); (case hns => exact deeds_in _ _); (case kd => ktr_room); (case ku => ktr_units); (case k0 => (try dsimp only); first | assumption | omega); k_whole); intro r9 h9 tk9 O9 F9 N9 hTk9; k_dflt ((obtain ⟨t9, e9⟩ := O9); subst e9); (try dsimp only)))
local macro_rules | `(tactic| walk_at "call ref") => `(tactic| (k_here; k_dflt (refine' doesL_use (full_ok _ _ _ _ _ _ _ _ _ _ _ _ _ ?p1 ?p2 ?p3 ?p4 ?hvn ?h1 ?h8 ?hns) ?k1 ?k2 ?k3 ?k4 ?k5 ?kK ?kd ?ku ?k0 ?hm ?_; (case k1 => k_asm); (case k2 => k_asm); (case k3 => k_asm); (case k4 => k_asm); (case k5 => k_asm); (case kK => first | exact rfl | assumption); (case hm => first | exact List.mem_cons_self .. | exact List.mem_cons_of_mem _ (List.mem_cons_self ..)); (case p1 => exact (fmod_lt _ _ (by decide)).1); (case p2 => exact Int.le_of_lt_add_one (fmod_lt _ _ (by decide)).2); (case p3 => exact (fmod_lt _ _ (by decide)).1); (case p4 => exact Int.le_of_lt_add_one (fmod_lt _ _ (by decide)).2); (case hvn => assumption); (case h1 => exact (deeds_len _ _).1); (case h8 => exact (deeds_len _ _).2); (case hns => exact deeds_in _ _); (case kd => ktr_room); (case ku => ktr_units); (case k0 => (try dsimp only); first | assumption | omega); k_whole); intro r9 h9 tk9 O9 F9 N9 hTk9; k_dflt ((obtain ⟨t9, e9⟩ := O9); subst e9); (try dsimp only)))
local macro_rules | `(tactic| walk_at "call ref") => `(tactic| (k_here; k_dflt (refine' does_use (ones_is _ _ _ _ _ _ _ ?h1 ?h8) ?k1 ?k2 ?k3 ?k4 ?k5 ?kK ?kd ?ku ?k0 ?_; (case k1 => k_asm); (case k2 => k_asm); (case k3 => k_asm); (case k4 => k_asm); (case k5 => k_asm); (case kK => first | exact rfl | assumption); (case h1 => exact (deeds_len _ _).1); (case h8 => exact (deeds_len _ _).2); (case kd => ktr_room); (case ku => ktr_units); (case k0 => (try dsimp only); first | assumption | omega); k_whole); intro r9 h9 tk9 O9 F9 N9 hTk9; k_dflt ((obtain ⟨t9, e9⟩ := O9); subst e9); (try dsimp only)))
local macro_rules | `(tactic| walk_at "call ref") => `(tactic| (k_here; k_dflt (refine' does_use (carries_is _ _ _ _ _ _ _ _ _ _ ?p1 ?p2 ?p3 ?p4 ?h8) ?k1 ?k2 ?k3 ?k4 ?k5 ?kK ?kd ?ku ?k0 ?_; (case k1 => k_asm); (case k2 => k_asm); (case k3 => k_asm); (case k4 => k_asm); (case k5 => k_asm); (case kK => first | exact rfl | assumption); (case p1 => exact (fmod_lt _ _ (by decide)).1); (case p2 => exact Int.le_of_lt_add_one (fmod_lt _ _ (by decide)).2); (case p3 => exact (fmod_lt _ _ (by decide)).1); (case p4 => exact Int.le_of_lt_add_one (fmod_lt _ _ (by decide)).2); (case h8 => exact (deeds_len _ _).2); (case kd => ktr_room); (case ku => ktr_units); (case k0 => (try dsimp only); first | assumption | omega); k_whole); intro r9 h9 tk9 O9 F9 N9 hTk9; k_dflt ((obtain ⟨t9, e9⟩ := O9); subst e9); (try dsimp only)))

theorem law_holds : PySem.Challenge.rw_wn0061_02.Holds := by
  refine hd ?_
  k_go
end Mine
end
theorem PySem.Challenge.cw_wn0061_02_holds : PySem.Challenge.rw_wn0061_02.Holds := by
  exact Mine.law_holds
