import PyProof.Rows.All
import Wide.All
import OpenK.AllK
import Wide.FinOn
import PySem.Challenge.RW_ny0063_01
set_option Elab.async false
set_option linter.all false

/-! ### Rx -/
section
set_option maxRecDepth 100000
namespace Mine
open PySem PySem.Sre

def rxCode : Array Nat := #[14, 4, 0, 1, 4294967295, 17, 0, 7, 14, 24, 10, 1, 4294967295, 13, 5, 22, 48, 57, 0, 1, 15, 17, 15, 13, 11, 9, 0, 26624, 2147483648, 0, 0, 0, 0, 0, 0, 15, 2, 0, 17, 1, 1]

def isMark (c : Nat) : Bool := c == 43 || c == 45 || c == 46 || c == 95

/-- the machine with all that the search turns -/
def st (text : Array Nat) (lim start pc pos handed : Nat) (om : Bool) (m0 m1 : Option Nat) (lm li : Int) (fr : List Sre.Frame) (wt : Nat) (ans : Option Bool) (seen : Seen) : M :=
  { code := rxCode, text, lim, start, lastStart := lim, pc, pos, handed, outermost := om, marks := #[m0, m1], lastmark := lm, lastindex := li, frames := fr, weight := wt, answer := ans, seen }

def iter : Nat → M → M
  | 0, m => m
  | n + 1, m => iter n m.step

theorem step_done {m : M} (h : m.outcome.isSome = true) : m.step = m := by unfold M.step; rw [if_pos h]
theorem iter_done {m : M} (h : m.outcome.isSome = true) : ∀ n, iter n m = m
  | 0 => rfl
  | n + 1 => by rw [iter, step_done h, iter_done h n]
theorem runFor_eq : ∀ (n : Nat) (m : M), m.runFor n = iter n m
  | 0, _ => rfl
  | n + 1, m => by
    rw [M.runFor]
    split
    · rename_i h; rw [iter_done h]
    · rw [iter, runFor_eq n]
theorem iter_add (a b : Nat) (m : M) : iter (a + b) m = iter b (iter a m) := by
  induction a generalizing m with
  | zero => rw [Nat.zero_add]; rfl
  | succ a ih => rw [Nat.succ_add, iter, iter, ih]

/-- m comes to m' in at most n steps -/
def Goes (n : Nat) (m m' : M) : Prop := ∃ k, k ≤ n ∧ iter k m = m'
theorem Goes.refl (m : M) : Goes 0 m m := ⟨0, Nat.le_refl _, rfl⟩
theorem Goes.step (m : M) : Goes 1 m m.step := ⟨1, Nat.le_refl _, rfl⟩
theorem Goes.of_step {m m' : M} (h : m.step = m') : Goes 1 m m' := ⟨1, Nat.le_refl _, h⟩
theorem Goes.trans {a b : Nat} {m m' m'' : M} (x : Goes a m m') (y : Goes b m' m'') : Goes (a + b) m m'' := by
  obtain ⟨i, hi, ei⟩ := x
  obtain ⟨j, hj, ej⟩ := y
  exact ⟨i + j, by omega, by rw [iter_add, ei, ej]⟩
theorem Goes.mono {a b : Nat} {m m' : M} (x : Goes a m m') (h : a ≤ b) : Goes b m m' := let ⟨i, hi, e⟩ := x; ⟨i, by omega, e⟩

def rootFr (s : Nat) (first : Bool) : Sre.Frame := { wait := .nextStart, pc := 5, pos := s, outermost := first }
def brFr (s : Nat) (first : Bool) (alt : Nat) : Sre.Frame := { wait := .nextBranch, pc := alt, pos := s, outermost := first, kept := { lastmark := 0, lastindex := -1 } }
def gbFr (e : Nat) (first : Bool) (n : Nat) : Sre.Frame := { wait := .giveBack, pc := 9, pos := e, outermost := first, count := n, kept := { lastmark := 0, lastindex := -1 } }

variable {text : Array Nat} {lim s h : Nat} {first : Bool} {m0 m1 : Option Nat} {seen : Seen}

theorem s1 : ∃ sn, (st text lim s 5 s h first m0 m1 (-1) (-1) [rootFr s first] 1 none seen).step = st text lim s 7 s h first (some s) m1 0 (-1) [rootFr s first] 1 none sn := ⟨_, rfl⟩
theorem s2 : ∃ sn, (st text lim s 7 s h first (some s) m1 0 (-1) [rootFr s first] 1 none seen).step = st text lim s 9 s s first (some s) m1 0 (-1) [brFr s first 8, rootFr s first] 2 none sn := ⟨_, rfl⟩

theorem acc13 (c : Nat) (seen : Seen) : accepts rxCode 13 c seen = if (decide (48 ≤ c) && decide (c ≤ 57)) = true then .ok (true, seen.add 22) else .ok (false, (seen.add 22).add 0) := rfl
theorem acc23_46 (seen : Seen) : ∃ sn, accepts rxCode 23 46 seen = .ok (true, sn) := ⟨_, rfl⟩
theorem acc23_114 (seen : Seen) : ∃ sn, accepts rxCode 23 114 seen = .ok (false, sn) := ⟨_, rfl⟩
theorem acc23_99 (seen : Seen) : ∃ sn, accepts rxCode 23 99 seen = .ok (false, sn) := ⟨_, rfl⟩

def isDig (c : Nat) : Prop := 48 ≤ c ∧ c ≤ 57

/-- the run of figures -/
theorem run_digits (text : Array Nat) : ∀ (n k p found : Nat) (seen : Seen), k ≤ n → (∀ j, j < k → isDig (text.getD (p + j) 0)) → (k = n ∨ ¬ isDig (text.getD (p + k) 0)) →
    ∃ sn, run rxCode text 13 n p found seen = .ok (found + k, sn)
  | 0, k, p, found, seen, hk, _, _ => by
    obtain rfl : k = 0 := by omega
    exact ⟨seen, rfl⟩
  | n + 1, 0, p, found, seen, _, _, hl => by
    have hd : ¬ isDig (text.getD p 0) := by
      rcases hl with h | h
      · exact absurd h (by omega)
      · simpa using h
    have hb : (decide (48 ≤ text.getD p 0) && decide (text.getD p 0 ≤ 57)) = false := by
      unfold isDig at hd
      simp only [Bool.and_eq_false_iff, decide_eq_false_iff_not]
      omega
    refine ⟨(seen.add 22).add 0, ?_⟩
    unfold Sre.run
    rw [acc13, hb]
    rfl
  | n + 1, k + 1, p, found, seen, hk, hd, hl => by
    have h0 : isDig (text.getD p 0) := by simpa using hd 0 (by omega)
    have hb : (decide (48 ≤ text.getD p 0) && decide (text.getD p 0 ≤ 57)) = true := by
      unfold isDig at h0
      simp only [Bool.and_eq_true, decide_eq_true_eq]
      omega
    obtain ⟨sn, e⟩ := run_digits text n k (p + 1) (found + 1) (seen.add 22) (by omega) (fun j hj => by
      have := hd (j + 1) (by omega)
      rwa [show p + (j + 1) = p + 1 + j by omega] at this) (by
      rcases hl with h | h
      · left; omega
      · right; rwa [show p + 1 + k = p + (k + 1) by omega])
    refine ⟨sn, ?_⟩
    unfold Sre.run
    rw [acc13, hb]
    show run rxCode text 13 n (p + 1) (found + 1) (seen.add 22) = _
    rw [e, show found + 1 + k = found + (k + 1) by omega]

theorem s3_run {n : Nat} {sn' : Seen} (hr : 1 ≤ lim - s) (hn : 1 ≤ n)
    (e : run rxCode text 13 (min 4294967295 ((lim : Int) - s).toNat) s 0 ((seen.add 24).add 13) = .ok (n, sn')) :
    ∃ sn, (st text lim s 9 s s first (some s) m1 0 (-1) [brFr s first 8, rootFr s first] 2 none seen).step =
      st text lim s 20 (s + n) (s + n) first (some s) m1 0 (-1) [gbFr (s + n) first n, brFr s first 8, rootFr s first] 3 none sn := by
  refine ⟨sn', ?_⟩
  have h1 : ¬ (((1 : Nat) : Int) > (lim : Int) - (s : Int)) := by omega
  have h2 : ¬ (n < 1) := by omega
  show (if ((1 : Nat) : Int) > (lim : Int) - (s : Int) then _ else _) = _
  rw [if_neg h1]
  show (match run rxCode text 13 (min 4294967295 ((lim : Int) - s).toNat) s 0 ((seen.add 24).add 13) with | .error why => _ | .ok (n, seen) => _) = _
  rw [e]
  show (if n < 1 then _ else _) = _
  rw [if_neg h2]
  rfl

theorem s3_none {sn' : Seen} (hr : 1 ≤ lim - s)
    (e : run rxCode text 13 (min 4294967295 ((lim : Int) - s).toNat) s 0 ((seen.add 24).add 13) = .ok (0, sn')) :
    ∃ sn, (st text lim s 9 s s first (some s) m1 0 (-1) [brFr s first 8, rootFr s first] 2 none seen).step =
      st text lim s 9 s s first (some s) m1 0 (-1) [brFr s first 8, rootFr s first] 2 (some false) sn := by
  refine ⟨sn', ?_⟩
  have h1 : ¬ (((1 : Nat) : Int) > (lim : Int) - (s : Int)) := by omega
  show (if ((1 : Nat) : Int) > (lim : Int) - (s : Int) then _ else _) = _
  rw [if_neg h1]
  show (match run rxCode text 13 (min 4294967295 ((lim : Int) - s).toNat) s 0 ((seen.add 24).add 13) with | .error why => _ | .ok (n, seen) => _) = _
  rw [e]
  rfl

variable {e n : Nat} {fr : List Sre.Frame} {wt : Nat}
theorem s4 : ∃ sn, (st text lim s 20 e h first (some s) m1 0 (-1) fr wt none seen).step = st text lim s 38 e h first (some s) m1 0 (-1) fr wt none sn := ⟨_, rfl⟩
theorem s5 : ∃ sn, (st text lim s 38 e h first (some s) m1 0 (-1) fr wt none seen).step = st text lim s 40 e h first (some s) (some e) 1 1 fr wt none sn := by
  refine ⟨seen.add 17, ?_⟩
  show ({ st text lim s 38 e h first (some s) m1 0 (-1) fr wt none (seen.add 17) with marks := _, lastmark := max 0 1, lastindex := ((1 / 2 + 1 : Nat) : Int), pc := _ } : M) = _
  rfl
theorem s6 : ∃ sn, (st text lim s 40 e h first (some s) (some e) 1 1 fr wt none seen).step = st text lim s 40 e e first (some s) (some e) 1 1 fr wt (some true) sn := by
  cases first
  · exact ⟨_, rfl⟩
  · exact ⟨_, rfl⟩
theorem s7_gb {k : Nat} : (st text lim s 40 e e first (some s) (some e) 1 1 [gbFr e first n, brFr s first k, rootFr s first] 3 (some true) seen).step =
    st text lim s 9 e e first (some s) (some e) 1 1 [brFr s first k, rootFr s first] 2 (some true) seen := rfl
theorem s7_br {k pc pos : Nat} : (st text lim s pc pos e first (some s) (some e) 1 1 [brFr s first k, rootFr s first] 2 (some true) seen).step =
    st text lim s k s e first (some s) (some e) 1 1 [rootFr s first] 1 (some true) seen := rfl
theorem s7_root {pc pos : Nat} : (st text lim s pc pos e first (some s) (some e) 1 1 [rootFr s first] 1 (some true) seen).step =
    st text lim s 5 s e first (some s) (some e) 1 1 [] 0 (some true) seen := rfl
/-- the end of a search that found s .. e -/
def fin (text : Array Nat) (lim s e : Nat) (first : Bool) (seen : Seen) : M :=
  { st text lim s 5 s e first (some s) (some e) 1 1 [] 0 (some true) seen with outcome := some .matched }
theorem s8 : (st text lim s 5 s e first (some s) (some e) 1 1 [] 0 (some true) seen).step = fin text lim s e first seen := rfl

theorem b1 : (st text lim s 9 s s first (some s) m1 0 (-1) [brFr s first 8, rootFr s first] 2 (some false) seen).step =
    st text lim s 23 s s first (some s) m1 0 (-1) [brFr s first 22, rootFr s first] 2 none seen := rfl
theorem b2_yes (hs : s < lim) (hc : text.getD s 0 = 46) : ∃ sn, (st text lim s 23 s s first (some s) m1 0 (-1) [brFr s first 22, rootFr s first] 2 none seen).step =
    st text lim s 35 (s + 1) s first (some s) m1 0 (-1) [brFr s first 22, rootFr s first] 2 none sn := by
  obtain ⟨sn, e⟩ := acc23_46 (seen.add 13)
  refine ⟨sn, ?_⟩
  show (if s ≥ lim then _ else _) = _
  rw [if_neg (by omega)]
  show (match accepts rxCode 23 (text.getD s 0) (seen.add 13) with | .error why => _ | .ok (false, seen) => _ | .ok (true, seen) => _) = _
  rw [hc, e]
  rfl
theorem b2_no (hs : s < lim) (hc : text.getD s 0 = 114 ∨ text.getD s 0 = 99) : ∃ sn, (st text lim s 23 s s first (some s) m1 0 (-1) [brFr s first 22, rootFr s first] 2 none seen).step =
    st text lim s 23 s s first (some s) m1 0 (-1) [brFr s first 22, rootFr s first] 2 (some false) sn := by
  have : ∃ sn, accepts rxCode 23 (text.getD s 0) (seen.add 13) = .ok (false, sn) := by
    rcases hc with hc | hc
    · rw [hc]; exact acc23_114 _
    · rw [hc]; exact acc23_99 _
  obtain ⟨sn, e⟩ := this
  refine ⟨sn, ?_⟩
  show (if s ≥ lim then _ else _) = _
  rw [if_neg (by omega)]
  show (match accepts rxCode 23 (text.getD s 0) (seen.add 13) with | .error why => _ | .ok (false, seen) => _ | .ok (true, seen) => _) = _
  rw [e]
  rfl
theorem b3 : ∃ sn, (st text lim s 35 e h first (some s) m1 0 (-1) fr wt none seen).step = st text lim s 38 e h first (some s) m1 0 (-1) fr wt none sn := ⟨_, rfl⟩
theorem b4 : (st text lim s 23 s s first (some s) m1 0 (-1) [brFr s first 22, rootFr s first] 2 (some false) seen).step =
    st text lim s 22 s s first (some s) m1 0 (-1) [rootFr s first] 1 (some false) seen := rfl
theorem b5 (hs : s < lim) : (st text lim s 22 s s first (some s) m1 0 (-1) [rootFr s first] 1 (some false) seen).step =
    st text lim (s + 1) 5 (s + 1) (s + 1) false (some s) m1 (-1) (-1) [rootFr (s + 1) false] 1 none seen := by
  show (if s < lim then _ else _) = _
  rw [if_pos hs]
  rfl

/-- from the mark at the end of a match to the end -/
theorem go_end {k : Nat} (hfr : (fr = [gbFr e first n, brFr s first k, rootFr s first] ∧ wt = 3) ∨ (fr = [brFr s first k, rootFr s first] ∧ wt = 2)) :
    ∃ sn, Goes 7 (st text lim s 38 e h first (some s) m1 0 (-1) fr wt none seen) (fin text lim s e first sn) := by
  obtain ⟨sa, ea⟩ := s5 (text := text) (lim := lim) (s := s) (h := h) (first := first) (m1 := m1) (seen := seen) (e := e) (fr := fr) (wt := wt)
  obtain ⟨sb, eb⟩ := s6 (text := text) (lim := lim) (s := s) (h := h) (first := first) (seen := sa) (e := e) (fr := fr) (wt := wt)
  refine ⟨sb, ?_⟩
  have g2 := (Goes.of_step ea).trans (Goes.of_step eb)
  rcases hfr with ⟨rfl, rfl⟩ | ⟨rfl, rfl⟩
  · exact ((((g2.trans (Goes.of_step s7_gb)).trans (Goes.of_step s7_br)).trans (Goes.of_step s7_root)).trans (Goes.of_step s8)).mono (by omega)
  · exact (((g2.trans (Goes.of_step s7_br)).trans (Goes.of_step s7_root)).trans (Goes.of_step s8)).mono (by omega)

/-- a try at s -/
def at_ (text : Array Nat) (lim s : Nat) (first : Bool) (m0 m1 : Option Nat) (seen : Seen) : M := st text lim s 5 s s first m0 m1 (-1) (-1) [rootFr s first] 1 none seen

theorem try_digits (hn : 1 ≤ n) (hl : s + n ≤ lim) (hb : lim < 4294967295) (hd : ∀ j, j < n → isDig (text.getD (s + j) 0)) (he : s + n = lim ∨ ¬ isDig (text.getD (s + n) 0)) :
    ∃ sn, Goes 11 (at_ text lim s first m0 m1 seen) (fin text lim s (s + n) first sn) := by
  obtain ⟨sa, ea⟩ := s1 (text := text) (lim := lim) (s := s) (h := s) (first := first) (m0 := m0) (m1 := m1) (seen := seen)
  obtain ⟨sb, eb⟩ := s2 (text := text) (lim := lim) (s := s) (h := s) (first := first) (m1 := m1) (seen := sa)
  obtain ⟨sr, er⟩ := run_digits text (min 4294967295 ((lim : Int) - s).toNat) n s 0 ((sb.add 24).add 13) (by omega) hd (by
    rcases he with he | he
    · left; omega
    · right; exact he)
  rw [Nat.zero_add] at er
  obtain ⟨sc, ec⟩ := s3_run (text := text) (lim := lim) (s := s) (first := first) (m1 := m1) (seen := sb) (by omega) hn er
  obtain ⟨sd, ed⟩ := s4 (text := text) (lim := lim) (s := s) (h := s + n) (first := first) (m1 := m1) (seen := sc) (e := s + n) (fr := [gbFr (s + n) first n, brFr s first 8, rootFr s first]) (wt := 3)
  obtain ⟨se, ge⟩ := go_end (text := text) (lim := lim) (s := s) (h := s + n) (first := first) (m1 := m1) (seen := sd) (e := s + n) (n := n) (k := 8) (.inl ⟨rfl, rfl⟩)
  exact ⟨se, (((((Goes.of_step ea).trans (Goes.of_step eb)).trans (Goes.of_step ec)).trans (Goes.of_step ed)).trans ge)⟩

theorem no_digit (hs : s < lim) (hd : ¬ isDig (text.getD s 0)) : ∃ sn, Goes 4 (at_ text lim s first m0 m1 seen) (st text lim s 23 s s first (some s) m1 0 (-1) [brFr s first 22, rootFr s first] 2 none sn) := by
  obtain ⟨sa, ea⟩ := s1 (text := text) (lim := lim) (s := s) (h := s) (first := first) (m0 := m0) (m1 := m1) (seen := seen)
  obtain ⟨sb, eb⟩ := s2 (text := text) (lim := lim) (s := s) (h := s) (first := first) (m1 := m1) (seen := sa)
  obtain ⟨sr, er⟩ := run_digits text (min 4294967295 ((lim : Int) - s).toNat) 0 s 0 ((sb.add 24).add 13) (by omega) (fun j hj => by omega) (.inr hd)
  rw [Nat.zero_add] at er
  obtain ⟨sc, ec⟩ := s3_none (text := text) (lim := lim) (s := s) (first := first) (m1 := m1) (seen := sb) (by omega) er
  exact ⟨_, (((Goes.of_step ea).trans (Goes.of_step eb)).trans (Goes.of_step ec)).trans (Goes.of_step b1)⟩

theorem try_dot (hs : s < lim) (hc : text.getD s 0 = 46) : ∃ sn, Goes 13 (at_ text lim s first m0 m1 seen) (fin text lim s (s + 1) first sn) := by
  obtain ⟨sa, ga⟩ := no_digit (text := text) (lim := lim) (s := s) (first := first) (m0 := m0) (m1 := m1) (seen := seen) hs (by rw [hc]; unfold isDig; omega)
  obtain ⟨sb, eb⟩ := b2_yes (text := text) (lim := lim) (s := s) (first := first) (m1 := m1) (seen := sa) hs hc
  obtain ⟨sc, ec⟩ := b3 (text := text) (lim := lim) (s := s) (h := s) (first := first) (m1 := m1) (seen := sb) (e := s + 1) (fr := [brFr s first 22, rootFr s first]) (wt := 2)
  obtain ⟨se, ge⟩ := go_end (text := text) (lim := lim) (s := s) (h := s) (first := first) (m1 := m1) (seen := sc) (e := s + 1) (n := 0) (k := 22) (.inr ⟨rfl, rfl⟩)
  exact ⟨se, ((ga.trans (Goes.of_step eb)).trans (Goes.of_step ec)).trans ge⟩

theorem try_other (hs : s < lim) (hc : text.getD s 0 = 114 ∨ text.getD s 0 = 99) : ∃ sn, Goes 7 (at_ text lim s first m0 m1 seen) (at_ text lim (s + 1) false (some s) m1 sn) := by
  obtain ⟨sa, ga⟩ := no_digit (text := text) (lim := lim) (s := s) (first := first) (m0 := m0) (m1 := m1) (seen := seen) hs (by unfold isDig; omega)
  obtain ⟨sb, eb⟩ := b2_no (text := text) (lim := lim) (s := s) (first := first) (m1 := m1) (seen := sa) hs hc
  exact ⟨sb, ((ga.trans (Goes.of_step eb)).trans (Goes.of_step b4)).trans (Goes.of_step (b5 hs))⟩

theorem forSearch_at (hs : s < lim) : ∃ sn, Sre.forSearch rxCode text 1 s lim false = at_ text lim s true none none sn := by
  refine ⟨({} : Seen).add 14, ?_⟩
  show (if (decide (s > lim) || decide (lim - s < 1)) = true then _ else _) = _
  rw [if_neg (by simp; omega)]
  rfl
theorem forSearch_end : (Sre.forSearch rxCode text 1 lim lim false).step.outcome = some .failed := by
  have : Sre.forSearch rxCode text 1 lim lim false = (M.say { code := rxCode, text, lim, start := lim, pc := 5, pos := lim, handed := lim, marks := #[none, none], mustAdvance := false, seen := ({} : Seen).add 14 } false) := by
    show (if (decide (lim > lim) || decide (lim - lim < 1)) = true then _ else _) = _
    rw [if_pos (by simp)]
    rfl
  rw [this]
  rfl
end Mine
end

/-! ### Rx2 -/
section
set_option maxRecDepth 100000
namespace Mine
open PySem PySem.Sre PySem.Builtin PySem.Builtin.Re

section
variable {M : Model} {A : Around} {E : Value → Shared → Prop} {σ : Shared}

theorem wp_drive {Q : Sre.M → Shared → Prop} : ∀ (turns N : Nat) (m : Sre.M), N ≤ 4 * turns → 1 ≤ turns → (iter N m).outcome.isSome = true → Q (iter N m) σ → wpAny M A (reDrive turns m) Q E σ
  | 0, _, _, _, h, _, _ => by omega
  | turns + 1, N, m, hN, _, ho, hq => by
    have e4 : m.runFor reTurnSteps = iter 4 m := runFor_eq 4 m
    unfold reDrive
    simp only [e4]
    by_cases h4 : (iter 4 m).outcome.isSome = true
    · rw [if_pos h4]
      refine wpAny_pure ?_
      rcases Nat.le_total N 4 with h | h
      · have : iter 4 m = iter N m := by
          have := iter_add N (4 - N) m
          rw [show N + (4 - N) = 4 by omega] at this
          rw [this, iter_done ho]
        rw [this]; exact hq
      · have : iter N m = iter 4 m := by
          have := iter_add 4 (N - 4) m
          rw [show 4 + (N - 4) = N by omega] at this
          rw [this, iter_done h4]
        rw [← this]; exact hq
    · rw [if_neg h4]
      have hlt : 4 < N := by
        rcases Nat.lt_or_ge 4 N with h | h
        · exact h
        · exfalso; apply h4
          have := iter_add N (4 - N) m
          rw [show N + (4 - N) = 4 by omega] at this
          rw [this, iter_done ho]; exact ho
      have ea : iter N m = iter (N - 4) (iter 4 m) := by
        have := iter_add 4 (N - 4) m
        rwa [show 4 + (N - 4) = N by omega] at this
      refine wpAny_bind (wpAny_rule ?_)
      exact wp_drive turns (N - 4) (iter 4 m) (by omega) (by omega) (ea ▸ ho) (ea ▸ hq)

theorem wp_quietFor {α : Type} {f : α → PUnit → Sem (ForInStep PUnit)} (hf : ∀ x (Q : ForInStep PUnit → Shared → Prop), Q (.yield ⟨⟩) σ → wpAny M A (f x ⟨⟩) Q E σ) :
    ∀ (l : List α) {Q : PUnit → Shared → Prop}, Q ⟨⟩ σ → wpAny M A (forIn l PUnit.unit f) Q E σ
  | [], _, h => by rw [List.forIn_nil]; exact wpAny_pure h
  | x :: r, _, h => by rw [List.forIn_cons]; exact wpAny_bind (hf x _ (wp_quietFor hf r h))

theorem wp_runToEnd {Q : Option Sre.M → Shared → Prop} {m : Sre.M} {N : Nat} (hN : N ≤ 4 * 2 ^ 64)
    (h : ((iter N m).outcome = some .matched ∧ Q (some (iter N m)) σ) ∨ ((iter N m).outcome = some .failed ∧ Q none σ)) : wpAny M A (reRunToEnd m) Q E σ := by
  unfold reRunToEnd
  refine wpAny_bind (wp_drive (2 ^ 64) N m hN (by omega) (by rcases h with h | h <;> rw [h.1] <;> rfl) ?_)
  refine wpAny_bind (wp_quietFor (fun i Q' hq => ?_) _ ?_)
  · split
    · exact wpAny_bind (wpAny_rule (wpAny_pure hq))
    · exact wpAny_pure hq
  · rcases h with h | h
    · rw [h.1]; exact wpAny_pure h.2
    · rw [h.1]; exact wpAny_pure h.2

/-- the search from a finds s .. e -/
def Found (text : Array Nat) (a s e : Nat) : Prop := s < e ∧ e ≤ text.size ∧ a ≤ s ∧ ∃ sn first, Goes 100 (Sre.forSearch rxCode text 1 a text.size false) (fin text text.size s e first sn)

inductive Chain (text : Array Nat) : Nat → List (Nat × Nat) → Prop
  | nil : Chain text text.size []
  | cons {a s e r} : Found text a s e → Chain text e r → Chain text a ((s, e) :: r)

def cut (text : Array Nat) (a b : Nat) : Str := ⟨text.extract a b⟩
def spl (text : Array Nat) : Nat → List (Nat × Nat) → List Str
  | a, [] => [cut text a text.size]
  | a, (s, e) :: r => cut text a s :: cut text s e :: spl text e r
def mids (text : Array Nat) : Nat → List (Nat × Nat) → List Str
  | _, [] => []
  | a, (s, e) :: r => cut text a s :: cut text s e :: mids text e r
theorem spl_eq (text : Array Nat) : ∀ (ms : List (Nat × Nat)) (a z : Nat), (ms.getLast?.map (·.2)).getD a = z → spl text a ms = mids text a ms ++ [cut text z text.size]
  | [], a, z, h => by simp at h; subst h; rfl
  | (s, e) :: r, a, z, h => by
    simp only [spl, mids, List.cons_append]
    rw [spl_eq text r e z (by cases r with | nil => simpa using h | cons p r => simpa [List.getLast?_cons] using h)]
theorem Chain.last {text : Array Nat} {a : Nat} {ms : List (Nat × Nat)} (c : Chain text a ms) : (ms.getLast?.map (·.2)).getD a = text.size := by
  induction c with
  | nil => rfl
  | cons f c ih => rename_i a s e r; cases r with
    | nil => simpa using ih
    | cons p r => simpa [List.getLast?_cons] using ih

def IsText (v : Value) (x : Str) : Prop := ∃ t, v = .str x t

theorem sizeLine_ge : 1000000 ≤ sizeLine := by rw [sizeLine_eq]; omega
theorem cut_len {text : Array Nat} {a b : Nat} (h : text.size ≤ 1000000) : (cut text a b).length ≤ sizeLine := by
  have := sizeLine_ge
  show (text.extract a b).size ≤ _
  rw [Array.size_extract]; omega

variable {t : ReTarget} {text : Array Nat}
structure IsT (t : ReTarget) (text : Array Nat) : Prop where
  code : t.code = rxCode
  txt : t.text = text
  kind : t.kind = 0
  groups : t.groups = 1
  lim : t.lim = text.size
  small : text.size ≤ 1000000

theorem wp_slice (T : IsT t text) {a b : Nat} {Q : Value → Shared → Prop} (h : Q (.str (cut text a b) σ.toks) { σ with toks := σ.toks + 1 }) : wpAny M A (reSlice t.text t.kind a b) Q E σ := by
  unfold reSlice
  rw [T.kind, T.txt]
  exact wpAny_mkStr h (cut_len T.small)

theorem wp_group (T : IsT t text) {s e : Nat} {first : Bool} {sn : Seen} (hse : s < e) {d : Sem Value} {Q : Value → Shared → Prop} (h : Q (.str (cut text s e) σ.toks) { σ with toks := σ.toks + 1 }) :
    wpAny M A (reMachineGroup t (fin text text.size s e first sn) 1 d) Q E σ := by
  unfold reMachineGroup
  rw [if_neg (by show ¬ (((2 * (1 - 1) : Nat) : Int) ≥ (1 : Int)); omega)]
  show wpAny M A (if e < s then _ else reSlice t.text t.kind s e) Q E σ
  rw [if_neg (by omega)]
  exact wp_slice T h

theorem wp_next (T : IsT t text) {a s e : Nat} (F : Found text a s e) {Q : Option Sre.M → Shared → Prop} (h : ∀ first sn, Q (some (fin text text.size s e first sn)) σ) : wpAny M A (reNextFound t a false) Q E σ := by
  obtain ⟨_, _, _, sn, first, k, hk, e⟩ := F
  unfold reNextFound
  rw [T.code, T.txt, T.groups, T.lim]
  exact wp_runToEnd (N := k) (by omega) (.inl ⟨by rw [e]; rfl, by rw [e]; exact h first sn⟩)
theorem wp_nextEnd (T : IsT t text) {Q : Option Sre.M → Shared → Prop} (h : Q none σ) : wpAny M A (reNextFound t text.size false) Q E σ := by
  unfold reNextFound
  rw [T.code, T.txt, T.groups, T.lim]
  exact wp_runToEnd (N := 1) (by omega) (.inr ⟨forSearch_end, h⟩)

abbrev SplSt := Array Value × Nat × Nat × Bool × Int × Bool

theorem loop_over {f : Nat → SplSt → Sem (ForInStep SplSt)} (hf : ∀ x o a b c d, f x (o, a, b, c, d, true) = pure (.yield (o, a, b, c, d, true)))
    {o : Array Value} {a b : Nat} {c : Bool} {d : Int} {Q : SplSt → Shared → Prop} : ∀ (l : List Nat), Q (o, a, b, c, d, true) σ → wpAny M A (forIn l (o, a, b, c, d, true) f) Q E σ
  | [], h => by rw [List.forIn_nil]; exact wpAny_pure h
  | x :: r, h => by rw [List.forIn_cons, hf]; exact wpAny_bind (wpAny_pure (loop_over hf r h))

theorem loop_run (T : IsT t text) {f : Nat → SplSt → Sem (ForInStep SplSt)} (hf : ∀ x o a b c d, f x (o, a, b, c, d, true) = pure (.yield (o, a, b, c, d, true)))
    (hg : ∀ x o a b n, f x (o, a, b, false, n, false) = (reNextFound t a false >>= fun r => match r with
      | none => pure (.yield (o, a, b, false, n, true))
      | some m => reSlice t.text t.kind b m.start >>= fun y => forIn (List.range t.groups) (o.push y) (fun g o => reMachineGroup t m (g + 1) (pure .none) >>= fun z => pure (.yield (o.push z))) >>= fun o =>
        pure (.yield (o, m.handed, m.handed, m.handed == m.start, n + 1, false))))
    {Q : SplSt → Shared → Prop} : ∀ (ms : List (Nat × Nat)) (l : List Nat) (a : Nat) (out : List Value) (xs : List Str) (n : Int) (τ : Shared), (∃ tk, τ = { σ with toks := tk }) → Chain text a ms → ms.length < l.length → Paired IsText out xs →
      (∀ (vs : List Value) tk n', Paired IsText vs (xs ++ mids text a ms) → Q (vs.toArray, text.size, text.size, false, n', true) { σ with toks := tk }) → wpAny M A (forIn l (out.toArray, a, a, false, n, false) f) Q E τ
  | [], [], _, _, _, _, _, _, _, hl, _, _ => by simp at hl
  | _ :: _, [], _, _, _, _, _, _, _, hl, _, _ => by simp at hl
  | [], x :: r, a, out, xs, n, τ, hτ, c, _, hp, h => by
    obtain ⟨tk, rfl⟩ := hτ
    cases c
    rw [List.forIn_cons, hg]
    refine wpAny_bind (wpAny_bind (wp_nextEnd T ?_))
    refine wpAny_pure ?_
    refine loop_over hf r ?_
    exact h out tk n (by simpa [mids] using hp)
  | (s, e) :: ms, x :: r, a, out, xs, n, τ, hτ, c, hl, hp, h => by
    obtain ⟨tk, rfl⟩ := hτ
    cases c with
    | cons F c =>
      rw [List.forIn_cons, hg]
      refine wpAny_bind (wpAny_bind (wp_next T F fun first sn => ?_))
      refine wpAny_bind (wp_slice T ?_)
      refine wpAny_bind ?_
      rw [T.groups]
      show wpAny M A (forIn [0] _ _) _ E _
      rw [List.forIn_cons]
      refine wpAny_bind (wpAny_bind (wp_group T F.1 (wpAny_pure ?_)))
      dsimp only
      rw [List.forIn_nil]
      refine wpAny_pure (wpAny_pure ?_)
      have hne : ((fin text text.size s e first sn).handed == (fin text text.size s e first sn).start) = false := by
        show (e == s) = false
        have := F.1
        simp; omega
      rw [hne]
      show wpAny M A (forIn r (((out.toArray.push (Value.str (cut text a s) tk)).push (Value.str (cut text s e) (tk + 1))), e, e, false, n + 1, false) f) Q E _
      have key := loop_run T hf hg ms r e (out ++ [Value.str (cut text a s) tk, Value.str (cut text s e) (tk + 1)]) (xs ++ [cut text a s, cut text s e]) (n + 1) { σ with toks := tk + 1 + 1 } ⟨_, rfl⟩ c (by simpa using hl)
        (by
          have h1 : Paired IsText (out ++ [Value.str (cut text a s) tk]) (xs ++ [cut text a s]) := Paired.snoc hp ⟨tk, rfl⟩
          have h2 : Paired IsText (out ++ [Value.str (cut text a s) tk] ++ [Value.str (cut text s e) (tk + 1)]) (xs ++ [cut text a s] ++ [cut text s e]) := Paired.snoc h1 ⟨tk + 1, rfl⟩
          simpa using h2) (fun vs tk' n' hv => h vs tk' n' (by simpa [mids] using hv))
      simpa using key

theorem reNamed_split (v : Value) : reNamed "re.Pattern.split" "split" ["string", "maxsplit"] 1 [v] [] = pure [some v, none] := rfl

theorem wp_whole {a c : Addr} {oa oc : Obj} {x : Str} {tx : Tok} {f0 f1 f3 f4 : Value} {tg : Tok} {its : Array Value} {nn : Nat} {Q : ReTarget → Shared → Prop}
    (ha : σ.heap.get? a = some oa) (hda : oa.data = .fields #[f0, f1, .int 1 tg, f3, f4, .ref c, .int 0 tg]) (hc : σ.heap.get? c = some oc) (hdc : oc.data = .seq its nn)
    (hi : (its.map reRawOf).map (·.toNat) = rxCode) (hx : x.cps.size ≤ 1000000) (h : ∀ t, IsT t x.cps → Q t σ) : wpAny M A (reWholeTarget (.ref a) (.str x tx)) Q E σ := by
  unfold reWholeTarget
  refine wpAny_bind (wpAny_fieldsOf ha hda ?_)
  refine wpAny_bind ?_
  show wpAny M A (pure (x.cps, 0)) _ _ _
  refine wpAny_pure ?_
  dsimp only
  rw [if_neg (by show ¬ (false = true); decide), if_neg (by show ¬ (false = true); decide)]
  refine wpAny_bind ?_
  show wpAny M A (pure ()) _ _ _
  refine wpAny_pure ?_
  refine wpAny_bind ?_
  show wpAny M A (reRawItems (.ref c)) _ _ _
  unfold reRawItems
  refine wpAny_bind (wpAny_seqItems hc hdc (wpAny_pure ?_))
  refine wpAny_pure (h _ ⟨hi, rfl, rfl, rfl, rfl, hx⟩)

theorem wp_split {a c : Addr} {oa oc : Obj} {x : Str} {tx : Tok} {f0 f1 f3 f4 : Value} {tg : Tok} {its : Array Value} {nn : Nat} {ms : List (Nat × Nat)} {Q : PySem.Fin → Shared → Prop}
    (ha : σ.heap.get? a = some oa) (hda : oa.data = .fields #[f0, f1, .int 1 tg, f3, f4, .ref c, .int 0 tg]) (hc : σ.heap.get? c = some oc) (hdc : oc.data = .seq its nn)
    (hi : (its.map reRawOf).map (·.toNat) = rxCode) (hx : x.cps.size ≤ 1000000) (ch : Chain x.cps 0 ms) (hm : ms.length ≤ x.cps.size)
    (h : ∀ (vs : List Value) tk, Paired IsText vs (spl x.cps 0 ms) → Q (.done (.ret (.ref σ.heap.objs.size))) { σ with heap := σ.heap.push { cls := .type "list", data := .seq vs.toArray }, toks := tk }) :
    wpAny M A («re.Pattern.split» ⟨[.ref a, .str x tx], []⟩) Q E σ := by
  unfold «re.Pattern.split»
  dsimp only
  rw [reNamed_split]
  refine wpAny_bind (wpAny_pure ?_)
  dsimp only
  refine wpAny_bind (wpAny_pure ?_)
  refine wpAny_bind (wp_whole ha hda hc hdc hi hx fun t T => ?_)
  have hr : ms.length < (List.range (reMostMatches t)).length := by
    rw [List.length_range]; unfold reMostMatches; rw [T.txt]; omega
  refine wpAny_bind (loop_run T (fun _ _ _ _ _ _ => rfl) (fun _ _ _ _ _ => rfl) ms _ 0 [] [] 0 σ ⟨_, rfl⟩ ch hr .nil fun vs tk n' hv => ?_)
  dsimp only
  rw [if_neg (by decide)]
  refine wpAny_bind (wp_slice T ?_)
  rw [T.lim]
  have hsp : Paired IsText (vs ++ [Value.str (cut x.cps x.cps.size x.cps.size) tk]) (spl x.cps 0 ms) := by
    rw [spl_eq x.cps ms 0 _ ch.last]
    exact Paired.snoc (by simpa using hv) ⟨_, rfl⟩
  have hlen : (vs ++ [Value.str (cut x.cps x.cps.size x.cps.size) tk]).length ≤ sizeLine := by
    have h1 := hsp.length
    have h2 : ∀ (ms : List (Nat × Nat)) (a : Nat), (spl x.cps a ms).length = 2 * ms.length + 1 := by
      intro ms
      induction ms with
      | nil => intro a; rfl
      | cons p ms ih => intro a; obtain ⟨s, e⟩ := p; simp only [spl, List.length_cons, ih]; omega
    have h3 := sizeLine_eq
    rw [h2] at h1
    omega
  refine wpAny_bind (wpAny_newObj_type ?_ ?_)
  · have := h _ (tk + 1) hsp
    exact wpAny_pure (by simpa using this)
  · show (vs.toArray.push _).toList.toArray.size ≤ sizeLine
    simpa using hlen
end
end Mine
end

/-! ### Core -/
section
set_option maxRecDepth 100000
namespace Mine
open PySem PySem.W PyProof.Rows PySem.SeqAt

def SubU (U : Addr → Prop) (h h' : Heap) : Prop := ∀ b o, U b → h.get? b = some o → h'.get? b = some o
def KeepsU (U : Addr → Prop) (s s' : Shared) : Prop := ∃ h' tk, s' = { s with heap := h', toks := tk } ∧ SubU U s.heap h'
theorem KeepsU.of {U : Addr → Prop} {s s' : Shared} (k : Keeps s s') : KeepsU U s s' := let ⟨h, t, e, f⟩ := k; ⟨h, t, e, fun b o _ q => f b o q⟩
theorem KeepsU.keeps {s s' : Shared} (k : KeepsU (fun _ => True) s s') : Keeps s s' := let ⟨h, t, e, f⟩ := k; ⟨h, t, e, fun b o q => f b o trivial q⟩
theorem keeps_refl (s : Shared) : Keeps s s := ⟨s.heap, s.toks, rfl, fun _ _ e => e⟩
theorem keeps_tok (s : Shared) (t : Nat) : Keeps s { s with toks := t } := ⟨s.heap, t, rfl, fun _ _ e => e⟩
theorem ktrans {a b c : Shared} (x : Keeps a b) (y : Keeps b c) : Keeps a c := by
  obtain ⟨h, t, rfl, f⟩ := x
  obtain ⟨h', t', rfl, g⟩ := y
  exact ⟨h', t', rfl, fun b o e => g b o (f b o e)⟩
theorem ksub {a b : Shared} (x : Keeps a b) : ∀ p o, a.heap.get? p = some o → b.heap.get? p = some o := by
  obtain ⟨h, t, rfl, f⟩ := x; exact f

mutual
inductive Rd (h : Heap) (P : Addr → Prop) : Value → PyData → Prop
  | bool (b : Bool) : Rd h P (.bool b) (.bool b)
  | int (i : Int) (t : Tok) : Rd h P (.int i t) (.int i)
  | str (x : Str) (t : Tok) : Rd h P (.str x t) (.str x)
  | list {a : Addr} {o : Obj} {vs : Array Value} {n : Nat} {ds : List PyData} : P a → h.get? a = some o → o.cls = .type "list" → o.data = .seq vs n → RdAll h P vs.toList ds → Rd h P (.ref a) (.list ds)
  | tuple {a : Addr} {o : Obj} {vs : Array Value} {n : Nat} {ds : List PyData} : P a → h.get? a = some o → o.cls = .type "tuple" → o.data = .seq vs n → RdAll h P vs.toList ds → Rd h P (.ref a) (.tuple ds)
inductive RdAll (h : Heap) (P : Addr → Prop) : List Value → List PyData → Prop
  | nil : RdAll h P [] []
  | cons {v : Value} {vs : List Value} {d : PyData} {ds : List PyData} : Rd h P v d → RdAll h P vs ds → RdAll h P (v :: vs) (d :: ds)
end

mutual
theorem Rd.mono {h h' : Heap} {P P' : Addr → Prop} (hk : ∀ b o, P b → h.get? b = some o → h'.get? b = some o ∧ P' b) : ∀ {v : Value} {d : PyData}, Rd h P v d → Rd h' P' v d
  | _, _, .bool b => .bool b
  | _, _, .int i t => .int i t
  | _, _, .str x t => .str x t
  | _, _, .list p e c q r => .list (hk _ _ p e).2 (hk _ _ p e).1 c q (RdAll.mono hk r)
  | _, _, .tuple p e c q r => .tuple (hk _ _ p e).2 (hk _ _ p e).1 c q (RdAll.mono hk r)
theorem RdAll.mono {h h' : Heap} {P P' : Addr → Prop} (hk : ∀ b o, P b → h.get? b = some o → h'.get? b = some o ∧ P' b) : ∀ {vs : List Value} {ds : List PyData}, RdAll h P vs ds → RdAll h' P' vs ds
  | _, _, .nil => .nil
  | _, _, .cons a r => .cons (Rd.mono hk a) (RdAll.mono hk r)
end
mutual
theorem Rd.reads {h : Heap} {P : Addr → Prop} : ∀ {v : Value} {d : PyData}, Rd h P v d → ∃ as, Reads h v d as
  | _, _, .bool b => ⟨_, .bool b⟩
  | _, _, .int i t => ⟨_, .int i t⟩
  | _, _, .str x t => ⟨_, .str x t⟩
  | _, _, .list _ e c q r => let ⟨_, k⟩ := RdAll.reads r; ⟨_, .list e c q k⟩
  | _, _, .tuple _ e c q r => let ⟨_, k⟩ := RdAll.reads r; ⟨_, .tuple e c q k⟩
theorem RdAll.reads {h : Heap} {P : Addr → Prop} : ∀ {vs : List Value} {ds : List PyData}, RdAll h P vs ds → ∃ as, ReadsAll h vs ds as
  | _, _, .nil => ⟨_, .nil⟩
  | _, _, .cons a r => let ⟨_, k⟩ := Rd.reads a; let ⟨_, l⟩ := RdAll.reads r; ⟨_, .cons k l⟩
end
section
variable {h h' : Heap} {P P' : Addr → Prop} {v : Value} {d : PyData} {vs ws : List Value} {ds es : List PyData}
theorem Rd.keeps (r : Rd h P v d) (hk : ∀ b o, h.get? b = some o → h'.get? b = some o) : Rd h' P v d := r.mono fun b o p e => ⟨hk b o e, p⟩
theorem RdAll.keeps (r : RdAll h P vs ds) (hk : ∀ b o, h.get? b = some o → h'.get? b = some o) : RdAll h' P vs ds := r.mono fun b o p e => ⟨hk b o e, p⟩
theorem RdAll.length (r : RdAll h P vs ds) : vs.length = ds.length := by
  induction vs generalizing ds with
  | nil => cases r; rfl
  | cons v vs ih => cases r with | cons _ r => rw [List.length_cons, List.length_cons, ih r]
theorem RdAll.append (r : RdAll h P vs ds) (q : RdAll h P ws es) : RdAll h P (vs ++ ws) (ds ++ es) := by
  induction vs generalizing ds with
  | nil => cases r; exact q
  | cons v vs ih => cases r with | cons a r => exact .cons a (ih r)
theorem RdAll.get (r : RdAll h P vs ds) {i : Nat} (hv : vs[i]? = some v) : ∃ d, ds[i]? = some d ∧ Rd h P v d := by
  induction vs generalizing ds i with
  | nil => simp at hv
  | cons u vs ih =>
    cases r with
    | cons a r =>
      cases i with
      | zero => simp at hv; subst hv; exact ⟨_, rfl, a⟩
      | succ i => simpa using ih r (by simpa using hv)
theorem RdAll.of_get : ∀ {vs : List Value} {ds : List PyData}, vs.length = ds.length → (∀ (i : Nat) (v : Value) (d : PyData), vs[i]? = some v → ds[i]? = some d → Rd h P v d) → RdAll h P vs ds
  | [], [], _, _ => .nil
  | [], _ :: _, e, _ => by simp at e
  | _ :: _, [], e, _ => by simp at e
  | _ :: vs, _ :: ds, e, f => .cons (f 0 _ _ rfl rfl) (RdAll.of_get (by simpa using e) fun i v d a b => f (i + 1) v d (by simpa using a) (by simpa using b))
theorem RdAll.take : ∀ {vs : List Value} {ds : List PyData} (n : Nat), RdAll h P vs ds → RdAll h P (vs.take n) (ds.take n)
  | _, _, 0, _ => by rw [List.take_zero, List.take_zero]; exact .nil
  | _, _, _ + 1, .nil => .nil
  | _, _, n + 1, .cons a r => .cons a (RdAll.take n r)
theorem RdAll.drop : ∀ {vs : List Value} {ds : List PyData} (n : Nat), RdAll h P vs ds → RdAll h P (vs.drop n) (ds.drop n)
  | _, _, 0, r => r
  | _, _, _ + 1, .nil => .nil
  | _, _, n + 1, .cons _ r => RdAll.drop n r
theorem Rd.of_list (r : Rd h P v (.list ds)) : ∃ a vs, v = .ref a ∧ P a ∧ h.IsList a vs.toArray ∧ RdAll h P vs ds := by
  cases r with
  | list p e c q r => rename_i a o vs n; exact ⟨a, vs.toList, rfl, p, ⟨o, e, c, n, q⟩, r⟩
theorem Rd.of_tuple (r : Rd h P v (.tuple ds)) : ∃ a vs, v = .ref a ∧ P a ∧ IsTup h a vs.toArray ∧ RdAll h P vs ds := by
  cases r with
  | tuple p e c q r => rename_i a o vs n; exact ⟨a, vs.toList, rfl, p, ⟨o, e, c, n, q⟩, r⟩
theorem Rd.mk_list {a : Addr} (p : P a) (hl : h.IsList a vs.toArray) (r : RdAll h P vs ds) : Rd h P (.ref a) (.list ds) := let ⟨_, e, c, _, q⟩ := hl; .list p e c q r
theorem Rd.mk_tuple {a : Addr} (p : P a) (hl : IsTup h a vs.toArray) (r : RdAll h P vs ds) : Rd h P (.ref a) (.tuple ds) := let ⟨_, e, c, _, q⟩ := hl; .tuple p e c q r
theorem Rd.of_str {x : Str} (r : Rd h P v (.str x)) : ∃ t, v = .str x t := by cases r; exact ⟨_, rfl⟩
theorem Rd.of_int {x : Int} (r : Rd h P v (.int x)) : ∃ t, v = .int x t := by cases r; exact ⟨_, rfl⟩
end

/-- what is not yet laid is free -/
def FreshP (h : Heap) (P : Addr → Prop) : Prop := ∀ a, h.get? a = none → P a
theorem FreshP.keeps {h h' : Heap} {P : Addr → Prop} (f : FreshP h P) (hk : ∀ b o, h.get? b = some o → h'.get? b = some o) : FreshP h' P := fun a e => f a (by
  cases q : h.get? a with
  | none => rfl
  | some o => rw [hk a o q] at e; cases e)
theorem FreshP.and_ne {h : Heap} {P : Addr → Prop} {c : Addr} (f : FreshP h P) (hc : ∃ o, h.get? c = some o) : FreshP h (fun a => P a ∧ a ≠ c) := fun a e => ⟨f a e, by rintro rfl; obtain ⟨o, hc⟩ := hc; rw [hc] at e; cases e⟩

section
variable {prog : Program} {w : World} {A : Around} {R : Result → Shared → Prop} {s : Shared}

theorem comp_loopJ {elt iter : Expr} {x : Str} {px : Pos} {ifs : List Expr} {scope : Scope} {pos : Pos} {I D : Addr} {fp wr : List Addr} {n : Nat} {PI : Nat → Value → Prop} {St : Nat → Heap → Prop}
    {cenv : Env} {m : Str → Option Value} {ys₀ : List Value} (W : Walks prog w A I fp wr n PI St) (U : Addr → Prop) (J : Nat → List Value → Heap → Prop)
    (hUC : U cenv.locals) (hUD : U D) (hUf : ∀ b ∈ fp, U b)
    (hJ : ∀ i ys h h', J i ys h → (∀ b o, b ≠ cenv.locals → b ∉ wr → b ≠ D → h.get? b = some o → h'.get? b = some o) → J i ys h')
    (hx : cenv.kindOf x = some .local) (hp : (cenv.scope.kind == .class || (cenv.scope.kind == .module && cenv.locals != cenv.globals)) = false)
    (hDC : D ≠ cenv.locals) (hDf : D ∉ fp) (hCf : cenv.locals ∉ fp)
    (hst : St 0 s.heap) (hacc : s.heap.PlainList D ys₀.toArray) (hn : s.heap.Ns cenv.locals m) (hJ0 : J 0 ys₀ s.heap) (hsz : ys₀.length + n ≤ sizeLine)
    (turn : ∀ i v ys s₂ m₂, i < n → PI i v → s₂.heap.Ns cenv.locals m₂ → m₂ x = some v → s₂.heap.PlainList D ys.toArray → (∃ h tk, s₂ = { s with heap := h, toks := tk }) →
      (∀ b o, U b → b ≠ cenv.locals → b ∉ wr → b ≠ D → s.heap.get? b = some o → s₂.heap.get? b = some o) → (∀ b ∈ fp, ∀ o, s.heap.get? b = some o → ∃ o', s₂.heap.get? b = some o') → J i ys s₂.heap →
      wpAny (model prog w) A (forIn ifs true fun c r => if r = true then do let ok ← isTrue c cenv (eval c cenv); pure (ForInStep.yield ok) else pure (ForInStep.yield r))
        (fun ok s₃ => KeepsU U s₂ s₃ ∧ if ok = true then wpAny (model prog w) A (eval elt cenv) (fun y s₄ => KeepsU U s₃ s₄ ∧ J (i + 1) (ys ++ [y]) s₄.heap) (notedBy (model prog w) A cenv fun e s' => R (.error e) s') s₃
          else J (i + 1) ys s₃.heap) (notedBy (model prog w) A cenv fun e s' => R (.error e) s') s₂)
    (hR : ∀ h' tk m' ys, h'.Ns cenv.locals m' → h'.PlainList D ys.toArray → J n ys h' →
      (∀ b o, U b → b ≠ cenv.locals → b ∉ wr → b ≠ D → s.heap.get? b = some o → h'.get? b = some o) → R (.ok .next) { s with heap := h', toks := tk })
    (hfa : ∀ i h, St i h → ∀ b ∈ fp, ∃ o, h.get? b = some o) :
    codeAny (model prog w) A (.compLoop (.ListComp elt [⟨.Name x px, iter, ifs, 0⟩] scope pos) 0 (.ref I) (.ref D) cenv) R s := by
  refine codeAny_compLoop_tests
    (fun k s' => ∃ h' tk m' ys i, s' = { s with heap := h', toks := tk } ∧ St i h' ∧ h'.PlainList D (List.toArray ys) ∧ h'.Ns cenv.locals m' ∧ J i ys h' ∧ i ≤ n ∧ ys.length ≤ ys₀.length + i ∧ k = n + 1 - i ∧
      (∀ b o, U b → b ≠ cenv.locals → b ∉ wr → b ≠ D → s.heap.get? b = some o → h'.get? b = some o)) ?_ (n + 1)
    ⟨s.heap, s.toks, m, ys₀, 0, rfl, hst, hacc, hn, hJ0, Nat.zero_le _, by omega, rfl, fun _ _ _ _ _ _ e => e⟩
  rintro k s' ⟨H, tk, m', ys, i, rfl, hst', hacc', hn', hJ', hi, hlen, rfl, hk⟩
  have hCw : cenv.locals ∉ wr := fun h => hCf (W.sub _ h)
  have hDw : D ∉ wr := fun h => hDf (W.sub _ h)
  by_cases hlt : i < n
  · refine W.item i _ _ _ hlt hst' fun v h₁ tk₁ hPv hst₁ hk₁ => ?_
    refine wpAny_assign_Name (wpAny_storeName_local hx (hn'.at' fun o e => hk₁ _ o hCw e) (fun h₂ hn₂ hs₂ => ?_) hp)
    have up₂ : ∀ b o, b ≠ cenv.locals → b ∉ wr → H.get? b = some o → h₂.get? b = some o := fun b o hbC hbf e => hs₂.extBut b o hbC (hk₁ b o hbf e)
    have hst₂ : St (i + 1) h₂ := W.frame _ _ _ hst₁ fun b hb o e => hs₂.extBut b o (fun h => hCf (h ▸ hb)) e
    have hacc₂ : h₂.PlainList D ys.toArray := hacc'.at fun o e => up₂ D o hDC hDw e
    refine wpAny_mono (turn i v ys _ _ hlt hPv hn₂ (by simp) hacc₂ ⟨_, _, rfl⟩ (fun b o hU hbC hbf hbD e => up₂ b o hbC hbf (hk b o hU hbC hbf hbD e)) (fun b hb o _ => hfa _ _ hst₂ b hb) (hJ _ _ _ _ hJ' fun b o hbC hbf _ e => up₂ b o hbC hbf e)) (fun ok s₃ h₃ => ?_) fun _ _ e => e
    obtain ⟨⟨h₃, tk₃, rfl, hk₃⟩, h₃'⟩ := h₃
    have hst₃ : St (i + 1) h₃ := W.frame _ _ _ hst₂ fun b hb o e => hk₃ b o (hUf b hb) e
    have hacc₃ : h₃.PlainList D ys.toArray := hacc₂.at fun o e => hk₃ _ o hUD e
    have hn₃ := hn₂.at' fun o e => hk₃ _ o hUC e
    cases ok with
    | false =>
      simp only [Bool.false_eq_true, if_false] at h₃' ⊢
      exact ⟨n + 1 - (i + 1), by omega, h₃, tk₃, _, ys, i + 1, rfl, hst₃, hacc₃, hn₃, h₃', hlt, by omega, rfl, fun b o hU hbC hbf hbD e => hk₃ b o hU (up₂ b o hbC hbf (hk b o hU hbC hbf hbD e))⟩
    | true =>
      simp only [if_true] at h₃' ⊢
      refine wpAny_mono h₃' (fun y s₄ h₄ => ?_) fun _ _ e => e
      obtain ⟨⟨h₄, tk₄, rfl, hk₄⟩, hJ₄⟩ := h₄
      have hys : ys.toArray.size ≤ sizeLine := by rw [List.size_toArray]; omega
      refine wpAny_list_append_plain (hsz := hys) (hacc₃.at fun o e => hk₄ _ o hUD e) fun h₅ hl₅ hs₅ => ?_
      refine ⟨n + 1 - (i + 1), by omega, h₅, tk₄, _, ys ++ [y], i + 1, rfl, ?_, (by simpa using hl₅), (hn₃.at' fun o e => hk₄ _ o hUC e).sameBut hs₅ (Ne.symm hDC),
        hJ _ _ _ _ hJ₄ (fun b o _ _ hbD e => hs₅.extBut b o hbD e), hlt, by simp; omega, rfl, fun b o hU hbC hbf hbD e => hs₅.extBut b o hbD (hk₄ b o hU (hk₃ b o hU (up₂ b o hbC hbf (hk b o hU hbC hbf hbD e))))⟩
      exact W.frame _ _ h₅ hst₃ fun b hb o e => hs₅.extBut b o (fun h => hDf (h ▸ hb)) (hk₄ b o (hUf b hb) e)
  · obtain rfl : i = n := by omega
    refine W.done _ _ _ hst' fun h₁ tk₁ hk₁ => ?_
    exact hR h₁ tk₁ m' ys (hn'.at' fun o e => hk₁ _ o hCw e) (hacc'.at fun o e => hk₁ _ o hDw e) (hJ _ _ _ _ hJ' fun b o _ hbf _ e => hk₁ b o hbf e) fun b o hU hbC hbf hbD e => hk₁ b o hbf (hk b o hU hbC hbf hbD e)

/-- what a turn of a comprehension over a list may lean on -/
structure Turn (s₁ : Shared) (U : Addr → Prop) (C I D : Addr) (s₂ : Shared) : Prop where
  same : ∃ h tk, s₂ = { s₁ with heap := h, toks := tk }
  keep : SubU U s₁.heap s₂.heap
  nC : s₁.heap.get? C = none
  nI : s₁.heap.get? I = none
  nD : s₁.heap.get? D = none
  lC : ∃ o, s₂.heap.get? C = some o
  lI : ∃ o, s₂.heap.get? I = some o
  lD : ∃ o, s₂.heap.get? D = some o

theorem comp_block {E : Value → Shared → Prop} {env : Env} {elt iter : Expr} {x : Str} {px : Pos} {ifs : List Expr} {scope : Scope} {cl : List (Str × Addr)} {pos : Pos} {s₁ : Shared} {ax : Addr} {vs : List Value}
    {RR : Value → Addr → Result → Shared → Prop} (hh : A.handled = none) (U : Addr → Prop) (J : Addr → Addr → Addr → Nat → List Value → Heap → Prop)
    (hcell : ∀ y ∈ scope.names, y.2 ≠ .cell) (hkind : scope.kind = .function) (hx : scope.names.lookup x = some .local)
    (hl : s₁.heap.IsList ax vs.toArray) (hsz : vs.length ≤ sizeLine) (hUn : FreshP s₁.heap U) (hUa : U ax)
    (hJ : ∀ C I D i ys h h', J C I D i ys h → (∀ b o, b ≠ C → b ≠ I → b ≠ D → h.get? b = some o → h'.get? b = some o) → J C I D i ys h')
    (hJ0 : ∀ C I D s₂, Turn s₁ U C I D s₂ → (∀ b o, s₁.heap.get? b = some o → s₂.heap.get? b = some o) → J C I D 0 [] s₂.heap)
    (turn : ∀ C I D i v ys s₂ m₂ E', vs[i]? = some v → Turn s₁ U C I D s₂ → s₂.heap.Ns C m₂ → m₂ x = some v → J C I D i ys s₂.heap →
      wpAny (model prog w) A (forIn ifs true fun c r => if r = true then do let ok ← isTrue c (compEnvC scope cl C env) (eval c (compEnvC scope cl C env)); pure (ForInStep.yield ok) else pure (ForInStep.yield r))
        (fun ok s₃ => KeepsU U s₂ s₃ ∧ if ok = true then wpAny (model prog w) A (eval elt (compEnvC scope cl C env)) (fun y s₄ => KeepsU U s₃ s₄ ∧ J C I D (i + 1) (ys ++ [y]) s₄.heap) E' s₃ else J C I D (i + 1) ys s₃.heap) E' s₂)
    (hR : ∀ C I D h' tk m' ys, h'.Ns C m' → h'.PlainList D ys.toArray → J C I D vs.length ys h' → s₁.heap.get? C = none → s₁.heap.get? D = none → D ≠ C → SubU U s₁.heap h' → RR (.ref D) C (.ok .next) { s₁ with heap := h', toks := tk }) :
    wpAny (model prog w) A (pyIter (.ref ax)) (fun it s₂ => wpAny (model prog w) A (newList []) (fun acc s₃ => wpAny (model prog w) A (newFunctionEnv scope env.globals cl [] env.qual none .none (some env)) (fun cenv s₄ =>
      codeAny (model prog w) A (.compStart (.ListComp elt [⟨.Name x px, iter, ifs, 0⟩] scope pos) 0 it acc { cenv with scope := relabel scope env }) (RR acc cenv.locals) s₄) E s₃) E s₂) E s₁ := by
  refine wpAny_pyIter_list hl (wpAny_newObj_type (hd := by size_fits) (wpAny_newFunctionEnv hcell (by intro y hy; simp at hy) (fun h₁ hns₁ hsb₁ => ?_) hkind))
  dsimp only at hns₁ hsb₁ ⊢
  obtain ⟨ol, hol, hol'⟩ := id hl
  have hax : ax < s₁.heap.objs.size := Heap.lt_size hol
  have gone : ∀ a, s₁.heap.objs.size ≤ a → s₁.heap.get? a = none := fun a ha => by
    cases e : s₁.heap.get? a with
    | none => rfl
    | some o' => exact absurd (Heap.lt_size e) (Nat.not_lt.mpr ha)
  generalize hH1 : s₁.heap.push { cls := .type "list_iterator", data := .fields #[.ref ax, .int 0 0] } = H1 at hns₁ hsb₁ ⊢
  have hD : H1.objs.size = s₁.heap.objs.size + 1 := by rw [← hH1, Heap.size_push]
  generalize hH2 : H1.push { cls := .type "list", dict := none, data := .seq ([] : List Value).toArray } = H2 at hns₁ hsb₁ ⊢
  have hC : H2.objs.size = s₁.heap.objs.size + 2 := by rw [← hH2, Heap.size_push, hD]
  generalize hIe : s₁.heap.objs.size = I at hax gone hD hC ⊢
  generalize hDe : H1.objs.size = D at hD ⊢
  generalize hCe : H2.objs.size = C at hC hns₁ hsb₁ ⊢
  have hax' : @LT.lt Nat _ ax I := hax
  have below : ∀ b, b < I → b ≠ C ∧ b ≠ I ∧ b ≠ D := fun b hb => ⟨by omega, by omega, by omega⟩
  have old : ∀ b o, s₁.heap.get? b = some o → h₁.get? b = some o := fun b o e => by
    have hb := Heap.lt_size e
    rw [hIe] at hb
    exact hsb₁.extBut b o (below b hb).1 (Heap.get?_push_of_some _ (hH2 ▸ Heap.get?_push_of_some _ (hH1 ▸ Heap.get?_push_of_some _ e)))
  have hit : h₁.IsListIter I ax 0 :=
    ⟨_, hsb₁.extBut _ _ (by show @Ne Nat _ _; omega) (Heap.get?_push_of_some _ (hH2 ▸ Heap.get?_push_of_some _ (hH1 ▸ hIe ▸ Heap.get?_push_size _ rfl))), rfl, rfl⟩
  have hacc : h₁.PlainList D ([] : List Value).toArray := ⟨_, hsb₁.extBut _ _ (by show @Ne Nat _ _; omega) (Heap.get?_push_of_some _ (hH2 ▸ hDe ▸ Heap.get?_push_size _ rfl))⟩
  have hl₁ : h₁.IsList ax vs.toArray := ⟨ol, old _ _ hol, hol'⟩
  have hCn : s₁.heap.get? C = none := gone C (by omega)
  have hDn : s₁.heap.get? D = none := gone D (by omega)
  have hIn : s₁.heap.get? I = none := gone I (by omega)
  have W := Walks.list (prog := prog) (w := w) (A := A) hh I ax (by show @Ne Nat _ _; omega) vs.toArray
  have loop : ∀ s₂ : Shared, s₂ = { s₁ with heap := h₁, toks := s₁.toks + ([] : List (Str × Value)).length } →
      codeAny (model prog w) A (.compLoop (.ListComp elt [⟨.Name x px, iter, ifs, 0⟩] scope pos) 0 (.ref I) (.ref D) (compEnvC scope cl C env)) (RR (.ref D) C) s₂ := by
    rintro s₂ rfl
    have turn0 : Turn s₁ U C I D { s₁ with heap := h₁, toks := s₁.toks + ([] : List (Str × Value)).length } :=
      ⟨⟨_, _, rfl⟩, fun b o _ e => old b o e, hCn, hIn, hDn, (let ⟨o, _, _, e, _⟩ := hns₁; ⟨o, e⟩), (let ⟨o, e, _⟩ := hit; ⟨o, e⟩), (let ⟨n, e⟩ := hacc; ⟨_, e⟩)⟩
    refine comp_loopJ (cenv := compEnvC scope cl C env) (ys₀ := []) W U (J C I D) (hUn C hCn) (hUn D hDn) ?_ ?_ (lookup_relabel_local hx) (by simp [compEnvC, relabel, hkind]) (by show @Ne Nat D C; omega) ?_ ?_ ⟨hit, hl₁⟩ hacc hns₁ (hJ0 _ _ _ _ turn0 old) ?_ ?_ ?_ ?_
    · intro b hb
      rcases List.mem_cons.mp hb with rfl | hb
      · exact hUn _ hIn
      · rcases List.mem_cons.mp hb with rfl | hb
        · exact hUa
        · cases hb
    · intro i ys h h' j k
      exact hJ _ _ _ _ _ _ _ j fun b o bC bI bD e => k b o bC (by simpa using bI) bD e
    · intro hm; simp at hm; rcases hm with hm | hm <;> (have hm : @Eq Nat _ _ := hm; omega)
    · show C ∉ [I, ax]
      intro hm; simp at hm; rcases hm with hm | hm <;> (have hm : @Eq Nat _ _ := hm; omega)
    · simpa using hsz
    · intro i v ys s₂ m₂ _ hv hns hm hpl hsame hk hf hj
      refine turn C I D i v ys s₂ m₂ _ (by simpa using hv) ⟨?_, ?_, hCn, hIn, hDn, (let ⟨o, _, _, e, _⟩ := hns; ⟨o, e⟩), (let ⟨o, e, _⟩ := hit; hf I (by simp) o e), (let ⟨n, e⟩ := hpl; ⟨_, e⟩)⟩ hns hm hj
      · obtain ⟨h, tk, rfl⟩ := hsame; exact ⟨h, tk, rfl⟩
      · intro b o hU e
        have hb := Heap.lt_size e
        rw [hIe] at hb
        exact hk b o hU (below b hb).1 (by simpa using (below b hb).2.1) (below b hb).2.2 (old b o e)
    · intro h' tk m' ys hns hpl hj hk
      refine hR C I D h' tk m' ys hns hpl (by simpa using hj) hCn hDn (by show @Ne Nat D C; omega) ?_
      intro b o hU e
      have hb := Heap.lt_size e
      rw [hIe] at hb
      exact hk b o hU (below b hb).1 (by simpa using (below b hb).2.1) (below b hb).2.2 (old b o e)
    · intro i h st b hb
      rcases List.mem_cons.mp hb with rfl | hb
      · exact let ⟨o, e, _⟩ := st.1; ⟨o, e⟩
      · rcases List.mem_cons.mp hb with rfl | hb
        · exact let ⟨o, e, _⟩ := st.2; ⟨o, e⟩
        · cases hb
  exact codeAny_compStart_list (loop _ rfl) (W.self 0 _ _ _ ⟨hit, hl₁⟩ (loop _ rfl))
end
end Mine
end

/-! ### Comp1 -/
section
set_option maxRecDepth 100000
namespace Mine
open PySem PySem.W PyProof.Rows PySem.SeqAt

section
variable {prog : Program} {w : World} {A : Around} {E : Value → Shared → Prop} {s : Shared} {env : Env}

/-- what one turn must show -/
def TurnRd (prog : Program) (w : World) (A : Around) (env : Env) (scope : Scope) (cl : List (Str × Addr)) (x : Str) (ifs : List Expr) (elt : Expr) (vs : List Value) (P : Addr → Prop) (dss : Nat → Option PyData) (s₁ : Shared) : Prop :=
  ∀ C (P₂ : Addr → Prop) i v s₂ m₂ E', vs[i]? = some v → Keeps s₁ s₂ → FreshP s₂.heap P₂ → (∀ a o, s₁.heap.get? a = some o → P a → P₂ a) → s₂.heap.Ns C m₂ → m₂ x = some v → s₁.heap.get? C = none →
    wpAny (model prog w) A (forIn ifs true fun c r => if r = true then do let ok ← isTrue c (compEnvC scope cl C env) (eval c (compEnvC scope cl C env)); pure (ForInStep.yield ok) else pure (ForInStep.yield r))
      (fun ok s₃ => Keeps s₂ s₃ ∧ ok = (dss i).isSome ∧ ∀ d, dss i = some d → wpAny (model prog w) A (eval elt (compEnvC scope cl C env)) (fun y s₄ => Keeps s₃ s₄ ∧ Rd s₄.heap P₂ y d) E' s₃) E' s₂

theorem comp_block_rd {elt iter : Expr} {x : Str} {px : Pos} {ifs : List Expr} {scope : Scope} {cl : List (Str × Addr)} {pos : Pos} {s₁ : Shared} {ax : Addr} {vs : List Value} {P : Addr → Prop} {dss : Nat → Option PyData}
    {RR : Value → Addr → Result → Shared → Prop} (hh : A.handled = none)
    (hcell : ∀ y ∈ scope.names, y.2 ≠ .cell) (hkind : scope.kind = .function) (hx : scope.names.lookup x = some .local)
    (hl : s₁.heap.IsList ax vs.toArray) (hsz : vs.length ≤ sizeLine) (hP : FreshP s₁.heap P)
    (turn : TurnRd prog w A env scope cl x ifs elt vs P dss s₁)
    (hR : ∀ C D h' tk m', h'.Ns C m' → (∃ ys, h'.PlainList D ys ∧ RdAll h' (fun a => P a ∧ a ≠ C ∧ a ≠ D) ys.toList ((List.range vs.length).filterMap dss)) → s₁.heap.get? C = none → s₁.heap.get? D = none → D ≠ C → (∀ b o, s₁.heap.get? b = some o → h'.get? b = some o) →
      RR (.ref D) C (.ok .next) { s₁ with heap := h', toks := tk }) :
    wpAny (model prog w) A (pyIter (.ref ax)) (fun it s₂ => wpAny (model prog w) A (newList []) (fun acc s₃ => wpAny (model prog w) A (newFunctionEnv scope env.globals cl [] env.qual none .none (some env)) (fun cenv s₄ =>
      codeAny (model prog w) A (.compStart (.ListComp elt [⟨.Name x px, iter, ifs, 0⟩] scope pos) 0 it acc { cenv with scope := relabel scope env }) (RR acc cenv.locals) s₄) E s₃) E s₂) E s₁ := by
  refine comp_block hh (fun _ => True) (fun C I D i ys h => RdAll h (fun a => P a ∧ a ≠ C ∧ a ≠ I ∧ a ≠ D) ys ((List.range i).filterMap dss)) hcell hkind hx hl hsz (fun _ _ => trivial) trivial ?_ ?_ ?_ ?_
  · intro C I D i ys h h' j k
    exact j.mono fun b o p e => ⟨k b o p.2.1 p.2.2.1 p.2.2.2 e, p⟩
  · intro C I D s₂ _ _; exact .nil
  · intro C I D i v ys s₂ m₂ E' hv T hns hm hj
    have hk : Keeps s₁ s₂ := by
      obtain ⟨h, tk, rfl⟩ := T.same
      exact ⟨h, tk, rfl, fun b o e => T.keep b o trivial e⟩
    have hF : FreshP s₂.heap (fun a => P a ∧ a ≠ C ∧ a ≠ I ∧ a ≠ D) := fun a e => ⟨(hP.keeps (ksub hk)) a e,
      (by rintro rfl; obtain ⟨o, q⟩ := T.lC; rw [q] at e; cases e), (by rintro rfl; obtain ⟨o, q⟩ := T.lI; rw [q] at e; cases e), (by rintro rfl; obtain ⟨o, q⟩ := T.lD; rw [q] at e; cases e)⟩
    have hin : ∀ a o, s₁.heap.get? a = some o → P a → P a ∧ a ≠ C ∧ a ≠ I ∧ a ≠ D := fun a o e p => ⟨p,
      (by rintro rfl; rw [T.nC] at e; cases e), (by rintro rfl; rw [T.nI] at e; cases e), (by rintro rfl; rw [T.nD] at e; cases e)⟩
    refine wpAny_mono (turn C _ i v s₂ m₂ E' hv hk hF hin hns hm T.nC) (fun ok s₃ h₃ => ?_) fun _ _ e => e
    obtain ⟨k₃, rfl, h₃⟩ := h₃
    refine ⟨.of k₃, ?_⟩
    cases hd : dss i with
    | none =>
      simp only [Option.isSome_none, Bool.false_eq_true, if_false]
      rw [List.range_succ, List.filterMap_append]
      simpa [hd] using hj.keeps (ksub k₃)
    | some d =>
      simp only [Option.isSome_some, if_true]
      refine wpAny_mono (h₃ d hd) (fun y s₄ h₄ => ?_) fun _ _ e => e
      refine ⟨.of h₄.1, ?_⟩
      rw [List.range_succ, List.filterMap_append]
      simpa [hd] using ((hj.keeps (ksub k₃)).keeps (ksub h₄.1)).append (.cons h₄.2 .nil)
  · intro C I D h' tk m' ys hns hpl hj hC hD hDC hk
    exact hR C D h' tk m' hns ⟨_, hpl, by simpa using hj.mono fun b o p e => ⟨e, p.1, p.2.1, p.2.2.2⟩⟩ hC hD hDC fun b o e => hk b o trivial e

/-- a comprehension as a value -/
theorem comp_eval {elt iter : Expr} {x : Str} {px : Pos} {ifs : List Expr} {scope : Scope} {cl : List (Str × Addr)} {pos : Pos} {P : Addr → Prop} {Q : Value → Shared → Prop} (hh : A.handled = none)
    (hclos : closureFor scope env = pure cl) (hcell : ∀ y ∈ scope.names, y.2 ≠ .cell) (hkind : scope.kind = .function)
    (hnames : ∀ y ∈ scope.names, y.2 = .local → scope.names.lookup y.1 = some .local) (hx : scope.names.lookup x = some .local) (hs : ∀ x, foldedSetIterable iter env x = pure x)
    (h : wpAny (model prog w) A (eval iter env) (fun xv s₁ => ∃ ax vs dss, xv = .ref ax ∧ s₁.heap.IsList ax vs.toArray ∧ vs.length ≤ sizeLine ∧ FreshP s₁.heap P ∧ TurnRd prog w A env scope cl x ifs elt vs P dss s₁ ∧
      ∀ v s', Keeps s₁ s' → Rd s'.heap P v (.list ((List.range vs.length).filterMap dss)) → Q v s') E s) :
    wpAny (model prog w) A (eval (.ListComp elt [⟨.Name x px, iter, ifs, 0⟩] scope pos) env) Q E s := by
  rw [eval_ListComp]
  refine wpAny_comprehension_free (use := none) rfl hs hclos hkind hnames (wpAny_mono h (fun xv s₁ h₁ => ?_) fun _ _ e => e)
  obtain ⟨ax, vs, dss, rfl, hl, hsz, hP, turn, hQ⟩ := h₁
  refine comp_block_rd (RR := fun acc C => compPost (model prog w) A E none Q acc C) hh hcell hkind hx hl hsz hP turn ?_
  rintro C D h' tk m' hns ⟨ys, hpl, hr⟩ hC hD hDC hk
  refine ⟨m', hns, fun h'' hs'' => ?_⟩
  refine hQ _ _ ⟨h'', tk, rfl, fun b o e => hs''.extBut b o (by rintro rfl; rw [hC] at e; cases e) (hk b o e)⟩ ?_
  refine Rd.mk_list (vs := ys.toList) (hP D hD) (by simpa using (hpl.extBut hs''.extBut hDC).isList) ?_
  exact hr.mono fun b o p e => ⟨hs''.extBut b o p.2.1 e, p.1⟩

/-- a comprehension stored under a local name -/
theorem comp_assign {elt iter : Expr} {x y : Str} {px py : Pos} {ifs : List Expr} {scope : Scope} {cl : List (Str × Addr)} {pos spos : Pos} {P : Addr → Prop} {Q : Flow → Shared → Prop} (hh : A.handled = none)
    (hsw : swapsWith (.ListComp elt [⟨.Name x px, iter, ifs, 0⟩] scope pos) (some (.Name y py)) spos.line env = pure true)
    (hclos : closureFor scope env = pure cl) (hcell : ∀ y ∈ scope.names, y.2 ≠ .cell) (hkind : scope.kind = .function)
    (hnames : ∀ y ∈ scope.names, y.2 = .local → scope.names.lookup y.1 = some .local) (hx : scope.names.lookup x = some .local) (hs : ∀ x, foldedSetIterable iter env x = pure x)
    (hy : env.kindOf y = some .local) (hp : (env.scope.kind == .class || (env.scope.kind == .module && env.locals != env.globals)) = false)
    (h : wpAny (model prog w) A (eval iter env) (fun xv s₁ => ∃ ax vs dss m, xv = .ref ax ∧ s₁.heap.IsList ax vs.toArray ∧ vs.length ≤ sizeLine ∧ FreshP s₁.heap P ∧ TurnRd prog w A env scope cl x ifs elt vs P dss s₁ ∧ s₁.heap.Ns env.locals m ∧
      ∀ D h' tk, h'.Ns env.locals (fun z => if z = y then some (.ref D) else m z) → (∀ b o, b ≠ env.locals → s₁.heap.get? b = some o → h'.get? b = some o) →
        Rd h' (fun a => P a ∧ a ≠ env.locals) (.ref D) (.list ((List.range vs.length).filterMap dss)) → Q .next { s₁ with heap := h', toks := tk }) E s)
    (hPL : ¬ P env.locals) :
    wpAny (model prog w) A (exec (.Assign [.Name y py] (.ListComp elt [⟨.Name x px, iter, ifs, 0⟩] scope pos) spos) env) Q E s := by
  rw [exec_Assign_Name_used _ _ _ _ hsw]
  refine wpAny_bind (wpAny_standAt (wpAny_bind ?_))
  show wpAny _ A (do let _ ← comprehension (.ListComp elt [⟨.Name x px, iter, ifs, 0⟩] scope pos) scope env _ (newList []) false (eval iter env) (some (assign (.Name y py) env))) _ _ s
  refine wpAny_bind (wpAny_mono (wpAny_comprehension_free (use := some (assign (.Name y py) env)) (Q := fun _ s' => Q .next s') rfl hs hclos hkind hnames
    (wpAny_mono h (fun xv s₁ h₁ => ?_) fun _ _ e => e)) (fun _ s' hq => wpAny_pure (wpAny_pure hq)) fun _ _ e => e)
  obtain ⟨ax, vs, dss, m, rfl, hl, hsz, hP, turn, hn, hQ⟩ := h₁
  refine comp_block_rd (RR := fun acc C => compPost (model prog w) A E (some (assign (.Name y py) env)) (fun _ s' => Q .next s') acc C) hh hcell hkind hx hl hsz hP turn ?_
  rintro C D h' tk m' hns ⟨ys, hpl, hr⟩ hC hD hDC hk
  have hLC : env.locals ≠ C := by rintro e; obtain ⟨o, _, _, ho, _⟩ := hn; rw [← e, ho] at hC; cases hC
  have hLD : env.locals ≠ D := by rintro e; obtain ⟨o, _, _, ho, _⟩ := hn; rw [← e, ho] at hD; cases hD
  show wpAny _ A (assign (.Name y py) env (.ref D)) _ _ _
  refine wpAny_assign_Name (wpAny_storeName_local hy (hn.at' fun o e => hk _ o e) (fun h₂ hn₂ hs₂ => ?_) hp)
  refine ⟨m', hns.sameBut hs₂ (Ne.symm hLC), fun h₃ hs₃ => ?_⟩
  refine hQ D h₃ _ (hn₂.sameBut hs₃ hLC) (fun b o hb e => hs₃.extBut b o (by rintro rfl; rw [hC] at e; cases e) (hs₂.extBut b o hb (hk b o e))) ?_
  refine Rd.mk_list (vs := ys.toList) ⟨hP D hD, Ne.symm hLD⟩ (by simpa using ((hpl.extBut hs₂.extBut (Ne.symm hLD)).extBut hs₃.extBut hDC).isList) ?_
  exact hr.mono fun b o p e => ⟨hs₃.extBut b o p.2.1 (hs₂.extBut b o (by rintro rfl; exact hPL p.1) e), p.1, by rintro rfl; exact hPL p.1⟩
end
end Mine
end

/-! ### WpC -/
section
set_option maxRecDepth 100000
namespace Mine
open PySem PySem.W PyProof.Rows

/-- the claim's caller is below -/
def HasC (l : List (Code × Pos)) : Prop := (l.map (·.1)).any Code.isCaller = true
def CIn (Γ : Ctx) : Prop := Γ.code.isCaller = true ∨ HasC Γ.below
def wpC {α : Type} (M : Model) (A : Around) (t : Sem α) (Q : α → Shared → Prop) (E : Value → Shared → Prop) (s : Shared) : Prop :=
  ∀ Γ p, Γ.In A → CIn Γ → Sem.wp M Γ t (fun a _ s' => Q a s') (fun e _ s' => E e s') p s
def codeC (M : Model) (A : Around) (c : Code) (R : Result → Shared → Prop) (s : Shared) : Prop :=
  ∀ Γ p, Γ.code = c → Γ.Below A → HasC Γ.below → wpCode M Γ R p s
section
variable {α β : Type} {M : Model} {A : Around} {E : Value → Shared → Prop} {s : Shared}
theorem wpC_of {t : Sem α} {Q : α → Shared → Prop} (h : wpAny M A t Q E s) : wpC M A t Q E s := fun Γ p i _ => h Γ p i
theorem codeC_of {c : Code} {R : Result → Shared → Prop} (h : codeAny M A c R s) : codeC M A c R s := fun Γ p e b _ => h Γ p e b
theorem wpC_mono {t : Sem α} {Q Q' : α → Shared → Prop} {E' : Value → Shared → Prop} (h : wpC M A t Q E s) (hQ : ∀ a s, Q a s → Q' a s) (hE : ∀ e s, E e s → E' e s) : wpC M A t Q' E' s :=
  fun Γ p i c => Sem.wp_mono M Γ t (fun a _ s => hQ a s) (fun e _ s => hE e s) p s (h Γ p i c)
theorem wpC_bind {m : Sem α} {f : α → Sem β} {Q : β → Shared → Prop} (h : wpC M A m (fun a s' => wpC M A (f a) Q E s') E s) : wpC M A (m >>= f) Q E s := fun Γ p i c => by
  rw [Sem.wp_bind']
  exact Sem.wp_mono M Γ m (fun a p' s' h' => h' Γ p' i c) (fun _ _ _ h' => h') p s (h Γ p i c)
theorem wpC_pure {a : α} {Q : α → Shared → Prop} (h : Q a s) : wpC M A (pure a) Q E s := fun _ _ _ _ => h
theorem wpC_holding {vs : List Value} {m : Sem α} {Q : α → Shared → Prop} (h : wpC M A m Q E s) : wpC M A (holding vs m) Q E s := fun Γ p i c => by rw [Sem.wp_holding]; exact h Γ p i c
theorem wpC_standAt {pos : Pos} {Q : Unit → Shared → Prop} (h : Q () s) : wpC M A (standAt pos) Q E s := fun _ _ _ _ => h
theorem wpC_tryCatch {m : Sem α} {k : Value → Sem α} {Q : α → Shared → Prop} (h : wpC M A m Q (fun e s' => wpC M A (k e) Q E s') s) : wpC M A (tryCatch m k) Q E s := fun Γ p i c => by
  rw [Sem.wp_tryCatch']
  exact Sem.wp_mono M Γ m (fun _ _ _ h' => h') (fun e p' s' h' => h' Γ p' i c) p s (h Γ p i c)
theorem wpC_onRaise {m : Sem α} {k : Value → Sem Unit} {Q : α → Shared → Prop} (h : wpC M A m Q (fun e s' => wpC M A (k e) (fun _ s'' => E e s'') E s') s) : wpC M A (m.onRaise k) Q E s := fun Γ p i c => by
  rw [Sem.wp_onRaise]
  exact Sem.wp_mono M Γ m (fun _ _ _ h' => h') (fun e p' s' h' => h' Γ p' i c) p s (h Γ p i c)
theorem wpC_attempt {m : Sem α} {Q : Except Value α → Shared → Prop} (h : wpC M A m (fun a => Q (.ok a)) (fun e => Q (.error e)) s) : wpC M A m.attempt Q E s := fun Γ p i c => by rw [Sem.wp_attempt]; exact h Γ p i c
theorem CIn.below {Γ : Ctx} (h : CIn Γ) (p : Pos) : HasC ((Γ.code, p) :: Γ.below) := by
  unfold HasC
  rw [List.map_cons, List.any_cons, Bool.or_eq_true]
  exact h
theorem wpC_run {c : Code} {h : Option Value} {Q : Flow → Shared → Prop} (hc : codeC M (A.mark h) c (fun r s' => match r with | .ok f => Q f s' | .error e => E e s') s) (hnb : h ≠ some byPass := by intro x; cases x) :
    wpC M A (run c h) Q E s := fun Γ p i k => by rw [Sem.wp_run]; exact hc _ p rfl (i.enter c h p hnb) (k.below p)
theorem wpC_runValue {c : Code} {Q : Value → Shared → Prop} (hc : codeC M A c (fun r s' => match r with | .ok (.ret v) => Q v s' | .ok _ => False | .error e => E e s') s) :
    wpC M A (runValue c) Q E s := fun Γ p i k => by rw [Sem.wp_runValue]; exact hc _ p rfl (i.enter c none p (by intro x; cases x)) (k.below p)
theorem wpC_call {f : Value} {pos : List Value} {kw : List (Str × Value)} {Q : Value → Shared → Prop} (hc : codeC M A (.call f ⟨pos, kw⟩) (fun r s' => match r with | .ok (.ret v) => Q v s' | .ok _ => False | .error e => E e s') s) :
    wpC M A (call f pos kw) Q E s := wpC_runValue hc
theorem codeC_of_tree {c : Code} {R : Result → Shared → Prop}
    (h : wpC M (A.under c) (M.den c) (fun fin s' => match fin with | .done f => R (.ok f) s' | .again c' => c'.quiet = true ∧ codeC M A c' R s') (fun e s' => R (.error e) s') s) : codeC M A c R s := fun Γ p hc hΓ k => by
  rw [wpCode_iff_wp, hc]
  refine Sem.wp_mono M Γ _ (fun fin p' s' h' => ?_) (fun _ _ _ h' => h') p s (h Γ p (hc ▸ hΓ.in) (.inr k))
  cases fin with
  | done f => exact h'
  | again c' => exact ⟨h'.1, h'.2 (Γ.goto c') p' rfl (hΓ.goto c') k⟩
theorem codeC_mono {c : Code} {R R' : Result → Shared → Prop} (h : codeC M A c R s) (hR : ∀ r s', R r s' → R' r s') : codeC M A c R' s := fun Γ p e b k =>
  let ⟨r, s', x, y⟩ := h Γ p e b k; ⟨r, s', x, hR r s' y⟩
end
end Mine
end

/-! ### Head -/
section
set_option maxRecDepth 100000
namespace Hd
open PySem PySem.W PySem.Calls PyProof.Rows Mine

theorem wpC_start {M : Model} {t : Sem Fin} {R : Result → Shared → Prop} {s : Shared} (h : wpC M callerA t (fun fin s' => ∃ f, fin = .done f ∧ R (.ok f) s') (fun e s' => R (.error e) s') s) (p : Pos) :
    Sem.wp M ⟨.builtin "claim.caller" {}, none, none, [], none⟩ t (Sem.finPost M ⟨.builtin "claim.caller" {}, none, none, [], none⟩ R) (fun e _ s' => R (.error e) s') p s := by
  refine Sem.wp_mono M _ t (fun fin p' s' h' => ?_) (fun _ _ _ h' => h') p s (h _ p caller_in (.inl rfl))
  obtain ⟨f, rfl, hf⟩ := h'
  exact hf

theorem thread_ends {prog : Program} {w : World} {t : Sem Fin} {s : Shared} {R : Result → Shared → Prop} (hreg : s.asleep)
    (h : wpC (model prog w) callerA t (fun fin s' => ∃ f, fin = .done f ∧ (R (.ok f) s' ∧ leftWithCleanup s'.gens = false)) (fun e s' => R (.error e) s' ∧ leftWithCleanup s'.gens = false) s) :
    ∃ n r s' s'', runN (denote table) prog w n s ⟨t, .builtin "claim.caller" {}, default, []⟩ = .halted (outcomeOf r) s' ∧
      schedN (denote table) prog w n (.single s ⟨t, .builtin "claim.caller" {}, default, []⟩) = .halted (outcomeOf r) s' ∧ s'.forget = s''.forget ∧ R r s'' := by
  obtain ⟨n, r, s₁, s₂, hs, hn, hfo, hR⟩ := wp_halts_full (M := model prog w) (R := R) hreg (wpC_start (R := fun r s' => R r s' ∧ leftWithCleanup s'.gens = false) h default)
  exact ⟨n, r, s₂, s₁, hn, hs, hfo, hR⟩
theorem call_from {c : ClaimW} {tree : List Value → Sem Fin} {w : World} {s : Shared} {free : Addr → Prop} {gens : Prop} {kept : Heap → Prop} (hz : s.asleep) (hgens : s.gens = #[])
    (spec : ∀ args, c.pre args = true → WData.layableAll args = true → ∀ ord : List DictEntry → List DictEntry, (∀ l, (ord l).Perm l) →
      ∃ vs s₁, layAllW c.records (classAt s.heap) w.params ord args s = some (vs, s₁) ∧
        wpC (model c.prog w) callerA (tree vs) (fun fin s' => ∃ f, fin = .done f ∧ (c.Ends s args vs s₁ (.ok f) s' ∧ s'.os = s.os ∧ AllBare s'.gens ∧ kept s'.heap))
          (fun e s' => c.Ends s args vs s₁ (.error e) s' ∧ s'.os = s.os ∧ AllBare s'.gens ∧ kept s'.heap) s₁) :
    c.CallFrom (fun vs => ⟨tree vs, .builtin "claim.caller" {}, default, []⟩) w free gens kept s := fun args hpre hlay ord hord => by
  obtain ⟨vs, s₁, hlaid, hcode⟩ := spec args hpre hlay ord hord
  have rest := layAllW_rest _ _ _ hlaid
  obtain ⟨k, r, s', s'', hrun, hsched, hfo, hcase, hos, hkp⟩ := thread_ends (prog := c.prog) (w := w) (t := tree vs) (s := s₁) (R := fun r s' => c.Ends s args vs s₁ r s' ∧ s'.os = s.os ∧ kept s'.heap)
    (Shared.asleep_of_life rest.2.2.2 hz)
    (wpC_mono hcode (fun fin s' ⟨f, e, h1, h2, h3, h4⟩ => ⟨f, e, ⟨h1, h2, h4⟩, leftWithCleanup_false_of_bare h3⟩) fun e s' ⟨h1, h2, h3, h4⟩ => ⟨⟨h1, h2, h4⟩, leftWithCleanup_false_of_bare h3⟩)
  obtain ⟨eh, _, _, eo, _⟩ := Shared.forget_eq hfo
  have hcase := hcase.congr eh
  have hkp : kept s'.heap := by rw [eh]; exact hkp
  rw [← eo] at hos
  have hlife : s'.heap.life = s.heap.life := (runN_life _ _ _ hrun).trans rest.2.2.2
  refine ⟨vs, s₁, hlaid, k, _, s', hsched, ?_, (fun _ i x hx => by rw [hgens] at hx; simp at hx), hkp, by rw [hlife], Shared.rest_eq hos⟩
  rcases hcase with ⟨v, rfl, d1, d2, d3, d4, d5⟩ | ⟨e, ob, cls, rfl, d1, d2, d3, d4, d5⟩
  · exact .inl ⟨v, rfl, d1, d2, d3, fun b o y _ => d4 b o y, d5⟩
  · exact .inr ⟨e, ob, cls, rfl, d1, d2, d3, d4, fun b o y _ => d5 b o y⟩

/-- the walk under the caller -/
def WalkC (q : Program) (loose : List Str) (XP : (Str → Option Value) → Heap → Prop) (YP : World → Heap → Prop) (r : RowW) (d : DefRec) (kwd : List (Str × PySem.Expr)) : Prop :=
  ∀ (w : World) (s₀ s₁ : Shared) (mg mb : Str → Option Value), Ground q loose r.records XP w s₀ mg mb s₁.heap → YP w s₁.heap → ∀ (a : Addr) (o : Obj) (pm cd doc dV kV : Value), s₁.heap.get? a = some o →
    o.data = .func { docDef d.name d.params d.body d.scope pm cd doc with defaults := dV, kwdefaults := kV } → s₁.heap.CodeRec cd d.name → Dflts mg s₁.heap d.params kwd dV kV → mg d.name = some (.ref a) → s₁.gens = #[] →
    ∀ (args : List WData) (vals : List Value) (as : List Addr), r.claim.pre args = true → WData.layableAll args = true → ReadsAllW r.records (classAt s₀.heap) s₁.heap vals args as → WellAll w.params s₁.heap vals args → (∀ a ∈ as, (a == sysModules) = false) →
      wpC (model r.prog w) callerA (PySem.call (.ref a) vals) (fun v s' => GoodWG r.claim (classAt s₀.heap) (ExcName.means s₀.heap) args s₁ (.ok (.ret v)) s')
        (fun e s' => GoodWG r.claim (classAt s₀.heap) (ExcName.means s₀.heap) args s₁ (.error e) s') s₁

end Hd

section
open PySem PySem.W PySem.Calls PyProof.Rows Mine Hd
/-- the head, under the caller; its name lets the library's own command for the head find it from inside Hd -/
theorem Hd.PySem.W.holds_open {r : OpenRow} {q : Program} {loose : List Str} {Xt : Shared → Bool} {XP : (Str → Option Value) → Heap → Prop} {α : Type} {Yf : Shared → α} {Ya : World → α} {YP : World → Heap → Prop} {d : DefRec} {kwd : List (Str × PySem.Expr)} {N : Nat}
    (left : LeftO r.prog q loose Xt Yf Ya N) (hY : ∀ w s, Yf s = Ya w → YP w s.heap) (hYk : ∀ w h h', YP w h → (∀ b o, h.get? b = some o → h'.get? b = some o) → YP w h')
    (hX : ∀ s, Xt s = true → XP (s.heap.nsMap mainGlobals) s.heap) (hXk : ∀ mg h h', XP mg h → (∀ b o, h.get? b = some o → h'.get? b = some o) → XP mg h')
    (hdef : defOf q r.name = some (d, kwd)) (hp : r.prog.theDef r.name = some (d.params, d.body, d.scope)) (hk : kwWritten? d.params.kwonlyargs d.params.kw_defaults = some kwd) (hRf : ∀ s, Xt s = true → RecFacts r.records s.heap) (hwr : (!r.writes || r.records.isEmpty) = true)
    (k1 : r.wellSaid = true) (ok : (chainsOk q && opensWell r.prog && (frees r.toRowW && r.within.isEmpty)) = true) (hb : r.prog.bare) (hw : r.toRowW.promised)
    (call : WalkC q loose XP YP r.toRowW d kwd) : r.Holds := by
  refine ⟨k1, hw, ?_⟩
  obtain ⟨ok, k5⟩ := Bool.and_eq_true_iff.mp ok
  obtain ⟨hch, o1⟩ := Bool.and_eq_true_iff.mp ok
  obtain ⟨k5, k6⟩ := Bool.and_eq_true_iff.mp k5
  obtain ⟨hsame, hu, ha, hap, hm⟩ := frees_parts k5
  refine ⟨⟨hb, o1, by show r.makers.map _ = []; rw [hm]; rfl⟩, hw.witness, fun w => ⟨(left.behind hX hch w).1, fun s' hs' => ?_⟩⟩
  obtain ⟨s₀, hf, hg0, s, hT, hz, hgens, hg, G00, y⟩ := (left.behind (XP := fun mg h => XP mg h ∧ RecFacts r.records h) (fun s hs => ⟨hX s hs, hRf s hs⟩) hch w).2 s' hs'
  have G0 : Ground q loose [] XP w s (s.heap.nsMap mainGlobals) (s.heap.nsMap builtinsNs) s.heap := ⟨G00.T, G00.B, G00.D, G00.TE, G00.TD, G00.W, G00.X.1, G00.cls, G00.has, G00.apart, G00.once, G00.K⟩
  have RF := G00.X.2
  have pin : ∀ n, (n ∈ if r.pinned = true then [r.name] else []) → isTheDefsW r.prog s.heap n := fun n hn => by
    obtain rfl : n = r.name := by split at hn <;> simp_all
    exact pinned_of_view hg G0 hdef hp hk
  refine ⟨s₀, hf, hg0, s, hT, pin, RF.1, RF.2.1, ?_⟩
  have hgens : s.gens = #[] := Array.eq_empty_of_size_eq_zero (beq_iff_eq.mp hgens)
  have G : Ground q loose r.records XP w s _ _ s.heap := RF.ground G0
  refine call_from (c := r.toRowW.claim) hz hgens fun args hpre hlay ord hord => ?_
  obtain ⟨⟨vs, s₁⟩, hlaid⟩ := Option.isSome_iff_exists.mp (layAllW_isSome (P := w.params) (ord := ord) G.has args r.args s (pre_splitW hpre).1)
  have keeps := layAllW_keeps _ _ _ hlaid
  have hal := layAllW_rest _ _ _ hlaid
  obtain ⟨as, hrd, hin, hold⟩ := reads_layAllW hord _ _ _ hlaid hlay s₁.heap (fun _ _ e => e)
  have L : Laid r.records w s s₁ args vs as := ⟨⟨ord, hord, hlaid⟩, hrd, hin, hold, keeps, hal.1.trans hgens, hal.2.2.1⟩
  have G₁ := G.keeps hXk keeps
  have hi := ident_freeW hu ha hap
  have hwi : r.toRowW.claim.within = [] := List.isEmpty_iff.mp k6
  obtain ⟨a, o, pm, cd, doc, dV, kV, h1, h2, h3, h4, h5⟩ := G₁.fn hdef
  have h := call w s s₁ _ _ G₁ (hYk _ _ _ (hY w s y) keeps) a o pm cd doc dV kV h2 h3 h4 h5 (defOf_name hdef ▸ h1) L.gens args vs as hpre hlay L.reads L.well (L.low G.low)
  refine ⟨vs, s₁, hlaid, wpC_bind (wpC_of (wpAny_nsGet G₁.T.g ?_))⟩
  rw [h1]
  refine wpC_bind (wpC_mono h (fun v s' g => wpC_pure ⟨_, rfl, ?_⟩) fun e s' g => ?_)
  · have z := g.laid (c := r.toRowW.claim) hsame hwi hi L
    exact ⟨z.1, z.2.1, z.2.2, fun q => ⟨namesKept_of hT hg _ keeps g.2.1.old, noTable hwr q⟩⟩
  · have z := g.laid (c := r.toRowW.claim) hsame hwi hi L
    exact ⟨z.1, z.2.1, z.2.2, fun q => ⟨namesKept_of hT hg _ keeps g.2.1.old, noTable hwr q⟩⟩
end
end

/-! ### Top -/
section
open PySem PySem.W PyProof.Rows
set_option Elab.async false
set_option maxRecDepth 100000
set_option maxHeartbeats 8000000
namespace Hd
open_top hd for PySem.Challenge.rw_ny0063_01
end Hd
end

/-! ### Cx -/
section
set_option maxRecDepth 100000
set_option maxHeartbeats 4000000
namespace Mine
open PySem PySem.W PyProof.Rows PySem.SeqAt

noncomputable abbrev KK (w : World) : Frag := Hd.hd.heap_39 w.params
noncomputable abbrev LL : List Str := looseW Hd.hd.view_39 [Str.ofString "_twin_re_1", Str.ofString "_ver_stages"]

/-- the ground: the text's own objects and the top's names -/
structure Cx (w : World) (h : Heap) : Prop where
  X : (KK w).In h
  T : ∃ mg mb mean, Top Hd.hd.view_39 LL mean mg mb h
theorem Cx.keeps {w : World} {h h' : Heap} (C : Cx w h) (hk : ∀ b o, h.get? b = some o → h'.get? b = some o) : Cx w h' :=
  ⟨fun a o e => hk a o (C.X a o e), let ⟨mg, mb, mean, T⟩ := C.T; ⟨mg, mb, mean, T.keeps hk⟩⟩

section
variable {prog : Program} {w : World} {A : Around} {E : Value → Shared → Prop} {s : Shared} {env : Env}

theorem gname {M : Model} {x : Str} {pos : Pos} {v : Value} {Q : Value → Shared → Prop} (C : Cx w s.heap) (e : nsIn (KK w) mainGlobals x = some (some v)) (h : Q v s)
    (hg : env.globals = mainGlobals := by rfl) (hk : env.scope.kind = .function := by rfl) (hx : env.kindOf x = some .globalImplicit := by rfl) (hd : (x == ("__debug__" : Str)) = false := by decide) :
    wpAny M A (eval (.Name x pos) env) Q E s := by
  obtain ⟨mg, mb, mean, T⟩ := C.T
  exact Calls.Name_function_global hk hx (Calls.loadGlobal_global (env := env) (by rw [hg]; exact T.g) (mg_of C.X T.g e) h) hd

theorem bname {M : Model} {x : Str} {pos : Pos} {v : Value} {Q : Value → Shared → Prop} (C : Cx w s.heap) (e : nsIn (KK w) mainGlobals x = some none) (hv : bootBuiltins x = some v) (hn : x ≠ "__name__") (h : Q v s)
    (hg : env.globals = mainGlobals := by rfl) (hb : env.builtins = builtinsNs := by rfl) (hk : env.scope.kind = .function := by rfl) (hx : env.kindOf x = some .globalImplicit := by rfl) (hd : (x == ("__debug__" : Str)) = false := by decide) :
    wpAny M A (eval (.Name x pos) env) Q E s := by
  obtain ⟨mg, mb, mean, T⟩ := C.T
  exact Calls.Name_function_global hk hx (Calls.loadGlobal_builtin (env := env) (by rw [hg]; exact T.g) (mg_none_of C.X T.g e) (by rw [hb]; exact T.b) ((T.builtins x hn).trans hv) h) hd

/-- a call that gives back -/
def Ret (prog : Program) (w : World) (A : Around) (f : Value) (args : List Value) (Φ : Value → Shared → Prop) (s : Shared) : Prop :=
  codeAny (model prog w) A (.call f ⟨args, []⟩) (fun r s' => ∃ v, r = .ok (.ret v) ∧ Φ v s') s

theorem call_ret {f : Value} {args : List Value} {Φ Q : Value → Shared → Prop} (h : Ret prog w A f args Φ s) (hQ : ∀ v s', Φ v s' → Q v s') : wpAny (model prog w) A (call f args []) Q E s :=
  wpAny_call (codeAny_mono h (by rintro r s' ⟨v, rfl, hv⟩; exact hQ v s' hv))

theorem incall_keeps {s₀ s s' : Shared} {L : Addr} {m cm : Str → Option Value} {cs : List (Str × Addr)} (x : InCallC s₀ L m cs cm s) (k : Keeps s s') : InCallC s₀ L m cs cm s' := by
  obtain ⟨h', tk, rfl, f⟩ := k
  exact ⟨⟨let ⟨a, b, e⟩ := x.toInCall.same; ⟨h', tk, by rw [e]⟩, x.toInCall.ns.keeps f, fun b o e => f b o (x.toInCall.keep b o e), x.toInCall.fresh⟩, fun n c hc => (x.cell n c hc).keeps f, x.apart, x.above⟩
end
end Mine
end

/-! ### Ops -/
section
set_option maxRecDepth 100000
set_option maxHeartbeats 4000000
namespace Mine
open PySem PySem.W PyProof.Rows PySem.SeqAt

theorem pick_take (vs : List Value) {y : Int} (h : 0 ≤ y) : (slicePick vs.toArray none (some y) none) = (vs.take y.toNat).toArray := by
  have e : sliceBounds none (some y) none vs.toArray.size = (((0 : Nat) : Int), ((min y.toNat vs.toArray.size : Nat) : Int), 1) := by
    simp only [sliceBounds, Option.getD_none, show (1 : Int) > 0 by decide, if_true, if_neg (show ¬ (y < 0) by omega)]
    congr 1
    congr 1
    omega
  rw [kmk_pick_nat _ e]
  rw [Nat.sub_zero, List.drop_zero, List.size_toArray, kmk_take_min]
theorem pick_run' (vs : List Value) {x y : Int} (h : 0 ≤ x) (h2 : 0 ≤ y) : (slicePick vs.toArray (some x) (some y) none) = ((vs.drop x.toNat).take (y.toNat - x.toNat)).toArray := by
  have e : sliceBounds (some x) (some y) none vs.toArray.size = (((min x.toNat vs.toArray.size : Nat) : Int), ((min y.toNat vs.toArray.size : Nat) : Int), 1) := by
    simp only [sliceBounds, Option.getD_none, show (1 : Int) > 0 by decide, if_true, if_neg (show ¬ (x < 0) by omega), if_neg (show ¬ (y < 0) by omega)]
    congr 1
    · omega
    · congr 1
      omega
  rw [kmk_pick_nat _ e]
  rw [List.size_toArray, kmk_drop_min]
  congr 1
  by_cases hx : x.toNat ≤ vs.length
  · by_cases hy : y.toNat ≤ vs.length
    · rw [Nat.min_eq_left hx, Nat.min_eq_left hy]
    · rw [Nat.min_eq_left hx, Nat.min_eq_right (by omega), List.take_of_length_le (by rw [List.length_drop]; omega), List.take_of_length_le (by rw [List.length_drop]; omega)]
  · rw [List.drop_of_length_le (by omega)]; simp

section
variable {prog : Program} {w : World} {A : Around} {E : Value → Shared → Prop} {s : Shared} {env : Env}

/-- a list's slice, its bounds reckoned -/
theorem slice_tail {value slice : Expr} {l : Addr} {items : Array Value} {vl vu : Value} {lo hi : Option Int} {Q : Value → Shared → Prop} (hl : s.heap.IsList l items) (pl : IsPart vl lo) (pu : IsPart vu hi)
    (h : ∀ D h', (∀ b o, s.heap.get? b = some o → h'.get? b = some o) → s.heap.get? D = none → h'.IsList D (slicePick items lo hi none) → Q (.ref D) { s with heap := h' })
    (hs : subscripted slice false (.ref l) (.ref s.heap.objs.size) = operate [.ref s.heap.objs.size, .ref l] (getItem (.ref l) (.ref s.heap.objs.size))) (hsz : items.size ≤ sizeLine) :
    wpAny (model prog w) A (subscriptTail value slice (.ref l) (.ref s.heap.objs.size)) Q E { s with heap := s.heap.push { cls := .type "slice", data := .fields #[vl, vu, .none] } } := by
  have hT := (Heap.IsList.typeIs (s := { s with heap := s.heap.push { cls := .type "slice", data := .fields #[vl, vu, .none] } }) (hl.push _))
  refine tail_any hT list_getitem_lookup (wpAny_getItem_list_slice (hl.push _) (Heap.IsSliceOf.new ..) pl pu .none (by simp) ?_ hsz) hs
  refine h _ _ (fun b o e => Heap.get?_push_of_some _ (Heap.get?_push_of_some _ e)) ?_ ⟨_, Heap.get?_push_size _ rfl, rfl, _, rfl⟩
  cases e : s.heap.get? (s.heap.push { cls := .type "slice", data := .fields #[vl, vu, .none] }).objs.size with
  | none => rfl
  | some o => have := Heap.lt_size e; rw [Heap.size_push] at this; exact absurd this (Nat.not_lt.mpr (Nat.le_succ _))

/-- value[:ub] -/
theorem sub_take {value ub : Expr} {p pos : Pos} {Q : Value → Shared → Prop}
    (h : wpAny (model prog w) A (eval value env) (fun v s₁ => ∃ (l : Addr) (vs : List Value), v = .ref l ∧ s₁.heap.IsList l vs.toArray ∧ vs.length ≤ sizeLine ∧ wpAny (model prog w) A (eval ub env) (fun u s₂ => ∃ (y : Int) (t : Tok), u = .int y t ∧ 0 ≤ y ∧ Keeps s₁ s₂ ∧
      ∀ D h', (∀ b o, s₂.heap.get? b = some o → h'.get? b = some o) → s₂.heap.get? D = none → h'.IsList D (vs.take y.toNat).toArray → Q (.ref D) { s₂ with heap := h' }) E s₁) E s) :
    wpAny (model prog w) A (eval (.Subscript value (.Slice none (some ub) none p) pos) env) Q E s := by
  refine Subscript_ (wpAny_mono h (fun v s₁ h₁ => ?_) fun _ _ e => e)
  obtain ⟨l, vs, rfl, hl, hz, h₁⟩ := h₁
  refine wpAny_Slice ?_
  rw [evalPart_none]
  refine wpAny_pure ?_
  rw [evalPart_some]
  refine wpAny_mono h₁ (fun u s₂ h₂ => ?_) fun _ _ e => e
  obtain ⟨y, t, rfl, h0, k, hQ⟩ := h₂
  refine wpAny_pure ?_
  refine slice_tail (hl.at fun o e => ksub k _ o e) .none (.int y t) (fun D h' a b c => hQ D h' a b ?_) rfl (by rw [List.size_toArray]; exact hz)
  rwa [pick_take vs h0] at c

/-- value[lb:ub] -/
theorem sub_run {value lb ub : Expr} {p pos : Pos} {Q : Value → Shared → Prop}
    (h : wpAny (model prog w) A (eval value env) (fun v s₁ => ∃ (l : Addr) (vs : List Value), v = .ref l ∧ s₁.heap.IsList l vs.toArray ∧ vs.length ≤ sizeLine ∧ wpAny (model prog w) A (eval lb env) (fun u₀ s₀ => ∃ (x : Int) (t₀ : Tok), u₀ = .int x t₀ ∧ 0 ≤ x ∧ Keeps s₁ s₀ ∧
      wpAny (model prog w) A (eval ub env) (fun u s₂ => ∃ (y : Int) (t : Tok), u = .int y t ∧ 0 ≤ y ∧ Keeps s₀ s₂ ∧
      ∀ D h', (∀ b o, s₂.heap.get? b = some o → h'.get? b = some o) → s₂.heap.get? D = none → h'.IsList D ((vs.drop x.toNat).take (y.toNat - x.toNat)).toArray → Q (.ref D) { s₂ with heap := h' }) E s₀) E s₁) E s) :
    wpAny (model prog w) A (eval (.Subscript value (.Slice (some lb) (some ub) none p) pos) env) Q E s := by
  refine Subscript_ (wpAny_mono h (fun v s₁ h₁ => ?_) fun _ _ e => e)
  obtain ⟨l, vs, rfl, hl, hz, h₁⟩ := h₁
  refine wpAny_Slice ?_
  rw [evalPart_some]
  refine wpAny_mono h₁ (fun u₀ s₀ h₁ => ?_) fun _ _ e => e
  obtain ⟨x, t₀, rfl, hx, k₀, h₁⟩ := h₁
  rw [evalPart_some]
  refine wpAny_mono h₁ (fun u s₂ h₂ => ?_) fun _ _ e => e
  obtain ⟨y, t, rfl, h0, k, hQ⟩ := h₂
  rw [evalPart_none]
  refine wpAny_pure ?_
  refine slice_tail (hl.at fun o e => ksub k _ o (ksub k₀ _ o e)) (.int x t₀) (.int y t) (fun D h' a b c => hQ D h' a b ?_) rfl (by rw [List.size_toArray]; exact hz)
  rwa [pick_run' vs hx h0] at c

theorem push_none (h : Heap) : h.get? h.objs.size = none := by
  cases e : h.get? h.objs.size with
  | none => rfl
  | some o => exact absurd (Heap.lt_size e) (Nat.lt_irrefl _)

/-- a new list -/
theorem new_list {vs : List Value} {Q : Value → Shared → Prop} (hz : vs.length ≤ sizeLine)
    (h : ∀ D h', (∀ b o, s.heap.get? b = some o → h'.get? b = some o) → s.heap.get? D = none → h'.PlainList D vs.toArray → Q (.ref D) { s with heap := h' }) : wpAny (model prog w) A (newList vs) Q E s :=
  wpAny_newObj_type (h _ _ (fun _ _ e => Heap.get?_push_of_some _ e) (push_none _) ⟨_, Heap.get?_push_size _ rfl⟩) (by show vs.toArray.size ≤ sizeLine; rw [List.size_toArray]; exact hz)
theorem new_tuple {vs : List Value} {Q : Value → Shared → Prop} (hz : vs.length ≤ sizeLine)
    (h : ∀ D h', (∀ b o, s.heap.get? b = some o → h'.get? b = some o) → s.heap.get? D = none → IsTup h' D vs.toArray → Q (.ref D) { s with heap := h' }) : wpAny (model prog w) A (newTuple vs) Q E s :=
  wpAny_newObj_type (h _ _ (fun _ _ e => Heap.get?_push_of_some _ e) (push_none _) ⟨_, Heap.get?_push_size _ rfl, rfl, _, rfl⟩) (by show vs.toArray.size ≤ sizeLine; rw [List.size_toArray]; exact hz)

/-- value[i] of a list -/
theorem sub_item {value slice : Expr} {l : Addr} {vs : List Value} {k : Int} {u : Tok} {x : Value} {Q : Value → Shared → Prop} (hl : s.heap.IsList l vs.toArray) (h0 : 0 ≤ k) (hfit : k < 2 ^ 63) (hx : vs[k.toNat]? = some x) (h : Q x s)
    (hs : subscripted slice false (.ref l) (.int k u) = operate [.ref l, .int k u] (getItem (.ref l) (.int k u)) := by with_unfolding_all rfl) :
    wpAny (model prog w) A (subscriptTail value slice (.ref l) (.int k u)) Q E s :=
  tail_any hl.typeIs slot_list_getitem.lookup (wpAny_getItem_list hl h0 hfit (by simpa using hx) h) hs

/-- a // b // c ** k % d -/
theorem num_eval {M : Model} (hM : M = model prog w) {ex ek : Expr} {p1 p2 p3 p4 p5 p6 p7 : Pos} {j1 j2 j3 : Nat} {x k a b c : Int} {tx tk₀ : Tok} {Q : Value → Shared → Prop} (ha : 0 < a ∧ a < 1000000) (hb : 0 < b ∧ b < 1000) (hc : 0 < c ∧ c < 1000) (hk : 0 ≤ k ∧ k < 3)
    (hx : ∀ t' (Q' : Value → Shared → Prop), Q' (.int x tx) { s with toks := t' } → wpAny M A (eval ex env) Q' E { s with toks := t' })
    (hk' : ∀ t' (Q' : Value → Shared → Prop), Q' (.int k tk₀) { s with toks := t' } → wpAny M A (eval ek env) Q' E { s with toks := t' })
    (h : ∀ t t', Q (.int (((x.fdiv a).fdiv (b ^ k.toNat)).fmod c) t) { s with toks := t' }) :
    wpAny M A (eval (.BinOp (.BinOp (.BinOp ex .FloorDiv (.Constant (.int a) j1 p1) p2) .FloorDiv (.BinOp (.Constant (.int b) j2 p3) .Pow ek p4) p5) .Mod (.Constant (.int c) j3 p6) p7) env) Q E s := by
  subst hM
  have hpow : 0 < b ^ k.toNat ∧ b ^ k.toNat < 1000000 := by
    have : k.toNat = 0 ∨ k.toNat = 1 ∨ k.toNat = 2 := by omega
    rcases this with e | e | e <;> rw [e]
    · rw [Int.pow_zero]; omega
    · rw [Int.pow_succ, Int.pow_zero, Int.one_mul]; omega
    · rw [show b ^ 2 = b * b from by rw [Int.pow_succ, Int.pow_succ, Int.pow_zero, Int.one_mul]]
      exact ⟨Int.mul_pos hb.1 hb.1, by
        have h1 : b * b ≤ 999 * b := Int.mul_le_mul_of_nonneg_right (by omega) (by omega)
        omega⟩
  refine wpAny_BinOp (wpAny_BinOp (wpAny_BinOp (hx s.toks _ ?_)))
  refine wpAny_Constant_int ?_
  refine floordiv_int (by omega) ?_ (.inl (PyProof.noPylong_small (by omega)))
  refine wpAny_BinOp (wpAny_Constant_int ?_)
  refine hk' _ _ ?_
  refine pow_int_small (by omega) (by omega) (by omega) ?_
  refine floordiv_int (by omega) ?_ (.inl (PyProof.noPylong_small (by omega)))
  refine wpAny_Constant_int ?_
  exact PyProof.Rows.mod_int (by omega) (h _ _)
end
end Mine
end

/-! ### Pieces -/
section
set_option maxRecDepth 100000
set_option maxHeartbeats 400000
namespace Mine
open PySem PySem.W PyProof.Rows PySem.SeqAt

def numOf (x : Int) (k : Nat) : Int := ((x.fdiv 3).fdiv (12 ^ k)).fmod 12
def numStr (x : Int) (k : Nat) : Str := Str.ofString (toString (numOf x k))
def markIx (x : Int) (k : Nat) : Int := ((x.fdiv 5184).fdiv (2 ^ k)).fmod 2
def markOf (x : Int) (k : Nat) : Str := if markIx x k = 0 then Str.ofString "." else Str.ofString "rc"
def piecesL (x : Int) : List Str := [numStr x 0, markOf x 0, numStr x 1, markOf x 1, numStr x 2].take (1 + (x.fmod 3) * 2).toNat

theorem gone {h : Heap} (a : Addr) (ha : h.objs.size ≤ a) : h.get? a = none := by
  cases e : h.get? a with
  | none => rfl
  | some o' => exact absurd (Heap.lt_size e) (Nat.not_lt.mpr ha)

theorem fmod_bd (a : Int) {b : Int} (h0 : 0 < b) (_ : b < 1000) : 0 ≤ a.fmod b ∧ a.fmod b < b := ⟨Int.fmod_nonneg_of_pos a h0, Int.fmod_lt_of_pos a h0⟩
theorem log_small {a : Int} (h : 0 ≤ a ∧ a < 12) : a.natAbs.log2 < 1920 := by
  by_cases h0 : a.natAbs = 0
  · rw [h0]; decide
  · have : a.natAbs.log2 < 4 := (Nat.log2_lt h0).mpr (by omega)
    omega

theorem rd_pieces {h : Heap} {P : Addr → Prop} {x : Int} {a b c d e : Tok} :
    RdAll h P (List.take (1 + x.fmod 3 * 2).toNat [.str (numStr x 0) a, .str (markOf x 0) b, .str (numStr x 1) c, .str (markOf x 1) d, .str (numStr x 2) e]) ((piecesL x).map .str) := by
  have e : (piecesL x).map PyData.str = List.take (1 + x.fmod 3 * 2).toNat [.str (numStr x 0), .str (markOf x 0), .str (numStr x 1), .str (markOf x 1), .str (numStr x 2)] := by
    unfold piecesL
    rw [List.map_take, List.map_cons, List.map_cons, List.map_cons, List.map_cons, List.map_cons, List.map_nil]
  rw [e]
  exact RdAll.take _ (.cons (.str _ _) (.cons (.str _ _) (.cons (.str _ _) (.cons (.str _ _) (.cons (.str _ _) .nil)))))

variable {prog : Program} {w : World} {A : Around} {s : Shared}

theorem pieces_ret (C : Cx w s.heap) (hh : A.handled = none) (hd : A.depth < 550) (x : Int) (t : Tok) :
    Ret prog w A (.ref 118) [.int x t] (fun v s' => Keeps s s' ∧ ∀ P, FreshP s.heap P → Rd s'.heap P v (.list ((piecesL x).map .str))) s := by
  obtain ⟨mg, mb, mean, T⟩ := C.T
  refine' codeAny_call_cells (binds := [(Str.ofString "x", .int x t)]) ?hroom (C.X _ _ ?ho) ?hdata ?hlim ?hcd ?hbody ?hbind ?hclo ?hkind ?h ?hco ?hgen ?hk
  case ho => exact rfl
  case hdata => exact rfl
  case hbody => exact rfl
  case hclo => exact rfl
  case hco => exact rfl
  case hgen => exact rfl
  case hk => exact rfl
  case hlim => exact T.nolimit
  case hcd => exact codeRec_of C.X (by rfl)
  case hbind => exact rfl
  case hroom => rw [recursionLimit]; omega
  case hkind => 
    intro y hy
    simp only [List.mem_singleton] at hy
    subst hy
    exact .inr ⟨rfl, rfl⟩
  case h =>
    intro s₁ I
    obtain ⟨h₁, tk₁, rfl⟩ := I.toInCall.same
    have hcx : h₁.IsCell (s.heap.objs.size + 1) (some (.int x t)) := I.cell (Str.ofString "x") _ rfl
    have F : Fr s.heap s.heap.objs.size h₁ (fun _ => none) := ⟨I.toInCall.ns, I.toInCall.keep, I.toInCall.fresh⟩
    have C₁ := C.keeps I.toInCall.keep
    obtain ⟨oc, hoc, hdc⟩ := hcx
    have N : News s.heap s.heap.objs.size h₁ [(s.heap.objs.size + 1, oc)] := fun p hp => by
      simp only [List.mem_singleton] at hp
      subst hp
      exact ⟨hoc, Nat.succ_ne_self _, gone _ (Nat.le_succ _)⟩
    refine wpAny_execs_cons (Assign_ListComp_DCr (h₀ := s.heap) (m := fun _ => none) (pz := fun _ => true) (d := fun k => PyData.str (numStr x k.toNat)) rfl rfl hh rfl (by decide) rfl (by decide) rfl rfl rfl ?_ (fun _ => rfl))
    refine Call_ (bname C₁ (by kernel_rfl) boot_range (by decide) ?_)
    refine Pv.callWith_type1 (wpAny_items_cons (wpAny_Constant_int (wpAny_items_nil ?_)))
    refine range1_rows (s := { s with heap := h₁, toks := tk₁ + 1 }) F N ?_
    intro h' tk t₁ u₁ v₁ hr F' N' hk'
    refine ⟨_, _, _, _, _, _, _, _, 3, rfl, hr, rfl, rfl, by rw [sizeLine_eq]; decide, F', N', ?_, ?_, ?_⟩
    · intro D a v s₂ m₂ E' hC ha hv hns hm hk
      exact wpAny_tests_nil ⟨rfl, keeps_refl _⟩
    · intro D a v s₂ m₂ E' hC ha hv _ hns hm hk
      obtain ⟨tv, rfl⟩ := hv
      have ha' : 0 ≤ a ∧ a < 3 := by simp [rangeInts] at ha; omega
      have C₂ : Cx w s₂.heap := (C₁.keeps hk').keeps hk
      refine Call_ (bname C₂ (by kernel_rfl) boot_str (by decide) ?_)
      refine Pv.callWith_type1 (wpAny_items_cons (num_eval (x := x) (tx := t) (tk₀ := tv) rfl (by decide) (by decide) (by decide) ha' (fun t' Q' q => ?_) (fun t' Q' q => ?_) fun t' t'' => ?_))
      · exact wpAny_Name (wpAny_loadName_cell rfl rfl rfl ⟨oc, hk _ _ (hk' _ _ hoc), hdc⟩ q) (by decide)
      · exact wpAny_Name (wpAny_loadName_local rfl rfl hns hm q) (by decide)
      · refine wpAny_items_nil (PySem.P.str_of_int ?_ ?_)
        · exact log_small (fmod_bd _ (by decide) (by decide))
        · exact ⟨.str _ _, ⟨_, _, rfl, fun _ _ e => e⟩⟩
    · intro D ys h'' tk' F'' N'' hD hL hpl hc
      have hLD : D ≠ s.heap.objs.size := hpl.ne_locals F''
      obtain ⟨⟨n₁, hpl⟩, hne⟩ := hpl
      have N₂ : News s.heap s.heap.objs.size h'' ((D, { cls := .type "list", data := .seq ys.toArray n₁ }) :: [(s.heap.objs.size + 1, oc)]) := fun p hp => by
        rcases List.mem_cons.mp hp with rfl | hp
        · exact ⟨hpl, hLD, hD⟩
        · exact N'' p hp
      have C₃ : Cx w h'' := C.keeps F''.keep
      show wpAny _ _ (execs _ _) _ _ _
      refine wpAny_execs_cons (Assign_ListComp_DCr (h₀ := s.heap) (m := fun z => if z = Str.ofString "numbers" then some (.ref D) else none) (pz := fun _ => true) (d := fun k => PyData.str (markOf x k.toNat)) rfl rfl hh rfl (by decide) rfl (by decide) rfl rfl rfl ?_ (fun _ => rfl))
      refine Call_ (bname C₃ (by kernel_rfl) boot_range (by decide) ?_)
      refine Pv.callWith_type1 (wpAny_items_cons (wpAny_Constant_int (wpAny_items_nil ?_)))
      refine range1_rows F'' N₂ ?_
      intro h₃ tk₃ t₃ u₃ v₃ hr₃ F₃ N₃ hk₃
      refine ⟨_, _, _, _, _, _, _, _, 2, rfl, hr₃, rfl, rfl, by rw [sizeLine_eq]; decide, F₃, N₃, ?_, ?_, ?_⟩
      · intro D' a v s₂ m₂ E' hC ha hv hns hm hk
        exact wpAny_tests_nil ⟨rfl, keeps_refl _⟩
      · intro D' a v s₂ m₂ E' hC ha hv _ hns hm hk
        obtain ⟨tv, rfl⟩ := hv
        have ha' : 0 ≤ a ∧ a < 3 := by simp [rangeInts] at ha; omega
        refine Subscript_ (List_ (wpAny_items_cons (Calls.Constant_str (wpAny_items_cons (Calls.Constant_str (wpAny_items_nil ?_))))))
        refine new_list (by rw [sizeLine_eq]; show 2 ≤ _; decide) fun D₄ h₄ hk₄ hn₄ hl₄ => ?_
        refine num_eval (x := x) (tx := t) (tk₀ := tv) rfl (by decide) (by decide) (by decide) ha' (fun t' Q' q => ?_) (fun t' Q' q => ?_) fun t' t'' => ?_
        · exact wpAny_Name (wpAny_loadName_cell rfl rfl rfl ⟨oc, hk₄ _ _ (hk _ _ (N₃.get (by simp))), hdc⟩ q) (by decide)
        · exact wpAny_Name (wpAny_loadName_local rfl rfl (hns.keeps hk₄) hm q) (by decide)
        · have hb := fmod_bd ((x.fdiv 5184).fdiv (2 ^ a.toNat)) (b := 2) (by decide) (by decide)
          have hl₅ : h₄.IsList D₄ [Value.str (Str.ofString ".") _, Value.str (Str.ofString "rc") _].toArray := hl₄.isList
          by_cases hz : markIx x a.toNat = 0
          · refine sub_item hl₅ (by omega) (by omega) (x := .str (Str.ofString ".") _) (by rw [show ((x.fdiv 5184).fdiv (2 ^ a.toNat)).fmod 2 = 0 from hz]; rfl) ?_
            refine ⟨?_, ⟨_, _, rfl, hk₄⟩⟩
            show Carried _ (PyData.str (markOf x a.toNat))
            unfold markOf
            rw [if_pos hz]
            exact .str _ _
          · have h1 : ((x.fdiv 5184).fdiv (2 ^ a.toNat)).fmod 2 = 1 := by
              have : ((x.fdiv 5184).fdiv (2 ^ a.toNat)).fmod 2 ≠ 0 := hz
              omega
            refine sub_item hl₅ (by omega) (by omega) (x := .str (Str.ofString "rc") _) (by rw [h1]; rfl) ?_
            refine ⟨?_, ⟨_, _, rfl, hk₄⟩⟩
            show Carried _ (PyData.str (markOf x a.toNat))
            unfold markOf
            rw [if_neg hz]
            exact .str _ _
      · intro D' ys' h₄ tk' F₄ N₄ hD' hL' hpl' hc'
        show wpAny _ _ (execs _ _) _ _ { s with heap := h₄, toks := tk' }
        have hnum : h₄.IsList D ys.toArray := ⟨_, N₄.get (.head _), rfl, n₁, rfl⟩
        have hcell : h₄.IsCell (s.heap.objs.size + 1) (some (.int x t)) := ⟨oc, N₄.get (.tail _ (.head _)), hdc⟩
        obtain ⟨n0, n1, n2, rfl⟩ : ∃ a b c, ys = [.str (numStr x 0) a, .str (numStr x 1) b, .str (numStr x 2) c] := by
          have hc : CarriedAll ys [.str (numStr x 0), .str (numStr x 1), .str (numStr x 2)] := hc
          cases hc with | cons c1 hc => cases hc with | cons c2 hc => cases hc with | cons c3 hc => cases hc; cases c1; cases c2; cases c3; exact ⟨_, _, _, rfl⟩
        obtain ⟨m0, m1, rfl⟩ : ∃ a b, ys' = [.str (markOf x 0) a, .str (markOf x 1) b] := by
          have hc : CarriedAll ys' [.str (markOf x 0), .str (markOf x 1)] := hc'
          cases hc with | cons c1 hc => cases hc with | cons c2 hc => cases hc; cases c1; cases c2; exact ⟨_, _, rfl⟩
        refine wpAny_execs_cons (wpAny_Return_some (sub_take ?_))
        refine List_ ?_
        refine wpAny_items_cons (Subscript_ (wpAny_Name (wpAny_loadName_local rfl rfl F₄.ns rfl ?_) (by decide)))
        refine wpAny_Constant_int (sub_item hnum (by decide) (by decide) rfl ?_)
        refine wpAny_items_cons (Subscript_ (wpAny_Name (wpAny_loadName_local rfl rfl F₄.ns rfl ?_) (by decide)))
        refine wpAny_Constant_int (sub_item hL' (by decide) (by decide) rfl ?_)
        refine wpAny_items_cons (Subscript_ (wpAny_Name (wpAny_loadName_local rfl rfl F₄.ns rfl ?_) (by decide)))
        refine wpAny_Constant_int (sub_item hnum (by decide) (by decide) rfl ?_)
        refine wpAny_items_cons (Subscript_ (wpAny_Name (wpAny_loadName_local rfl rfl F₄.ns rfl ?_) (by decide)))
        refine wpAny_Constant_int (sub_item hL' (by decide) (by decide) rfl ?_)
        refine wpAny_items_cons (Subscript_ (wpAny_Name (wpAny_loadName_local rfl rfl F₄.ns rfl ?_) (by decide)))
        refine wpAny_Constant_int (sub_item hnum (by decide) (by decide) rfl ?_)
        refine wpAny_items_nil (new_list (by rw [sizeLine_eq]; show 5 ≤ _; decide) fun D₅ h₅ hk₅ hn₅ hl₅ => ?_)
        refine ⟨_, _, rfl, hl₅.isList, (by rw [sizeLine_eq]; show 5 ≤ _; decide), ?_⟩
        refine wpAny_BinOp (wpAny_Constant_int (wpAny_BinOp (wpAny_BinOp (wpAny_Name (wpAny_loadName_cell rfl rfl rfl (hcell.keeps hk₅) ?_) (by decide)))))
        have hb := fmod_bd x (b := 3) (by decide) (by decide)
        refine wpAny_Constant_int (PyProof.Rows.mod_int (by decide) (wpAny_Constant_int (PyProof.Rows.mul_int ?_ ?_)))
        · refine PyProof.Rows.add_int ?_
          refine ⟨_, _, rfl, by omega, ⟨_, _, rfl, fun _ _ e => e⟩, fun D₆ h₆ hk₆ hn₆ hl₆ => ?_⟩
          refine ⟨_, rfl, ⟨_, _, rfl, fun b o e => hk₆ b o (hk₅ b o (F₄.keep b o e))⟩, fun P hP => ?_⟩
          have hold : ∀ b o, s.heap.get? b = some o → h₅.get? b = some o := fun b o e => hk₅ b o (F₄.keep b o e)
          refine Rd.mk_list (hP.keeps hold D₆ hn₆) hl₆ ?_
          exact rd_pieces
        · exact IntMulOk.of_left (intBits_le (by omega))
end Mine
end

/-! ### Ranks -/
section
set_option maxRecDepth 100000
set_option maxHeartbeats 1000000
namespace Mine
open PySem PySem.W PyProof.Rows PySem.SeqAt

inductive Pc where
  | num (i : Int)
  | dot
  | rc
def Pc.ok : Pc → Prop
  | .num i => 0 ≤ i ∧ i < 12
  | _ => True
def Pc.str : Pc → Str
  | .num i => Str.ofString (toString i)
  | .dot => Str.ofString "."
  | .rc => Str.ofString "rc"
def Pc.rank : Pc → Option PyData
  | .num i => some (.tuple [.int 100, .int i])
  | .dot => none
  | .rc => some (.tuple [.int 50, .str (Str.ofString "rc")])

theorem num_ne {i : Int} (h : 0 ≤ i ∧ i < 12) : ((Str.ofString (toString i)) == Str.ofString ".") = false ∧ ((Str.ofString (toString i)) == Str.ofString "rc") = false := by
  obtain ⟨n, rfl⟩ := Int.eq_ofNat_of_zero_le h.1
  have : n < 12 := by omega
  have key : ∀ n : Nat, n < 12 → ((Str.ofString (toString (n : Int))) == Str.ofString ".") = false ∧ ((Str.ofString (toString (n : Int))) == Str.ofString "rc") = false := by decide
  exact key n this

section
variable {prog : Program} {w : World} {A : Around} {s : Shared}

theorem enter {Φ : Value → Shared → Prop} {f : Addr} {o : Obj} {fd : FuncData} {body : List Stmt} {vals : List Value} {binds : List (Str × Value)} (C : Cx w s.heap) (hd : A.depth < 550)
    (ho : (KK w).lookup f = some o) (hdata : o.data = .func fd) (hcd : codeIn (KK w) fd.code fd.qualname = true) (hbody : fd.body = .stmts body) (hbind : bindArgs fd ⟨vals, []⟩ = pure binds) (hclo : fd.closure = [])
    (hkind : ∀ x ∈ binds, fd.scope.names.lookup x.1 = some .local ∨ (fd.scope.names.lookup x.1 = some .cell ∧ ((cellsFrom (s.heap.objs.size + 1) fd.scope.names []).lookup x.1).isSome = true))
    (h : ∀ h₁ tk₁, InCallC s (callEnvC fd s.heap.objs.size f).locals (bindL (callEnvC fd s.heap.objs.size f).kindOf binds fun _ => none) (callEnvC fd s.heap.objs.size f).cells
        (bindC (callEnvC fd s.heap.objs.size f).kindOf binds fun _ => none) { s with heap := h₁, toks := tk₁ } → Cx w h₁ → (∀ b o, s.heap.get? b = some o → h₁.get? b = some o) →
      wpAny (model prog w) (A.deeper (callEnvC fd s.heap.objs.size f)) (execs body (callEnvC fd s.heap.objs.size f)) (fun fl s' => Φ (match fl with | .ret v => v | _ => .none) s')
        (fun e s' => wpAny (model prog w) (A.deeper (callEnvC fd s.heap.objs.size f)) (leaving (callEnvC fd s.heap.objs.size f) e) (fun _ _ => False) (fun _ _ => False) s') { s with heap := h₁, toks := tk₁ })
    (hco : fd.scope.isCoroutine = false) (hgen : fd.scope.isGenerator = false) (hk : fd.scope.kind = .function) :
    Ret prog w A (.ref f) vals Φ s := by
  obtain ⟨mg, mb, mean, T⟩ := C.T
  refine codeAny_call_cells (by rw [recursionLimit]; omega) (C.X _ _ ho) hdata T.nolimit (codeRec_of C.X hcd) hbody hbind hclo hkind (fun s₁ I => ?_) hco hgen hk
  obtain ⟨h₁, tk₁, rfl⟩ := I.toInCall.same
  refine wpAny_mono (h h₁ tk₁ I (C.keeps I.toInCall.keep) I.toInCall.keep) (fun fl s' hq => ⟨_, rfl, hq⟩) fun e s' he => wpAny_mono he (fun _ _ x => x.elim) fun _ _ x => x.elim

theorem filterMap_range {α β : Type} (f : α → Option β) : ∀ (l : List α), (List.range l.length).filterMap (fun i => (l[i]?).bind f) = l.filterMap f := by
  intro l
  induction l with
  | nil => rfl
  | cons a l ih =>
    rw [List.length_cons, List.range_succ_eq_map, List.filterMap_cons, List.filterMap_cons, List.filterMap_map]
    have : (List.range l.length).filterMap ((fun i => ((a :: l)[i]?).bind f) ∘ Nat.succ) = l.filterMap f := by
      rw [← ih]; rfl
    rw [this]
    rfl

theorem ranks_ret (C : Cx w s.heap) (hh : A.handled = none) (hd : A.depth < 550) {P : Addr → Prop} (hP : FreshP s.heap P) {v : Value} {ps : List Pc} (hps : ∀ p ∈ ps, p.ok) (hlen : ps.length ≤ 5)
    (hr : Rd s.heap P v (.list (ps.map fun p => .str p.str))) :
    Ret prog w A (.ref 123) [v] (fun v' s' => Keeps s s' ∧ Rd s'.heap P v' (.list (ps.filterMap Pc.rank))) s := by
  refine' enter (binds := [(Str.ofString "pieces", v)]) C hd rfl rfl rfl rfl rfl rfl ?hkind ?h rfl rfl rfl
  case hkind => 
    intro y hy
    simp only [List.mem_singleton] at hy
    subst hy
    exact .inl rfl
  case h =>
    intro h₁ tk₁ I C₁ hk₁
    obtain ⟨ax, vs, rfl, pa, hl, hv⟩ := hr.of_list
    have hlv : vs.length = ps.length := by simpa using hv.length
    have hz : vs.length ≤ sizeLine := by rw [sizeLine_eq]; omega
    refine wpAny_execs_cons (wpAny_Return_some (comp_eval (P := P) hh rfl (by decide) rfl (by decide) rfl (fun _ => rfl) ?_))
    refine wpAny_Name (wpAny_loadName_local rfl rfl I.toInCall.ns rfl ?_) (by decide)
    refine ⟨ax, vs, fun i => (ps[i]?).bind Pc.rank, rfl, hl.at fun o e => hk₁ _ o e, hz, hP.keeps hk₁, ?_, ?_⟩
    · intro D P₂ i u s₂ m₂ E' hu k₂ f₂ sub hns hm hD
      obtain ⟨d, hd', ru⟩ := hv.get hu
      obtain ⟨p, hp, rfl⟩ : ∃ p, ps[i]? = some p ∧ d = .str p.str := by
        rw [List.getElem?_map] at hd'
        cases hq : ps[i]? with
        | none => rw [hq] at hd'; cases hd'
        | some p => rw [hq] at hd'; cases hd'; exact ⟨p, rfl, rfl⟩
      obtain ⟨tu, rfl⟩ := ru.of_str
      have C₂ : Cx w s₂.heap := C₁.keeps (ksub k₂)
      have ok := hps p (List.mem_of_getElem? hp)
      refine wpAny_tests_one (wpAny_isTrue_Compare1 (wpAny_Name (wpAny_loadName_local rfl rfl hns hm ?_) (by decide)))
      refine Calls.Constant_str (PyProof.Rows.ne_str (wpAny_truthy_bool ?_))
      refine ⟨keeps_tok _ _, ?_, ?_⟩
      · show _ = ((ps[i]?).bind Pc.rank).isSome
        rw [hp]
        cases p with
        | num i =>
          show (!((Pc.num i).str == Str.ofString ".")) = true
          rw [show ((Pc.num i).str == Str.ofString ".") = false from (num_ne ok).1]
          rfl
        | dot => rfl
        | rc => rfl
      · intro d hd
        have hd : (ps[i]?).bind Pc.rank = some d := hd
        rw [hp] at hd
        have hd : p.rank = some d := hd
        refine wpAny_IfExp (wpAny_isTrue_Compare1 (wpAny_Name (wpAny_loadName_local rfl rfl hns hm ?_) (by decide)))
        refine Calls.Constant_str (PyProof.Rows.eq_str (wpAny_truthy_bool ?_))
        cases p with
        | dot => cases hd
        | rc =>
          cases hd
          rw [if_pos (by rfl)]
          refine Tuple_ (wpAny_items_cons (wpAny_Constant_int (wpAny_items_cons (Calls.Constant_str (wpAny_items_nil ?_)))))
          refine new_tuple (by rw [sizeLine_eq]; show 2 ≤ _; decide) fun T h₃ hk₃ hn₃ ht₃ => ?_
          exact ⟨⟨_, _, rfl, hk₃⟩, .mk_tuple (f₂ _ hn₃) ht₃ (.cons (.int _ _) (.cons (.str _ _) .nil))⟩
        | num i =>
          cases hd
          rw [show ((Pc.num i).str == Str.ofString "rc") = false from (num_ne ok).2]
          refine Tuple_ (wpAny_items_cons (wpAny_Constant_int (wpAny_items_cons ?_)))
          refine Call_ (bname C₂ (by kernel_rfl) PyProof.Rows.boot_int (by decide) ?_)
          refine Pv.callWith_type1 (wpAny_items_cons (wpAny_Name (wpAny_loadName_local rfl rfl hns hm ?_) (by decide)))
          refine wpAny_items_nil (KIN.call_num ok.1 (by have := ok.2; omega) ?_)
          refine wpAny_items_nil (new_tuple (by rw [sizeLine_eq]; show 2 ≤ _; decide) fun T h₃ hk₃ hn₃ ht₃ => ?_)
          exact ⟨⟨_, _, rfl, hk₃⟩, .mk_tuple (f₂ _ hn₃) ht₃ (.cons (.int _ _) (.cons (.int _ _) .nil))⟩
    · intro v' s' k' r'
      obtain ⟨h', tk', rfl, kk⟩ := k'
      refine ⟨⟨h', tk', rfl, fun b o e => kk b o (hk₁ b o e)⟩, ?_⟩
      have e : (List.range vs.length).filterMap (fun i => (ps[i]?).bind Pc.rank) = ps.filterMap Pc.rank := by rw [hlv]; exact filterMap_range Pc.rank ps
      rw [e] at r'
      exact r'
end
end Mine
end

/-! ### Nest -/
section
set_option maxRecDepth 100000
set_option maxHeartbeats 1000000
namespace Mine
open PySem PySem.W PyProof.Rows PySem.SeqAt

section
variable {prog : Program} {w : World} {A : Around} {R : Result → Shared → Prop} {s : Shared}

abbrev twoC (elt it0 it1 : Expr) (x y : Str) (px py : Pos) (ifs : List Expr) (scope : Scope) (pos : Pos) : Expr := .ListComp elt [⟨.Name x px, it0, [], 0⟩, ⟨.Name y py, it1, ifs, 0⟩] scope pos

theorem turn_in (elt it0 it1 : Expr) (x y : Str) (px py : Pos) (ifs : List Expr) (scope : Scope) (pos : Pos) (it acc : Value) (env : Env) :
    compTurn (twoC elt it0 it1 x y px py ifs scope pos) 1 it acc env = (do
      standAt it1.pos
      match ← pyNext it with
      | none => pure (.done .next)
      | some v =>
        letOwnedTupleGo (.Name y py) it v
        assign (.Name y py) env v
        let mut ok := true
        for c in ifs do
          if ok then ok ← isTrue c env (eval c env)
        if ok then
          (do let _ ← call (.builtin "list.append") [acc, ← eval elt env])
        again (.compLoop (twoC elt it0 it1 x y px py ifs scope pos) 1 it acc env)) := by rfl

theorem turn_out (elt it0 it1 : Expr) (x y : Str) (px py : Pos) (ifs : List Expr) (scope : Scope) (pos : Pos) (it acc : Value) (env : Env) :
    compTurn (twoC elt it0 it1 x y px py ifs scope pos) 0 it acc env = (do
      standAt it0.pos
      match ← pyNext it with
      | none => pure (.done .next)
      | some v =>
        letOwnedTupleGo (.Name x px) it v
        assign (.Name x px) env v
        let xv ← eval it1 env
        standAt it1.pos
        let xv ← foldedSetIterable it1 env xv
        let it' ← holding [xv] (pyIter xv)
        let _ ← runOwn (.compStart (twoC elt it0 it1 x y px py ifs scope pos) 1 it' acc env) env
        again (.compLoop (twoC elt it0 it1 x y px py ifs scope pos) 0 it acc env)) := by rfl

theorem loop_in {elt it0 it1 : Expr} {x y : Str} {px py : Pos} {ifs : List Expr} {scope : Scope} {pos : Pos} {it acc : Value} {env : Env} (I : Nat → Shared → Prop)
    (turn : ∀ n s, I n s → wpAny (model prog w) A (pyNext it) (fun r s₁ => match r with
      | none => R (.ok .next) s₁
      | some v => wpAny (model prog w) A (assign (.Name y py) env v) (fun _ s₂ =>
          wpAny (model prog w) A (forIn ifs true fun c r => if r = true then do let ok ← isTrue c env (eval c env); pure (ForInStep.yield ok) else pure (ForInStep.yield r)) (fun ok s₃ =>
            if ok = true then wpAny (model prog w) A (eval elt env) (fun x s₄ =>
              wpAny (model prog w) A (call (.builtin "list.append") [acc, x]) (fun _ s₅ => ∃ m, m < n ∧ I m s₅) (notedBy (model prog w) A env fun e s' => R (.error e) s') s₄) (notedBy (model prog w) A env fun e s' => R (.error e) s') s₃
            else ∃ m, m < n ∧ I m s₃) (notedBy (model prog w) A env fun e s' => R (.error e) s') s₂) (notedBy (model prog w) A env fun e s' => R (.error e) s') s₁) (notedBy (model prog w) A env fun e s' => R (.error e) s') s)
    (n : Nat) (h : I n s) :
    codeAny (model prog w) A (.compLoop (twoC elt it0 it1 x y px py ifs scope pos) 1 it acc env) R s := by
  refine codeAny_loop rfl I (fun n s hI => ?_) n h
  show wpAny _ A ((compTurn (twoC elt it0 it1 x y px py ifs scope pos) 1 it acc env).onRaise (fun x => do noteFrame x env; theTreesLotGoes x)) _ _ s
  refine wpAny_noted ?_
  rw [turn_in]
  refine wpAny_bind (wpAny_standAt (wpAny_bind (wpAny_mono (turn n s hI) (fun r s₁ h₁ => ?_) fun _ _ h' => h')))
  cases r with
  | none => exact wpAny_pure h₁
  | some v =>
    refine wpAny_bind (wpAny_of_eq (a := ()) rfl ?_)
    refine wpAny_bind (wpAny_mono h₁ (fun _ s₂ h₂ => wpAny_bind (wpAny_mono h₂ (fun ok s₃ h₃ => ?_) fun _ _ h' => h')) fun _ _ h' => h')
    cases ok with
    | false => exact wpAny_pure ⟨rfl, h₃⟩
    | true =>
      exact wpAny_bind (wpAny_bind (wpAny_mono h₃ (fun x s₄ h₄ => wpAny_bind (wpAny_mono h₄ (fun _ s₅ h₅ => wpAny_pure (wpAny_pure ⟨rfl, h₅⟩)) fun _ _ h' => h')) fun _ _ h' => h'))

theorem start_in {elt it0 it1 : Expr} {x y : Str} {px py : Pos} {ifs : List Expr} {scope : Scope} {pos : Pos} {it acc : Value} {env : Env}
    (h0 : codeAny (model prog w) A (.compLoop (twoC elt it0 it1 x y px py ifs scope pos) 1 it acc env) R s)
    (h : wpAny (model prog w) A (pyIter it) (fun it' s' => codeAny (model prog w) A (.compLoop (twoC elt it0 it1 x y px py ifs scope pos) 1 it' acc env) R s')
      (notedBy (model prog w) A env fun x s' => R (.error x) s') s) :
    codeAny (model prog w) A (.compStart (twoC elt it0 it1 x y px py ifs scope pos) 1 it acc env) R s := by
  refine codeAny_of_tree ?_
  show wpAny _ _ ((compStart (twoC elt it0 it1 x y px py ifs scope pos) 1 it acc env).onRaise (fun x => do noteFrame x env; standAt theWindowsPlace)) _ _ s
  refine wpAny_notedAt ?_
  unfold compStart
  show wpAny _ _ (ask >>= _) _ _ s
  refine wpAny_bind (wpAny_askSetting (wpAny_ite ?_))
  split
  · first
      | exact wpAny_bind (wpAny_pure (wpAny_pure (And.intro rfl h0)))
      | exact wpAny_pure (And.intro rfl h0)
  · refine wpAny_bind (wpAny_rule ?_)
    show wpAny _ _ (standAt it1.pos >>= _) _ _ s
    exact wpAny_bind (wpAny_standAt (wpAny_bind (wpAny_mono h (fun it' s' h' => wpAny_pure (And.intro rfl h')) fun _ _ x => x)))
theorem start_out {elt it0 it1 : Expr} {x y : Str} {px py : Pos} {ifs : List Expr} {scope : Scope} {pos : Pos} {it acc : Value} {env : Env}
    (h0 : codeAny (model prog w) A (.compLoop (twoC elt it0 it1 x y px py ifs scope pos) 0 it acc env) R s)
    (h : wpAny (model prog w) A (pyIter it) (fun it' s' => codeAny (model prog w) A (.compLoop (twoC elt it0 it1 x y px py ifs scope pos) 0 it' acc env) R s')
      (notedBy (model prog w) A env fun x s' => R (.error x) s') s) :
    codeAny (model prog w) A (.compStart (twoC elt it0 it1 x y px py ifs scope pos) 0 it acc env) R s := codeAny_compStart_list h0 h

/-- the inner loop: the items that pass are laid behind -/
theorem inner_run {elt it0 it1 : Expr} {x y : Str} {px py pe : Pos} {ifs : List Expr} {scope : Scope} {pos : Pos} {I D : Addr} {fp wr : List Addr} {St : Nat → Heap → Prop}
    {cenv : Env} {m : Str → Option Value} {ys₀ ws : List Value} {p : Value → Bool} (helt : elt = .Name y pe) (W : Walks prog w A I fp wr ws.length (fun i v => ws[i]? = some v) St)
    (hx : cenv.kindOf y = some .local) (hk : cenv.scope.kind = .function) (hyd : (y == ("__debug__" : Str)) = false)
    (hDC : D ≠ cenv.locals) (hDf : D ∉ fp) (hCf : cenv.locals ∉ fp)
    (hst : St 0 s.heap) (hacc : s.heap.PlainList D ys₀.toArray) (hn : s.heap.Ns cenv.locals m) (hsz : ys₀.length + ws.length ≤ sizeLine)
    (htests : ∀ v s₂ m₂ E', s₂.heap.Ns cenv.locals m₂ → v ∈ ws → m₂ y = some v → (∀ b o, b ≠ cenv.locals → b ∉ wr → b ≠ D → s.heap.get? b = some o → s₂.heap.get? b = some o) →
      wpAny (model prog w) A (forIn ifs true fun c r => if r = true then do let ok ← isTrue c cenv (eval c cenv); pure (ForInStep.yield ok) else pure (ForInStep.yield r)) (fun ok s₃ => ok = p v ∧ Keeps s₂ s₃) E' s₂)
    (hR : ∀ h' tk m', h'.Ns cenv.locals m' → h'.PlainList D (ys₀ ++ ws.filter p).toArray → (∀ b o, b ≠ cenv.locals → b ∉ wr → b ≠ D → s.heap.get? b = some o → h'.get? b = some o) → R (.ok .next) { s with heap := h', toks := tk }) :
    codeAny (model prog w) A (.compStart (twoC elt it0 it1 x y px py ifs scope pos) 1 (.ref I) (.ref D) cenv) R s := by
  subst helt
  have hCw : cenv.locals ∉ wr := fun h => hCf (W.sub _ h)
  have hDw : D ∉ wr := fun h => hDf (W.sub _ h)
  have hp : (cenv.scope.kind == .class || (cenv.scope.kind == .module && cenv.locals != cenv.globals)) = false := by rw [hk]; rfl
  have loop : codeAny (model prog w) A (.compLoop (twoC (.Name y pe) it0 it1 x y px py ifs scope pos) 1 (.ref I) (.ref D) cenv) R s := by
    refine loop_in
      (fun k s' => ∃ h' tk m' i, s' = { s with heap := h', toks := tk } ∧ St i h' ∧ h'.PlainList D (List.toArray (ys₀ ++ (ws.take i).filter p)) ∧ h'.Ns cenv.locals m' ∧ i ≤ ws.length ∧ k = ws.length + 1 - i ∧
        (∀ b o, b ≠ cenv.locals → b ∉ wr → b ≠ D → s.heap.get? b = some o → h'.get? b = some o)) ?_ (ws.length + 1)
      ⟨s.heap, s.toks, m, 0, rfl, hst, by simpa using hacc, hn, Nat.zero_le _, rfl, fun _ _ _ _ _ e => e⟩
    rintro k s' ⟨H, tk, m', i, rfl, hst', hacc', hn', hi, rfl, hkp⟩
    by_cases hlt : i < ws.length
    · refine W.item i _ _ _ hlt hst' fun v h₁ tk₁ hv hst₁ hk₁ => ?_
      have hmem : v ∈ ws := List.mem_of_getElem? hv
      refine wpAny_assign_Name (wpAny_storeName_local hx (hn'.at' fun o e => hk₁ _ o hCw e) (fun h₂ hn₂ hs₂ => ?_) hp)
      have up₂ : ∀ b o, b ≠ cenv.locals → b ∉ wr → H.get? b = some o → h₂.get? b = some o := fun b o hbC hbf e => hs₂.extBut b o hbC (hk₁ b o hbf e)
      have hst₂ : St (i + 1) h₂ := W.frame _ _ _ hst₁ fun b hb o e => hs₂.extBut b o (fun h => hCf (h ▸ hb)) e
      have hacc₂ := hacc'.at fun o e => up₂ D o hDC hDw e
      refine wpAny_mono (htests v _ _ _ hn₂ hmem (by simp) (fun b o hbC hbf hbD e => up₂ b o hbC hbf (hkp b o hbC hbf hbD e))) (fun ok s₃ h₃ => ?_) fun _ _ e => e
      obtain ⟨rfl, h₃, tk₃, rfl, hk₃⟩ := h₃
      have hst₃ : St (i + 1) h₃ := W.frame _ _ _ hst₂ fun b hb o e => hk₃ b o e
      have hacc₃ := hacc₂.at fun o e => hk₃ _ o e
      have hn₃ := hn₂.at' fun o e => hk₃ _ o e
      have htake := take_succ_filter p ws i v hv
      cases hpv : p v with
      | false =>
        simp only [Bool.false_eq_true, if_false]
        refine ⟨ws.length + 1 - (i + 1), by omega, h₃, tk₃, _, i + 1, rfl, hst₃, ?_, hn₃, hlt, rfl, fun b o hbC hbf hbD e => hk₃ b o (up₂ b o hbC hbf (hkp b o hbC hbf hbD e))⟩
        rw [htake, hpv]; simpa using hacc₃
      | true =>
        simp only [if_true]
        refine wpAny_Name (wpAny_loadName_local (v := v) hk hx hn₃ (by simp) ?_) hyd
        have hys : (ys₀ ++ (ws.take i).filter p).toArray.size ≤ sizeLine := by
          rw [List.size_toArray, List.length_append]
          have := List.length_filter_le p (ws.take i)
          have h2 : (ws.take i).length ≤ ws.length := by rw [List.length_take]; omega
          omega
        refine wpAny_list_append_plain (hsz := hys) hacc₃ fun h₅ hl₅ hs₅ => ?_
        refine ⟨ws.length + 1 - (i + 1), by omega, h₅, tk₃, _, i + 1, rfl, ?_, ?_, hn₃.sameBut hs₅ (Ne.symm hDC), hlt, rfl, fun b o hbC hbf hbD e => hs₅.extBut b o hbD (hk₃ b o (up₂ b o hbC hbf (hkp b o hbC hbf hbD e)))⟩
        · exact W.frame _ _ h₅ hst₃ fun b hb o e => hs₅.extBut b o (fun h => hDf (h ▸ hb)) e
        · rw [htake, hpv]; simpa using hl₅
    · obtain rfl : i = ws.length := by omega
      refine W.done _ _ _ hst' fun h₁ tk₁ hk₁ => ?_
      refine hR h₁ tk₁ m' (hn'.at' fun o e => hk₁ _ o hCw e) ?_ fun b o hbC hbf hbD e => hk₁ b o hbf (hkp b o hbC hbf hbD e)
      have := hacc'.at fun o e => hk₁ _ o hDw e
      rwa [List.take_of_length_le (Nat.le_refl _)] at this
  exact start_in loop (W.self 0 _ _ _ hst loop)

theorem loop_out {elt it0 it1 : Expr} {x y : Str} {px py : Pos} {ifs : List Expr} {scope : Scope} {pos : Pos} {it acc : Value} {env : Env} (I : Nat → Shared → Prop) (hf : ∀ xv, foldedSetIterable it1 env xv = pure xv)
    (turn : ∀ n s, I n s → wpAny (model prog w) A (pyNext it) (fun r s₁ => match r with
      | none => R (.ok .next) s₁
      | some v => wpAny (model prog w) A (assign (.Name x px) env v) (fun _ s₂ => wpAny (model prog w) A (eval it1 env) (fun xv s₃ => wpAny (model prog w) A (pyIter xv) (fun it' s₄ =>
          codeAny (model prog w) A (.compStart (twoC elt it0 it1 x y px py ifs scope pos) 1 it' acc env) (fun r s₅ => r = .ok .next ∧ ∃ m, m < n ∧ I m s₅) s₄)
          (notedBy (model prog w) A env fun e s' => R (.error e) s') s₃) (notedBy (model prog w) A env fun e s' => R (.error e) s') s₂) (notedBy (model prog w) A env fun e s' => R (.error e) s') s₁) (notedBy (model prog w) A env fun e s' => R (.error e) s') s)
    (n : Nat) (h : I n s) :
    codeAny (model prog w) A (.compLoop (twoC elt it0 it1 x y px py ifs scope pos) 0 it acc env) R s := by
  refine codeAny_loop rfl I (fun n s hI => ?_) n h
  show wpAny _ A ((compTurn (twoC elt it0 it1 x y px py ifs scope pos) 0 it acc env).onRaise (fun x => do noteFrame x env; theTreesLotGoes x)) _ _ s
  refine wpAny_noted ?_
  rw [turn_out]
  refine wpAny_bind (wpAny_standAt (wpAny_bind (wpAny_mono (turn n s hI) (fun r s₁ h₁ => ?_) fun _ _ h' => h')))
  cases r with
  | none => exact wpAny_pure h₁
  | some v =>
    refine wpAny_bind (wpAny_of_eq (a := ()) rfl ?_)
    refine wpAny_bind (wpAny_mono h₁ (fun _ s₂ h₂ => wpAny_bind (wpAny_mono h₂ (fun xv s₃ h₃ => ?_) fun _ _ h' => h')) fun _ _ h' => h')
    refine wpAny_bind (wpAny_standAt (wpAny_bind (wpAny_of_eq (hf xv) (wpAny_bind (wpAny_holding (wpAny_mono h₃ (fun it' s₄ h₄ => ?_) fun _ _ h' => h'))))))
    refine wpAny_bind (wpAny_runOwn (h := none) (codeAny_mono h₄ ?_))
    rintro r s₅ ⟨rfl, hm⟩
    exact wpAny_pure ⟨rfl, hm⟩

/-- the items of the items, in one list -/
theorem comp_flat {E : Value → Shared → Prop} {env : Env} {it0 : Expr} {x y : Str} {px py pe p1 : Pos} {ifs : List Expr} {scope : Scope} {cl : List (Str × Addr)} {pos : Pos} {Q : Value → Shared → Prop} (hh : A.handled = none)
    (hclos : closureFor scope env = pure cl) (hcell : ∀ y ∈ scope.names, y.2 ≠ .cell) (hkind : scope.kind = .function)
    (hnames : ∀ y ∈ scope.names, y.2 = .local → scope.names.lookup y.1 = some .local) (hx : scope.names.lookup x = some .local) (hy : scope.names.lookup y = some .local) (hs : ∀ x, foldedSetIterable it0 env x = pure x)
    (hxd : (x == ("__debug__" : Str)) = false) (hyd : (y == ("__debug__" : Str)) = false)
    (h : wpAny (model prog w) A (eval it0 env) (fun xv s₁ => ∃ (ax : Addr) (vs : List Value) (ws : List (List Value)) (p : Value → Bool), xv = .ref ax ∧ s₁.heap.IsList ax vs.toArray ∧ vs.length = ws.length ∧ vs.length ≤ sizeLine ∧ ws.flatten.length ≤ sizeLine ∧
      (∀ (i : Nat) v, vs[i]? = some v → ∃ a u, v = .ref a ∧ ws[i]? = some u ∧ (s₁.heap.IsTuple a u.toArray ∨ s₁.heap.IsList a u.toArray)) ∧
      (∀ C v u s₂ m₂ E', (∀ b o, s₁.heap.get? b = some o → s₂.heap.get? b = some o) → u ∈ ws → v ∈ u → s₂.heap.Ns C m₂ → m₂ y = some v →
        wpAny (model prog w) A (forIn ifs true fun c r => if r = true then do let ok ← isTrue c (compEnvC scope cl C env) (eval c (compEnvC scope cl C env)); pure (ForInStep.yield ok) else pure (ForInStep.yield r)) (fun ok s₃ => ok = p v ∧ Keeps s₂ s₃) E' s₂) ∧
      ∀ D h' tk, h'.IsList D (ws.flatten.filter p).toArray → s₁.heap.get? D = none → (∀ b o, s₁.heap.get? b = some o → h'.get? b = some o) → Q (.ref D) { s₁ with heap := h', toks := tk }) E s) :
    wpAny (model prog w) A (eval (twoC (.Name y pe) it0 (.Name x p1) x y px py ifs scope pos) env) Q E s := by
  rw [eval_ListComp]
  refine wpAny_comprehension_free (use := none) rfl hs hclos hkind hnames (wpAny_mono h (fun xv s₁ h₁ => ?_) fun _ _ e => e)
  obtain ⟨ax, vs, ws, p, rfl, hl, hlen, hsz, hsz2, hin, htests, hQ⟩ := h₁
  refine wpAny_pyIter_list hl (wpAny_newObj_type (hd := by size_fits) (wpAny_newFunctionEnv hcell (by intro y hy; simp at hy) (fun h₁ hns₁ hsb₁ => ?_) hkind))
  dsimp only at hns₁ hsb₁ ⊢
  obtain ⟨ol, hol, hol'⟩ := id hl
  have hax : ax < s₁.heap.objs.size := Heap.lt_size hol
  have gn : ∀ a, s₁.heap.objs.size ≤ a → s₁.heap.get? a = none := fun a ha => gone a ha
  generalize hH1 : s₁.heap.push { cls := .type "list_iterator", data := .fields #[.ref ax, .int 0 0] } = H1 at hns₁ hsb₁ ⊢
  have hD : H1.objs.size = s₁.heap.objs.size + 1 := by rw [← hH1, Heap.size_push]
  generalize hH2 : H1.push { cls := .type "list", dict := none, data := .seq ([] : List Value).toArray } = H2 at hns₁ hsb₁ ⊢
  have hC : H2.objs.size = s₁.heap.objs.size + 2 := by rw [← hH2, Heap.size_push, hD]
  generalize hIe : s₁.heap.objs.size = I at hax gn hD hC ⊢
  generalize hDe : H1.objs.size = D at hD ⊢
  generalize hCe : H2.objs.size = C at hC hns₁ hsb₁ ⊢
  have hax' : @LT.lt Nat _ ax I := hax
  have below : ∀ b, b < I → b ≠ C ∧ b ≠ I ∧ b ≠ D := fun b hb => ⟨by omega, by omega, by omega⟩
  have old : ∀ b o, s₁.heap.get? b = some o → h₁.get? b = some o := fun b o e => by
    have hb := Heap.lt_size e
    rw [hIe] at hb
    exact hsb₁.extBut b o (below b hb).1 (Heap.get?_push_of_some _ (hH2 ▸ Heap.get?_push_of_some _ (hH1 ▸ Heap.get?_push_of_some _ e)))
  have hit : h₁.IsListIter I ax 0 :=
    ⟨_, hsb₁.extBut _ _ (by show @Ne Nat _ _; omega) (Heap.get?_push_of_some _ (hH2 ▸ Heap.get?_push_of_some _ (hH1 ▸ hIe ▸ Heap.get?_push_size _ rfl))), rfl, rfl⟩
  have hacc : h₁.PlainList D ([] : List Value).toArray := ⟨_, hsb₁.extBut _ _ (by show @Ne Nat _ _; omega) (Heap.get?_push_of_some _ (hH2 ▸ hDe ▸ Heap.get?_push_size _ rfl))⟩
  have hl₁ : h₁.IsList ax vs.toArray := ⟨ol, old _ _ hol, hol'⟩
  have hCn : s₁.heap.get? C = none := gn C (by omega)
  have hDn : s₁.heap.get? D = none := gn D (by omega)
  have hDC : D ≠ C := by show @Ne Nat D C; omega
  have hDI : D ≠ I := by show @Ne Nat D I; omega
  have hCI : C ≠ I := by show @Ne Nat C I; omega
  have W := Walks.list (prog := prog) (w := w) (A := A) hh I ax (by show @Ne Nat _ _; omega) vs.toArray
  have hDf : D ∉ [I, ax] := by intro hm; simp at hm; rcases hm with hm | hm <;> (have hm : @Eq Nat _ _ := hm; omega)
  have hCf : C ∉ [I, ax] := by intro hm; simp at hm; rcases hm with hm | hm <;> (have hm : @Eq Nat _ _ := hm; omega)
  have kC : (compEnvC scope cl C env).scope.kind = .function := by simp [compEnvC, relabel, hkind]
  have hp : ((compEnvC scope cl C env).scope.kind == .class || ((compEnvC scope cl C env).scope.kind == .module && (compEnvC scope cl C env).locals != (compEnvC scope cl C env).globals)) = false := by rw [kC]; rfl
  have loop : ∀ s₂ : Shared, s₂ = { s₁ with heap := h₁, toks := s₁.toks + ([] : List (Str × Value)).length } →
      codeAny (model prog w) A (.compLoop (twoC (.Name y pe) it0 (.Name x p1) x y px py ifs scope pos) 0 (.ref I) (.ref D) (compEnvC scope cl C env)) (compPost (model prog w) A E none Q (.ref D) C) s₂ := by
    rintro s₂ rfl
    refine loop_out (fun k s' => ∃ h' tk m' i, s' = { s₁ with heap := h', toks := tk } ∧ h'.IsListIter I ax i ∧ h'.IsList ax vs.toArray ∧ h'.PlainList D (List.toArray (((ws.take i).flatten).filter p)) ∧ h'.Ns C m' ∧ i ≤ vs.length ∧ k = vs.length + 1 - i ∧
        (∀ b o, s₁.heap.get? b = some o → h'.get? b = some o)) (fun _ => rfl) ?_ (vs.length + 1)
      ⟨h₁, _, _, 0, rfl, hit, hl₁, by simpa using hacc, hns₁, Nat.zero_le _, rfl, old⟩
    rintro k s' ⟨H, tk, m', i, rfl, hit', hl', hacc', hn', hi, rfl, hk⟩
    have hin' : ∀ b o, s₁.heap.get? b = some o → b ≠ C ∧ b ≠ I ∧ b ≠ D := fun b o e => by
      have hb := Heap.lt_size e
      rw [hIe] at hb
      exact below b hb
    by_cases hlt : i < vs.length
    · refine W.item i _ _ _ (by simpa using hlt) ⟨hit', hl'⟩ fun v h₂ tk₂ hv hst₂ hk₂ => ?_
      have hv : vs[i]? = some v := by simpa using hv
      obtain ⟨a, u, rfl, hu, hau⟩ := hin i v hv
      have humem : u ∈ ws := List.mem_of_getElem? hu
      refine wpAny_assign_Name (wpAny_storeName_local (lookup_relabel_local hx) (hn'.at' fun o e => hk₂ _ o (by simpa using hCI) e) (fun h₃ hn₃ hs₃ => ?_) hp)
      have up : ∀ b o, s₁.heap.get? b = some o → h₃.get? b = some o := fun b o e => hs₃.extBut b o (hin' b o e).1 (hk₂ b o (by simpa using (hin' b o e).2.1) (hk b o e))
      refine wpAny_Name (wpAny_loadName_local (v := .ref a) kC (lookup_relabel_local hx) hn₃ (by simp) ?_) hxd
      have hacc₃ : h₃.PlainList D _ := hacc'.at fun o e => hs₃.extBut _ _ hDC (hk₂ _ o (by simpa using hDI) e)
      have hit₃ : h₃.IsListIter I ax (i + 1) := hst₂.1.extBut hs₃.extBut (Ne.symm hCI)
      have hl₃ : h₃.IsList ax vs.toArray := ⟨ol, up _ _ hol, hol'⟩
      have hI₃ : I < h₃.objs.size := by obtain ⟨o, e, _⟩ := hit₃; exact Heap.lt_size e
      have hD₃ : D < h₃.objs.size := by obtain ⟨o, e⟩ := hacc₃; exact Heap.lt_size e
      have hC₃ : C < h₃.objs.size := by obtain ⟨o, _, _, e, _⟩ := hn₃; exact Heap.lt_size e
      have hflat : (ws.take (i + 1)).flatten = (ws.take i).flatten ++ u := by rw [List.take_add_one, hu]; simp
      have hbig : (((ws.take i).flatten).filter p).length + u.length ≤ sizeLine := by
        have h1 := List.length_filter_le p ((ws.take i).flatten)
        have h2 : ((ws.take (i + 1)).flatten).length ≤ ws.flatten.length := by
          conv => rhs; rw [← List.take_append_drop (i + 1) ws, List.flatten_append, List.length_append]
          omega
        rw [hflat, List.length_append] at h2
        omega
      -- the rest of the turn, whatever the inner thing is
      have rest : ∀ (J : Addr) (cls : String) (fp wr : List Addr) (St : Nat → Heap → Prop) (h₄ : Heap), Walks prog w A J fp wr u.length (fun i v => u[i]? = some v) St → St 0 h₄ → (∀ b ∈ fp, b = J ∨ b = a) → (∀ b ∈ wr, b = J) → (∀ b o, h₃.get? b = some o → h₄.get? b = some o) → J = h₃.objs.size →
          (∀ b ∈ fp, b ≠ D ∧ b ≠ C) →
          codeAny (model prog w) A (.compStart (twoC (.Name y pe) it0 (.Name x p1) x y px py ifs scope pos) 1 (.ref J) (.ref D) (compEnvC scope cl C env))
            (fun r s₅ => r = .ok .next ∧ ∃ m, m < vs.length + 1 - i ∧ ∃ h' tk m' i, s₅ = { s₁ with heap := h', toks := tk } ∧ h'.IsListIter I ax i ∧ h'.IsList ax vs.toArray ∧ h'.PlainList D (List.toArray (((ws.take i).flatten).filter p)) ∧ h'.Ns C m' ∧ i ≤ vs.length ∧ m = vs.length + 1 - i ∧
              (∀ b o, s₁.heap.get? b = some o → h'.get? b = some o)) { s₁ with heap := h₄, toks := tk₂ + 1 } := by
        intro J cls fp wr St h₄ W₄ hst₄ hfp hwr hk₄ hJ hfp2
        refine inner_run (s := { s₁ with heap := h₄, toks := tk₂ + 1 }) (ws := u) (p := p) rfl W₄ (lookup_relabel_local hy) kC hyd hDC (fun hm => (hfp2 D hm).1 rfl) (fun hm => (hfp2 C hm).2 rfl) hst₄ (hacc₃.at fun o e => hk₄ _ o e) (hn₃.keeps hk₄) hbig ?_ ?_
        · intro v s₅ m₅ E' hns₅ hvu hmv hk₅
          refine htests C v u s₅ m₅ E' (fun b o e => ?_) humem hvu hns₅ hmv
          have hbI := Heap.lt_size (up b o e)
          exact hk₅ b o (hin' b o e).1 (fun hm => by have := hwr b hm; rw [hJ] at this; exact absurd hbI (by rw [this]; exact Nat.lt_irrefl _)) (hin' b o e).2.2 (hk₄ b o (up b o e))
        · intro h₅ tk₅ m₅ hns₅ hpl₅ hk₅
          have up₅ : ∀ b o, b ≠ C → b ≠ D → h₃.get? b = some o → h₅.get? b = some o := fun b o h1 h2 e => by
            have hbI := Heap.lt_size e
            exact hk₅ b o h1 (fun hm => by have := hwr b hm; rw [hJ] at this; exact absurd hbI (by rw [this]; exact Nat.lt_irrefl _)) h2 (hk₄ b o e)
          refine ⟨rfl, vs.length + 1 - (i + 1), by omega, h₅, tk₅, m₅, i + 1, rfl, hit₃.at fun o e => up₅ I o (Ne.symm hCI) (Ne.symm hDI) e, hl₃.at fun o e => up₅ ax o (hin' ax ol hol).1 (hin' ax ol hol).2.2 e, ?_, hns₅, hlt, rfl, fun b o e => up₅ b o (hin' b o e).1 (hin' b o e).2.2 (up b o e)⟩
          rw [hflat, List.filter_append]
          exact hpl₅
      have haD : ∀ o, s₁.heap.get? a = some o → a ≠ D ∧ a ≠ C := fun o e => ⟨(hin' a o e).2.2, (hin' a o e).1⟩
      rcases hau with hau | hau
      · obtain ⟨oa, hoa, hoa'⟩ := id hau
        have ha₃ : h₃.IsTuple a u.toArray := ⟨oa, up _ _ hoa, hoa'⟩
        have hlt₃ := Heap.lt_size (up _ _ hoa)
        refine wpAny_pyIter_tuple ha₃ ?_
        have Wt : Walks prog w A h₃.objs.size [h₃.objs.size, a] [h₃.objs.size] u.length (fun i v => u[i]? = some v) (fun i h => h.IsTupleIter h₃.objs.size a i ∧ h.IsTuple a u.toArray) := by
          simpa using Walks.tuple (prog := prog) (w := w) (A := A) hh h₃.objs.size a (Nat.ne_of_lt hlt₃) u.toArray
        refine rest h₃.objs.size "" [h₃.objs.size, a] [h₃.objs.size] _ _ Wt ⟨⟨_, Heap.get?_push_size _ rfl, rfl, rfl⟩, ⟨oa, Heap.get?_push_of_some _ (up _ _ hoa), hoa'⟩⟩ (by intro b hb; simpa using hb) (by intro b hb; simpa using hb) (fun b o e => Heap.get?_push_of_some _ e) rfl ?_
        intro b hb
        rcases List.mem_cons.mp hb with rfl | hb
        · exact ⟨Nat.ne_of_gt hD₃, Nat.ne_of_gt hC₃⟩
        · obtain rfl : b = a := by simpa using hb
          exact haD _ hoa
      · obtain ⟨oa, hoa, hoa'⟩ := id hau
        have ha₃ : h₃.IsList a u.toArray := ⟨oa, up _ _ hoa, hoa'⟩
        have hlt₃ := Heap.lt_size (up _ _ hoa)
        refine wpAny_pyIter_list ha₃ ?_
        have Wt : Walks prog w A h₃.objs.size [h₃.objs.size, a] [h₃.objs.size] u.length (fun i v => u[i]? = some v) (fun i h => h.IsListIter h₃.objs.size a i ∧ h.IsList a u.toArray) := by
          simpa using Walks.list (prog := prog) (w := w) (A := A) hh h₃.objs.size a (Nat.ne_of_lt hlt₃) u.toArray
        refine rest h₃.objs.size "" [h₃.objs.size, a] [h₃.objs.size] _ _ Wt ⟨⟨_, Heap.get?_push_size _ rfl, rfl, rfl⟩, ⟨oa, Heap.get?_push_of_some _ (up _ _ hoa), hoa'⟩⟩ (by intro b hb; simpa using hb) (by intro b hb; simpa using hb) (fun b o e => Heap.get?_push_of_some _ e) rfl ?_
        intro b hb
        rcases List.mem_cons.mp hb with rfl | hb
        · exact ⟨Nat.ne_of_gt hD₃, Nat.ne_of_gt hC₃⟩
        · obtain rfl : b = a := by simpa using hb
          exact haD _ hoa
    · obtain rfl : i = vs.length := by omega
      refine W.done _ _ _ ⟨(by simpa using hit'), hl'⟩ fun h₂ tk₂ hk₂ => ?_
      refine ⟨m', hn'.at' fun o e => hk₂ _ o (by simpa using hCI) e, fun h₃ hs₃ => ?_⟩
      refine hQ D h₃ tk₂ ?_ hDn fun b o e => hs₃.extBut b o (hin' b o e).1 (hk₂ b o (by simpa using (hin' b o e).2.1) (hk b o e))
      have h5 := ((hacc'.at fun o e => hk₂ _ o (by simpa using hDI) e).extBut hs₃.extBut hDC).isList
      rwa [List.take_of_length_le (by omega)] at h5
  exact start_out (loop _ rfl) (W.self 0 _ _ _ ⟨hit, hl₁⟩ (loop _ rfl))
end
end Mine
end

/-! ### Flat -/
section
set_option maxRecDepth 100000
set_option maxHeartbeats 1000000
namespace Mine
open PySem PySem.W PyProof.Rows PySem.SeqAt

def Pc.flat : Pc → List PyData
  | .num i => [.int 100, .int i]
  | .dot => []
  | .rc => [.int 50, .str (Str.ofString "rc")]
def flatOf (ps : List Pc) : List PyData := ps.flatMap Pc.flat
theorem rank_flat (ps : List Pc) : ∃ ess : List (List PyData), ps.filterMap Pc.rank = ess.map .tuple ∧ ess.flatten = flatOf ps ∧ ess.length ≤ ps.length := by
  induction ps with
  | nil => exact ⟨[], rfl, rfl, Nat.le_refl _⟩
  | cons p ps ih =>
    obtain ⟨ess, h1, h2, h3⟩ := ih
    cases p with
    | num i => exact ⟨[.int 100, .int i] :: ess, by simp [Pc.rank, h1], by simp [flatOf, Pc.flat, h2], by rw [List.length_cons, List.length_cons]; omega⟩
    | dot => exact ⟨ess, (by rw [List.filterMap_cons]; exact h1), by simp [flatOf, Pc.flat, h2], by rw [List.length_cons]; omega⟩
    | rc => exact ⟨[.int 50, .str (Str.ofString "rc")] :: ess, by simp [Pc.rank, h1], by simp [flatOf, Pc.flat, h2], by rw [List.length_cons, List.length_cons]; omega⟩
theorem flatOf_len (ps : List Pc) : (flatOf ps).length ≤ 2 * ps.length := by
  induction ps with
  | nil => exact Nat.le_refl _
  | cons p ps ih =>
    have : flatOf (p :: ps) = p.flat ++ flatOf ps := rfl
    rw [this, List.length_append, List.length_cons]
    have : p.flat.length ≤ 2 := by cases p <;> simp [Pc.flat]
    omega

theorem tuples_split {h : Heap} {P : Addr → Prop} : ∀ {vs : List Value} {ess : List (List PyData)}, RdAll h P vs (ess.map .tuple) →
    ∃ ws : List (List Value), vs.length = ws.length ∧ (∀ (i : Nat) v, vs[i]? = some v → ∃ a u, v = .ref a ∧ ws[i]? = some u ∧ h.IsTuple a u.toArray) ∧ RdAll h P ws.flatten ess.flatten
  | _, [], .nil => ⟨[], rfl, (fun i v e => by simp at e), .nil⟩
  | _, es :: ess, .cons r rs => by
    obtain ⟨ws, h1, h2, h3⟩ := tuples_split rs
    obtain ⟨a, us, rfl, _, ht, hu⟩ := r.of_tuple
    refine ⟨us :: ws, by simp [h1], ?_, by simpa using hu.append h3⟩
    intro i v e
    cases i with
    | zero => simp at e; subst e; exact ⟨a, us, rfl, rfl, ht⟩
    | succ i => simpa using h2 i v (by simpa using e)
theorem lists_split {h : Heap} {P : Addr → Prop} : ∀ {vs : List Value} {ess : List (List PyData)}, RdAll h P vs (ess.map .list) →
    ∃ ws : List (List Value), vs.length = ws.length ∧ (∀ (i : Nat) v, vs[i]? = some v → ∃ a u, v = .ref a ∧ ws[i]? = some u ∧ h.IsList a u.toArray) ∧ RdAll h P ws.flatten ess.flatten
  | _, [], .nil => ⟨[], rfl, (fun i v e => by simp at e), .nil⟩
  | _, es :: ess, .cons r rs => by
    obtain ⟨ws, h1, h2, h3⟩ := lists_split rs
    obtain ⟨a, us, rfl, _, ht, hu⟩ := r.of_list
    refine ⟨us :: ws, by simp [h1], ?_, by simpa using hu.append h3⟩
    intro i v e
    cases i with
    | zero => simp at e; subst e; exact ⟨a, us, rfl, rfl, ht⟩
    | succ i => simpa using h2 i v (by simpa using e)

section
variable {prog : Program} {w : World} {A : Around} {E : Value → Shared → Prop} {s : Shared} {env : Env}

theorem call_fn {f : Addr} {o : Obj} {fd : FuncData} {e : Expr} {rest : List Expr} {pos : Pos} {Q : Value → Shared → Prop} (ho : (KK w).lookup f = some o) (hdat : o.data = .func fd)
    (h : wpAny (model prog w) A (spliced (backTo pos (starEach (e :: rest) env))) (fun vs s₁ => Cx w s₁.heap ∧ wpAny (model prog w) A (call (.ref f) vs) Q E s₁) E s)
    (he : starEach (e :: rest) env = (false, eval e env) :: starEach rest env := by rfl) :
    wpAny (model prog w) A (callWith pos (.ref f) [] (backTo pos (starEach (e :: rest) env)) []) Q E s :=
  callWith_def hdat (wpAny_mono h (fun _ _ h₁ => ⟨h₁.1.X _ _ ho, h₁.2⟩) fun _ _ x => x) he

theorem flat_ret (C : Cx w s.heap) (hh : A.handled = none) (hd : A.depth < 545) {P : Addr → Prop} (hP : FreshP s.heap P) {v : Value} {ps : List Pc} (hps : ∀ p ∈ ps, p.ok) (hlen : ps.length ≤ 5)
    (hr : Rd s.heap P v (.list (ps.map fun p => .str p.str))) :
    Ret prog w A (.ref 128) [v] (fun v' s' => Keeps s s' ∧ Rd s'.heap P v' (.list (flatOf ps))) s := by
  refine' enter (binds := [(Str.ofString "pieces", v)]) C (by omega) rfl rfl rfl rfl rfl rfl ?hkind ?h rfl rfl rfl
  case hkind => 
    intro y hy
    simp only [List.mem_singleton] at hy
    subst hy
    exact .inl rfl
  case h =>
    intro h₁ tk₁ I C₁ hk₁
    refine wpAny_execs_cons (wpAny_Return_some (comp_flat hh rfl (by decide) rfl (by decide) rfl rfl (fun _ => rfl) (by decide) (by decide) ?_))
    refine Call_ (gname (v := .ref 123) C₁ (by kernel_rfl) ?_)
    refine call_fn rfl rfl (wpAny_items_cons (wpAny_Name (wpAny_loadName_local rfl rfl I.toInCall.ns rfl ?_) (by decide)))
    refine wpAny_items_nil ⟨C₁, ?_⟩
    refine call_ret (ranks_ret (A := A.deeper _) (P := P) (ps := ps) C₁ hh (by show A.depth + 1 < 550; omega) (hP.keeps hk₁) hps hlen (hr.keeps hk₁)) fun v' s' h' => ?_
    obtain ⟨⟨h₂, tk₂, rfl, hk₂⟩, r'⟩ := h'
    obtain ⟨ax, vs, rfl, pa, hl, hv⟩ := r'.of_list
    obtain ⟨ess, e1, e2, e3⟩ := rank_flat ps
    rw [e1] at hv
    obtain ⟨ws, w1, w2, w3⟩ := tuples_split hv
    rw [e2] at w3
    have hn := hv.length
    rw [List.length_map] at hn
    have hz := sizeLine_eq
    have hfl := flatOf_len ps
    refine ⟨ax, vs, ws, fun _ => true, rfl, hl, w1, by omega, by rw [w3.length]; omega, fun i v e => ?_, ?_, ?_⟩
    · obtain ⟨a, u, e1, e2, e3⟩ := w2 i v e
      exact ⟨a, u, e1, e2, .inl e3⟩
    · intro D u us s₂ m₂ E' _ _ _ _ _
      exact wpAny_tests_nil ⟨rfl, keeps_refl _⟩
    · intro D h₃ tk₃ hl₃ hn₃ hk₃
      refine ⟨⟨h₃, tk₃, rfl, fun b o e => hk₃ b o (hk₂ b o (hk₁ b o e))⟩, ?_⟩
      have hf : ws.flatten.filter (fun _ => true) = ws.flatten := List.filter_eq_self.mpr (fun _ _ => rfl)
      rw [hf] at hl₃
      exact .mk_list (hP.keeps (fun b o e => hk₂ b o (hk₁ b o e)) _ hn₃) hl₃ (w3.keeps hk₃)
end
end Mine
end

/-! ### Due -/
section
set_option maxRecDepth 100000
set_option maxHeartbeats 1000000
namespace Mine
open PySem PySem.W PyProof.Rows PySem.SeqAt

def Atom (d : PyData) : Prop := (∃ i, d = .int i) ∨ d = .str (Str.ofString "rc")
theorem atoms_ok : ∀ {ds : List PyData}, (∀ d ∈ ds, Atom d) → PyData.canLayAll0 ds = true ∧ PyData.depthAll ds ≤ 1
  | [], _ => by simp [PyData.canLayAll0, PyData.depthAll]
  | d :: ds, h => by
    have ih := atoms_ok fun e he => h e (.tail _ he)
    have h1 : d.canLay0 = true ∧ d.depth ≤ 1 := by
      rcases h d (.head _) with ⟨i, rfl⟩ | rfl
      · simp [PyData.canLay0, PyData.depth]
      · simp [PyData.canLay0, PyData.depth]; decide +kernel
    have a := ih.2
    have b := h1.2
    simp only [PyData.canLayAll0, PyData.depthAll, h1.1, ih.1, Bool.and_self, true_and]
    omega
theorem shaped_atoms {ds : List PyData} (h : ∀ d ∈ ds, Atom d) : shaped (.list ds) = true := by
  have := atoms_ok h
  have a := this.2
  unfold shaped
  rw [Bool.and_eq_true, decide_eq_true_eq]
  simp only [PyData.canLay0, PyData.depth]
  exact ⟨this.1, by omega⟩
theorem lists_ok : ∀ {ess : List (List PyData)}, (∀ es ∈ ess, ∀ d ∈ es, Atom d) → PyData.canLayAll0 (ess.map .list) = true ∧ PyData.depthAll (ess.map .list) ≤ 2
  | [], _ => by simp [PyData.canLayAll0, PyData.depthAll]
  | es :: ess, h => by
    have ih := lists_ok fun e he => h e (.tail _ he)
    have h1 := atoms_ok (h es (.head _))
    have a := ih.2
    have b := h1.2
    simp only [List.map_cons, PyData.canLayAll0, PyData.depthAll, PyData.canLay0, PyData.depth, h1.1, ih.1, Bool.and_self, true_and]
    omega
theorem shaped_lists {ess : List (List PyData)} (h : ∀ es ∈ ess, ∀ d ∈ es, Atom d) : shaped (.list (ess.map .list)) = true := by
  have := lists_ok h
  have a := this.2
  unfold shaped
  rw [Bool.and_eq_true, decide_eq_true_eq]
  simp only [PyData.canLay0, PyData.depth]
  exact ⟨this.1, by omega⟩

def dueB (rd k : List PyData) : Bool := PyData.eqv (.list (k.take rd.length)) (.list rd) && [PyData.list [], .list [.int 100]].any fun y => PyData.eqv y (.list ((k.drop rd.length).take (rd.length + 1 - rd.length)))
def dueI (rd k : List PyData) : PyData := .int (if dueB rd k then 1 else 0)

section
variable {prog : Program} {w : World} {A : Around} {s : Shared}

theorem due_ret (C : Cx w s.heap) (hh : A.handled = none) (hd : A.depth < 545) (hu : A.units + 100 < cLine) {P : Addr → Prop} (hP : FreshP s.heap P) {v v2 : Value} {rd : List PyData} {kds : List (List PyData)}
    (hrd : ∀ d ∈ rd, Atom d) (hks : ∀ k ∈ kds, ∀ d ∈ k, Atom d) (hl1 : rd.length ≤ 100) (hl2 : kds.length ≤ 100) (hl3 : ∀ k ∈ kds, k.length ≤ 100)
    (hr : Rd s.heap P v (.list rd)) (hr2 : Rd s.heap P v2 (.list (kds.map .list))) :
    Ret prog w A (.ref 138) [v, v2] (fun v' s' => Keeps s s' ∧ Rd s'.heap P v' (.list (kds.map (dueI rd)))) s := by
  refine' enter (binds := [(Str.ofString "ranks", v), (Str.ofString "keys", v2)]) C (by omega) rfl rfl rfl rfl rfl rfl ?hkind ?h rfl rfl rfl
  case hkind => 
    intro y hy
    rcases List.mem_cons.mp hy with rfl | hy
    · exact .inr ⟨rfl, rfl⟩
    · rcases List.mem_cons.mp hy with rfl | hy
      · exact .inl rfl
      · cases hy
  case h =>
    intro h₁ tk₁ I C₁ hk₁
    obtain ⟨ar, us, rfl, par, hlr, hur⟩ := hr.of_list
    obtain ⟨ax, vs, rfl, pa, hl, hv⟩ := hr2.of_list
    have hlen : us.length = rd.length := hur.length
    have hlv : vs.length = kds.length := by simpa using hv.length
    have hz := sizeLine_eq
    refine wpAny_execs_cons (wpAny_Assign_Name ?_)
    refine Call_ (bname C₁ (by kernel_rfl) boot_len (by decide) ?_)
    refine callWith_builtin1 (wpAny_items_cons (NameCC I rfl rfl rfl rfl ?_ (by decide)))
    refine wpAny_items_nil (Calls.call_len_list (hlr.at fun o e => hk₁ _ o e) (by rw [List.size_toArray, hlen]; omega) ?_)
    refine stCC (incall_keeps I (keeps_tok _ _)) rfl rfl rfl fun s₂ I₂ => ?_
    obtain ⟨h₂, tk₂, rfl⟩ := I₂.toInCall.same
    have hk₂ := I₂.toInCall.keep
    have C₂ := C.keeps hk₂
    show wpAny _ _ (execs _ _) _ _ _
    refine wpAny_execs_cons (wpAny_Return_some (comp_eval (P := P) hh rfl (by decide) rfl (by decide) rfl (fun _ => rfl) ?_))
    refine NameLC I₂ rfl rfl rfl ?_ (by decide)
    refine ⟨ax, vs, fun i => (kds[i]?).bind fun k => some (dueI rd k), rfl, hl.at fun o e => hk₂ _ o e, by omega, hP.keeps hk₂, ?_, ?_⟩
    · intro D P₂ i u s₃ m₃ E' hu' k₃ f₃ sub hns hm hD
      obtain ⟨d, hd', ru⟩ := hv.get hu'
      obtain ⟨k, hk, rfl⟩ : ∃ k, kds[i]? = some k ∧ d = .list k := by
        rw [List.getElem?_map] at hd'
        cases hq : kds[i]? with
        | none => rw [hq] at hd'; cases hd'
        | some p => rw [hq] at hd'; cases hd'; exact ⟨p, rfl, rfl⟩
      have hkm : k ∈ kds := List.mem_of_getElem? hk
      obtain ⟨ak, ws, rfl, pak, hlk, hwk⟩ := ru.of_list
      have hlw : ws.length = k.length := hwk.length
      have hka := hks k hkm
      have h100 := hl3 k hkm
      have C₃ := C₂.keeps (ksub k₃)
      have k03 : ∀ b o, s.heap.get? b = some o → s₃.heap.get? b = some o := fun b o e => ksub k₃ b o (hk₂ b o e)
      have hsub : ∀ {b : Addr} {o : Obj}, s.heap.get? b = some o → P b → P₂ b := fun {b o} e p => sub b o (hk₂ b o e) p
      have I₃ := incall_keeps I₂ k₃
      have cR : s₃.heap.IsCell (s.heap.objs.size + 1) (some (.ref ar)) := I₃.cell (Str.ofString "ranks") _ rfl
      have cS : s₃.heap.IsCell (s.heap.objs.size + 1 + 1) (some (.int us.toArray.size (tk₁ + 1))) := I₃.cell (Str.ofString "size") _ rfl
      have hsz : ((us.toArray.size : Nat) : Int).toNat = rd.length := by rw [List.size_toArray, hlen]; rfl
      have hsz0 : (0 : Int) ≤ ((us.toArray.size : Nat) : Int) := Int.natCast_nonneg _
      refine wpAny_tests_nil ⟨keeps_refl _, ?_, ?_⟩
      · show true = ((kds[i]?).bind fun k => some (dueI rd k)).isSome
        rw [hk]; rfl
      · intro d hd'
        have hd' : (kds[i]?).bind (fun k => some (dueI rd k)) = some d := hd'
        rw [hk] at hd'
        cases hd'
        refine wpAny_IfExp (wpAny_isTrue_BoolOp (wpAny_allTrue_And_cons (wpAny_isTrue_Compare1 (sub_take ?_))))
        refine wpAny_Name (wpAny_loadName_local rfl rfl hns hm ?_) (by decide)
        refine ⟨ak, ws, rfl, hlk.at fun o e => k03 _ o e, by omega, ?_⟩
        refine wpAny_Name (wpAny_loadName_cell rfl rfl rfl cS ?_) (by decide)
        refine ⟨_, _, rfl, hsz0, keeps_refl _, fun D₁ h₄ hk₄ hn₄ hl₄ => ?_⟩
        rw [hsz] at hl₄
        have k04 : ∀ b o, s.heap.get? b = some o → h₄.get? b = some o := fun b o e => hk₄ b o (k03 b o e)
        have f₄ : FreshP h₄ P₂ := f₃.keeps hk₄
        have r1 : Rd h₄ P₂ (.ref D₁) (.list (k.take rd.length)) := .mk_list (f₃ _ hn₄) hl₄ ((hwk.take _).mono fun b o p e => ⟨k04 b o e, hsub e p⟩)
        have r2 : Rd h₄ P₂ (.ref ar) (.list rd) := hr.mono fun b o p e => ⟨k04 b o e, hsub e p⟩
        obtain ⟨_, q1⟩ := r1.reads
        obtain ⟨_, q2⟩ := r2.reads
        have ato : ∀ d ∈ k.take rd.length, Atom d := fun d hd => hka d (List.mem_of_mem_take hd)
        refine wpAny_Name (wpAny_loadName_cell rfl rfl rfl (cR.keeps hk₄) ?_) (by decide)
        refine compareEq_shaped q1 q2 (shaped_atoms ato) (shaped_atoms hrd) (by show A.units + 3 + 64 < cLine; omega) (wpAny_truthy_bool ?_)
        cases hb : PyData.eqv (.list (k.take rd.length)) (.list rd) with
        | false =>
          have hz0 : dueI rd k = .int 0 := by simp [dueI, dueB, hb]
          rw [hz0]
          exact wpAny_Constant_int ⟨⟨_, _, rfl, hk₄⟩, .int _ _⟩
        | true =>
          show wpAny _ _ (allTrue _ _ _) _ _ _
          refine wpAny_allTrue_And_cons (wpAny_isTrue_Compare1 (sub_run ?_))
          refine wpAny_Name (wpAny_loadName_local rfl rfl (hns.keeps hk₄) hm ?_) (by decide)
          refine ⟨ak, ws, rfl, hlk.at fun o e => k04 _ o e, by omega, ?_⟩
          refine wpAny_Name (wpAny_loadName_cell rfl rfl rfl (cS.keeps hk₄) ?_) (by decide)
          refine ⟨_, _, rfl, hsz0, keeps_refl _, ?_⟩
          refine wpAny_BinOp (wpAny_Name (wpAny_loadName_cell rfl rfl rfl (cS.keeps hk₄) ?_) (by decide))
          refine wpAny_Constant_int (PyProof.Rows.add_int ?_)
          refine ⟨_, _, rfl, by omega, keeps_tok _ _, fun D₂ h₅ hk₅ hn₅ hl₅ => ?_⟩
          rw [hsz, show (((us.toArray.size : Nat) : Int) + 1).toNat = rd.length + 1 from by omega] at hl₅
          have k05 : ∀ b o, s.heap.get? b = some o → h₅.get? b = some o := fun b o e => hk₅ b o (k04 b o e)
          have r3 : Rd h₅ P₂ (.ref D₂) (.list ((k.drop rd.length).take (rd.length + 1 - rd.length))) := .mk_list (f₄ _ hn₅) hl₅ (((hwk.drop _).take _).mono fun b o p e => ⟨k05 b o e, hsub e p⟩)
          refine List_ (wpAny_items_cons (List_ (wpAny_items_nil ?_)))
          refine new_list (by rw [sizeLine_eq]; show 0 ≤ _; decide) fun D₃ h₆ hk₆ hn₆ hl₆ => ?_
          refine wpAny_items_cons (List_ (wpAny_items_cons (wpAny_Constant_int (wpAny_items_nil ?_))))
          refine new_list (by rw [sizeLine_eq]; show 1 ≤ _; decide) fun D₄ h₇ hk₇ hn₇ hl₇ => ?_
          refine wpAny_items_nil (new_list (by rw [sizeLine_eq]; show 2 ≤ _; decide) fun D₅ h₈ hk₈ hn₈ hl₈ => ?_)
          have f₅ := f₄.keeps hk₅
          have f₆ := f₅.keeps hk₆
          have f₇ := f₆.keeps hk₇
          have r4 : Rd h₈ P₂ (.ref D₅) (.list [.list [], .list [.int 100]]) := .mk_list (f₇ _ hn₈) hl₈.isList
            (.cons (.mk_list (vs := []) (f₅ _ hn₆) (hl₆.isList.at fun o e => hk₈ _ o (hk₇ _ o e)) .nil) (.cons (.mk_list (f₆ _ hn₇) (hl₇.isList.at fun o e => hk₈ _ o e) (.cons (.int _ _) .nil)) .nil))
          obtain ⟨_, q3⟩ := (r3.keeps fun b o e => hk₈ b o (hk₇ b o (hk₆ b o e))).reads
          obtain ⟨_, q4⟩ := r4.reads
          have ato3 : ∀ d ∈ (k.drop rd.length).take (rd.length + 1 - rd.length), Atom d := fun d hd => hka d (List.mem_of_mem_drop (List.mem_of_mem_take hd))
          have ok3 := atoms_ok ato3
          refine in_list_reads q4 q3 (by decide) (by simpa [PyData.canLay0] using ok3.1) ?_ (wpAny_truthy_bool ?_)
          · have h1 : min (PyData.depthAll [.list [], .list [.int 100]]) (PyData.depth (.list ((k.drop rd.length).take (rd.length + 1 - rd.length)))) ≤ PyData.depthAll [.list [], .list [.int 100]] := Nat.min_le_left _ _
            have h2 : PyData.depthAll [.list [], .list [.int 100]] = 1 := by decide
            show A.units + 3 + 1 + _ < cLine
            omega
          have kall : ∀ b o, s₃.heap.get? b = some o → h₈.get? b = some o := fun b o e => hk₈ b o (hk₇ b o (hk₆ b o (hk₅ b o (hk₄ b o e))))
          have hval : dueI rd k = .int (if ([PyData.list [], .list [.int 100]].any fun y => PyData.eqv y (.list ((k.drop rd.length).take (rd.length + 1 - rd.length)))) then 1 else 0) := by
            unfold dueI dueB; rw [hb, Bool.true_and]
          rw [hval]
          cases hc : ([PyData.list [], .list [.int 100]].any fun y => PyData.eqv y (.list ((k.drop rd.length).take (rd.length + 1 - rd.length)))) with
          | false => exact wpAny_Constant_int ⟨⟨_, _, rfl, kall⟩, .int _ _⟩
          | true =>
            show wpAny _ _ (allTrue _ _ _) _ _ _
            refine wpAny_allTrue_And_nil ?_
            show wpAny _ _ (eval _ _) _ _ _
            exact wpAny_Constant_int ⟨⟨_, _, rfl, kall⟩, .int _ _⟩
    · intro v' s' k' r'
      obtain ⟨h', tk', rfl, kk⟩ := k'
      refine ⟨⟨h', tk', rfl, fun b o e => kk b o (hk₂ b o e)⟩, ?_⟩
      have e : (List.range vs.length).filterMap (fun i => (kds[i]?).bind fun k => some (dueI rd k)) = kds.map (dueI rd) := by
        rw [hlv, filterMap_range]; simp
      rw [e] at r'
      exact r'
end
end Mine
end

/-! ### SetOne -/
section
set_option maxRecDepth 100000
set_option maxHeartbeats 1000000
namespace Mine
open PySem PySem.W PyProof.Rows PySem.SeqAt

theorem slot_si_next : Slot "set_iterator" "__next__" "set_iterator.__next__" :=
  .of (owner := "set_iterator") (n := "__next__") (by rw [typeLookup_type, builtinLookup_eq_fast]; kernel_rfl) (by decide +kernel) (by decide +kernel) (by decide +kernel)
    (by first | exact .inl (by decide +kernel) | exact .inr (by decide +kernel)) (by rw [isSubtype_type]; kernel_rfl)
theorem entry_si_next : entryFor table "set_iterator.__next__" = some Builtin.«set_iterator.__next__» := entryFor_of_tree (by kernel_rfl)
theorem entry_s_iter : entryFor table "set.__iter__" = some Builtin.«frozenset.__iter__» :=
  entryFor_alias (id' := "frozenset.__iter__") (by kernel_rfl) rfl (by decide +kernel) (by kernel_rfl)
theorem args_si_next (a : Value) : argsOk "set_iterator.__next__" ⟨[a], []⟩ := by unfold argsOk; kernel_rfl
theorem args_s_iter (a : Value) : argsOk "set.__iter__" ⟨[a], []⟩ := by unfold argsOk; kernel_rfl

def table1 (j : Nat) (led : Bool) : SetTable := { mask := 7, place := #[j], dummies := #[], finger := 0, led, moves := 0, plain := false }
def setEmpty (led : Bool) : Obj := { cls := .type "set", dict := none, data := .set #[] 0 (.fresh 0 0 led) }
def setOne (hs : Int) (v : Value) (j ep : Nat) (led : Bool) : Obj := { cls := .type "set", dict := none, data := .set #[(hs, v)] ep (table1 j led) }
abbrev ledOf (w : World) : Bool := !(w.params.followText "set-order")

section
variable {prog : Program} {w : World} {A : Around} {E : Value → Shared → Prop} {s : Shared}

/-- the set at a holds x alone -/
def IsSet1 (prog : Program) (w : World) (h : Heap) (a : Addr) (x : Str) : Prop := ∃ tk j ep, h.get? a = some (setOne ((strKind prog w).hash x) (.str x tk) j ep (ledOf w))

theorem layNew_one (led : Bool) (hs : Int) (v : Value) : layNew (.fresh 0 0 led) #[] hs v = (#[(hs, v)], { mask := 7, place := #[SetTable.bits hs % 8], dummies := #[], finger := 0, led, moves := 0, plain := true }, false, false) := rfl

theorem wp_addOne {a : Addr} {led : Bool} {x : Str} {tx : Tok} {Q : Bool → Shared → Prop} (ho : s.heap.get? a = some (setEmpty led))
    (h : ∀ h', Heap.SameBut a s.heap h' → (∃ j ep, h'.get? a = some (setOne ((strKind prog w).hash x) (.str x tx) j ep led)) → Q true { s with heap := h' }) :
    wpAny (model prog w) A (setAddHashed a (.str x tx) ((strKind prog w).hash x)) Q E s := by
  have hd : (setEmpty led).data = .set #[] 0 (.fresh 0 0 led) := rfl
  unfold setAddHashed setAddHashedIn
  refine wpAny_holding (wpAny_bind (wpAny_setState_of ho hd rfl ?_))
  dsimp only
  rw [show byScan (.str x tx) #[] = true from by simp [byScan, Value.scannable, scanBound]]
  simp only [↓reduceIte]
  unfold setAddByScan
  refine wpAny_bind (wpAny_bind (wpAny_rule (wpAny_bind (wpAny_setScan_of (knd := strKind prog w) (strKind_is prog w x tx) ho hd rfl (fun e he => nomatch he) ?_))))
  dsimp only [List.findIdx?_nil]
  rw [layNew_one]
  dsimp only
  refine wpAny_bind ?_
  show wpAny _ _ (pure ()) _ _ _
  refine wpAny_pure ?_
  simp only [if_true]
  refine wpAny_bind ?_
  show wpAny _ _ (pure false) _ _ _
  refine wpAny_pure ?_
  refine wpAny_bind (wpAny_storeSet_of ho hd ?_)
  rw [if_neg (show ¬ (false = true) from Bool.false_ne_true)]
  refine wpAny_pure (wpAny_pure ?_)
  refine h _ (Heap.SameBut.update ..) ⟨SetTable.bits ((strKind prog w).hash x) % 8, 1, ?_⟩
  rw [Heap.get?_update_self _ ho rfl]
  rfl

theorem code_set_led (a : Value) {Q₁ : Value → Shared → Prop} (h : Q₁ (.ref s.heap.objs.size) { s with heap := s.heap.push (setEmpty (ledOf w)) }) :
    codeAny (model prog w) A (.call (.builtin "set.__new__") ⟨[.type "set", a], []⟩) (wants Q₁ E) s := by
  refine codeAny_of_tree ?_
  show wpAny _ A.in1 (do checkBuiltinCall "set.__new__" ⟨[.type "set", a], []⟩; again (.builtin "set.__new__" ⟨[.type "set", a], []⟩)) _ _ s
  refine wpAny_bind (wpAny_of_eq (PySem.F.newCall_set_1 a) (wpAny_pure ⟨plainId_quiet PySem.F.plain_set_new _, codeAny_builtin PySem.F.entry_set_new ?_⟩))
  rw [Around.under_plainId PySem.F.plain_set_new _]
  unfold Builtin.«set.__new__» Builtin.Frozenset.newClass
  have hsub := sub_set_self
  obtain ⟨hp, g, d, tk, os⟩ := s
  dsimp only
  wp_walk
  refine wpAny_askSetting (wpAny_pure ?_)
  dsimp only
  simp only [newObj]
  refine wpAny_bind (wpAny_alloc (wpAny_pure ?_))
  exact wpAny_pure h

theorem update_one {R : Result → Shared → Prop} {S I l : Addr} {led : Bool} {x : Str} {tx : Tok} (hh : A.handled = none) (hS : s.heap.get? S = some (setEmpty led)) (hit : s.heap.IsListIter I l 0) (hl : s.heap.IsList l #[.str x tx]) (hSI : S ≠ I) (hSl : S ≠ l) (hlI : l ≠ I)
    (h : ∀ h' tk, (∃ j ep, h'.get? S = some (setOne ((strKind prog w).hash x) (.str x tx) j ep led)) → (∀ b o, b ≠ S → b ≠ I → s.heap.get? b = some o → h'.get? b = some o) → R (.ok (.ret .none)) { s with heap := h', toks := tk }) :
    codeAny (model prog w) A (.builtin "set.update.loop" ⟨[.ref S, .ref I], []⟩) R s := by
  refine codeAny_builtin PyProof.Rows.F.entry_set_update_loop ?_
  rw [Around.under_plainId PyProof.Rows.F.plain_set_update_loop _]
  show wpAny _ A.in1 (pyNext (.ref I) >>= _) _ _ s
  refine wpAny_bind (wpAny_pyNext_list_item hit hl (x := .str x tx) rfl fun h₁ hit₁ hs₁ => ?_)
  show wpAny _ A.in1 (holding [Value.str x tx] (setAdd S (.str x tx)) >>= _) _ _ _
  refine wpAny_bind (wpAny_holding ?_)
  unfold setAdd
  refine wpAny_holding ?_
  refine wpAny_bind ((strKind prog w).pyHash (k := x) (strKind_is prog w x tx) ?_)
  refine wp_addOne (hs₁.extBut S _ hSI hS) fun h₂ hs₂ hS₂ => ?_
  refine wpAny_pure ⟨plainId_quiet PyProof.Rows.F.plain_set_update_loop _, ?_⟩
  have hit₂ : h₂.IsListIter I l 1 := hit₁.extBut hs₂.extBut (Ne.symm hSI)
  have hl₂ : h₂.IsList l #[.str x tx] := (hl.extBut hs₁.extBut hlI).extBut hs₂.extBut (Ne.symm hSl)
  refine codeAny_builtin PyProof.Rows.F.entry_set_update_loop ?_
  rw [Around.under_plainId PyProof.Rows.F.plain_set_update_loop _]
  show wpAny _ A.in1 (pyNext (.ref I) >>= _) _ _ _
  refine wpAny_bind (wpAny_pyNext_list_end hh hit₂ hl₂ rfl fun h₃ he₃ => ?_)
  show wpAny _ A.in1 (ret Value.none) _ _ _
  refine wpAny_pure (h h₃ _ ?_ fun b o b1 b2 e => he₃ b o b2 (hs₂.extBut b o b1 (hs₁.extBut b o b2 e)))
  obtain ⟨j, ep, e⟩ := hS₂
  exact ⟨j, ep, he₃ S _ hSI e⟩

set_option maxHeartbeats 4000000 in
/-- set([x]) -/
theorem call_set_one {l : Addr} {x : Str} {tx : Tok} {Q : Value → Shared → Prop} (hh : A.handled = none) (hl : s.heap.IsList l #[.str x tx])
    (h : ∀ D h' tk, s.heap.get? D = none → IsSet1 prog w h' D x → (∀ b o, s.heap.get? b = some o → h'.get? b = some o) → Q (.ref D) { s with heap := h', toks := tk }) :
    wpAny (model prog w) A (call (.type "set") [.ref l]) Q E s := by
  obtain ⟨c, tl, hmro⟩ := PySem.F.called_set.mro
  have hmade := PySem.F.called_set.made
  have hsub := PySem.F.called_set.sub
  refine wpAny_call (codeAny_of_tree ?_)
  show wpAny _ _ (callAny (.type "set") _) _ _ _
  refine wpAny_pure ⟨Code.quiet_builtin _ (by decide +kernel), codeAny_builtin PySem.F.entry_type_call ?_⟩
  rw [Around.under_plain (weight_type_call_type "set" [.ref l] []) rfl]
  have h1 := PySem.F.called_set.notType
  have h2 := PySem.F.called_set.canCreate
  have hct := PySem.F.typeCall_set_1 (.ref l)
  repeat (any_goals (first | assumption | wp_step))
  refine codeAny_mono (code_set_led (.ref l) (E := E) (Q₁ := fun obj s₁ => obj = .ref s.heap.objs.size ∧ s₁ = { s with heap := s.heap.push (setEmpty (ledOf w)) }) ⟨rfl, rfl⟩) fun r s₁ hr => ?_
  cases r with
  | error e => exact hr
  | ok fl =>
    cases fl with
    | ret obj =>
      obtain ⟨rfl, rfl⟩ := hr
      have hS : (s.heap.push (setEmpty (ledOf w))).get? s.heap.objs.size = some (setEmpty (ledOf w)) := Heap.get?_push_size _ rfl
      have hT : Shared.TypeIs { s with heap := s.heap.push (setEmpty (ledOf w)) } (.ref s.heap.objs.size) "set" := ⟨_, hS, rfl⟩
      have hli := PySem.F.called_set.init.lookup
      have hbi := PySem.F.called_set.init.bind (.ref s.heap.objs.size)
      repeat (any_goals (first | assumption | wp_step))
      refine codeAny_mono (codeAny_call_builtin (R := wants (fun r s₂ => r = .none ∧ ∃ h' tk, s₂ = { s with heap := h', toks := tk } ∧ IsSet1 prog w h' s.heap.objs.size x ∧
          (∀ b o, s.heap.get? b = some o → h'.get? b = some o)) E) PySem.F.called_set.init.plain PySem.F.entry_set_init (check_set_init_1 hT ?_)) fun r₂ s₂ hr₂ => ?_
      · obtain ⟨ol, hol, hcl, nl, hdl⟩ := hl
        obtain ⟨ocls, odict, odata, oslots⟩ := ol
        simp only at hcl hdl
        subst hcl; subst hdl
        have hol' : (s.heap.push (setEmpty (ledOf w))).get? l = some { cls := .type "list", dict := odict, data := .seq #[.str x tx] nl, slots := oslots } := Heap.get?_push_of_some _ hol
        have hsls := PySem.F.sub_list_set
        have hslf := PySem.F.sub_list_frozenset
        have hne : (Value.type "list" == Value.type "dict") = false := by decide
        have hl1 : (s.heap.push (setEmpty (ledOf w))).IsList l #[.str x tx] := ⟨_, hol', rfl, nl, rfl⟩
        unfold Builtin.«set.__init__» noKeywords Builtin.Frozenset.updateFrom
        generalize hPI : pyIter = PI
        wp_walk
        subst hPI
        refine wpAny_pyIter_list hl1 ?_
        refine wpAny_bind (wpAny_runValue ?_)
        have hlS : l < s.heap.objs.size := Heap.lt_size hol
        have e1 : (s.heap.push (setEmpty (ledOf w))).objs.size = s.heap.objs.size + 1 := Heap.size_push ..
        refine update_one (A := A.in1.in1) (led := ledOf w) (x := x) (tx := tx) (l := l) hh (Heap.get?_push_of_some _ hS) ⟨_, Heap.get?_push_size _ rfl, rfl, rfl⟩ (hl1.push _) ?_ (Nat.ne_of_gt hlS) ?_ ?_
        · show @Ne Nat s.heap.objs.size (s.heap.push (setEmpty (ledOf w))).objs.size
          rw [e1]; omega
        · show @Ne Nat l (s.heap.push (setEmpty (ledOf w))).objs.size
          rw [e1]; exact Nat.ne_of_lt (Nat.lt_succ_of_lt hlS)
        · intro h' tk hS' hk'
          show wpAny _ _ _ _ _ _
          refine wpAny_pure ?_
          show wpAny _ _ (ret Value.none) _ _ _
          obtain ⟨j, ep, hS'⟩ := hS'
          refine wpAny_pure ⟨rfl, h', tk, rfl, ⟨tx, j, ep, hS'⟩, fun b o e => hk' b o (Nat.ne_of_lt (Heap.lt_size e)) ?_ (Heap.get?_push_of_some _ (Heap.get?_push_of_some _ e))⟩
          show @Ne Nat b (s.heap.push (setEmpty (ledOf w))).objs.size
          rw [e1]; exact Nat.ne_of_lt (Nat.lt_succ_of_lt (Heap.lt_size e))
      · cases r₂ with
        | error e => exact hr₂
        | ok fl₂ =>
          cases fl₂ with
          | ret r =>
            obtain ⟨rfl, h', tk, rfl, hS', hk'⟩ := hr₂
            repeat (any_goals (first | assumption | wp_step))
            exact h _ _ _ (push_none _) hS' hk'
          | _ => exact hr₂.elim
    | _ => exact hr.elim
end
end Mine
end

/-! ### SetIter -/
section
set_option maxRecDepth 100000
set_option maxHeartbeats 1000000
namespace Mine
open PySem PySem.W PyProof.Rows PySem.SeqAt

section
variable {prog : Program} {w : World} {A : Around} {E : Value → Shared → Prop} {s : Shared}

theorem IsSet1.typeIs {a : Addr} {x : Str} (h : IsSet1 prog w s.heap a x) : s.TypeIs (.ref a) "set" := let ⟨_, _, _, e⟩ := h; ⟨_, e, rfl⟩
theorem IsSet1.at {h h' : Heap} {a : Addr} {x : Str} (i : IsSet1 prog w h a x) (k : ∀ o, h.get? a = some o → h'.get? a = some o) : IsSet1 prog w h' a x := let ⟨t, j, ep, e⟩ := i; ⟨t, j, ep, k _ e⟩

def IsSetIter (h : Heap) (it a : Addr) (slot i ep : Nat) : Prop := ∃ o, h.get? it = some o ∧ o.cls = .type "set_iterator" ∧ o.data = .fields #[rawInt slot, rawInt i, .ref a, rawInt 1, rawInt ep]

theorem iter_set {a : Addr} {hs : Int} {v : Value} {j ep : Nat} {led : Bool} {Q : Value → Shared → Prop} (ho : s.heap.get? a = some (setOne hs v j ep led))
    (h : ∀ I h', s.heap.get? I = none → IsSetIter h' I a 0 0 ep → (∀ b o, s.heap.get? b = some o → h'.get? b = some o) → Q (.ref I) { s with heap := h' }) :
    wpAny (model prog w) A (pyIter (.ref a)) Q E s := by
  have hT : s.TypeIs (.ref a) "set" := ⟨_, ho, rfl⟩
  have hd : (setOne hs v j ep led).data = .set #[(hs, v)] ep (table1 j led) := rfl
  refine wpAny_pyIter_slot hT PySem.F.slot_set_iter (wpAny_call_entry PySem.F.slot_set_iter hT entry_s_iter ?_ (args_s_iter _))
  unfold Builtin.«frozenset.__iter__» Builtin.Frozenset.slot0 slotArgs
  simp only [List.isEmpty_nil, Bool.not_true, Bool.false_eq_true, ↓reduceIte, bind_assoc, List.length_nil, bne_self_eq_false]
  unfold Builtin.Frozenset.addrOf Builtin.Frozenset.sizeOf
  refine wpAny_bind (wpAny_pure ?_)
  try dsimp only
  refine wpAny_bind (wpAny_pure ?_)
  refine wpAny_bind (wpAny_bind (wpAny_setEntries_of ho hd rfl (wpAny_pure ?_)))
  refine wpAny_bind ?_
  unfold setDrawn setsByText
  refine wpAny_bind (wpAny_setState_of ho hd rfl ?_)
  dsimp only
  refine wpAny_bind (wpAny_bind (wpAny_askSetting (wpAny_pure ?_)))
  show wpAny _ _ (pure (!(w.params.followText "set-order") && false)) _ _ _
  refine wpAny_pure ?_
  rw [Bool.and_false]
  simp only [Bool.false_eq_true, if_false]
  refine wpAny_bind (wpAny_pure ?_)
  refine wpAny_bind (wpAny_setEpoch_of ho hd rfl ?_)
  refine wpAny_bind (wpAny_newObj_type (wpAny_pure ⟨_, rfl, "set_iterator", _, ⟨_, Heap.get?_push_size _ rfl, rfl⟩, slot_si_next.lookup, ?_⟩))
  exact h _ _ (push_none _) ⟨_, Heap.get?_push_size _ rfl, rfl, rfl⟩ fun b o e => Heap.get?_push_of_some _ e

theorem IsSetIter.typeIs {it a : Addr} {k i ep : Nat} (h : IsSetIter s.heap it a k i ep) : s.TypeIs (.ref it) "set_iterator" := let ⟨_, e, c, _⟩ := h; ⟨_, e, c⟩

theorem below_one (j : Nat) : SetTable.below #[j] 0 = 0 ∧ SetTable.below #[j] (j + 1) = 1 := by
  constructor
  · show SetTable.below.go #[j] 0 1 0 1 = 0
    unfold SetTable.below.go
    rw [if_pos (by decide)]
    show (if j < 0 then _ else _) = 0
    rw [if_neg (by omega)]
    rfl
  · show SetTable.below.go #[j] (j + 1) 1 0 1 = 1
    unfold SetTable.below.go
    rw [if_pos (by decide)]
    show (if j < j + 1 then _ else _) = 1
    rw [if_pos (by omega)]
    rfl
theorem pick_one (f : Nat → Nat) (e : Int × Value) : pickOrder f #[e] = #[e] := by
  unfold pickOrder
  show pickOrder.go f 1 0 [e] #[] = _
  unfold pickOrder.go
  rw [show f 0 % [e].length = 0 from Nat.mod_one _]
  rfl

theorem wp_setNext {a : Addr} {hs : Int} {v : Value} {j ep slot given : Nat} {Q : Option (Value × Nat) → Shared → Prop} (ho : s.heap.get? a = some (setOne hs v j ep (ledOf w)))
    (h : (given = 0 ∧ slot = 0 ∧ ∀ k, ((w.params.followText "set-order") = false → k = j + 1) → Q (some (v, k)) s) ∨ (given = 1 ∧ ((w.params.followText "set-order") = false → slot = j + 1) ∧ Q none s)) :
    wpAny (model prog w) A (setNext a slot given ep) Q E s := by
  have hd : (setOne hs v j ep (ledOf w)).data = .set #[(hs, v)] ep (table1 j (ledOf w)) := rfl
  unfold setNext setsByText
  refine wpAny_bind (wpAny_setState_of ho hd rfl ?_)
  dsimp only
  refine wpAny_bind (wpAny_bind (wpAny_askSetting (wpAny_pure ?_)))
  show wpAny _ _ (if w.params.followText "set-order" = true then _ else _) _ _ _
  cases hb : w.params.followText "set-order" with
  | true =>
    rw [if_pos rfl]
    rw [if_neg (by simp)]
    unfold setWalk setsByText
    refine wpAny_bind (wpAny_bind (wpAny_setState_of ho hd rfl ?_))
    dsimp only
    refine wpAny_bind (wpAny_bind (wpAny_askSetting (wpAny_pure ?_)))
    show wpAny _ _ (if w.params.followText "set-order" = true then _ else _) _ _ _
    rw [hb, if_pos rfl]
    refine wpAny_bind (wpAny_askSetting (wpAny_pure (wpAny_pure ?_)))
    rw [pick_one]
    rcases h with ⟨rfl, rfl, h⟩ | ⟨rfl, _, h⟩
    · exact h 0 (by rw [hb]; intro e; cases e)
    · exact h
  | false =>
    rw [if_neg (by decide)]
    show wpAny _ _ (if false = true then _ else _) _ _ _
    rw [if_neg (show ¬ (false = true) from Bool.false_ne_true)]
    refine wpAny_bind ?_
    show wpAny _ _ (if (!(ledOf w) && true) = true then _ else _) _ _ _
    rw [if_neg (by simp [ledOf, hb])]
    refine wpAny_pure (wpAny_pure ?_)
    rcases h with ⟨rfl, rfl, h⟩ | ⟨rfl, hsl, h⟩
    · show Q (match #[(hs, v)][SetTable.below #[j] 0]?, #[j][SetTable.below #[j] 0]? with | some (_, x), some j => some (x, j + 1) | _, _ => none) s
      rw [(below_one j).1]
      exact h (j + 1) fun _ => rfl
    · rw [hsl hb]
      show Q (match #[(hs, v)][SetTable.below #[j] (j + 1)]?, #[j][SetTable.below #[j] (j + 1)]? with | some (_, x), some j => some (x, j + 1) | _, _ => none) s
      rw [(below_one j).2]
      exact h

theorem next_item {it a : Addr} {hs : Int} {v : Value} {j ep : Nat} {Q : Option Value → Shared → Prop} (hit : IsSetIter s.heap it a 0 0 ep) (ho : s.heap.get? a = some (setOne hs v j ep (ledOf w)))
    (hQ : ∀ h' k, IsSetIter h' it a k 1 ep → ((w.params.followText "set-order") = false → k = j + 1) → Heap.SameBut it s.heap h' → Q (some v) { s with heap := h' }) :
    wpAny (model prog w) A (pyNext (.ref it)) Q E s := by
  obtain ⟨o, hoi, hc, hdi⟩ := id hit
  have hd : (setOne hs v j ep (ledOf w)).data = .set #[(hs, v)] ep (table1 j (ledOf w)) := rfl
  unfold pyNext
  refine wpAny_bind (wpAny_attempt (wpAny_callSpecial?_slot (name := Str.ofString "__next__") hit.typeIs slot_si_next
    (wpAny_call_entry slot_si_next hit.typeIs entry_si_next ?_ (args_si_next _))))
  unfold Builtin.«set_iterator.__next__» slotArgs
  simp only [List.isEmpty_nil, Bool.not_true, Bool.false_eq_true, ↓reduceIte, List.length_nil, bne_self_eq_false]
  refine wpAny_bind (wpAny_pure ?_)
  refine wpAny_bind (wpAny_fieldsOf hoi hdi ?_)
  show wpAny _ _ (setEntries a >>= _) _ _ _
  refine wpAny_bind (wpAny_setEntries_of ho hd rfl ?_)
  rw [if_neg (by simp)]
  show wpAny _ _ (setNext a 0 0 ep >>= _) _ _ _
  refine wpAny_bind (wp_setNext ho (.inl ⟨rfl, rfl, fun k hk => ?_⟩))
  dsimp only
  refine wpAny_bind (wpAny_setField hoi hdi (by simp) ?_)
  have e1 := Heap.get?_update_self (Obj.mapFields (·.setIfInBounds 0 (rawInt (k : Int)))) hoi (Obj.isFreed_of_fields (Obj.data_mapFields hdi _))
  refine wpAny_bind (wpAny_setField (i := 1) (x := rawInt 1) e1 (Obj.data_mapFields hdi _) (by simp) ?_)
  have e2 := Heap.get?_update_self (Obj.mapFields (·.setIfInBounds 1 (rawInt 1))) e1 (Obj.isFreed_of_fields (Obj.data_mapFields (Obj.data_mapFields hdi _) _))
  refine wpAny_pure ⟨v, rfl, wpAny_pure (hQ _ k ⟨_, e2, ?_, ?_⟩ hk ((Heap.SameBut.update ..).trans (Heap.SameBut.update ..)))⟩
  · exact (Obj.cls_mapFields ..).trans ((Obj.cls_mapFields ..).trans hc)
  · rw [Obj.data_mapFields (Obj.data_mapFields hdi _)]; simp [rawInt]

theorem next_end {it a : Addr} {hs : Int} {v : Value} {j ep k : Nat} {Q : Option Value → Shared → Prop} (hh : A.handled = none) (hit : IsSetIter s.heap it a k 1 ep) (hk : (w.params.followText "set-order") = false → k = j + 1) (ho : s.heap.get? a = some (setOne hs v j ep (ledOf w)))
    (hQ : ∀ h', Heap.ExtBut it s.heap h' → Q none { s with heap := h' }) :
    wpAny (model prog w) A (pyNext (.ref it)) Q E s := by
  obtain ⟨o, hoi, hc, hdi⟩ := id hit
  have hd : (setOne hs v j ep (ledOf w)).data = .set #[(hs, v)] ep (table1 j (ledOf w)) := rfl
  unfold pyNext
  refine wpAny_bind (wpAny_attempt (wpAny_callSpecial?_slot (name := Str.ofString "__next__") hit.typeIs slot_si_next
    (wpAny_call_entry slot_si_next hit.typeIs entry_si_next ?_ (args_si_next _))))
  unfold Builtin.«set_iterator.__next__» slotArgs
  simp only [List.isEmpty_nil, Bool.not_true, Bool.false_eq_true, ↓reduceIte, List.length_nil, bne_self_eq_false]
  refine wpAny_bind (wpAny_pure ?_)
  refine wpAny_bind (wpAny_fieldsOf hoi hdi ?_)
  show wpAny _ _ (setEntries a >>= _) _ _ _
  refine wpAny_bind (wpAny_setEntries_of ho hd rfl ?_)
  rw [if_neg (by simp)]
  show wpAny _ _ (setNext a k 1 ep >>= _) _ _ _
  refine wpAny_bind (wp_setNext ho (.inr ⟨rfl, hk, ?_⟩))
  dsimp only
  refine wpAny_bind (wpAny_setField hoi hdi (by simp) ?_)
  show wpAny _ _ (newExc (.type "StopIteration") [] >>= _) _ _ _
  refine wpAny_bind ?_
  simp only [newExc, newTuple]
  refine wpAny_bind (wpAny_newObj_type ?_ (by size_fits))
  refine wpAny_bind (m := firstArgMember _ _) (wpAny_of_eq (a := Value.none) (by first | rfl | (simp only [firstArgMember]; rfl)) ?_)
  refine wpAny_newObj_type ?_ (by size_fits)
  simp only [raiseNew]
  refine wpAny_bind (wpAny_handled ?_)
  rw [show A.in1.handled = none from hh]
  refine wpAny_bind (wpAny_pure (wpAny_throw ?_))
  refine wpAny_bind (wpAny_isInstance (T := "StopIteration") (b := true) ⟨_, Heap.get?_push_size _ rfl, rfl⟩ isSubtype_stop ?_)
  exact wpAny_pure (hQ _ (((Heap.SameBut.update ..).extBut.push _).push _))
end
end Mine
end

/-! ### Maker -/
section
set_option maxRecDepth 100000
set_option maxHeartbeats 1000000
namespace Mine
open PySem PySem.W PyProof.Rows PySem.SeqAt

structure Reader (prog : Program) (w : World) (h : Heap) (rd ig : Addr) (x : Str) : Prop where
  parts : ∃ dx es n md dl, h.get? rd = some (instObj 109 dx) ∧ h.get? dx = some (dictOf es n) ∧ getL (Str.ofString "_mods") es = some (some (.ref md)) ∧ getL (Str.ofString "_dirs") es = some (some (.ref dl)) ∧
    getL (Str.ofString "_ignore") es = some (some (.ref ig)) ∧ getL (Str.ofString "names") es = some none ∧ IsSet1 prog w h md x ∧ h.IsList dl #[] ∧ rd ≠ ig ∧ dx ≠ ig ∧ md ≠ ig ∧ dl ≠ ig
  big : 143 < ig

section
variable {prog : Program} {w : World} {A : Around} {E : Value → Shared → Prop} {s : Shared}

def strTxt : Str := Str.ofString "<string>"

theorem dict_one {env : Env} {ke ve : PySem.Expr} {pos : Pos} {x : Str} {Q : Value → Shared → Prop}
    (h : wpAny (model prog w) A (eval ke env) (fun kv s₁ => wpAny (model prog w) A (eval ve env) (fun vv s₂ => (∃ t, kv = .str x t) ∧ (∀ b o, s.heap.get? b = some o → s₂.heap.get? b = some o) ∧ s₂.heap.DictOf (strKind prog w) s.heap.objs.size [] ∧
      ∀ h' tk, h'.DictOf (strKind prog w) s.heap.objs.size [(x, vv)] → Heap.SameBut s.heap.objs.size s₂.heap h' → Q (.ref s.heap.objs.size) { s₂ with heap := h', toks := tk }) E s₁) E
      { s with heap := s.heap.push { cls := .type "dict", data := .dict #[] } }) :
    wpAny (model prog w) A (eval (.Dict [some ke] [ve] pos) env) Q E s := by
  refine wpAny_Dict_pairs (knd := strKind prog w) (pairs := [(eval ke env, do let x ← eval ve env; standAt pos; pure x)]) rfl (by simp) (by simp) ?_
  refine evalPairs_cons (wpAny_mono h (fun kv s₁ h₁ => wpAny_bind (wpAny_mono h₁ (fun vv s₂ h₂ => wpAny_bind (wpAny_standAt (wpAny_pure (evalPairs_nil ?_)))) fun _ _ e => e)) fun _ _ e => e)
  obtain ⟨⟨t, rfl⟩, _, hD, hQ⟩ := h₂
  exact ⟨[(x, vv)], ⟨strKind_is prog w x t, rfl, trivial⟩, hD, fun h' hD' hs' => hQ h' _ hD' hs'⟩

theorem make_ret (C : Cx w s.heap) (hh : A.handled = none) (hd : A.depth < 545) {l : Addr} {x : Str} {tx : Tok} (hl : s.heap.IsList l #[.str x tx]) :
    Ret prog w A (.ref 109) [.ref l] (fun v s' => Keeps s s' ∧ ∃ rd ig t, v = .ref rd ∧ Reader prog w s'.heap rd ig x ∧ s'.heap.DictOf (strKind prog w) ig [(strTxt, .int 1 t)] ∧ s.heap.get? ig = none) s := by
  obtain ⟨h₀, g₀, d₀, t₀, os₀⟩ := s
  refine make_core (makes_of C.X (by kernel_rfl)) (looks_findIn (K := KK w) C.X (r := some (.ref 99)) (by kernel_rfl)) (fun self => bind_fn C.X self (by kernel_rfl)) (.inl rfl) ?_
  have X₀ := C.X
  obtain ⟨mg, mb, mean, T⟩ := C.T
  have k1 : ∀ b o, h₀.get? b = some o → ((h₀.push emptyDict).push (instObj 109 h₀.objs.size)).get? b = some o := fun b o e => Heap.get?_push_of_some _ (Heap.get?_push_of_some _ e)
  have C₁ : Cx w ((h₀.push emptyDict).push (instObj 109 h₀.objs.size)) := C.keeps k1
  have hdep : (A.under (.builtin "type.__call__" ⟨[.ref 109, .ref l], []⟩)).depth < recursionLimit := by
    show A.depth + 1 < recursionLimit
    rw [recursionLimit]; omega
  refine' codeAny_call_def (binds := [(Str.ofString "self", .ref (h₀.objs.size + 1)), (Str.ofString "modules", .ref l), (Str.ofString "dirs", .none)]) hdep (C₁.X 99 _ ?ho) ?hdata ?hlim ?hcd ?hbody ?hbind ?hcell ?hloc ?h ?hco ?hgen ?hk
  case ho => exact rfl
  case hdata => exact rfl
  case hbody => exact rfl
  case hlim => exact T.nolimit.keeps k1
  case hcd => exact codeRec_of C₁.X (by rfl)
  case hco => exact rfl
  case hgen => exact rfl
  case hk => exact rfl
  case hcell => decide
  case hloc => exact locs rfl
  case hbind => exact binds_K C₁.X rfl (by exact rfl) rfl rfl rfl
  case h =>
    intro h₁ hns hk₁
    have hh' : (A.under (.builtin "type.__call__" ⟨[.ref 109, .ref l], []⟩)).handled = none := hh
    have C₂ : Cx w h₁ := C₁.keeps hk₁
    have hsz : ((h₀.push emptyDict).push (instObj 109 h₀.objs.size)).objs.size = h₀.objs.size + 2 := by rw [Heap.size_push, Heap.size_push]
    have F : Fr h₀ (h₀.objs.size + 2) h₁ (fun y => [(Str.ofString "self", Value.ref (h₀.objs.size + 1)), (Str.ofString "modules", .ref l), (Str.ofString "dirs", .none)].reverse.lookup y) :=
      ⟨hsz ▸ hns, fun b o e => hk₁ b o (k1 b o e), by omega⟩
    have N : News h₀ (h₀.objs.size + 2) h₁ [(h₀.objs.size + 1, instObj 109 h₀.objs.size), (h₀.objs.size, dictOf [] 0)] := fun p hp => by
      rcases List.mem_cons.mp hp with rfl | hp
      · refine ⟨hk₁ _ _ ?_, by show @Ne Nat _ _; omega, gone _ (Nat.le_succ _)⟩
        have := Heap.get?_push_size (h₀.push emptyDict) (o := instObj 109 h₀.objs.size) rfl
        rwa [Heap.size_push] at this
      · rcases List.mem_cons.mp hp with rfl | hp
        · exact ⟨hk₁ _ _ (Heap.get?_push_of_some _ (Heap.get?_push_size _ rfl)), by show @Ne Nat _ _; omega, gone _ (Nat.le_refl _)⟩
        · cases hp
    have hl₁ : h₁.IsList l #[.str x tx] := hl.at fun o e => F.keep _ o e
    refine wpAny_execs_cons (plainObj_wpAny_Assign_Attribute (wpAny_IfExp (wpAny_isTrue_Not (wpAny_isTrue_value (wpAny_Name (wpAny_loadName_local rfl rfl hns rfl ?_) (by decide))))))
    refine wpAny_truthy_list hl₁ (by show (1 : Int) < 2 ^ 63; decide) ?_
    show wpAny _ _ (eval _ _) _ _ _
    refine Call_ (bname C₂ (by kernel_rfl) PyProof.Rows.boot_set (by decide) ?_)
    refine Pv.callWith_type1 (wpAny_items_cons (wpAny_Name (wpAny_loadName_local rfl rfl hns rfl ?_) (by decide)))
    refine wpAny_items_nil (call_set_one hh' hl₁ fun md h₂ tk₂ hmd hS₂ hk₂ => ?_)
    obtain ⟨tkS, jS, epS, hS₂⟩ := hS₂
    have F₂ := F.keeps hk₂
    have N₂ : News h₀ (h₀.objs.size + 2) h₂ ((md, setOne ((strKind prog w).hash x) (.str x tkS) jS epS (ledOf w)) :: [(h₀.objs.size + 1, instObj 109 h₀.objs.size), (h₀.objs.size, dictOf [] 0)]) := fun p hp => by
      rcases List.mem_cons.mp hp with rfl | hp
      · refine ⟨hS₂, ?_, ?_⟩
        · rintro rfl; obtain ⟨o, _, _, e, _⟩ := F.ns; rw [e] at hmd; cases hmd
        · cases q : h₀.get? md with
          | none => rfl
          | some o => rw [F.keep _ _ q] at hmd; cases hmd
      · exact (N.grown hk₂) p hp
    refine wpAny_Name (wpAny_loadName_local rfl rfl (hns.keeps hk₂) rfl ?_) (by decide)
    have hmd₁ : md ≠ h₀.objs.size := fun e => by have := (N _ (.tail _ (.head _))).1; rw [← e, hmd] at this; cases this
    have hmd₂ : md ≠ h₀.objs.size + 1 := fun e => by have := (N _ (.head _)).1; rw [← e, hmd] at this; cases this
    have hx1 : h₀.objs.size + 1 ≠ h₀.objs.size := Nat.succ_ne_self _
    refine set_dict (dx := h₀.objs.size) (es' := [⟨PyData.keyHash w.params (Str.ofString "_mods"), .str (Str.ofString "_mods") _, .ref md⟩]) (n' := 1) F₂ X₀ N₂ (InstAt.of_news N₂ (.tail _ (.head _)) (.tail _ (.tail _ (.head _)))) rfl (by kernel_rfl) (by kernel_rfl) (by kernel_rfl) (by kernel_rfl) rfl rfl
      (.tail hmd₁ (.tail hx1 (.head (fun _ hp => nomatch hp)))) (by show 1 ≤ 1000; decide) ?_
    intro h₃ F₃ N₃
    have C₃ : Cx w h₃ := C.keeps F₃.keep
    have hns₃ : h₃.Ns ((h₀.push emptyDict).push (instObj 109 h₀.objs.size)).objs.size _ := hsz ▸ F₃.ns
    show wpAny _ _ (execs _ _) _ _ _
    refine wpAny_execs_cons (plainObj_wpAny_Assign_Attribute (wpAny_IfExp (wpAny_isTrue_Not (wpAny_isTrue_value (wpAny_Name (wpAny_loadName_local rfl rfl hns₃ rfl ?_) (by decide))))))
    refine wpAny_of_eq (a := false) rfl ?_
    show wpAny _ _ (eval _ _) _ _ _
    refine List_ (wpAny_items_nil (new_list (by rw [sizeLine_eq]; show 0 ≤ _; decide) fun dl h₄ hk₄ hdl hl₄ => ?_))
    obtain ⟨nl, hl₄⟩ := hl₄
    have F₄ := F₃.keeps hk₄
    have hns₄ := hns₃.keeps hk₄
    have hdlL : dl ≠ h₀.objs.size + 2 := by rintro rfl; obtain ⟨o, _, _, e, _⟩ := F₃.ns; rw [e] at hdl; cases hdl
    have hdl0 : h₀.get? dl = none := by
      cases q : h₀.get? dl with
      | none => rfl
      | some o => rw [F₃.keep _ _ q] at hdl; cases hdl
    have hdlD : dl ≠ h₀.objs.size := fun e => by have := (N₃ _ (.tail _ (.tail _ (.head _)))).1; rw [← e, hdl] at this; cases this
    have N₄ : News h₀ (h₀.objs.size + 2) h₄ ((dl, { cls := .type "list", data := .seq #[] nl }) :: _) := fun p hp => by
      rcases List.mem_cons.mp hp with rfl | hp
      · exact ⟨hl₄, hdlL, hdl0⟩
      · exact (N₃.grown hk₄) p hp
    refine wpAny_Name (wpAny_loadName_local rfl rfl hns₄ rfl ?_) (by decide)
    refine set_dict (dx := h₀.objs.size) (es' := [⟨PyData.keyHash w.params (Str.ofString "_mods"), .str (Str.ofString "_mods") _, .ref md⟩, ⟨PyData.keyHash w.params (Str.ofString "_dirs"), .str (Str.ofString "_dirs") _, .ref dl⟩]) (n' := 2) F₄ X₀ N₄
      (InstAt.of_news N₄ (.tail _ (.tail _ (.head _))) (.tail _ (.tail _ (.tail _ (.head _))))) rfl (by kernel_rfl) (by kernel_rfl) (by kernel_rfl) (by kernel_rfl) rfl rfl
      (.tail hdlD (.tail hmd₁ (.tail hx1 (.head (fun _ hp => nomatch hp))))) (by show 2 ≤ 1000; decide) ?_
    intro h₅ F₅ N₅
    have hns₅ : h₅.Ns ((h₀.push emptyDict).push (instObj 109 h₀.objs.size)).objs.size _ := hsz ▸ F₅.ns
    show wpAny _ _ (execs _ _) _ _ _
    refine wpAny_execs_cons (plainObj_wpAny_Assign_Attribute (dict_one (x := strTxt) ?_))
    refine Calls.Constant_str (wpAny_Constant_int ?_)
    have hk₅ : ∀ b o, h₅.get? b = some o → (h₅.push { cls := .type "dict", data := .dict #[] }).get? b = some o := fun b o e => Heap.get?_push_of_some _ e
    refine ⟨⟨_, rfl⟩, hk₅, Heap.DictOf.new h₅, fun h₆ tk₆ hD₆ hs₆ => ?_⟩
    have hig : h₅.get? h₅.objs.size = none := push_none _
    have hne : ∀ b o, h₅.get? b = some o → b ≠ h₅.objs.size := fun b o e q => by rw [q, hig] at e; cases e
    have hk₆ : ∀ b o, h₅.get? b = some o → h₆.get? b = some o := fun b o e => hs₆.extBut b o (hne b o e) (hk₅ b o e)
    obtain ⟨oi, esi, epi, hoi, hrest⟩ := id hD₆
    have F₆ := F₅.keeps hk₆
    have hns₆ := hns₅.keeps hk₆
    have hig0 : h₀.get? h₅.objs.size = none := by
      cases q : h₀.get? h₅.objs.size with
      | none => rfl
      | some o => rw [F₅.keep _ _ q] at hig; cases hig
    have N₆ : News h₀ (h₀.objs.size + 2) h₆ ((h₅.objs.size, oi) :: _) := fun p hp => by
      rcases List.mem_cons.mp hp with rfl | hp
      · refine ⟨hoi, ?_, hig0⟩
        intro e; obtain ⟨o, _, _, e', _⟩ := F₅.ns; exact hne _ _ e' e.symm
      · exact (N₅.grown hk₆) p hp
    have hgD := hne _ _ (N₅ _ (.tail _ (.tail _ (.tail _ (.head _))))).1
    have hgR := hne _ _ (N₅ _ (.tail _ (.tail _ (.head _)))).1
    have hgM := hne _ _ (N₅ _ (.tail _ (.head _))).1
    have hgL := hne _ _ (N₅ _ (.head _)).1
    refine wpAny_Name (wpAny_loadName_local rfl rfl hns₆ rfl ?_) (by decide)
    refine set_dict (dx := h₀.objs.size) (es' := [⟨PyData.keyHash w.params (Str.ofString "_mods"), .str (Str.ofString "_mods") _, .ref md⟩, ⟨PyData.keyHash w.params (Str.ofString "_dirs"), .str (Str.ofString "_dirs") _, .ref dl⟩, ⟨PyData.keyHash w.params (Str.ofString "_ignore"), .str (Str.ofString "_ignore") _, .ref h₅.objs.size⟩]) (n' := 3) F₆ X₀ N₆
      (InstAt.of_news N₆ (.tail _ (.tail _ (.tail _ (.head _)))) (.tail _ (.tail _ (.tail _ (.tail _ (.head _)))))) rfl (by kernel_rfl) (by kernel_rfl) (by kernel_rfl) (by kernel_rfl) rfl rfl
      (.tail (Ne.symm hgD) (.tail hdlD (.tail hmd₁ (.tail hx1 (.head (fun _ hp => nomatch hp)))))) (by show 3 ≤ 1000; decide) ?_
    intro h₇ F₇ N₇
    have hbig : 143 < h₅.objs.size := Heap.lt_size (F₅.keep 143 _ (C.X 143 _ (by exact rfl)))
    show wpAny _ _ (execs [] _) _ _ _
    refine wpAny_execs_nil ?_
    refine ⟨rfl, _, rfl, ⟨_, _, rfl, F₇.keep⟩, h₀.objs.size + 1, h₅.objs.size, _, rfl, ⟨⟨h₀.objs.size, _, _, md, dl, (N₇ _ (.tail _ (.tail _ (.tail _ (.head _))))).1, (N₇ _ (.tail _ (.tail _ (.tail _ (.tail _ (.head _)))))).1, rfl, rfl, rfl, rfl,
      ⟨_, _, _, (N₇ _ (.tail _ (.tail _ (.head _)))).1⟩, ⟨_, (N₇ _ (.tail _ (.head _))).1, rfl, _, rfl⟩, hgR, hgD, hgM, hgL⟩, hbig⟩, ⟨oi, esi, epi, (N₇ _ (.head _)).1, hrest⟩, hig0⟩
end
end Mine
end

/-! ### Names -/
section
set_option maxRecDepth 100000
set_option maxHeartbeats 1000000
namespace Mine
open PySem PySem.W PyProof.Rows PySem.SeqAt

def dotTxt : Str := Str.ofString "."
def tellB (x n : Str) : Bool := decide (n = x) || Txt.startswith n (x ++ dotTxt)
def tell (x n : Str) : Int := if tellB x n then 1 else 0

/-- the answers kept are right -/
def Inv (x : Str) (kvs : List (Str × Value)) : Prop := ∀ k v, (k, v) ∈ kvs → k ≠ strTxt → ∃ t, v = .int (tell x k) t
theorem Inv.store {x n : Str} {kvs : List (Str × Value)} {v : Value} (h : Inv x kvs) (hv : ∃ t, v = .int (tell x n) t) : Inv x (stored kvs n v) := by
  intro k u hm hk
  unfold stored at hm
  split at hm
  · obtain ⟨p, hp, e⟩ := List.mem_map.mp hm
    by_cases q : p.1 = n
    · rw [if_pos q] at e; cases e; rw [q]; exact hv
    · rw [if_neg q] at e; subst e; exact h _ _ hp hk
  · rcases List.mem_append.mp hm with hm | hm
    · exact h _ _ hm hk
    · cases List.mem_singleton.mp hm; exact hv
theorem valueAt_mem {kvs : List (Str × Value)} {k : Str} {v : Value} (h : valueAt kvs k = some v) : (k, v) ∈ kvs := by
  unfold valueAt at h
  cases q : kvs.find? (fun kv => decide (kv.1 = k)) with
  | none => simp [q] at h
  | some p =>
    rw [q] at h
    cases h
    have h1 := List.find?_some q
    have h2 := List.mem_of_find?_eq_some q
    have : p.1 = k := by simpa using h1
    rw [← this]; exact h2

section
variable {prog : Program} {w : World} {A : Around} {E : Value → Shared → Prop} {s : Shared}

theorem read_attr {rd dx : Addr} {es : List DictEntry} {n : Nat} {name : Str} {v : Value} {expr : Bool} {Q : Value → Shared → Prop} (C : Cx w s.heap) (hr : s.heap.get? rd = some (instObj 109 dx)) (hdx : s.heap.get? dx = some (dictOf es n))
    (hl : getL name es = some (some v)) (ha : findIn (KK w) (.ref 109) name = some none) (hv : handedIn v = true) (h : Q v { s with toks := s.toks + 1 }) :
    wpAny (model prog w) A (getAttr (.ref rd) name expr) Q E s :=
  get_value C.X (⟨hr, rfl, rfl, hdx⟩ : PySem.W.InstAt s.heap rd (instObj 109 dx) 109 (some (dictOf es n))) (by kernel_rfl) (findObj_own (by kernel_rfl) ha rfl hl) hv h

/-- self._ignore[modulename] = c; return c -/
theorem store_ret {env : Env} {rd dx ig : Addr} {es : List DictEntry} {nn : Nat} {n : Str} {tn : Tok} {kvs : List (Str × Value)} {c : Int} {p1 p2 p3 p4 p5 p6 p7 p8 : Pos} {j1 j2 : Nat} {Q : Flow → Shared → Prop}
    (C : Cx w s.heap) (hr : s.heap.get? rd = some (instObj 109 dx)) (hdx : s.heap.get? dx = some (dictOf es nn)) (hl : getL (Str.ofString "_ignore") es = some (some (.ref ig))) (hD : s.heap.DictOf (strKind prog w) ig kvs) (hz : kvs.length ≤ sizeLine)
    (hself : ∀ tk (Q' : Value → Shared → Prop), Q' (.ref rd) { s with toks := tk } → wpAny (model prog w) A (eval (.Name (Str.ofString "self") p1) env) Q' E { s with toks := tk })
    (hname : ∀ tk (Q' : Value → Shared → Prop), Q' (.str n tn) { s with toks := tk } → wpAny (model prog w) A (eval (.Name (Str.ofString "modulename") p3) env) Q' E { s with toks := tk })
    (h : ∀ h' t t' tk, h'.DictOf (strKind prog w) ig (stored kvs n (.int c t')) → Heap.SameBut ig s.heap h' → Q (.ret (.int c t)) { s with heap := h', toks := tk }) :
    wpAny (model prog w) A (execs [.Assign [.Subscript (.Attribute (.Name (Str.ofString "self") p1) (Str.ofString "_ignore") p2) (.Name (Str.ofString "modulename") p3) p4] (.Constant (.int c) j1 p5) p6, .Return (some (.Constant (.int c) j2 p7)) p8] env) Q E s := by
  refine wpAny_execs_cons (wpAny_Assign_Subscript (wpAny_Constant_int (Attribute_name (hself _ _ ?_))))
  refine read_attr (s := { s with toks := s.toks + 1 }) C hr hdx hl (by kernel_rfl) rfl ?_
  refine hname _ _ ?_
  refine wpAny_setItem_pairs (knd := strKind prog w) (strKind_is prog w n tn) hD (fun h' hD' hs' => ?_) hz
  show wpAny _ _ (execs _ _) _ _ _
  exact wpAny_execs_cons (wpAny_Return_some (wpAny_Constant_int (h h' _ _ _ hD' hs')))

theorem IsSet1.setOf {h : Heap} {a : Addr} {x : Str} (i : IsSet1 prog w h a x) : h.SetOf (strKind prog w) a (fun k => decide (k = x)) 1 := by
  obtain ⟨tk, j, ep, e⟩ := i
  refine ⟨_, _, _, _, e, ⟨rfl, rfl, rfl⟩, rfl, ?_, ?_, (by unfold scanBound; show 1 < 4096; decide), rfl, rfl⟩
  · intro p hp
    have hp : p = ((strKind prog w).hash x, Value.str x tk) := by simpa using hp
    subst hp
    exact ⟨⟨x, strKind_is prog w x tk, rfl⟩, rfl⟩
  · intro k
    have hd : (strKind prog w).is k (.str x tk) = decide (k = x) := KeyKind.is_eq_decide (strKind_is prog w x tk) k
    constructor
    · intro hk
      exact ⟨((strKind prog w).hash x, .str x tk), by simp, by rw [hd]; exact hk⟩
    · rintro ⟨p, hp, hk⟩
      have hp : p = ((strKind prog w).hash x, Value.str x tk) := by simpa using hp
      subst hp
      rw [hd] at hk; exact hk

theorem incall_but {s₀ τ : Shared} {L q : Addr} {m cm : Str → Option Value} {cs : List (Str × Addr)} {h' : Heap} {tk : Nat} (x : InCallC s₀ L m cs cm τ) (hk : ∀ b o, b ≠ q → τ.heap.get? b = some o → h'.get? b = some o) (hq : s₀.heap.get? q = none) (hqL : L ≠ q)
    (hqc : ∀ n c, cs.lookup n = some c → c ≠ q) : InCallC s₀ L m cs cm { τ with heap := h', toks := tk } :=
  ⟨⟨let ⟨a, b, e⟩ := x.toInCall.same; ⟨h', tk, by rw [e]⟩, x.toInCall.ns.at' fun o e => hk _ o hqL e, fun b o e => hk b o (by rintro rfl; rw [hq] at e; cases e) (x.toInCall.keep b o e), x.toInCall.fresh⟩,
    fun n c hc => let ⟨o, e, d⟩ := x.cell n c hc; ⟨o, hk _ o (hqc n c hc) e, d⟩, x.apart, x.above⟩

theorem names_ret (C : Cx w s.heap) (hh : A.handled = none) (hd : A.depth < 545) {rd ig : Addr} {x n fnm : Str} {tf tn : Tok} {kvs : List (Str × Value)} (R : Reader prog w s.heap rd ig x) (hD : s.heap.DictOf (strKind prog w) ig kvs) (hI : Inv x kvs)
    (hz : kvs.length ≤ 1000) (hn : n ≠ strTxt) (hx : x.length ≤ 1000) :
    Ret prog w A (.ref 106) [.ref rd, .str fnm tf, .str n tn] (fun v s' => (∃ t, v = .int (tell x n) t) ∧ KeepsU (fun a => a ≠ ig) s s' ∧ ∃ kvs', s'.heap.DictOf (strKind prog w) ig kvs' ∧ Inv x kvs' ∧ kvs'.length ≤ kvs.length + 1) s := by
  refine' enter (binds := [(Str.ofString "self", .ref rd), (Str.ofString "filename", .str fnm tf), (Str.ofString "modulename", .str n tn)]) C (by omega) rfl rfl rfl rfl rfl rfl ?hkind ?h rfl rfl rfl
  case hkind => 
    intro y hy
    rcases List.mem_cons.mp hy with rfl | hy
    · exact .inl rfl
    · rcases List.mem_cons.mp hy with rfl | hy
      · exact .inl rfl
      · rcases List.mem_cons.mp hy with rfl | hy
        · exact .inl rfl
        · cases hy
  case h =>
    intro h₁ tk₁ I C₁ hk₁
    obtain ⟨dx, es, nn, md, dl, hr, hdx, gm, gd, gi, _, hM, hL, n1, n2, n3, n4⟩ := R.parts
    have szl := sizeLine_eq
    have hDc : h₁.DictOf (strKind prog w) ig kvs := hD.at fun o e => hk₁ _ o e
    refine wpAny_execs_cons (wpAny_If (wpAny_isTrue_Compare1 (NameLC I rfl rfl rfl ?_ (by decide))))
    refine Attribute_name (NameLC I rfl rfl rfl ?_ (by decide))
    refine read_attr C₁ (hk₁ _ _ hr) (hk₁ _ _ hdx) gi (by kernel_rfl) rfl ?_
    refine wpAny_in_of (knd := strKind prog w) (strKind_is prog w n tn) ?_ hDc.mapOf (wpAny_truthy_bool ?_)
    · have hb : @LT.lt Nat _ 143 ig := R.big
      rw [beq_eq_false_iff_ne]
      show @Ne Nat ig 1
      omega
    cases hv : valueAt kvs n with
    | some v =>
      obtain ⟨tv, rfl⟩ := hI n v (valueAt_mem hv) hn
      show wpAny _ _ (execs _ _) _ _ _
      refine wpAny_execs_cons (wpAny_Return_some (Subscript_ (Attribute_name (NameLC (incall_keeps I (keeps_tok _ _)) rfl rfl rfl ?_ (by decide)))))
      refine read_attr (s := { s with heap := h₁, toks := _ }) C₁ (hk₁ _ _ hr) (hk₁ _ _ hdx) gi (by kernel_rfl) rfl ?_
      refine NameLC (incall_keeps I (keeps_tok _ _)) rfl rfl rfl ?_ (by decide)
      refine tail_any (T := "dict") ?_ slot_dict_getitem.lookup (wpAny_getItem_of (knd := strKind prog w) (strKind_is prog w n tn) ?_ hv ?_) rfl
      · exact hDc.typeIs (s := { s with heap := h₁, toks := _ })
      · exact hDc.mapOf
      · exact ⟨⟨_, rfl⟩, ⟨h₁, _, rfl, fun b o _ e => hk₁ b o e⟩, kvs, hDc, hI, Nat.le_succ _⟩
    | none =>
      show wpAny _ _ (execs [] _) _ _ _
      refine wpAny_execs_nil ?_
      show wpAny _ _ (execs _ _) _ _ { s with heap := h₁, toks := tk₁ + 1 + 1 }
      have I₂ := incall_keeps I (keeps_tok _ (tk₁ + 1 + 1))
      refine wpAny_execs_cons (wpAny_If (wpAny_isTrue_Compare1 (NameLC I₂ rfl rfl rfl ?_ (by decide))))
      refine Attribute_name (NameLC I₂ rfl rfl rfl ?_ (by decide))
      refine read_attr (s := { s with heap := h₁, toks := _ }) C₁ (hk₁ _ _ hr) (hk₁ _ _ hdx) gm (by kernel_rfl) rfl ?_
      have hM₁ : IsSet1 prog w h₁ md x := hM.at fun o e => hk₁ _ o e
      refine wpAny_inSet_of (knd := strKind prog w) (strKind_is prog w n tn) rfl hM₁.setOf (wpAny_truthy_bool ?_)
      by_cases hnx : n = x
      · rw [decide_eq_true hnx]
        have ht : tell x n = 1 := by unfold tell tellB; rw [decide_eq_true hnx]; rfl
        show wpAny _ _ (execs _ _) _ _ { s with heap := h₁, toks := tk₁ + 1 + 1 + 1 + 1 }
        refine store_ret (s := { s with heap := h₁, toks := tk₁ + 1 + 1 + 1 + 1 }) C₁ (hk₁ _ _ hr) (hk₁ _ _ hdx) gi hDc (by omega) (fun tk Q' q => NameLC (incall_keeps I (keeps_tok _ tk)) rfl rfl rfl q (by decide)) (fun tk Q' q => NameLC (incall_keeps I (keeps_tok _ tk)) rfl rfl rfl q (by decide)) ?_
        intro h' t t' tk hD' hs'
        exact ⟨⟨t, by rw [ht]⟩, ⟨h', tk, rfl, fun b o hb e => hs'.extBut b o hb (hk₁ b o e)⟩, _, hD', hI.store ⟨t', by rw [ht]⟩, stored_length_le _ _ _⟩
      · rw [decide_eq_false hnx]
        show wpAny _ _ (execs [] _) _ _ _
        refine wpAny_execs_nil ?_
        show wpAny _ _ (execs _ _) _ _ { s with heap := h₁, toks := tk₁ + 1 + 1 + 1 + 1 }
        refine wpAny_execs_cons (wpAny_For ?_)
        refine Attribute_name (NameLC (incall_keeps I (keeps_tok _ _)) rfl rfl rfl ?_ (by decide))
        refine read_attr (s := { s with heap := h₁, toks := _ }) C₁ (hk₁ _ _ hr) (hk₁ _ _ hdx) gm (by kernel_rfl) rfl ?_
        obtain ⟨tkS, jS, epS, hS0⟩ := hM
        have hS := hk₁ _ _ hS0
        refine iter_set hS fun It h₂ hIt hit hk₂ => ?_
        have hIs : s.heap.get? It = none := by
          cases q : s.heap.get? It with
          | none => rfl
          | some o => rw [hk₁ _ _ q] at hIt; cases hIt
        have hIL : s.heap.objs.size ≠ It := by
          intro e; obtain ⟨o, _, _, e', _⟩ := I.toInCall.ns
          have e' : h₁.get? s.heap.objs.size = some o := e'
          rw [e, hIt] at e'; cases e'
        obtain ⟨m₁, hns₁, m1, m2, m3⟩ : ∃ m₁, h₁.Ns s.heap.objs.size m₁ ∧ m₁ (Str.ofString "self") = some (.ref rd) ∧ m₁ (Str.ofString "filename") = some (.str fnm tf) ∧ m₁ (Str.ofString "modulename") = some (.str n tn) := ⟨_, I.toInCall.ns, rfl, rfl, rfl⟩
        have hne : ∀ b o, s.heap.get? b = some o → b ≠ It := fun b o e q => by rw [q, hIs] at e; cases e
        refine codeAny_forLoop (fun k τ => (k = 2 ∧ ∃ tk, τ = { s with heap := h₂, toks := tk }) ∨ (k = 1 ∧ Txt.startswith n (x ++ dotTxt) = false ∧ ∃ h' tk sl m', τ = { s with heap := h', toks := tk } ∧ IsSetIter h' It md sl 1 epS ∧ ((w.params.followText "set-order") = false → sl = jS + 1) ∧
          h'.Ns s.heap.objs.size m' ∧ m' (Str.ofString "self") = some (.ref rd) ∧ m' (Str.ofString "filename") = some (.str fnm tf) ∧ m' (Str.ofString "modulename") = some (.str n tn) ∧ h'.get? md = some (setOne ((strKind prog w).hash x) (.str x tkS) jS epS (ledOf w)) ∧ (∀ b o, s.heap.get? b = some o → h'.get? b = some o))) ?_ 2 (.inl ⟨rfl, _, rfl⟩)
        rintro k τ (⟨rfl, tk, rfl⟩ | ⟨rfl, hst, h', tk, sl, m', rfl, hit', hsl, hns', e1, e2, e3, hS', hk'⟩)
        · refine next_item hit (hk₂ _ _ hS) fun h₃ sl hit₃ hsl hs₃ => ?_
          have hns₃ : h₃.Ns s.heap.objs.size m₁ := (hns₁.keeps hk₂).sameBut hs₃ hIL
          refine wpAny_assign_Name (wpAny_storeName_local rfl hns₃ (fun h₄ hns₄ hs₄ => ?_) rfl)
          have k4 : ∀ b o, s.heap.get? b = some o → h₄.get? b = some o := fun b o e => hs₄.extBut b o (by rintro rfl; exact absurd (Heap.lt_size e) (Nat.lt_irrefl _)) (hs₃.extBut b o (hne b o e) (hk₂ b o (hk₁ b o e)))
          have C₄ : Cx w h₄ := C.keeps k4
          refine wpAny_execs_cons (wpAny_If (wpAny_isTrue_value (MethodCall_ (wpAny_Name (wpAny_loadName_local (v := .str n tn) rfl rfl hns₄ (by exact m3) ?_) (by decide)))))
          refine GM.startswith ?_
          refine callWith_method1 (wpAny_items_cons (wpAny_BinOp (wpAny_Name (wpAny_loadName_local (v := .str x tkS) rfl rfl hns₄ rfl ?_) (by decide))))
          refine Calls.Constant_str (PyProof.Rows.add_str (fun t' tk' => wpAny_items_nil (SC.startswith (wpAny_truthy_bool ?_))) (by rw [szl]; show x.length + 1 ≤ _; omega))
          cases hst : Txt.startswith n (x ++ dotTxt) with
          | true =>
            have ht : tell x n = 1 := by unfold tell tellB; rw [hst, Bool.or_true]; rfl
            rw [show Txt.startswith n (x ++ Str.ofString ".") = true from hst]
            show wpAny _ _ (execs _ _) _ _ { s with heap := h₄, toks := tk' }
            refine store_ret (s := { s with heap := h₄, toks := tk' }) C₄ (k4 _ _ hr) (k4 _ _ hdx) gi (hD.at fun o e => k4 _ o e) (by omega) (fun tk Q' q => wpAny_Name (wpAny_loadName_local rfl rfl hns₄ (by exact m1) q) (by decide)) (fun tk Q' q => wpAny_Name (wpAny_loadName_local rfl rfl hns₄ (by exact m3) q) (by decide)) ?_
            intro h' t t' tk hD' hs'
            exact ⟨⟨t, by rw [ht]⟩, ⟨h', tk, rfl, fun b o hb e => hs'.extBut b o hb (k4 b o e)⟩, _, hD', hI.store ⟨t', by rw [ht]⟩, stored_length_le _ _ _⟩
          | false =>
            rw [show Txt.startswith n (x ++ Str.ofString ".") = false from hst]
            show wpAny _ _ (execs [] _) _ _ _
            refine wpAny_execs_nil (wpAny_execs_nil ?_)
            exact ⟨1, by decide, .inr ⟨rfl, rfl, h₄, _, sl, _, rfl, (let ⟨o, e, r⟩ := hit₃; ⟨o, hs₄.extBut _ _ (Ne.symm hIL) e, r⟩), hsl, hns₄, m1, m2, m3, k4 _ _ hS0, k4⟩⟩
        · refine next_end hh hit' hsl hS' fun h₅ he₅ => ?_
          have k5 : ∀ b o, s.heap.get? b = some o → h₅.get? b = some o := fun b o e => he₅ b o (hne b o e) (hk' b o e)
          have hns₅ : h₅.Ns s.heap.objs.size m' := hns'.extBut he₅ hIL
          have C₅ : Cx w h₅ := C.keeps k5
          have ht : tell x n = 0 := by unfold tell tellB; rw [hst, decide_eq_false hnx]; rfl
          refine wpAny_execs_nil ?_
          show wpAny _ _ (execs _ _) _ _ _
          refine wpAny_execs_cons (wpAny_If (wpAny_isTrue_Compare1 (wpAny_Name (wpAny_loadName_local (v := .str fnm tf) rfl rfl hns₅ e2 ?_) (by decide))))
          refine wpAny_Constant_none (is_none (wpAny_truthy_bool ?_))
          show wpAny _ _ (execs [] _) _ _ _
          refine wpAny_execs_nil ?_
          show wpAny _ _ (execs _ _) _ _ _
          refine wpAny_execs_cons (wpAny_For ?_)
          refine Attribute_name (wpAny_Name (wpAny_loadName_local (v := .ref rd) rfl rfl hns₅ e1 ?_) (by decide))
          refine read_attr (s := { s with heap := h₅, toks := _ }) C₅ (k5 _ _ hr) (k5 _ _ hdx) gd (by kernel_rfl) rfl ?_
          have hL₅ : h₅.IsList dl #[] := hL.at fun o e => k5 _ o e
          refine wpAny_pyIter_list hL₅ ?_
          have hJs : s.heap.get? h₅.objs.size = none := by
            cases q : s.heap.get? h₅.objs.size with
            | none => rfl
            | some o => exact absurd (Heap.lt_size (k5 _ _ q)) (Nat.lt_irrefl _)
          refine codeAny_forLoop (fun k τ => k = 1 ∧ τ = { s with heap := h₅.push { cls := .type "list_iterator", data := .fields #[.ref dl, .int 0 0] }, toks := _ }) ?_ 1 ⟨rfl, rfl⟩
          rintro k τ ⟨rfl, rfl⟩
          refine wpAny_pyNext_list_end (l := dl) (i := 0) (items := #[]) hh ⟨_, Heap.get?_push_size _ rfl, rfl, rfl⟩ (hL₅.push _) rfl fun h₆ he₆ => ?_
          have k6 : ∀ b o, s.heap.get? b = some o → h₆.get? b = some o := fun b o e => he₆ b o (by rintro rfl; rw [hJs] at e; cases e) (Heap.get?_push_of_some _ (k5 b o e))
          have hns₆ : h₆.Ns s.heap.objs.size m' := (hns₅.push _).extBut he₆ (Nat.ne_of_lt (by obtain ⟨o, _, _, e, _⟩ := hns₅; exact Heap.lt_size e))
          have C₆ : Cx w h₆ := C.keeps k6
          refine wpAny_execs_nil ?_
          show wpAny _ _ (execs _ _) _ _ _
          refine store_ret (s := { s with heap := h₆, toks := _ }) C₆ (k6 _ _ hr) (k6 _ _ hdx) gi (hD.at fun o e => k6 _ o e) (by omega) (fun tk Q' q => wpAny_Name (wpAny_loadName_local rfl rfl hns₆ e1 q) (by decide)) (fun tk Q' q => wpAny_Name (wpAny_loadName_local rfl rfl hns₆ e3 q) (by decide)) ?_
          intro h' t t' tk hD' hs'
          exact ⟨⟨t, by rw [ht]⟩, ⟨h', tk, rfl, fun b o hb e => hs'.extBut b o hb (k6 b o e)⟩, _, hD', hI.store ⟨t', by rw [ht]⟩, stored_length_le _ _ _⟩
end
end Mine
end

/-! ### Told -/
section
set_option maxRecDepth 100000
set_option maxHeartbeats 1000000
namespace Mine
open PySem PySem.W PyProof.Rows PySem.SeqAt

theorem Reader.mono {prog : Program} {w : World} {h h' : Heap} {rd ig : Addr} {x : Str} (R : Reader prog w h rd ig x) (hk : ∀ b o, b ≠ ig → h.get? b = some o → h'.get? b = some o) : Reader prog w h' rd ig x := by
  obtain ⟨dx, es, n, md, dl, a1, a2, a3, a4, a5, a6, a7, a8, n1, n2, n3, n4⟩ := R.parts
  exact ⟨⟨dx, es, n, md, dl, hk _ _ n1 a1, hk _ _ n2 a2, a3, a4, a5, a6, a7.at fun o e => hk _ o n3 e, a8.at fun o e => hk _ o n4 e, n1, n2, n3, n4⟩, R.big⟩

section
variable {prog : Program} {w : World} {A : Around} {E : Value → Shared → Prop} {s : Shared} {env : Env}

theorem call_any {f : Addr} {first : List Value} {e : PySem.Expr} {rest : List PySem.Expr} {pos : Pos} {Q : Value → Shared → Prop} (hk : keepIn (KK w) (.ref f) = true)
    (h : wpAny (model prog w) A (spliced (backTo pos (starEach (e :: rest) env))) (fun vs s₁ => Cx w s₁.heap ∧ wpAny (model prog w) A (call (.ref f) (first ++ vs)) Q E s₁) E s)
    (he : starEach (e :: rest) env = (false, eval e env) :: starEach rest env := by rfl) (hplain : (backTo pos (starEach rest env)).any (·.1) = false := by rfl) :
    wpAny (model prog w) A (callWith pos (.ref f) first (backTo pos (starEach (e :: rest) env)) []) Q E s := by
  refine callWith_of (P := Cx w) ?_ (fun h c => ?_) ?_
  · rw [he]; show ((false || (backTo pos (starEach rest env)).any (·.1)) || false) = false; rw [hplain]; rfl
  · obtain ⟨k, hk', L⟩ := looks_keep (M := model prog w) hk c.X
    exact ⟨k, hk'.elim .inl (fun x => .inr (.inl x)), L⟩
  · rw [he] at h ⊢
    exact Calls.evalArgs_plain h

theorem paired_rd {h : Heap} {P : Addr → Prop} {f : Str → Int} : ∀ {ys : List Value} {ns : List Str}, Paired (fun v n => ∃ t, v = Value.int (f n) t) ys ns → RdAll h P ys (ns.map fun n => PyData.int (f n))
  | _, _, .nil => .nil
  | _, _, .cons ⟨t, e⟩ r => by subst e; exact .cons (.int _ _) (paired_rd r)

theorem paired_snoc {α β : Type} {R : α → β → Prop} : ∀ {ys : List α} {ns : List β} {y : α} {n : β}, Paired R ys ns → R y n → Paired R (ys ++ [y]) (ns ++ [n])
  | _, _, _, _, .nil, h => .cons h .nil
  | _, _, _, _, .cons a r, h => .cons a (paired_snoc r h)

theorem told_ret (C : Cx w s.heap) (hh : A.handled = none) (hd : A.depth < 535) {P : Addr → Prop} (hP : FreshP s.heap P) {x : Str} {tx : Tok} {v2 : Value} {ns : List Str} (hns' : ∀ n ∈ ns, n ≠ strTxt) (hx : x.length ≤ 1000) (hl : ns.length ≤ 100)
    (hr : Rd s.heap P v2 (.list (ns.map .str))) :
    Ret prog w A (.ref 133) [.str x tx, v2] (fun v' s' => Keeps s s' ∧ Rd s'.heap P v' (.list (ns.map fun n => .int (tell x n)))) s := by
  refine' enter (binds := [(Str.ofString "version", .str x tx), (Str.ofString "names", v2)]) C (by omega) rfl rfl rfl rfl rfl rfl ?hkind ?h rfl rfl rfl
  case hkind => 
    intro y hy
    rcases List.mem_cons.mp hy with rfl | hy
    · exact .inl rfl
    · rcases List.mem_cons.mp hy with rfl | hy
      · exact .inl rfl
      · cases hy
  case h =>
    intro h₁ tk₁ I C₁ hk₁
    obtain ⟨ax, vs, rfl, pa, hlv, hv⟩ := hr.of_list
    have szl := sizeLine_eq
    have hlen : vs.length = ns.length := by simpa using hv.length
    refine wpAny_execs_cons (wpAny_Assign_Name (Call_ (gname (v := .ref 109) C₁ (by kernel_rfl) ?_)))
    refine call_any (by kernel_rfl) (wpAny_items_cons (List_ (wpAny_items_cons (NameLC I rfl rfl rfl ?_ (by decide)))))
    refine wpAny_items_nil (new_list (by rw [sizeLine_eq]; show 1 ≤ _; decide) fun D h₂ hk₂ hD₂ hl₂ => ?_)
    have C₂ : Cx w h₂ := C₁.keeps hk₂
    refine wpAny_items_nil ⟨C₂, ?_⟩
    refine call_ret (make_ret (A := A.deeper _) (s := { s with heap := h₂, toks := _ }) (x := x) (tx := tx) C₂ hh (by show A.depth + 1 < 545; omega) hl₂.isList) fun v s₃ h₃ => ?_
    obtain ⟨k₃, rd, ig, t1, rfl, R₃, D₃, hig⟩ := h₃
    have I₃ := incall_keeps (incall_keeps I (s' := { s with heap := h₂, toks := _ }) ⟨h₂, _, rfl, hk₂⟩) k₃
    obtain ⟨h₃, tk₃, rfl, kk₃⟩ := k₃
    have hc₃ : h₃.IsCell (s.heap.objs.size + 1) none := I₃.cell (Str.ofString "reader") _ rfl
    refine wpAny_storeName_cell rfl rfl rfl hc₃ fun h₄ hc₄ hs₄ => ?_
    have hkc : ∀ b o, (∀ v, o.data ≠ .cell v) → h₃.get? b = some o → h₄.get? b = some o := fun b o hc e => hs₄.extBut b o (by
      rintro rfl
      obtain ⟨oc, ec, dc⟩ := hc₃
      rw [ec] at e; cases e; exact hc _ dc) e
    have R₄ : Reader prog w h₄ rd ig x := by
      obtain ⟨dx, es, n, md, dl, a1, a2, a3, a4, a5, a6, ⟨t7, j7, e7, a7⟩, ⟨o8, a8, c8, n8, d8⟩, n1, n2, n3, n4⟩ := R₃.parts
      exact ⟨⟨dx, es, n, md, dl, hkc _ _ (by intro v e; cases e) a1, hkc _ _ (by intro v e; cases e) a2, a3, a4, a5, a6, ⟨t7, j7, e7, hkc _ _ (by intro v e; cases e) a7⟩, ⟨o8, hkc _ _ (by intro v e; rw [d8] at e; cases e) a8, c8, n8, d8⟩, n1, n2, n3, n4⟩, R₃.big⟩
    have D₄ : h₄.DictOf (strKind prog w) ig [(strTxt, .int 1 t1)] := by
      obtain ⟨o, es, ep, ho, hc, hd', hrest⟩ := D₃
      exact ⟨o, es, ep, hkc _ _ (by intro v e; rw [hd'] at e; cases e) ho, hc, hd', hrest⟩
    have k03 : ∀ b o, s.heap.get? b = some o → h₃.get? b = some o := fun b o e => kk₃ b o (hk₂ b o (hk₁ b o e))
    have k04 : ∀ b o, s.heap.get? b = some o → h₄.get? b = some o := fun b o e => hs₄.extBut b o (fun q => absurd (Heap.lt_size e) (by rw [q]; exact Nat.not_lt.mpr (Nat.le_succ _))) (k03 b o e)
    have hns₄ : h₄.Ns s.heap.objs.size _ := I₃.toInCall.ns.sameBut hs₄ (Nat.ne_of_lt (Nat.lt_succ_self _))
    have hig0 : s.heap.get? ig = none := by
      cases q : s.heap.get? ig with
      | none => rfl
      | some o => have := hk₂ _ _ (hk₁ _ _ q); rw [show h₂.get? ig = none from hig] at this; cases this
    have hlv₄ : h₄.IsList ax vs.toArray := hlv.at fun o e => k04 _ o e
    have hax : ax ≠ ig := by rintro rfl; obtain ⟨o, e, _⟩ := hlv; rw [hig0] at e; cases e
    have higa : ∃ o, h₄.get? ig = some o := let ⟨o, _, _, e, _⟩ := D₄; ⟨o, e⟩
    have hcig : s.heap.objs.size + 1 ≠ ig := by
      intro e
      obtain ⟨o, e1, d1⟩ := hc₄
      obtain ⟨o', es, ep, e2, _, d2, _⟩ := D₄
      rw [e, e2] at e1; cases e1; rw [d2] at d1; cases d1
    show wpAny _ _ (execs _ _) _ _ { s with heap := h₄, toks := tk₃ }
    refine wpAny_execs_cons (wpAny_Return_some ?_)
    rw [eval_ListComp]
    refine wpAny_comprehension_free (use := none) rfl (fun _ => rfl) rfl rfl (by decide) ?_
    refine wpAny_Name (wpAny_loadName_local rfl rfl hns₄ rfl ?_) (by decide)
    refine comp_block (ax := ax) (vs := vs) hh (fun a => a ≠ ig) (fun C' I' D' i ys h => (ig ≠ C' ∧ ig ≠ I' ∧ ig ≠ D') ∧ (∃ kvs, h.DictOf (strKind prog w) ig kvs ∧ Inv x kvs ∧ kvs.length ≤ 1 + i) ∧ Paired (fun v n => ∃ t, v = Value.int (tell x n) t) ys (ns.take i)) (by decide) rfl rfl hlv₄ (by omega) ?_ hax ?_ ?_ ?_ ?_
    · intro a e q; obtain ⟨o, e'⟩ := higa; rw [q] at e
      have e : h₄.get? ig = none := e
      rw [e'] at e; cases e
    · rintro C' I' D' i ys h h' ⟨n0, ⟨kvs, hD, hI, hlk⟩, hp⟩ k
      exact ⟨n0, ⟨kvs, hD.at fun o e => k _ o n0.1 n0.2.1 n0.2.2 e, hI, hlk⟩, hp⟩
    · intro C' I' D' s₅ T old
      obtain ⟨o, e'⟩ := higa
      have ne : ∀ q, h₄.get? q = none → ig ≠ q := fun q e z => by rw [← z, e'] at e; cases e
      refine ⟨⟨ne _ T.nC, ne _ T.nI, ne _ T.nD⟩, ⟨_, D₄.at fun o e => old _ o e, ?_, (by show 1 ≤ 1 + 0; decide)⟩, .nil⟩
      intro k v hm hk
      cases List.mem_singleton.mp hm
      exact absurd rfl hk
    · rintro C' I' D' i v ys s₂ m₂ E' hvi T hns hm ⟨n0, ⟨kvs, hD, hI, hlk⟩, hp⟩
      obtain ⟨d, hd1, hd2⟩ := hv.get hvi
      rw [List.getElem?_map] at hd1
      obtain ⟨n, hn, rfl⟩ : ∃ n, ns[i]? = some n ∧ d = .str n := by
        cases q : ns[i]? with
        | none => rw [q] at hd1; cases hd1
        | some n => rw [q] at hd1; cases hd1; exact ⟨n, rfl, rfl⟩
      obtain ⟨tn, rfl⟩ := hd2.of_str
      have hnm : n ∈ ns := List.mem_of_getElem? hn
      have hil : i < ns.length := (List.getElem?_eq_some_iff.mp hn).1
      obtain ⟨h₅, tk₅, rfl⟩ := T.same
      have kp : ∀ b o, b ≠ ig → h₄.get? b = some o → h₅.get? b = some o := T.keep
      have k05 : ∀ b o, s.heap.get? b = some o → h₅.get? b = some o := fun b o e => kp b o (by rintro rfl; rw [hig0] at e; cases e) (k04 b o e)
      have C₅ : Cx w h₅ := C.keeps k05
      have R₅ : Reader prog w h₅ rd ig x := R₄.mono kp
      have c₅ : h₅.IsCell (s.heap.objs.size + 1) (some (.ref rd)) := let ⟨o, e, d⟩ := hc₄; ⟨o, kp _ o hcig e, d⟩
      refine wpAny_tests_nil ⟨⟨_, _, rfl, fun _ _ _ e => e⟩, ?_⟩
      simp only [if_true]
      refine MethodCall_ (wpAny_Name (wpAny_loadName_cell rfl rfl rfl c₅ ?_) (by decide))
      obtain ⟨dx, es, nn, md, dl, a1, a2, a3, a4, a5, a6, a7, a8, n1, n2, n3, n4⟩ := R₅.parts
      refine method_fn (K := KK w) (C := 109) (f := 106) C₅.X (⟨a1, rfl, rfl, a2⟩ : PySem.W.InstAt h₅ rd (instObj 109 dx) 109 (some (dictOf es nn))) (by kernel_rfl) (by kernel_rfl) (by kernel_rfl) (by kernel_rfl) (by show (lookIn _ (dictOf es nn)).map _ = _; rw [lookIn_dict, a6]; rfl) ?_
      refine call_any (first := [.ref rd]) (by kernel_rfl) (wpAny_items_cons (Calls.Constant_str ?_))
      refine wpAny_items_cons (wpAny_Name (wpAny_loadName_local rfl rfl hns hm ?_) (by decide))
      refine wpAny_items_nil ⟨C₅, ?_⟩
      refine call_ret (names_ret (A := A.deeper _) (x := x) (n := n) (kvs := kvs) C₅ hh (by show A.depth + 1 < 545; omega) R₅ hD hI (by omega) (hns' n hnm) hx) fun v s₆ h₆ => ?_
      obtain ⟨hv6, hk6, kvs', hD6, hI6, hl6⟩ := h₆
      refine ⟨hk6, n0, ⟨kvs', hD6, hI6, by omega⟩, ?_⟩
      rw [List.take_succ, hn]
      exact paired_snoc hp hv6
    · intro C' I' D' h' tk m' ys hnC hpl hj hC hD hDC hk
      obtain ⟨n0, -, hp⟩ := hj
      refine ⟨m', hnC, fun h'' hs'' => ?_⟩
      rw [hlen, List.take_length] at hp
      refine ⟨⟨h'', tk, rfl, fun b o e => hs''.extBut b o ?_ (hk b o (by rintro rfl; rw [hig0] at e; cases e) (k04 b o e))⟩, ?_⟩
      · rintro rfl
        have := k04 _ _ e
        rw [show h₄.get? _ = none from hC] at this; cases this
      · refine Rd.mk_list (vs := ys) ((hP.keeps k04) D' hD) (hpl.extBut hs''.extBut hDC).isList (paired_rd hp)
end
end Mine
end

/-! ### WpC2 -/
section
set_option maxRecDepth 100000
namespace Mine
open PySem PySem.W PyProof.Rows

section
variable {M : Model} {A : Around} {E : Value → Shared → Prop} {s : Shared} {env : Env}
theorem wpC_execs_cons {st rest} {Q : Flow → Shared → Prop} (h : wpC M A (exec st env) (fun f s' => match f with | .next => wpC M A (execs rest env) Q E s' | f => Q f s') E s) : wpC M A (execs (st :: rest) env) Q E s := fun Γ p i c => by
  rw [execs_cons, Sem.wp_bind']
  refine Sem.wp_mono M Γ _ (fun f p' s' h' => ?_) (fun _ _ _ h' => h') _ _ (h Γ p i c)
  cases f <;> first | exact h' Γ p' i c | exact h'
theorem wpC_If {test body orelse pos} {Q : Flow → Shared → Prop} (h : wpAny M A (isTrue test env (eval test env)) (fun b s₂ => if b then wpC M A (execs body env) Q E s₂ else wpC M A (execs orelse env) Q E s₂) E s) :
    wpC M A (exec (.If test body orelse pos) env) Q E s := fun Γ p i c => by
  simp only [exec_If, Sem.wp_bind', Sem.wp_cmd_standAt]
  refine Sem.wp_mono M Γ _ (fun b p₂ s₂ h₂ => ?_) (fun _ _ _ h' => h') _ _ (h Γ _ i)
  cases b <;> exact h₂ Γ p₂ i c
theorem wpC_Assign_Name {x pos' value pos} {Q : Flow → Shared → Prop} (h : wpC M A (eval value env) (fun v s₁ => wpAny M A (storeName env x v) (fun _ => Q .next) E s₁) E s)
    (hs : swapsWith value (some (.Name x pos')) pos.line env = pure false := by rfl) : wpC M A (exec (.Assign [.Name x pos'] value pos) env) Q E s := fun Γ p i c => by
  simp only [exec_Assign_Name env x pos' value pos hs, Sem.wp_bind', Sem.wp_cmd_standAt, Sem.wp_bindName, Sem.wp_pure']
  exact Sem.wp_mono M Γ _ (fun v _ s₁ h₁ => h₁ Γ _ i) (fun _ _ _ h' => h') _ _ (h Γ _ i c)
theorem wpC_runOwn {c : Code} {h : Option Value} {Q : Flow → Shared → Prop} (hc : codeC M (A.mark h) c (fun r s' => match r with | .ok f => Q f s' | .error e => cameBackBy M A env E e s') s) (hnb : h ≠ some byPass := by intro x; cases x) :
    wpC M A (runOwn c env h) Q E s := by
  unfold runOwn
  exact wpC_onRaise (wpC_mono (wpC_run (E := cameBackBy M A env E) hc hnb) (fun _ _ q => q) fun _ _ q => wpC_of q)
theorem wpC_For {target iter body orelse pos} {Q : Flow → Shared → Prop}
    (h : wpAny M A (eval iter env) (fun x s₁ => wpAny M A (pyIter x) (fun it s₂ => codeC M A (.forLoop target it body orelse env) (fun r s' => match r with | .ok f => Q f s' | .error e => cameBackBy M A env E e s') s₂) E s₁) E s)
    (hs : ∀ x, foldedSetIterable iter env x = pure x := by intro _; rfl) : wpC M A (exec (.For target iter body orelse pos) env) Q E s := by
  rw [exec_For]
  refine wpC_bind (wpC_standAt (wpC_bind (wpC_of (wpAny_mono h (fun x s₁ h₁ => ?_) fun _ _ e => e))))
  refine wpC_bind ?_
  rw [hs x]
  exact wpC_pure (wpC_bind (wpC_standAt (wpC_bind (wpC_holding (wpC_of (wpAny_mono h₁ (fun it s₂ h₂ => wpC_runOwn h₂) fun _ _ e => e))))))
theorem wpC_noted {α : Type} {m : Sem α} {Q : α → Shared → Prop} (h : wpC M A m Q (notedBy M A env E) s) : wpC M A (m.onRaise fun x => do noteFrame x env; theTreesLotGoes x) Q E s :=
  wpC_onRaise (wpC_mono h (fun _ _ q => q) fun _ _ hx => wpC_of (wpAny_bind (wpAny_mono hx (fun _ _ e => wpAny_theTreesLotGoes e) fun _ _ e => e)))
theorem codeC_loop {c : Code} {R : Result → Shared → Prop} (hq : c.quiet = true) (I : Nat → Shared → Prop)
    (turn : ∀ n s, I n s → wpC M (A.under c) (M.den c) (fun fin s' => match fin with | .done f => R (.ok f) s' | .again c' => (c' = c ∧ ∃ m, m < n ∧ I m s') ∨ (c'.quiet = true ∧ codeC M A c' R s')) (fun e s' => R (.error e) s') s)
    (n : Nat) (h : I n s) : codeC M A c R s := by
  induction n using Nat.strongRecOn generalizing s with
  | ind n ih =>
    refine codeC_of_tree (wpC_mono (turn n s h) (fun fin s' hf => ?_) fun _ _ h' => h')
    cases fin with
    | done f => exact hf
    | again c' =>
      rcases hf with ⟨rfl, m, hm, hI⟩ | hf
      · exact ⟨hq, ih m hm hI⟩
      · exact hf
theorem wpC_Try_except {body orelse : List Stmt} {h₀ : ExceptHandler} {hs : List ExceptHandler} {pos : Pos} {Q : Flow → Shared → Prop}
    (h : wpC M A (execs body env) (fun f s₁ => match f with | .next => wpC M A (execs orelse env) Q E s₁ | f => Q f s₁)
      (fun e s₁ => wpAny M A (noteFrame e env) (fun _ s₂ => wpAny M A (setFlight e none) (fun _ s₃ => wpAny M A (handleBy e env (h₀ :: hs)) Q E s₃) E s₂) E s₁) s) :
    wpC M A (exec (.Try body (h₀ :: hs) orelse [] pos) env) Q E s := by
  rw [arm_exec_Try]
  refine wpC_bind (wpC_standAt ?_)
  unfold tryStmt
  simp only [List.isEmpty_nil, if_true, List.isEmpty_cons, Bool.false_and, Bool.false_eq_true, if_false]
  refine wpC_bind (wpC_attempt (wpC_mono h (fun f s₁ h₁ => ?_) fun e s₁ h₁ => ?_))
  · cases f <;> first | exact h₁ | exact wpC_pure h₁
  · exact wpC_of (wpAny_bind (wpAny_mono h₁ (fun _ _ h₂ => wpAny_bind h₂) fun _ _ x => x))
end

section
variable {prog : Program} {w : World} {A : Around} {E : Value → Shared → Prop} {s : Shared} {env : Env}
theorem codeC_forLoop {R : Result → Shared → Prop} {target it body orelse} (I : Nat → Shared → Prop)
    (turn : ∀ n s, I n s → wpAny (model prog w) A (pyNext it) (fun r s₁ => match r with
      | none => wpAny (model prog w) A (execs orelse env) (fun f s₃ => R (.ok f) s₃) (notedBy (model prog w) A env fun e s' => R (.error e) s') s₁
      | some v => wpAny (model prog w) A (assign target env v) (fun _ s₂ => wpC (model prog w) A (execs body env) (fun f s₃ => match f with
          | .next | .cont => ∃ m, m < n ∧ I m s₃
          | .brk => R (.ok .next) s₃
          | .ret v => R (.ok (.ret v)) s₃) (notedBy (model prog w) A env fun e s' => R (.error e) s') s₂) (notedBy (model prog w) A env fun e s' => R (.error e) s') s₁) (notedBy (model prog w) A env fun e s' => R (.error e) s') s)
    (n : Nat) (h : I n s) (ht : ∀ v, letOwnedTupleGo target it v = pure () := by intro _; rfl) : codeC (model prog w) A (.forLoop target it body orelse env) R s := by
  refine codeC_loop rfl I (fun n s hI => ?_) n h
  show wpC _ _ ((forTurn target it body orelse env).onRaise (fun x => do noteFrame x env; theTreesLotGoes x)) _ _ s
  refine wpC_noted ?_
  simp only [forTurn]
  refine wpC_bind (wpC_standAt (wpC_bind (wpC_of (wpAny_onRaise (wpAny_mono (turn n s hI) (fun r s₁ h₁ => ?_) fun _ _ h' => wpAny_standAt h')))))
  cases r with
  | none => exact wpC_pure (.inr ⟨rfl, codeC_of (codeAny_block h₁)⟩)
  | some v =>
    refine wpC_bind ?_
    rw [ht v]
    refine wpC_pure (wpC_bind (wpC_of (wpAny_mono h₁ (fun _ s₂ h₂ => wpC_bind (wpC_mono h₂ (fun f s₃ h₃ => ?_) fun _ _ h' => h')) fun _ _ h' => h')))
    cases f with
    | next => exact wpC_pure (.inl ⟨rfl, h₃⟩)
    | cont => exact wpC_pure (.inl ⟨rfl, h₃⟩)
    | brk => exact wpC_pure h₃
    | ret v => exact wpC_pure h₃

theorem codeC_func {R : Result → Shared → Prop} {body}
    (h : wpC (model prog w) (A.deeper env) (execs body env) (fun f s' => R (.ok (.ret (match f with | .ret v => v | _ => .none))) s') (fun _ _ => False) s) : codeC (model prog w) A (.func body env) R s := by
  refine codeC_of_tree ?_
  show wpC _ (A.deeper env) (do point; match ← (execs body env).onRaise (leaving env) with | .ret v => ret v | _ => ret .none) _ _ s
  refine wpC_bind (wpC_of (wpAny_point (wpC_bind (wpC_onRaise (wpC_mono h (fun f s' h' => ?_) fun _ _ h' => h'.elim)))))
  cases f <;> exact wpC_pure h'

theorem codeC_call_function {R : Result → Shared → Prop} {a : Addr} {args : Args} {o : Obj} {fd : FuncData} {body : List Stmt} (hroom : A.depth < recursionLimit) (ho : s.heap.get? a = some o)
    (hd' : o.data = .func fd) (hco : fd.scope.isCoroutine = false) (hgen : fd.scope.isGenerator = false) (hbody : fd.body = .stmts body) (hcd : s.heap.CodeRec fd.code fd.qualname)
    (h : wpAny (model prog w) A.in1 (bindArgs fd args) (fun binds s₁ => wpAny (model prog w) A.in1 (newFunctionEnv fd.scope fd.globals fd.closure binds (fd.qualname ++ ".<locals>.") (some a) fd.code none fd.builtins)
        (fun env s₂ => s₂.heap.NoLimit ∧ codeC (model prog w) A (.func body env) R s₂) (fun e s' => R (.error e) s') s₁) (fun e s' => R (.error e) s') s) :
    codeC (model prog w) A (.call (.ref a) args) R s := by
  refine codeC_of_tree ?_
  show wpC _ A.in1 (callAny (.ref a) args) _ _ s
  simp only [callAny]
  refine wpC_bind (wpC_of (wpAny_load ho ?_))
  obtain ⟨c, oc, vs, tq, hc, hoc, hdc, hq⟩ := hcd
  simp only [hd', callFunction, hco, hgen, hbody, hc]
  rw [hc] at h
  refine wpC_bind (m := field (.ref c) 1) (wpC_of (wpAny_field hoc hdc hq (wpC_bind (wpC_pure ?_))))
  refine wpC_bind (wpC_of (wpAny_mono h (fun binds s₁ h₁ => wpC_bind (wpC_of (wpAny_mono h₁ (fun env s₂ h₂ => wpC_bind (wpC_of (wpAny_enterFrame h₂.1 hroom
    (wpC_pure (And.intro rfl h₂.2))))) fun _ _ h' => h'))) fun _ _ h' => h'))
theorem codeC_call_cells {R : Result → Shared → Prop} {a : Addr} {o : Obj} {fd : FuncData} {body : List Stmt} {vals : List Value} {binds : List (Str × Value)}
    (hroom : A.depth < recursionLimit) (ho : s.heap.get? a = some o) (hdata : o.data = .func fd) (hlim : s.heap.NoLimit) (hcd : s.heap.CodeRec fd.code fd.qualname)
    (hbody : fd.body = .stmts body) (hbind : bindArgs fd ⟨vals, []⟩ = pure binds) (hclo : fd.closure = [])
    (hkind : ∀ x ∈ binds, fd.scope.names.lookup x.1 = some .local ∨ (fd.scope.names.lookup x.1 = some .cell ∧ ((cellsFrom (s.heap.objs.size + 1) fd.scope.names []).lookup x.1).isSome = true))
    (h : ∀ s₁, InCallC s (callEnvC fd s.heap.objs.size a).locals (bindL (callEnvC fd s.heap.objs.size a).kindOf binds fun _ => none) (callEnvC fd s.heap.objs.size a).cells (bindC (callEnvC fd s.heap.objs.size a).kindOf binds fun _ => none) s₁ →
      wpC (model prog w) (A.deeper (callEnvC fd s.heap.objs.size a)) (execs body (callEnvC fd s.heap.objs.size a)) (fun f s' => R (.ok (.ret (match f with | .ret v => v | _ => .none))) s') (fun _ _ => False) s₁)
    (hco : fd.scope.isCoroutine = false) (hgen : fd.scope.isGenerator = false) (hk : fd.scope.kind = .function) :
    codeC (model prog w) A (.call (.ref a) ⟨vals, []⟩) R s := by
  refine codeC_call_function hroom ho hdata hco hgen hbody hcd ?_
  rw [hbind, hclo]
  refine wpAny_pure (wpAny_newFunctionEnv_cells hk hkind fun env he s' x => ?_)
  subst he
  exact ⟨hlim.keeps x.toInCall.keep, codeC_func (h s' x)⟩
end
end Mine
end

/-! ### WpC3 -/
section
set_option maxRecDepth 100000
namespace Mine
open PySem PySem.W PySem.Calls PyProof.Rows

section
variable {M : Model} {A : Around} {E : Value → Shared → Prop} {s : Shared} {env : Env}
theorem wpC_keep {α : Type} {vs : List Value} {m : Sem α} {Q : α → Shared → Prop} (h : wpC M A m Q E s) : wpC M A (m.keep vs) Q E s :=
  fun Γ p hΓ c => by rw [Sem.wp_keep]; exact h Γ p hΓ c
theorem wpC_tail {t : Sem Value} {Q : Value → Shared → Prop} (ht : wpC M A t Q E s) : wpC M A (t >>= fun r => holding [r] point >>= fun _ => pure r) Q E s :=
  wpC_bind (wpC_mono ht (fun r s₂ hr => wpC_bind (wpC_holding (wpC_of (wpAny_point (wpC_pure hr))))) fun _ _ x => x)
theorem Call_C {func : Expr} {args : List Expr} {pos : Pos} {Q : Value → Shared → Prop}
    (h : wpAny M A (eval func env) (fun f s₁ => wpC M A (callWith pos f [] (backTo pos (starEach args env)) []) Q E s₁) E s)
    (he : eval (.Call func args [] pos) env = (do callWith pos (← eval func env) [] (backTo pos (starEach args env)) (backToKw pos (keywordEach [] env))) := by rfl) :
    wpC M A (eval (.Call func args [] pos) env) Q E s := by
  rw [he]; exact wpC_bind (wpC_of h)
theorem callWithC_type {pos : Pos} {T : String} {e : Expr} {rest : List Expr} {Q : Value → Shared → Prop}
    (h : wpAny M A (spliced (backTo pos (starEach (e :: rest) env))) (fun vs s₁ => wpC M A (call (.type T) vs) Q E s₁) E s)
    (he : starEach (e :: rest) env = (false, eval e env) :: starEach rest env := by rfl)
    (hplain : (backTo pos (starEach rest env)).any (·.1) = false := by rfl) :
    wpC M A (callWith pos (.type T) [] (backTo pos (starEach (e :: rest) env)) []) Q E s := by
  rw [he] at h ⊢
  unfold callWith
  refine wpC_bind (wpC_of (wpAny_holding (wpAny_mono (evalArgs_plain (Q := fun a s₁ => wpC M A (call (.type T) a.pos a.kw) Q E s₁) h) (fun a s₁ h₁ => wpC_bind (wpC_standAt ?_)) fun _ _ x => x)))
  have hp : ((backTo pos ((false, eval e env) :: starEach rest env)).any (·.1)) = false := by show (false || (backTo pos (starEach rest env)).any (·.1)) = false; rw [hplain]; rfl
  simp only [hp, List.any_nil, Bool.or_false]
  exact wpC_bind (wpC_pure (wpC_tail h₁))
theorem callWithC_def {pos : Pos} {f : Addr} {o : Obj} {fd : FuncData} {e : Expr} {rest : List Expr} {Q : Value → Shared → Prop} (hdat : o.data = .func fd)
    (h : wpAny M A (spliced (backTo pos (starEach (e :: rest) env))) (fun vs s₁ => s₁.heap.get? f = some o ∧ wpC M A (call (.ref f) vs) Q E s₁) E s)
    (he : starEach (e :: rest) env = (false, eval e env) :: starEach rest env := by rfl) :
    wpC M A (callWith pos (.ref f) [] (backTo pos (starEach (e :: rest) env)) []) Q E s := by
  rw [he] at h ⊢
  unfold callWith
  refine wpC_bind (wpC_of (wpAny_holding (wpAny_mono (evalArgs_plain (Q := fun a s₁ => s₁.heap.get? f = some o ∧ wpC M A (call (.ref f) a.pos a.kw) Q E s₁) h) (fun a s₁ h₁ => wpC_bind (wpC_standAt ?_)) fun _ _ x => x)))
  cases hs : ((backTo pos ((false, eval e env) :: starEach rest env)).any (·.1)) <;> simp only [List.any_nil, Bool.or_false] <;>
    refine wpC_bind (m := keeperOf (.ref f)) ?_ <;> unfold keeperOf <;>
    refine wpC_bind (wpC_of (wpAny_load h₁.1 ?_)) <;> rw [hdat] <;> refine wpC_pure ?_
  · dsimp only
    split
    · exact wpC_tail h₁.2
    · refine wpC_tail ?_
      unfold callMarked
      exact wpC_keep h₁.2
  · dsimp only
    refine wpC_tail ?_
    unfold callMarked
    exact wpC_keep h₁.2
end
end Mine
end

/-! ### CompC -/
section
set_option maxRecDepth 100000
namespace Mine
open PySem PySem.W PyProof.Rows PySem.SeqAt

section
variable {prog : Program} {w : World} {A : Around} {E : Value → Shared → Prop} {R : Result → Shared → Prop} {s : Shared} {env : Env}

theorem wpC_notedAt {α : Type} {M : Model} {m : Sem α} {pos : Pos} {Q : α → Shared → Prop} (h : wpC M A m Q (notedBy M A env E) s) : wpC M A (m.onRaise fun x => do noteFrame x env; standAt pos) Q E s :=
  wpC_onRaise (wpC_mono h (fun _ _ q => q) fun _ _ hx => wpC_of (wpAny_bind (wpAny_mono hx (fun _ _ e => wpAny_standAt e) fun _ _ e => e)))

theorem codeC_compStart_list {elt target iter ifs rest scope pos it acc}
    (h0 : codeC (model prog w) A (.compLoop (.ListComp elt (⟨target, iter, ifs, 0⟩ :: rest) scope pos) 0 it acc env) R s)
    (h : wpAny (model prog w) A (pyIter it) (fun it' s' => codeC (model prog w) A (.compLoop (.ListComp elt (⟨target, iter, ifs, 0⟩ :: rest) scope pos) 0 it' acc env) R s') (notedBy (model prog w) A env fun x s' => R (.error x) s') s) :
    codeC (model prog w) A (.compStart (.ListComp elt (⟨target, iter, ifs, 0⟩ :: rest) scope pos) 0 it acc env) R s := by
  refine codeC_of_tree ?_
  show wpC _ _ ((compStart (.ListComp elt (⟨target, iter, ifs, 0⟩ :: rest) scope pos) 0 it acc env).onRaise (fun x => do noteFrame x env; standAt theWindowsPlace)) _ _ s
  refine wpC_notedAt (wpC_of ?_)
  unfold compStart
  show wpAny _ _ (ask >>= _) _ _ s
  refine wpAny_bind (wpAny_askSetting (wpAny_ite ?_))
  split
  · first
      | exact wpAny_bind (wpAny_pure (wpAny_pure (And.intro rfl h0)))
      | exact wpAny_pure (And.intro rfl h0)
  · first
      | exact wpAny_bind (wpAny_rule (wpAny_bind (wpAny_standAt (wpAny_bind (wpAny_mono h (fun it' s' h' => wpAny_pure (And.intro rfl h')) fun _ _ x => x)))))
      | (refine wpAny_bind (wpAny_rule ?_); show wpAny _ _ (standAt iter.pos >>= _) _ _ s; exact wpAny_bind (wpAny_standAt (wpAny_bind (wpAny_mono h (fun it' s' h' => wpAny_pure (And.intro rfl h')) fun _ _ x => x))))

theorem codeC_compLoop_tests {elt target iter : PySem.Expr} {ifs : List PySem.Expr} {scope : Scope} {pos : Pos} {it acc : Value} (I : Nat → Shared → Prop)
    (turn : ∀ n s, I n s → wpAny (model prog w) A (pyNext it) (fun r s₁ => match r with
      | none => R (.ok .next) s₁
      | some v => wpAny (model prog w) A (assign target env v) (fun _ s₂ =>
          wpAny (model prog w) A (forIn ifs true fun c r => if r = true then do let ok ← isTrue c env (eval c env); pure (ForInStep.yield ok) else pure (ForInStep.yield r)) (fun ok s₃ =>
            if ok = true then wpC (model prog w) A (eval elt env) (fun x s₄ =>
              wpAny (model prog w) A (call (.builtin "list.append") [acc, x]) (fun _ s₅ => ∃ m, m < n ∧ I m s₅) (notedBy (model prog w) A env fun e s' => R (.error e) s') s₄) (notedBy (model prog w) A env fun e s' => R (.error e) s') s₃
            else ∃ m, m < n ∧ I m s₃) (notedBy (model prog w) A env fun e s' => R (.error e) s') s₂) (notedBy (model prog w) A env fun e s' => R (.error e) s') s₁) (notedBy (model prog w) A env fun e s' => R (.error e) s') s)
    (n : Nat) (h : I n s) (ht : ∀ v, letOwnedTupleGo target it v = pure () := by intro _; rfl) :
    codeC (model prog w) A (.compLoop (.ListComp elt [⟨target, iter, ifs, 0⟩] scope pos) 0 it acc env) R s := by
  refine codeC_loop rfl I (fun n s hI => ?_) n h
  show wpC _ A ((compTurn (.ListComp elt [⟨target, iter, ifs, 0⟩] scope pos) 0 it acc env).onRaise (fun x => do noteFrame x env; theTreesLotGoes x)) _ _ s
  refine wpC_noted ?_
  rw [compTurn_list]
  refine wpC_bind (wpC_standAt (wpC_bind (wpC_of (wpAny_mono (turn n s hI) (fun r s₁ h₁ => ?_) fun _ _ h' => h'))))
  cases r with
  | none => exact wpC_pure h₁
  | some v =>
    refine wpC_bind ?_
    rw [ht v]
    refine wpC_pure (wpC_bind (wpC_of (wpAny_mono h₁ (fun _ s₂ h₂ => wpC_bind (wpC_of (wpAny_mono h₂ (fun ok s₃ h₃ => ?_) fun _ _ h' => h'))) fun _ _ h' => h')))
    cases ok with
    | false => exact wpC_pure (.inl ⟨rfl, h₃⟩)
    | true =>
      exact wpC_bind (wpC_bind (wpC_mono h₃ (fun x s₄ h₄ => wpC_bind (wpC_of (wpAny_mono h₄ (fun _ s₅ h₅ => wpC_pure (wpC_pure (.inl ⟨rfl, h₅⟩))) fun _ _ h' => h'))) fun _ _ h' => h'))

theorem wpC_standIf {M : Model} {α : Type} {c : Prop} [Decidable c] {pos : Pos} {k : PUnit → Sem α} {Q : α → Shared → Prop} (h : wpC M A (k ()) Q E s) : wpC M A (if c then (standAt pos >>= k) else k ()) Q E s := by
  split
  · exact wpC_bind (wpC_standAt h)
  · exact h

theorem wpC_comp_use {M : Model} {e : PySem.Expr} {scope : Scope} {pos : Pos} {newAcc first : Sem Value} {g : Comprehension} {gs : List Comprehension} {cl : List (Str × Addr)} {u : Value → Sem Unit} {Q : Value → Shared → Prop}
    (hcl : clausesOf e = g :: gs) (hs : ∀ x, foldedSetIterable g.iter env x = pure x) (hclos : closureFor scope env = pure cl) (hkind : scope.kind = .function) (hnames : ∀ x ∈ scope.names, x.2 = .local → scope.names.lookup x.1 = some .local)
    (h : wpAny M A first (fun x s₁ => wpAny M A (pyIter x) (fun it s₂ => wpAny M A newAcc (fun acc s₃ => wpAny M A (newFunctionEnv scope env.globals cl [] env.qual none .none (some env)) (fun cenv s₄ =>
        codeC M A (.compStart e 0 it acc { cenv with scope := relabel scope env }) (compPost M A E (some u) Q acc cenv.locals) s₄) E s₃) E s₂) E s₁) E s) :
    wpC M A (comprehension e scope env pos newAcc false first (some u)) Q E s := by
  unfold comprehension
  rw [hclos, hcl]
  refine wpC_bind (wpC_of (wpAny_mono h (fun x s₁ h₁ => wpC_bind (wpC_standAt (wpC_bind ?_))) fun _ _ h' => h'))
  rw [hs x]
  refine wpC_pure (wpC_bind (wpC_holding (wpC_of (wpAny_mono h₁ (fun it s₂ h₂ => wpC_standIf (wpC_bind (wpC_of (wpAny_mono h₂ (fun acc s₃ h₃ => wpC_bind (wpC_pure (wpC_bind (wpC_of (wpAny_mono h₃ (fun cenv s₄ h₄ => ?_) fun _ _ h' => h'))))) fun _ _ h' => h')))) fun _ _ h' => h'))))
  dsimp only
  have hv : ∀ x ∈ (scope.names.filter fun x => (x.2 == .local || x.2 == .cell) && x.1 != (".0" : Str)).reverse, x.2 = .local → Env.kindOf { cenv with scope := relabel scope env } x.1 = some .local :=
    fun x hx hl => lookup_relabel_local (hnames x (List.mem_filter.mp (List.mem_reverse.mp hx)).1 hl)
  have hv' : ∀ x ∈ (scope.names.filter fun x => (x.2 == .local || x.2 == .cell) && x.1 != (".0" : Str)).reverse.drop 1 ++ (scope.names.filter fun x => (x.2 == .local || x.2 == .cell) && x.1 != (".0" : Str)).reverse.take 1,
      x.2 = .local → Env.kindOf { cenv with scope := relabel scope env } x.1 = some .local := fun x hx hl => by
    rcases List.mem_append.mp hx with h1 | h1
    · exact hv x (List.mem_of_mem_drop h1) hl
    · exact hv x (List.mem_of_mem_take h1) hl
  refine wpC_holding (wpC_bind (wpC_attempt (wpC_holding (wpC_run (codeC_mono h₄ fun r s' hr => ?_)))))
  cases r with
  | ok f =>
    refine wpC_of (wpAny_bind (wpAny_rule (wpAny_bind (wpAny_holding (wpAny_mono hr (fun _ s'' hr' => ?_) fun _ _ h' => h')))))
    obtain ⟨m, hn, hr'⟩ := hr'
    exact wpAny_bind (wpAny_comp_letGo (cenv := { cenv with scope := relabel scope env }) hkind _ s'' m hv' hn fun h' m' _ hs' => wpAny_pure (hr' h' hs'))
  | error x =>
    obtain ⟨m, hn, hr⟩ := hr
    exact wpC_of (wpAny_bind (wpAny_holding (wpAny_comp_letGo (cenv := { cenv with scope := relabel scope env }) hkind _ s' m hv hn fun h' m' _ hs' => wpAny_mono (hr h' hs' _ rfl) (fun _ _ f => f.elim) fun _ _ y => y)))
end

section
variable {prog : Program} {w : World} {A : Around} {R : Result → Shared → Prop} {s : Shared}

theorem comp_loopJC {elt iter : Expr} {x : Str} {px : Pos} {ifs : List Expr} {scope : Scope} {pos : Pos} {I D : Addr} {fp wr : List Addr} {n : Nat} {PI : Nat → Value → Prop} {St : Nat → Heap → Prop}
    {cenv : Env} {m : Str → Option Value} {ys₀ : List Value} (W : Walks prog w A I fp wr n PI St) (U : Addr → Prop) (J : Nat → List Value → Heap → Prop)
    (hUC : U cenv.locals) (hUD : U D) (hUf : ∀ b ∈ fp, U b)
    (hJ : ∀ i ys h h', J i ys h → (∀ b o, b ≠ cenv.locals → b ∉ wr → b ≠ D → h.get? b = some o → h'.get? b = some o) → J i ys h')
    (hx : cenv.kindOf x = some .local) (hp : (cenv.scope.kind == .class || (cenv.scope.kind == .module && cenv.locals != cenv.globals)) = false)
    (hDC : D ≠ cenv.locals) (hDf : D ∉ fp) (hCf : cenv.locals ∉ fp)
    (hst : St 0 s.heap) (hacc : s.heap.PlainList D ys₀.toArray) (hn : s.heap.Ns cenv.locals m) (hJ0 : J 0 ys₀ s.heap) (hsz : ys₀.length + n ≤ sizeLine)
    (turn : ∀ i v ys s₂ m₂, i < n → PI i v → s₂.heap.Ns cenv.locals m₂ → m₂ x = some v → s₂.heap.PlainList D ys.toArray → (∃ h tk, s₂ = { s with heap := h, toks := tk }) →
      (∀ b o, U b → b ≠ cenv.locals → b ∉ wr → b ≠ D → s.heap.get? b = some o → s₂.heap.get? b = some o) → (∀ b ∈ fp, ∀ o, s.heap.get? b = some o → ∃ o', s₂.heap.get? b = some o') → J i ys s₂.heap →
      wpAny (model prog w) A (forIn ifs true fun c r => if r = true then do let ok ← isTrue c cenv (eval c cenv); pure (ForInStep.yield ok) else pure (ForInStep.yield r))
        (fun ok s₃ => KeepsU U s₂ s₃ ∧ if ok = true then wpC (model prog w) A (eval elt cenv) (fun y s₄ => KeepsU U s₃ s₄ ∧ J (i + 1) (ys ++ [y]) s₄.heap) (notedBy (model prog w) A cenv fun e s' => R (.error e) s') s₃
          else J (i + 1) ys s₃.heap) (notedBy (model prog w) A cenv fun e s' => R (.error e) s') s₂)
    (hR : ∀ h' tk m' ys, h'.Ns cenv.locals m' → h'.PlainList D ys.toArray → J n ys h' →
      (∀ b o, U b → b ≠ cenv.locals → b ∉ wr → b ≠ D → s.heap.get? b = some o → h'.get? b = some o) → R (.ok .next) { s with heap := h', toks := tk })
    (hfa : ∀ i h, St i h → ∀ b ∈ fp, ∃ o, h.get? b = some o) :
    codeC (model prog w) A (.compLoop (.ListComp elt [⟨.Name x px, iter, ifs, 0⟩] scope pos) 0 (.ref I) (.ref D) cenv) R s := by
  refine codeC_compLoop_tests
    (fun k s' => ∃ h' tk m' ys i, s' = { s with heap := h', toks := tk } ∧ St i h' ∧ h'.PlainList D (List.toArray ys) ∧ h'.Ns cenv.locals m' ∧ J i ys h' ∧ i ≤ n ∧ ys.length ≤ ys₀.length + i ∧ k = n + 1 - i ∧
      (∀ b o, U b → b ≠ cenv.locals → b ∉ wr → b ≠ D → s.heap.get? b = some o → h'.get? b = some o)) ?_ (n + 1)
    ⟨s.heap, s.toks, m, ys₀, 0, rfl, hst, hacc, hn, hJ0, Nat.zero_le _, by omega, rfl, fun _ _ _ _ _ _ e => e⟩
  rintro k s' ⟨H, tk, m', ys, i, rfl, hst', hacc', hn', hJ', hi, hlen, rfl, hk⟩
  have hCw : cenv.locals ∉ wr := fun h => hCf (W.sub _ h)
  have hDw : D ∉ wr := fun h => hDf (W.sub _ h)
  by_cases hlt : i < n
  · refine W.item i _ _ _ hlt hst' fun v h₁ tk₁ hPv hst₁ hk₁ => ?_
    refine wpAny_assign_Name (wpAny_storeName_local hx (hn'.at' fun o e => hk₁ _ o hCw e) (fun h₂ hn₂ hs₂ => ?_) hp)
    have up₂ : ∀ b o, b ≠ cenv.locals → b ∉ wr → H.get? b = some o → h₂.get? b = some o := fun b o hbC hbf e => hs₂.extBut b o hbC (hk₁ b o hbf e)
    have hst₂ : St (i + 1) h₂ := W.frame _ _ _ hst₁ fun b hb o e => hs₂.extBut b o (fun h => hCf (h ▸ hb)) e
    have hacc₂ : h₂.PlainList D ys.toArray := hacc'.at fun o e => up₂ D o hDC hDw e
    refine wpAny_mono (turn i v ys _ _ hlt hPv hn₂ (by simp) hacc₂ ⟨_, _, rfl⟩ (fun b o hU hbC hbf hbD e => up₂ b o hbC hbf (hk b o hU hbC hbf hbD e)) (fun b hb o _ => hfa _ _ hst₂ b hb) (hJ _ _ _ _ hJ' fun b o hbC hbf _ e => up₂ b o hbC hbf e)) (fun ok s₃ h₃ => ?_) fun _ _ e => e
    obtain ⟨⟨h₃, tk₃, rfl, hk₃⟩, h₃'⟩ := h₃
    have hst₃ : St (i + 1) h₃ := W.frame _ _ _ hst₂ fun b hb o e => hk₃ b o (hUf b hb) e
    have hacc₃ : h₃.PlainList D ys.toArray := hacc₂.at fun o e => hk₃ _ o hUD e
    have hn₃ := hn₂.at' fun o e => hk₃ _ o hUC e
    cases ok with
    | false =>
      simp only [Bool.false_eq_true, if_false] at h₃' ⊢
      exact ⟨n + 1 - (i + 1), by omega, h₃, tk₃, _, ys, i + 1, rfl, hst₃, hacc₃, hn₃, h₃', hlt, by omega, rfl, fun b o hU hbC hbf hbD e => hk₃ b o hU (up₂ b o hbC hbf (hk b o hU hbC hbf hbD e))⟩
    | true =>
      simp only [if_true] at h₃' ⊢
      refine wpC_mono h₃' (fun y s₄ h₄ => ?_) fun _ _ e => e
      obtain ⟨⟨h₄, tk₄, rfl, hk₄⟩, hJ₄⟩ := h₄
      have hys : ys.toArray.size ≤ sizeLine := by rw [List.size_toArray]; omega
      refine wpAny_list_append_plain (hsz := hys) (hacc₃.at fun o e => hk₄ _ o hUD e) fun h₅ hl₅ hs₅ => ?_
      refine ⟨n + 1 - (i + 1), by omega, h₅, tk₄, _, ys ++ [y], i + 1, rfl, ?_, (by simpa using hl₅), (hn₃.at' fun o e => hk₄ _ o hUC e).sameBut hs₅ (Ne.symm hDC),
        hJ _ _ _ _ hJ₄ (fun b o _ _ hbD e => hs₅.extBut b o hbD e), hlt, by simp; omega, rfl, fun b o hU hbC hbf hbD e => hs₅.extBut b o hbD (hk₄ b o hU (hk₃ b o hU (up₂ b o hbC hbf (hk b o hU hbC hbf hbD e))))⟩
      exact W.frame _ _ h₅ hst₃ fun b hb o e => hs₅.extBut b o (fun h => hDf (h ▸ hb)) (hk₄ b o (hUf b hb) e)
  · obtain rfl : i = n := by omega
    refine W.done _ _ _ hst' fun h₁ tk₁ hk₁ => ?_
    exact hR h₁ tk₁ m' ys (hn'.at' fun o e => hk₁ _ o hCw e) (hacc'.at fun o e => hk₁ _ o hDw e) (hJ _ _ _ _ hJ' fun b o _ hbf _ e => hk₁ b o hbf e) fun b o hU hbC hbf hbD e => hk₁ b o hbf (hk b o hU hbC hbf hbD e)


theorem comp_blockC {E : Value → Shared → Prop} {env : Env} {elt iter : Expr} {x : Str} {px : Pos} {ifs : List Expr} {scope : Scope} {cl : List (Str × Addr)} {pos : Pos} {s₁ : Shared} {ax : Addr} {vs : List Value}
    {RR : Value → Addr → Result → Shared → Prop} (hh : A.handled = none) (U : Addr → Prop) (J : Addr → Addr → Addr → Nat → List Value → Heap → Prop)
    (hcell : ∀ y ∈ scope.names, y.2 ≠ .cell) (hkind : scope.kind = .function) (hx : scope.names.lookup x = some .local)
    (hl : s₁.heap.IsList ax vs.toArray) (hsz : vs.length ≤ sizeLine) (hUn : FreshP s₁.heap U) (hUa : U ax)
    (hJ : ∀ C I D i ys h h', J C I D i ys h → (∀ b o, b ≠ C → b ≠ I → b ≠ D → h.get? b = some o → h'.get? b = some o) → J C I D i ys h')
    (hJ0 : ∀ C I D s₂, Turn s₁ U C I D s₂ → (∀ b o, s₁.heap.get? b = some o → s₂.heap.get? b = some o) → J C I D 0 [] s₂.heap)
    (turn : ∀ C I D i v ys s₂ m₂ E', vs[i]? = some v → Turn s₁ U C I D s₂ → s₂.heap.Ns C m₂ → m₂ x = some v → J C I D i ys s₂.heap →
      wpAny (model prog w) A (forIn ifs true fun c r => if r = true then do let ok ← isTrue c (compEnvC scope cl C env) (eval c (compEnvC scope cl C env)); pure (ForInStep.yield ok) else pure (ForInStep.yield r))
        (fun ok s₃ => KeepsU U s₂ s₃ ∧ if ok = true then wpC (model prog w) A (eval elt (compEnvC scope cl C env)) (fun y s₄ => KeepsU U s₃ s₄ ∧ J C I D (i + 1) (ys ++ [y]) s₄.heap) E' s₃ else J C I D (i + 1) ys s₃.heap) E' s₂)
    (hR : ∀ C I D h' tk m' ys, h'.Ns C m' → h'.PlainList D ys.toArray → J C I D vs.length ys h' → s₁.heap.get? C = none → s₁.heap.get? D = none → D ≠ C → SubU U s₁.heap h' → RR (.ref D) C (.ok .next) { s₁ with heap := h', toks := tk }) :
    wpAny (model prog w) A (pyIter (.ref ax)) (fun it s₂ => wpAny (model prog w) A (newList []) (fun acc s₃ => wpAny (model prog w) A (newFunctionEnv scope env.globals cl [] env.qual none .none (some env)) (fun cenv s₄ =>
      codeC (model prog w) A (.compStart (.ListComp elt [⟨.Name x px, iter, ifs, 0⟩] scope pos) 0 it acc { cenv with scope := relabel scope env }) (RR acc cenv.locals) s₄) E s₃) E s₂) E s₁ := by
  refine wpAny_pyIter_list hl (wpAny_newObj_type (hd := by size_fits) (wpAny_newFunctionEnv hcell (by intro y hy; simp at hy) (fun h₁ hns₁ hsb₁ => ?_) hkind))
  dsimp only at hns₁ hsb₁ ⊢
  obtain ⟨ol, hol, hol'⟩ := id hl
  have hax : ax < s₁.heap.objs.size := Heap.lt_size hol
  have gone : ∀ a, s₁.heap.objs.size ≤ a → s₁.heap.get? a = none := fun a ha => by
    cases e : s₁.heap.get? a with
    | none => rfl
    | some o' => exact absurd (Heap.lt_size e) (Nat.not_lt.mpr ha)
  generalize hH1 : s₁.heap.push { cls := .type "list_iterator", data := .fields #[.ref ax, .int 0 0] } = H1 at hns₁ hsb₁ ⊢
  have hD : H1.objs.size = s₁.heap.objs.size + 1 := by rw [← hH1, Heap.size_push]
  generalize hH2 : H1.push { cls := .type "list", dict := none, data := .seq ([] : List Value).toArray } = H2 at hns₁ hsb₁ ⊢
  have hC : H2.objs.size = s₁.heap.objs.size + 2 := by rw [← hH2, Heap.size_push, hD]
  generalize hIe : s₁.heap.objs.size = I at hax gone hD hC ⊢
  generalize hDe : H1.objs.size = D at hD ⊢
  generalize hCe : H2.objs.size = C at hC hns₁ hsb₁ ⊢
  have hax' : @LT.lt Nat _ ax I := hax
  have below : ∀ b, b < I → b ≠ C ∧ b ≠ I ∧ b ≠ D := fun b hb => ⟨by omega, by omega, by omega⟩
  have old : ∀ b o, s₁.heap.get? b = some o → h₁.get? b = some o := fun b o e => by
    have hb := Heap.lt_size e
    rw [hIe] at hb
    exact hsb₁.extBut b o (below b hb).1 (Heap.get?_push_of_some _ (hH2 ▸ Heap.get?_push_of_some _ (hH1 ▸ Heap.get?_push_of_some _ e)))
  have hit : h₁.IsListIter I ax 0 :=
    ⟨_, hsb₁.extBut _ _ (by show @Ne Nat _ _; omega) (Heap.get?_push_of_some _ (hH2 ▸ Heap.get?_push_of_some _ (hH1 ▸ hIe ▸ Heap.get?_push_size _ rfl))), rfl, rfl⟩
  have hacc : h₁.PlainList D ([] : List Value).toArray := ⟨_, hsb₁.extBut _ _ (by show @Ne Nat _ _; omega) (Heap.get?_push_of_some _ (hH2 ▸ hDe ▸ Heap.get?_push_size _ rfl))⟩
  have hl₁ : h₁.IsList ax vs.toArray := ⟨ol, old _ _ hol, hol'⟩
  have hCn : s₁.heap.get? C = none := gone C (by omega)
  have hDn : s₁.heap.get? D = none := gone D (by omega)
  have hIn : s₁.heap.get? I = none := gone I (by omega)
  have W := Walks.list (prog := prog) (w := w) (A := A) hh I ax (by show @Ne Nat _ _; omega) vs.toArray
  have loop : ∀ s₂ : Shared, s₂ = { s₁ with heap := h₁, toks := s₁.toks + ([] : List (Str × Value)).length } →
      codeC (model prog w) A (.compLoop (.ListComp elt [⟨.Name x px, iter, ifs, 0⟩] scope pos) 0 (.ref I) (.ref D) (compEnvC scope cl C env)) (RR (.ref D) C) s₂ := by
    rintro s₂ rfl
    have turn0 : Turn s₁ U C I D { s₁ with heap := h₁, toks := s₁.toks + ([] : List (Str × Value)).length } :=
      ⟨⟨_, _, rfl⟩, fun b o _ e => old b o e, hCn, hIn, hDn, (let ⟨o, _, _, e, _⟩ := hns₁; ⟨o, e⟩), (let ⟨o, e, _⟩ := hit; ⟨o, e⟩), (let ⟨n, e⟩ := hacc; ⟨_, e⟩)⟩
    refine comp_loopJC (cenv := compEnvC scope cl C env) (ys₀ := []) W U (J C I D) (hUn C hCn) (hUn D hDn) ?_ ?_ (lookup_relabel_local hx) (by simp [compEnvC, relabel, hkind]) (by show @Ne Nat D C; omega) ?_ ?_ ⟨hit, hl₁⟩ hacc hns₁ (hJ0 _ _ _ _ turn0 old) ?_ ?_ ?_ ?_
    · intro b hb
      rcases List.mem_cons.mp hb with rfl | hb
      · exact hUn _ hIn
      · rcases List.mem_cons.mp hb with rfl | hb
        · exact hUa
        · cases hb
    · intro i ys h h' j k
      exact hJ _ _ _ _ _ _ _ j fun b o bC bI bD e => k b o bC (by simpa using bI) bD e
    · intro hm; simp at hm; rcases hm with hm | hm <;> (have hm : @Eq Nat _ _ := hm; omega)
    · show C ∉ [I, ax]
      intro hm; simp at hm; rcases hm with hm | hm <;> (have hm : @Eq Nat _ _ := hm; omega)
    · simpa using hsz
    · intro i v ys s₂ m₂ _ hv hns hm hpl hsame hk hf hj
      refine turn C I D i v ys s₂ m₂ _ (by simpa using hv) ⟨?_, ?_, hCn, hIn, hDn, (let ⟨o, _, _, e, _⟩ := hns; ⟨o, e⟩), (let ⟨o, e, _⟩ := hit; hf I (by simp) o e), (let ⟨n, e⟩ := hpl; ⟨_, e⟩)⟩ hns hm hj
      · obtain ⟨h, tk, rfl⟩ := hsame; exact ⟨h, tk, rfl⟩
      · intro b o hU e
        have hb := Heap.lt_size e
        rw [hIe] at hb
        exact hk b o hU (below b hb).1 (by simpa using (below b hb).2.1) (below b hb).2.2 (old b o e)
    · intro h' tk m' ys hns hpl hj hk
      refine hR C I D h' tk m' ys hns hpl (by simpa using hj) hCn hDn (by show @Ne Nat D C; omega) ?_
      intro b o hU e
      have hb := Heap.lt_size e
      rw [hIe] at hb
      exact hk b o hU (below b hb).1 (by simpa using (below b hb).2.1) (below b hb).2.2 (old b o e)
    · intro i h st b hb
      rcases List.mem_cons.mp hb with rfl | hb
      · exact let ⟨o, e, _⟩ := st.1; ⟨o, e⟩
      · rcases List.mem_cons.mp hb with rfl | hb
        · exact let ⟨o, e, _⟩ := st.2; ⟨o, e⟩
        · cases hb
  exact codeC_compStart_list (loop _ rfl) (W.self 0 _ _ _ ⟨hit, hl₁⟩ (loop _ rfl))
end

section
variable {prog : Program} {w : World} {A : Around} {E : Value → Shared → Prop} {s : Shared} {env : Env}

/-- what one turn must show -/
def TurnRdC (prog : Program) (w : World) (A : Around) (env : Env) (scope : Scope) (cl : List (Str × Addr)) (x : Str) (ifs : List Expr) (elt : Expr) (vs : List Value) (P : Addr → Prop) (dss : Nat → Option PyData) (s₁ : Shared) : Prop :=
  ∀ C (P₂ : Addr → Prop) i v s₂ m₂ E', vs[i]? = some v → Keeps s₁ s₂ → FreshP s₂.heap P₂ → (∀ a o, s₁.heap.get? a = some o → P a → P₂ a) → s₂.heap.Ns C m₂ → m₂ x = some v → s₁.heap.get? C = none →
    wpAny (model prog w) A (forIn ifs true fun c r => if r = true then do let ok ← isTrue c (compEnvC scope cl C env) (eval c (compEnvC scope cl C env)); pure (ForInStep.yield ok) else pure (ForInStep.yield r))
      (fun ok s₃ => Keeps s₂ s₃ ∧ ok = (dss i).isSome ∧ ∀ d, dss i = some d → wpC (model prog w) A (eval elt (compEnvC scope cl C env)) (fun y s₄ => Keeps s₃ s₄ ∧ Rd s₄.heap P₂ y d) E' s₃) E' s₂

theorem comp_block_rdC {elt iter : Expr} {x : Str} {px : Pos} {ifs : List Expr} {scope : Scope} {cl : List (Str × Addr)} {pos : Pos} {s₁ : Shared} {ax : Addr} {vs : List Value} {P : Addr → Prop} {dss : Nat → Option PyData}
    {RR : Value → Addr → Result → Shared → Prop} (hh : A.handled = none)
    (hcell : ∀ y ∈ scope.names, y.2 ≠ .cell) (hkind : scope.kind = .function) (hx : scope.names.lookup x = some .local)
    (hl : s₁.heap.IsList ax vs.toArray) (hsz : vs.length ≤ sizeLine) (hP : FreshP s₁.heap P)
    (turn : TurnRdC prog w A env scope cl x ifs elt vs P dss s₁)
    (hR : ∀ C D h' tk m', h'.Ns C m' → (∃ ys, h'.PlainList D ys ∧ RdAll h' (fun a => P a ∧ a ≠ C ∧ a ≠ D) ys.toList ((List.range vs.length).filterMap dss)) → s₁.heap.get? C = none → s₁.heap.get? D = none → D ≠ C → (∀ b o, s₁.heap.get? b = some o → h'.get? b = some o) →
      RR (.ref D) C (.ok .next) { s₁ with heap := h', toks := tk }) :
    wpAny (model prog w) A (pyIter (.ref ax)) (fun it s₂ => wpAny (model prog w) A (newList []) (fun acc s₃ => wpAny (model prog w) A (newFunctionEnv scope env.globals cl [] env.qual none .none (some env)) (fun cenv s₄ =>
      codeC (model prog w) A (.compStart (.ListComp elt [⟨.Name x px, iter, ifs, 0⟩] scope pos) 0 it acc { cenv with scope := relabel scope env }) (RR acc cenv.locals) s₄) E s₃) E s₂) E s₁ := by
  refine comp_blockC hh (fun _ => True) (fun C I D i ys h => RdAll h (fun a => P a ∧ a ≠ C ∧ a ≠ I ∧ a ≠ D) ys ((List.range i).filterMap dss)) hcell hkind hx hl hsz (fun _ _ => trivial) trivial ?_ ?_ ?_ ?_
  · intro C I D i ys h h' j k
    exact j.mono fun b o p e => ⟨k b o p.2.1 p.2.2.1 p.2.2.2 e, p⟩
  · intro C I D s₂ _ _; exact .nil
  · intro C I D i v ys s₂ m₂ E' hv T hns hm hj
    have hk : Keeps s₁ s₂ := by
      obtain ⟨h, tk, rfl⟩ := T.same
      exact ⟨h, tk, rfl, fun b o e => T.keep b o trivial e⟩
    have hF : FreshP s₂.heap (fun a => P a ∧ a ≠ C ∧ a ≠ I ∧ a ≠ D) := fun a e => ⟨(hP.keeps (ksub hk)) a e,
      (by rintro rfl; obtain ⟨o, q⟩ := T.lC; rw [q] at e; cases e), (by rintro rfl; obtain ⟨o, q⟩ := T.lI; rw [q] at e; cases e), (by rintro rfl; obtain ⟨o, q⟩ := T.lD; rw [q] at e; cases e)⟩
    have hin : ∀ a o, s₁.heap.get? a = some o → P a → P a ∧ a ≠ C ∧ a ≠ I ∧ a ≠ D := fun a o e p => ⟨p,
      (by rintro rfl; rw [T.nC] at e; cases e), (by rintro rfl; rw [T.nI] at e; cases e), (by rintro rfl; rw [T.nD] at e; cases e)⟩
    refine wpAny_mono (turn C _ i v s₂ m₂ E' hv hk hF hin hns hm T.nC) (fun ok s₃ h₃ => ?_) fun _ _ e => e
    obtain ⟨k₃, rfl, h₃⟩ := h₃
    refine ⟨.of k₃, ?_⟩
    cases hd : dss i with
    | none =>
      simp only [Option.isSome_none, Bool.false_eq_true, if_false]
      rw [List.range_succ, List.filterMap_append]
      simpa [hd] using hj.keeps (ksub k₃)
    | some d =>
      simp only [Option.isSome_some, if_true]
      refine wpC_mono (h₃ d hd) (fun y s₄ h₄ => ?_) fun _ _ e => e
      refine ⟨.of h₄.1, ?_⟩
      rw [List.range_succ, List.filterMap_append]
      simpa [hd] using ((hj.keeps (ksub k₃)).keeps (ksub h₄.1)).append (.cons h₄.2 .nil)
  · intro C I D h' tk m' ys hns hpl hj hC hD hDC hk
    exact hR C D h' tk m' hns ⟨_, hpl, by simpa using hj.mono fun b o p e => ⟨e, p.1, p.2.1, p.2.2.2⟩⟩ hC hD hDC fun b o e => hk b o trivial e


theorem comp_assignC {elt iter : Expr} {x y : Str} {px py : Pos} {ifs : List Expr} {scope : Scope} {cl : List (Str × Addr)} {pos spos : Pos} {P : Addr → Prop} {Q : Flow → Shared → Prop} (hh : A.handled = none)
    (hsw : swapsWith (.ListComp elt [⟨.Name x px, iter, ifs, 0⟩] scope pos) (some (.Name y py)) spos.line env = pure true)
    (hclos : closureFor scope env = pure cl) (hcell : ∀ y ∈ scope.names, y.2 ≠ .cell) (hkind : scope.kind = .function)
    (hnames : ∀ y ∈ scope.names, y.2 = .local → scope.names.lookup y.1 = some .local) (hx : scope.names.lookup x = some .local) (hs : ∀ x, foldedSetIterable iter env x = pure x)
    (hy : env.kindOf y = some .local) (hp : (env.scope.kind == .class || (env.scope.kind == .module && env.locals != env.globals)) = false)
    (h : wpAny (model prog w) A (eval iter env) (fun xv s₁ => ∃ ax vs dss m, xv = .ref ax ∧ s₁.heap.IsList ax vs.toArray ∧ vs.length ≤ sizeLine ∧ FreshP s₁.heap P ∧ TurnRdC prog w A env scope cl x ifs elt vs P dss s₁ ∧ s₁.heap.Ns env.locals m ∧
      ∀ D h' tk, h'.Ns env.locals (fun z => if z = y then some (.ref D) else m z) → (∀ b o, b ≠ env.locals → s₁.heap.get? b = some o → h'.get? b = some o) →
        Rd h' (fun a => P a ∧ a ≠ env.locals) (.ref D) (.list ((List.range vs.length).filterMap dss)) → Q .next { s₁ with heap := h', toks := tk }) E s)
    (hPL : ¬ P env.locals) :
    wpC (model prog w) A (exec (.Assign [.Name y py] (.ListComp elt [⟨.Name x px, iter, ifs, 0⟩] scope pos) spos) env) Q E s := by
  rw [exec_Assign_Name_used _ _ _ _ hsw]
  refine wpC_bind (wpC_standAt (wpC_bind ?_))
  show wpC _ A (do let _ ← comprehension (.ListComp elt [⟨.Name x px, iter, ifs, 0⟩] scope pos) scope env _ (newList []) false (eval iter env) (some (assign (.Name y py) env))) _ _ s
  refine wpC_bind (wpC_mono (wpC_comp_use (u := assign (.Name y py) env) (Q := fun _ s' => Q .next s') rfl hs hclos hkind hnames
    (wpAny_mono h (fun xv s₁ h₁ => ?_) fun _ _ e => e)) (fun _ s' hq => wpC_pure (wpC_pure hq)) fun _ _ e => e)
  obtain ⟨ax, vs, dss, m, rfl, hl, hsz, hP, turn, hn, hQ⟩ := h₁
  refine comp_block_rdC (RR := fun acc C => compPost (model prog w) A E (some (assign (.Name y py) env)) (fun _ s' => Q .next s') acc C) hh hcell hkind hx hl hsz hP turn ?_
  rintro C D h' tk m' hns ⟨ys, hpl, hr⟩ hC hD hDC hk
  have hLC : env.locals ≠ C := by rintro e; obtain ⟨o, _, _, ho, _⟩ := hn; rw [← e, ho] at hC; cases hC
  have hLD : env.locals ≠ D := by rintro e; obtain ⟨o, _, _, ho, _⟩ := hn; rw [← e, ho] at hD; cases hD
  show wpAny _ A (assign (.Name y py) env (.ref D)) _ _ _
  refine wpAny_assign_Name (wpAny_storeName_local hy (hn.at' fun o e => hk _ o e) (fun h₂ hn₂ hs₂ => ?_) hp)
  refine ⟨m', hns.sameBut hs₂ (Ne.symm hLC), fun h₃ hs₃ => ?_⟩
  refine hQ D h₃ _ (hn₂.sameBut hs₃ hLC) (fun b o hb e => hs₃.extBut b o (by rintro rfl; rw [hC] at e; cases e) (hs₂.extBut b o hb (hk b o e))) ?_
  refine Rd.mk_list (vs := ys.toList) ⟨hP D hD, Ne.symm hLD⟩ (by simpa using ((hpl.extBut hs₂.extBut (Ne.symm hLD)).extBut hs₃.extBut hDC).isList) ?_
  exact hr.mono fun b o p e => ⟨hs₃.extBut b o p.2.1 (hs₂.extBut b o (by rintro rfl; exact hPL p.1) e), p.1, by rintro rfl; exact hPL p.1⟩
end
end Mine
end

/-! ### IntB -/
section
set_option maxRecDepth 100000
namespace Mine
open PySem PySem.W PySem.Calls PySem.NumText PyProof.Rows

set_option maxHeartbeats 4000000 in
theorem gives_base {x : PySem.Str} {u tb : Tok} {n : Int} (hl : x.length ≤ 640) (hn : PySem.intText? x = some n) : Gives (Builtin.«int.__new__» ⟨[.type "int", .str x u, .int 10 tb], []⟩) (.int n) :=
  .of_wp fun M A E s Q h => by
    obtain ⟨hp, g, d, tk, os⟩ := s
    have f1 := F.conv_sub_int
    have f2 := F.madeHere_int
    have f6 : typeOf (.str x u) = pure (.type "str") := rfl
    have hs : (numSeenOf x).length ≤ 640 := Nat.le_trans (seen_length x) hl
    have hr : (int_private% "readNumeral") 0 10 (numSeenOf x) = (int_private% "Numeral.value") n ∧ ((numSeenOf x).length == (numTextOf x).length) = true := by
      rcases read0 x hs with ⟨m, h1, h2, h3⟩ | ⟨h1, _⟩
      · rw [hn] at h1
        injection h1 with h1
        subst h1
        exact ⟨h3, h2⟩
      · rw [hn] at h1
        cases h1
    have hk := KIN.Hid.mk (And.intro hs hr)
    clear hs hr hl hn
    repeat (any_goals (first
      | assumption
      | ((with_reducible show wpAny _ _ ((int_private% "intFromText") _ _ _) _ _ _); refine KIN.wp_text hk.out.1 hk.out.2.1 hk.out.2.2 ?_)
      | wp_step))
    all_goals first | exact ⟨_, rfl, h⟩ | skip
theorem typeCall_int_2 (a b : Value) : checkTypeCall "int" ⟨[a, b], []⟩ = pure () := by kernel_rfl
theorem newCall_int_2 (a b : Value) : checkBuiltinCall "int.__new__" ⟨[.type "int", a, b], []⟩ = pure () := by kernel_rfl
section
variable {prog : Program} {w : World} {A : Around} {E : Value → Shared → Prop} {s : Shared} {Q : Value → Shared → Prop}
theorem call_base {x : PySem.Str} {t tb : Tok} {n : Int} (hn : PySem.intText? x = some n) (hl : x.length ≤ 640) (h : Q (.int n s.toks) { s with toks := s.toks + 1 }) : wpAny (model prog w) A (call (.type "int") [.str x t, .int 10 tb]) Q E s :=
  callType_new F.called_int F.newNe_int (typeCall_int_2 _ _) (newCall_int_2 _ _) (fun obj => F.initArgs_range_2 obj _ _) F.entry_int_new (gives_base hl hn).meets (show (Made.int n).post _ s from ⟨rfl, h⟩)
end
end Mine
end

/-! ### IntR -/
section
set_option maxRecDepth 100000
namespace Mine
open PySem PySem.W PySem.Calls PySem.NumText PyProof.Rows

def rcTxt : Str := Str.ofString "rc"
/-- what is left of int('rc', 10): a text of the value, a ValueError with it, marked and raised -/
def Refuses (t : Sem Fin) (v : Value) : Prop :=
  ∃ (r : String) (f : Str → Str) (own : List String), (∀ x, (f x).length ≤ 1000) ∧
    t = ((rule r >>= fun _ => pyRepr v >>= fun x => mkStr (f x) >>= fun m => newExc (.type "ValueError") [m] >>= fun e => markTheRefusal own e >>= fun _ => raiseNew e) >>= fun v => ret v)
theorem int_rc (u tb : Tok) : Refuses (Builtin.«int.__new__» ⟨[.type "int", .str rcTxt u, .int 10 tb], []⟩) (.str rcTxt u) := by
  refine' Exists.intro _ (Exists.intro _ (Exists.intro _ (And.intro _ _)))
  rotate_left 4
  · with_unfolding_all rfl
  · intro x
    show (_ ++ x.cps.extract 0 200 : Array Nat).size ≤ 1000
    rw [Array.size_append, Array.size_extract]
    exact Nat.le_trans (Nat.add_le_add (b := 100) (d := 200) (by decide +kernel) (by omega)) (by decide)

theorem no_mark {own : List String} {codes : List Code} (h : codes.any Code.isCaller = true) : pythonCodeMadeTheCall own codes = false := by
  unfold pythonCodeMadeTheCall
  show ((!codes.any Code.isCaller && _) && _) = false
  rw [h]
  rfl
section
variable {prog : Program} {w : World} {A : Around} {E : Value → Shared → Prop} {s : Shared}
theorem wpC_mark {M : Model} {own : List String} {e : Value} {Q : Unit → Shared → Prop} (h : Q () s) : wpC M A (markTheRefusal own e) Q E s := fun Γ p i c => by
  unfold markTheRefusal
  rw [Sem.wp_bind']
  show Sem.wp M Γ (stack) _ _ p s
  show Sem.wp M Γ (.stack .pure) _ _ p s
  rw [Sem.wp_stack, Sem.wp_pure]
  have : pythonCodeMadeTheCall own (((Γ.code, p) :: Γ.below).map (·.1)) = false := no_mark (c.below p)
  rw [this]
  exact h
theorem wpC_refuse {u : Tok} {t : Sem Fin} {Q : Fin → Shared → Prop} (hh : A.handled = none) (ht : Refuses t (.str rcTxt u)) (h : ∀ h' tk e m t, Heap.MadeExc s.heap h' e "ValueError" [.str m t] → E (.ref e) { s with heap := h', toks := tk }) : wpC (model prog w) A t Q E s := by
  obtain ⟨r, f, own, hf, rfl⟩ := ht
  refine wpC_bind (wpC_bind (wpC_of (wpAny_rule (wpC_bind (wpC_of (wpAny_pyRepr_str (wpC_bind (wpC_of (wpAny_mkStr (wpC_bind (wpC_of (wpAny_newExc_plain plainExc_ValueError fun h' e he => ?_))) ?_))) ?_))))))
  · exact wpC_bind (wpC_mark (wpC_of (wpAny_raiseNew_none hh (h _ _ _ _ _ he))))
  · exact Nat.le_trans (hf _) (by rw [sizeLine_eq]; decide)
  · rw [sizeLine_eq]; decide +kernel
theorem type_call_rc (u tb : Tok) : ∃ k, Builtin.«type.__call__» ⟨[.type "int", .str rcTxt u, .int 10 tb], []⟩ = (holding [.builtin "int.__new__"] (call (.builtin "int.__new__") [.type "int", .str rcTxt u, .int 10 tb] []) >>= k) := by
  unfold Builtin.«type.__call__»
  simp only [F.mro_int, F.called_int.made, typeCall_int_2, pure_bind, F.called_int.notType, F.called_int.canCreate, Bool.false_eq_true, if_false, List.isEmpty_cons]
  exact ⟨_, rfl⟩
theorem codeC_builtin {R : Result → Shared → Prop} {id : String} {args : Args} {b : Builtin} (hb : entryFor table id = some b)
    (h : wpC (model prog w) (A.under (.builtin id args)) (b args) (fun fin s' => match fin with | .done f => R (.ok f) s' | .again c' => c'.quiet = true ∧ codeC (model prog w) A c' R s') (fun e s' => R (.error e) s') s) :
    codeC (model prog w) A (.builtin id args) R s := by
  refine codeC_of_tree ?_
  show wpC _ _ (match entryFor table id with | some b => b args | none => unsupported ((withoutEnding? id "#data").getD id)) _ _ s
  rw [hb]; exact h
theorem codeC_call_builtin {R : Result → Shared → Prop} {id : String} {args : Args} (hq : (Code.builtin id args).quiet = true) (hc : checkBuiltinCall id args = pure ()) (h : codeC (model prog w) A (.builtin id args) R s) :
    codeC (model prog w) A (.call (.builtin id) args) R s := by
  refine codeC_of_tree ?_
  show wpC _ A.in1 (do checkBuiltinCall id args; again (.builtin id args)) _ _ s
  rw [hc]
  exact wpC_bind (wpC_pure (wpC_pure ⟨hq, h⟩))
theorem callC_rc {u tb : Tok} {Q : Value → Shared → Prop} (hh : A.handled = none) (h : ∀ h' tk e m t, Heap.MadeExc s.heap h' e "ValueError" [.str m t] → E (.ref e) { s with heap := h', toks := tk }) :
    wpC (model prog w) A (call (.type "int") [.str rcTxt u, .int 10 tb]) Q E s := by
  refine wpC_call (codeC_of_tree ?_)
  show wpC _ _ (callAny (.type "int") _) _ _ _
  refine wpC_pure ⟨Code.quiet_builtin _ (by decide +kernel), codeC_builtin F.entry_type_call ?_⟩
  obtain ⟨k, hk⟩ := type_call_rc u tb
  rw [hk]
  refine wpC_bind (wpC_holding (wpC_call (codeC_call_builtin (Code.quiet_builtin _ (by decide +kernel)) (newCall_int_2 _ _) (codeC_builtin F.entry_int_new ?_))))
  exact wpC_refuse hh (int_rc u tb) h
end
end Mine
end

/-! ### Caught -/
section
set_option maxRecDepth 100000
namespace Mine
open PySem PySem.W PySem.Calls PyProof.Rows

/-- all is kept, but the slots of the frames -/
def KeepF (fr : List Addr) (h h' : Heap) : Prop := (∀ b o, b ∉ fr → h.get? b = some o → h'.get? b = some o) ∧ ∀ b o, h.get? b = some o → ∃ sl, h'.get? b = some { o with slots := sl }
theorem KeepF.refl (fr : List Addr) (h : Heap) : KeepF fr h h := ⟨fun _ _ _ e => e, fun _ o e => ⟨o.slots, e⟩⟩
theorem KeepF.of_keeps {fr : List Addr} {h h' : Heap} (k : ∀ b o, h.get? b = some o → h'.get? b = some o) : KeepF fr h h' := ⟨fun b o _ e => k b o e, fun b o e => ⟨o.slots, k b o e⟩⟩
theorem KeepF.trans {fr : List Addr} {a b c : Heap} (x : KeepF fr a b) (y : KeepF fr b c) : KeepF fr a c :=
  ⟨fun p o hp e => y.1 p o hp (x.1 p o hp e), fun p o e => let ⟨_, e₁⟩ := x.2 p o e; let ⟨sl, e₂⟩ := y.2 p _ e₁; ⟨sl, e₂⟩⟩
theorem KeepF.ns {fr : List Addr} {h h' : Heap} {a : Addr} {m : Str → Option Value} (x : KeepF fr h h') (hn : h.Ns a m) : h'.Ns a m := by
  obtain ⟨o, es, ep, ho, hd, r⟩ := hn
  obtain ⟨sl, hs⟩ := x.2 a o ho
  exact ⟨_, es, ep, hs, hd, r⟩

section
variable {prog : Program} {w : World} {A : Around} {E : Value → Shared → Prop} {s : Shared} {env : Env}

theorem note_new {M : Model} {outer : List Env} {base : Heap} {L e : Addr} {oe : Obj} {vs : Array Value} {Q : Unit → Shared → Prop} (hfr : A.frames = some (env :: outer)) (hl : s.heap.FunFrames base (env :: outer)) (hf : env.frame = some L)
    (he : s.heap.get? e = some oe) (hd : oe.data = .fields vs) (h1 : vs[1]? = some .none)
    (h : ∀ h' tb {ts : Array Value}, (∀ b o, b ≠ e → b ∉ (env :: outer).filterMap (·.frame) → s.heap.get? b = some o → h'.get? b = some o) → (∀ b o, b ≠ e → s.heap.get? b = some o → ∃ sl, h'.get? b = some { o with slots := sl }) → s.heap.get? tb = none → tb ≠ e →
      h'.get? e = some (oe.mapFields (·.setIfInBounds 1 (.ref tb))) → h'.get? tb = some { cls := .type "traceback", dict := none, data := .fields ts } → 3 < ts.size → Q () { s with heap := h' }) :
    wpAny M A (noteFrame (.ref e) env) Q E s := by
  have hsz : 1 < vs.size := (Array.getElem?_eq_some_iff.mp h1).1
  have hene : e ∉ (env :: outer).filterMap (·.frame) := fun hm => by
    obtain ⟨_, o, ho, hnf⟩ := hl.mem hm
    rw [he] at ho; injection ho with ho; subst ho; exact hnf vs hd
  unfold noteFrame
  simp only [hf]
  refine wpAny_bind (wpAny_field he hd h1 ?_)
  rw [if_neg (by decide)]
  refine wpAny_bind (wpAny_frameOf_fun hfr hl hf fun h₁ hs₁ => ?_)
  refine wpAny_bind (wpAny_entryPlaceOf fun pl hpl => ?_)
  unfold EntryCells.newEntry newFields
  refine wpAny_bind (wpAny_newObj_type ?_ (hpl.sizeOk5 _ _ _ _ _))
  have he₁ : h₁.get? e = some oe := (hs₁.2.1 e hene).trans he
  have he₂ := Heap.get?_push_of_some (h := h₁) { cls := .type "traceback", dict := none, data := .fields ([Value.none, .ref L, .none, rawInt L, .none] ++ (if pl.isEmpty then List.replicate 6 Value.none else pl)).toArray } he₁
  refine wpAny_setField he₂ hd hsz ?_
  have hTe : h₁.objs.size ≠ e := Nat.ne_of_gt (Heap.lt_size he₁)
  have hd₃ := Obj.data_mapFields hd (·.setIfInBounds 1 (Value.ref h₁.objs.size))
  refine h _ h₁.objs.size (ts := ([Value.none, .ref L, .none, rawInt L, .none] ++ (if pl.isEmpty then List.replicate 6 Value.none else pl)).toArray) (fun b o hbe hbf hb => ?_) (fun b o hbe hb => ?_) (Heap.get?_none_of_le (by rw [hs₁.1]; exact Nat.le_refl _)) hTe (Heap.get?_update_self _ he₂ (Obj.isFreed_of_fields hd₃)) ?_ (by simp only [List.size_toArray, List.length_append, List.length_cons, List.length_nil]; omega)
  · rw [Heap.get?_update_other _ _ (Ne.symm hbe)]
    exact Heap.get?_push_of_some _ ((hs₁.2.1 b hbf).trans hb)
  · obtain ⟨sl, hb'⟩ := hs₁.2.2 b o hb
    exact ⟨sl, by rw [Heap.get?_update_other _ _ (Ne.symm hbe)]; exact Heap.get?_push_of_some _ hb'⟩
  · rw [Heap.get?_update_other _ _ (Ne.symm hTe)]
    exact Heap.get?_push_size h₁ rfl

/-- a fresh ValueError is caught by its handler: all is kept but the slots of the frames -/
theorem caught {h0 : Heap} {outer : List Env} {base : Heap} {L e : Addr} {args : List Value} {t : PySem.Expr} {b₀ : Stmt} {suite : List Stmt} {pos : Pos} {Q : Flow → Shared → Prop}
    (hfr : A.frames = some (env :: outer)) (hl : s.heap.FunFrames base (env :: outer)) (hf : env.frame = some L) (hx : Heap.MadeExc h0 s.heap e "ValueError" args)
    (ht : ∀ h' (Q' : Value → Shared → Prop) (E' : Value → Shared → Prop), KeepF ((env :: outer).filterMap (·.frame)) h0 h' → Q' (.type "ValueError") { s with heap := h' } → wpAny (model prog w) (A.mark (some (.ref e))) (eval t env) Q' E' { s with heap := h' })
    (h : ∀ h' (E' : Value → Shared → Prop), KeepF ((env :: outer).filterMap (·.frame)) h0 h' → wpAny (model prog w) (A.mark (some (.ref e))) (execs (b₀ :: suite) env) Q E' { s with heap := h' }) :
    wpAny (model prog w) A (noteFrame (.ref e) env) (fun _ s₂ => wpAny (model prog w) A (setFlight (.ref e) none) (fun _ s₃ => wpAny (model prog w) A (handleBy (.ref e) env [.ExceptHandler (some t) none (b₀ :: suite) pos]) Q E s₃) E s₂) E s := by
  obtain ⟨tt, he, htn, _⟩ := hx.there
  have hne : ∀ b o, h0.get? b = some o → b ≠ e := fun b o q z => by rw [z, hx.new] at q; cases q
  refine note_new hfr hl hf he rfl rfl fun h₁ tb ts k1 k2 htb0 htbe he₁ htb hts => ?_
  have K₁ : KeepF ((env :: outer).filterMap (·.frame)) h0 h₁ := ⟨fun b o hb q => k1 b o (hne b o q) hb (hx.keeps b o q), fun b o q => k2 b o (hne b o q) (hx.keeps b o q)⟩
  have hbt : ∀ b o, h0.get? b = some o → b ≠ tb := fun b o q z => by have := hx.keeps b o q; rw [z, htb0] at this; cases this
  have he₁' : h₁.get? e = some { cls := .type "ValueError", data := .fields #[.ref tt, .ref tb, .none, .none, .bool false, .none] } := he₁
  refine wpAny_setFlight_none he₁' rfl rfl htb rfl hts ?_
  have other : ∀ (f : Obj → Obj) (h : Heap) b, b ≠ tb → (h.update tb f).get? b = h.get? b := fun f h b hb => Heap.get?_update_other _ _ (Ne.symm hb)
  generalize hH2 : h₁.update tb (Obj.mapFields (·.setIfInBounds 3 .none)) = h₂
  have o₂ : ∀ b, b ≠ tb → h₂.get? b = h₁.get? b := fun b hb => by rw [← hH2]; exact other _ _ b hb
  have he₂ : h₂.get? e = some { cls := .type "ValueError", data := .fields #[.ref tt, .ref tb, .none, .none, .bool false, .none] } := (o₂ e (Ne.symm htbe)).trans he₁'
  have htb₂ : h₂.get? tb = some (Obj.mapFields (·.setIfInBounds 3 .none) { cls := .type "traceback", dict := none, data := .fields ts }) := by
    rw [← hH2]; exact Heap.get?_update_self _ htb (Obj.isFreed_of_fields (Obj.data_mapFields rfl _))
  have K₂ : KeepF ((env :: outer).filterMap (·.frame)) h0 h₂ := ⟨fun b o hb q => (o₂ b (hbt b o q)).trans (K₁.1 b o hb q), fun b o q => let ⟨sl, z⟩ := K₁.2 b o q; ⟨sl, (o₂ b (hbt b o q)).trans z⟩⟩
  refine wpAny_handleBy_builtin (T := "ValueError") (X := "ValueError") (b := true) (by rw [isSubtype_type]; kernel_rfl) (by rw [isSubtype_type]; kernel_rfl) (by rw [isSubtype_type]; kernel_rfl) ?_
  refine ht h₂ _ _ K₂ ⟨rfl, ⟨_, he₂, rfl⟩, ?_⟩
  rw [if_pos rfl]
  refine wpAny_setFlight_none he₂ rfl rfl htb₂ (Obj.data_mapFields rfl _) (by simpa using hts) ?_
  refine h _ _ ⟨fun b o hb q => (other _ _ b (hbt b o q)).trans (K₂.1 b o hb q), fun b o q => let ⟨sl, z⟩ := K₂.2 b o q; ⟨sl, (other _ _ b (hbt b o q)).trans z⟩⟩
end
end Mine
end

/-! ### Cmpv0 -/
section
set_option maxRecDepth 100000
set_option maxHeartbeats 1000000
namespace Mine
open PySem PySem.W PyProof.Rows PySem.SeqAt

theorem slot_split : Slot "re.Pattern" "split" "re.Pattern.split" :=
  .of (owner := "re.Pattern") (n := "split") (by rw [typeLookup_type, builtinLookup_eq_fast]; kernel_rfl) (by decide +kernel) (by decide +kernel) (by decide +kernel)
    (by first | exact .inl (by decide +kernel) | exact .inr (by decide +kernel)) (by rw [isSubtype_type]; kernel_rfl)
theorem type_split : typeOf (.builtin "re.Pattern.split") = pure (.type "method_descriptor") := by show builtinType _ = _; rw [builtinType_eq_fast]; kernel_rfl
theorem entry_split : entryFor table "re.Pattern.split" = some Builtin.«re.Pattern.split» := entryFor_of_tree (by kernel_rfl)
theorem args_split (a b : Value) : argsOk "re.Pattern.split" ⟨[a, b], []⟩ := by unfold argsOk; kernel_rfl
theorem plainAttrs_pat : PlainAttrs "re.Pattern" :=
  ⟨⟨"object.__getattribute__", by rw [typeLookup_type, builtinLookup_eq_fast]; kernel_rfl, by decide +kernel⟩, by rw [typeLookup_type, builtinLookup_eq_fast]; kernel_rfl⟩

section
variable {prog : Program} {w : World} {A : Around} {E : Value → Shared → Prop} {s : Shared}
theorem get_split {pl : Sem Bool} {Q : Value × List Value → Shared → Prop} (C : Cx w s.heap) (h : Q (.builtin "re.Pattern.split", [.ref 43]) s) : wpAny (model prog w) A (getMethod (.ref 43) (Str.ofString "split") pl) Q E s := by
  refine getMethod_builtin (T := "re.Pattern") ?_ plainAttrs_pat slot_split type_split ?_ h
  · exact ⟨_, C.X 43 _ rfl, rfl⟩
  · intro a e; cases e; exact ⟨_, C.X 43 _ rfl, rfl⟩
theorem call_split {x : Str} {tx : Tok} {ms : List (Nat × Nat)} {Q : Value → Shared → Prop} (C : Cx w s.heap) (hx : x.cps.size ≤ 1000000) (ch : Chain x.cps 0 ms) (hm : ms.length ≤ x.cps.size)
    (h : ∀ (vs : List Value) tk, Paired IsText vs (spl x.cps 0 ms) → Q (.ref s.heap.objs.size) { s with heap := s.heap.push { cls := .type "list", data := .seq vs.toArray }, toks := tk }) :
    wpAny (model prog w) A (call (.builtin "re.Pattern.split") [.ref 43, .str x tx]) Q E s := by
  refine wpAny_call_entry slot_split ⟨_, C.X 43 _ rfl, rfl⟩ entry_split ?_ (args_split _ _)
  refine wp_split (C.X 43 _ rfl) rfl (C.X 42 _ rfl) rfl ?_ hx ch hm fun vs tk hv => ?_
  · kernel_rfl
  · exact ⟨_, rfl, h vs tk hv⟩
theorem stage_map (C : Cx w s.heap) : ∃ f : Str → Option Value, s.heap.MapOf (strKind prog w) 44 f ∧ ∃ t, f rcTxt = some (.int 50 t) := by
  refine ⟨_, mapOf_K C.X (a := 44) rfl ?_, ?_⟩
  · exact ⟨⟨_, _, rfl, rfl⟩, ⟨_, _, rfl, rfl⟩, ⟨_, _, rfl, rfl⟩, ⟨_, _, rfl, rfl⟩, ⟨_, _, rfl, rfl⟩, ⟨_, _, rfl, rfl⟩, ⟨_, _, rfl, rfl⟩, ⟨_, _, rfl, rfl⟩, ⟨_, _, rfl, rfl⟩, ⟨_, _, rfl, rfl⟩, trivial⟩
  · exact ⟨353, by kernel_rfl⟩
theorem call_stage {t : Tok} {dflt : Value} {Q : Value → Shared → Prop} (C : Cx w s.heap) (h : ∀ t', Q (.int 50 t') { s with toks := s.toks + 1 }) : wpAny (model prog w) A (call (.builtin "dict.get") [.ref 44, .str rcTxt t, dflt]) Q E s := by
  obtain ⟨f, hm, t', hf⟩ := stage_map (prog := prog) C
  refine call_meetsIn PySem.F.slot_dict_get hm.typeIs PySem.F.entry_dict_get (PySem.F.args_dict_get_3 _ _ _) (meets_dict_get_default (strKind prog w) 44 (strKind_is prog w rcTxt t) (by decide) dflt) ⟨f, hm, ?_⟩
  rw [hf]
  exact h t'
theorem get_get {pl : Sem Bool} {Q : Value × List Value → Shared → Prop} (C : Cx w s.heap) (h : Q (.builtin "dict.get", [.ref 44]) s) : wpAny (model prog w) A (getMethod (.ref 44) (Str.ofString "get") pl) Q E s := by
  refine getMethod_builtin (T := "dict") ?_ PySem.F.plainAttrs_dict PySem.F.slot_dict_get PySem.F.type_dict_get ?_ h
  · exact ⟨_, C.X 44 _ rfl, rfl⟩
  · intro a e; cases e; exact ⟨_, C.X 44 _ rfl, rfl⟩
theorem get_extend {D : Addr} {ys : Array Value} {pl : Sem Bool} {Q : Value × List Value → Shared → Prop} (hD : s.heap.PlainList D ys) (h : Q (.builtin "list.extend", [.ref D]) s) : wpAny (model prog w) A (getMethod (.ref D) (Str.ofString "extend") pl) Q E s := by
  obtain ⟨n, e⟩ := hD
  refine getMethod_builtin (T := "list") ⟨_, e, rfl⟩ PySem.F.plainAttrs_list PySem.F.slot_list_extend PySem.F.type_list_extend ?_ h
  intro a q; cases q; exact ⟨_, e, rfl⟩
theorem call_extend {D T : Addr} {ys zs : Array Value} {n : Nat} {Q : Value → Shared → Prop} (hD : s.heap.PlainList D ys) (hT : s.heap.get? T = some { cls := .type "tuple", data := .seq zs n }) (hz : ys.size + zs.size ≤ 1000)
    (h : ∀ h', h'.PlainList D (ys ++ zs) → Heap.SameBut D s.heap h' → Q .none { s with heap := h' }) : wpAny (model prog w) A (call (.builtin "list.extend") [.ref D, .ref T]) Q E s := by
  obtain ⟨k, ho⟩ := hD
  have szl := sizeLine_eq
  refine call_meets PySem.F.slot_list_extend ⟨_, ho, rfl⟩ PySem.F.entry_list_extend (PySem.F.args_list_extend_2 _ _) (PySem.AutoSeq1.list_extend_list_tuple_0 D ys k T zs n ?_ (by omega) (by omega)) ⟨ho, hT, ?_⟩
  · intro q
    rw [Bool.and_eq_true] at q
    have := q.2
    unfold Builtin.List.listTooLong at this
    simp at this
    omega
  · have e : ∃ n', Obj.mapSeq (fun x => x ++ zs) { cls := .type "list", data := .seq ys k } = { cls := .type "list", data := .seq (ys ++ zs) n' } := ⟨_, rfl⟩
    obtain ⟨n', e⟩ := e
    refine h _ ⟨n', ?_⟩ (Heap.SameBut.update ..)
    rw [Heap.get?_update_self _ ho (by rw [e]; rfl), e]
end
end Mine
end

/-! ### Cmpv -/
section
set_option maxRecDepth 100000
set_option maxHeartbeats 2000000
namespace Mine
open PySem PySem.W PyProof.Rows PySem.SeqAt

def sepTxt : Str := Str.ofString "._+-"
/-- what one piece of the split gives -/
inductive Item : Str → List PyData → Prop
  | skip {x : Str} : Txt.contains sepTxt x = true → Item x []
  | num {i : Int} : 0 ≤ i ∧ i < 12 → Item (Str.ofString (toString i)) [.int 100, .int i]
  | rc : Item rcTxt [.int 50, .str rcTxt]

theorem KeepF.cons {fr : List Addr} {h h' : Heap} {L : Addr} (hL : h.get? L = none) (k : KeepF (L :: fr) h h') : KeepF fr h h' :=
  ⟨fun b o hb e => k.1 b o (by
    intro q; rcases List.mem_cons.mp q with rfl | q
    · rw [hL] at e; cases e
    · exact hb q) e, k.2⟩
theorem ne_get {h : Heap} {a b : Addr} {o : Obj} (e : h.get? b = some o) (n : h.get? a = none) : b ≠ a := by rintro rfl; rw [n] at e; cases e
theorem rd_none {h h' : Heap} {vs : List Value} {ds : List PyData} (r : RdAll h (fun _ => False) vs ds) {P : Addr → Prop} : RdAll h' P vs ds := r.mono fun _ _ p => p.elim

theorem Paired_get {α β : Type} {F : α → β → Prop} : ∀ {l₁ : List α} {l₂ : List β}, Paired F l₁ l₂ → ∀ {i : Nat} {a : α}, l₁[i]? = some a → ∃ b, l₂[i]? = some b ∧ F a b
  | _, _, .nil, i, a, h => by simp at h
  | _, _, .cons p r, 0, a, h => by simp at h; subst h; exact ⟨_, rfl, p⟩
  | _, _, .cons p r, i + 1, a, h => by simpa using Paired_get r (by simpa using h)
theorem cx_frames {w : World} {hB h0 h : Heap} {outer : List Env} (CB : Cx w hB) (hS : hB.StaysIn h0) (hf : h0.FunFrames hB outer) (k : KeepF (outer.filterMap (·.frame)) h0 h) : Cx w h :=
  CB.keeps fun b o e => k.1 b o (fun q => by rw [(hf.mem q).1] at e; cases e) (hS b o e)
theorem funFrames_keepF {fr : List Addr} {hB h0 h : Heap} {outer : List Env} (k : KeepF fr h0 h) (hf : h0.FunFrames hB outer) : h.FunFrames hB outer :=
  hf.of_keeps fun b o e _ => let ⟨sl, z⟩ := k.2 b o e; ⟨_, z, rfl⟩
theorem num_in {i : Int} (h : 0 ≤ i ∧ i < 12) : Txt.contains sepTxt (Str.ofString (toString i)) = false ∧ PySem.intText? (Str.ofString (toString i)) = some i ∧ (Str.ofString (toString i)).length ≤ 640 := by
  obtain ⟨n, rfl⟩ := Int.eq_ofNat_of_zero_le h.1
  have : n < 12 := by omega
  have key : ∀ n : Nat, n < 12 → Txt.contains sepTxt (Str.ofString (toString (n : Int))) = false ∧ PySem.intText? (Str.ofString (toString (n : Int))) = some (n : Int) ∧ (Str.ofString (toString (n : Int))).length ≤ 640 := by decide +kernel
  exact key n this
theorem rc_in : Txt.contains sepTxt rcTxt = false := by decide +kernel

theorem KeepF.step {fr : List Addr} {h0 h h' : Heap} (k : KeepF fr h0 h) (hk : ∀ b o o', h0.get? b = some o' → h.get? b = some o → h'.get? b = some o) : KeepF fr h0 h' :=
  ⟨fun b o hb e => hk b o o e (k.1 b o hb e), fun b o e => let ⟨sl, z⟩ := k.2 b o e; ⟨sl, hk b _ o e z⟩⟩
theorem KeepF.of_weak {fr : List Addr} {h h' : Heap} {L : Addr} (k : KeepF fr h h') : KeepF (L :: fr) h h' := ⟨fun b o hb e => k.1 b o (fun q => hb (List.mem_cons_of_mem _ q)) e, k.2⟩
theorem boot_VE : bootBuiltins "ValueError" = some (.type "ValueError") := by decide +kernel
theorem rdnum {h : Heap} {ys : List Value} {dss : List (List PyData)} {i : Nat} {ds : List PyData} {us : List Value} (r : RdAll h (fun _ => False) ys (dss.take i).flatten) (e : dss[i]? = some ds) {h' : Heap} (q : RdAll h' (fun _ => False) us ds) :
    RdAll h' (fun _ => False) (ys ++ us) (dss.take (i + 1)).flatten := by
  rw [List.take_add_one, e]
  simpa using (rd_none (h' := h') r).append q

section
variable {prog : Program} {w : World} {A : Around} {s : Shared}

theorem enterC {Φ : Value → Shared → Prop} {f : Addr} {o : Obj} {fd : FuncData} {body : List Stmt} {vals : List Value} {binds : List (Str × Value)} (C : Cx w s.heap) (hd : A.depth < 550)
    (ho : (KK w).lookup f = some o) (hdata : o.data = .func fd) (hcd : codeIn (KK w) fd.code fd.qualname = true) (hbody : fd.body = .stmts body) (hbind : bindArgs fd ⟨vals, []⟩ = pure binds) (hclo : fd.closure = [])
    (hkind : ∀ x ∈ binds, fd.scope.names.lookup x.1 = some .local ∨ (fd.scope.names.lookup x.1 = some .cell ∧ ((cellsFrom (s.heap.objs.size + 1) fd.scope.names []).lookup x.1).isSome = true))
    (h : ∀ h₁ tk₁, InCallC s (callEnvC fd s.heap.objs.size f).locals (bindL (callEnvC fd s.heap.objs.size f).kindOf binds fun _ => none) (callEnvC fd s.heap.objs.size f).cells
        (bindC (callEnvC fd s.heap.objs.size f).kindOf binds fun _ => none) { s with heap := h₁, toks := tk₁ } → Cx w h₁ → (∀ b o, s.heap.get? b = some o → h₁.get? b = some o) →
      wpC (model prog w) (A.deeper (callEnvC fd s.heap.objs.size f)) (execs body (callEnvC fd s.heap.objs.size f)) (fun fl s' => Φ (match fl with | .ret v => v | _ => .none) s') (fun _ _ => False) { s with heap := h₁, toks := tk₁ })
    (hco : fd.scope.isCoroutine = false) (hgen : fd.scope.isGenerator = false) (hk : fd.scope.kind = .function) :
    codeC (model prog w) A (.call (.ref f) ⟨vals, []⟩) (fun r s' => ∃ v, r = .ok (.ret v) ∧ Φ v s') s := by
  obtain ⟨mg, mb, mean, T⟩ := C.T
  refine codeC_call_cells (by rw [recursionLimit]; omega) (C.X _ _ ho) hdata T.nolimit (codeRec_of C.X hcd) hbody hbind hclo hkind (fun s₁ I => ?_) hco hgen hk
  obtain ⟨h₁, tk₁, rfl⟩ := I.toInCall.same
  exact wpC_mono (h h₁ tk₁ I (C.keeps I.toInCall.keep) I.toInCall.keep) (fun fl s' hq => ⟨_, rfl, hq⟩) fun e s' he => he

theorem ext_stmt {env : Env} {E : Value → Shared → Prop} {D : Addr} {m : Str → Option Value} {ys : List Value} {a b : Value} {p1 p2 p3 p4 p5 p6 p7 : Pos} {k : Nat} {Q : Flow → Shared → Prop}
    (hn : s.heap.Ns env.locals m) (hr : m (Str.ofString "result") = some (.ref D)) (ht : m (Str.ofString "t") = some a) (hv : m (Str.ofString "v") = some b) (hl : s.heap.PlainList D ys.toArray) (hz : ys.length ≤ 500)
    (hk : env.scope.kind = .function) (k1 : env.kindOf (Str.ofString "result") = some .local) (k2 : env.kindOf (Str.ofString "t") = some .local) (k3 : env.kindOf (Str.ofString "v") = some .local)
    (hi : interactive env = false) (hsw : swapsWith (.Call (.Attribute (.Name (Str.ofString "result") p1) (Str.ofString "extend") p2) [.Tuple [.Name (Str.ofString "t") p3, .Name (Str.ofString "v") p4] k p5] [] p6) none p7.line env = pure false)
    (he : ∃ pl, eval (.Call (.Attribute (.Name (Str.ofString "result") p1) (Str.ofString "extend") p2) [.Tuple [.Name (Str.ofString "t") p3, .Name (Str.ofString "v") p4] k p5] [] p6) env = (do
      let ov ← eval (.Name (Str.ofString "result") p1) env
      standAt p2.atName
      let (f, first) ← holding [ov] (getMethod ov (Str.ofString "extend") pl)
      callWith p6 f first (backTo p6 (starEach [.Tuple [.Name (Str.ofString "t") p3, .Name (Str.ofString "v") p4] k p5] env)) []))
    (h : ∀ h', h'.PlainList D (ys ++ [a, b]).toArray → (∀ c o, c ≠ D → s.heap.get? c = some o → h'.get? c = some o) → Q .next { s with heap := h' }) :
    wpAny (model prog w) A (exec (.Expr (.Call (.Attribute (.Name (Str.ofString "result") p1) (Str.ofString "extend") p2) [.Tuple [.Name (Str.ofString "t") p3, .Name (Str.ofString "v") p4] k p5] [] p6) p7) env) Q E s := by
  obtain ⟨pl, he⟩ := he
  refine wpAny_Expr (MethodCall_ (pl := pl) (wpAny_Name (wpAny_loadName_local hk k1 hn hr ?_) (by decide)) he) hi hsw
  refine get_extend hl ?_
  refine callWith_method1 (wpAny_items_cons (Tuple_ (wpAny_items_cons (wpAny_Name (wpAny_loadName_local hk k2 hn ht ?_) (by decide)))))
  refine wpAny_items_cons (wpAny_Name (wpAny_loadName_local hk k3 hn hv ?_) (by decide))
  refine wpAny_items_nil (wpAny_newObj_type ?_ (by show 2 ≤ sizeLine; rw [sizeLine_eq]; decide))
  obtain ⟨n, e⟩ := hl
  refine wpAny_items_nil (call_extend (s := { s with heap := _ }) (ys := ys.toArray) (zs := [a, b].toArray) ⟨n, Heap.get?_push_of_some _ e⟩ (Heap.get?_push_size _ rfl) (by simp; omega) fun h' hp hs => ?_)
  exact h h' (by simpa using hp) fun c o hc q => hs.extBut c o hc (Heap.get?_push_of_some _ q)

/-- what stands while the pieces are walked -/
structure At (w : World) (hB h0 : Heap) (outer : List Env) (L D I S : Addr) (vs : List Value) (dss : List (List PyData)) (i : Nat) (h : Heap) (m : Str → Option Value) (ys : List Value) : Prop where
  ns : h.Ns L m
  res : m (Str.ofString "result") = some (.ref D)
  lst : h.PlainList D ys.toArray
  rd : RdAll h (fun _ => False) ys (dss.take i).flatten
  it : h.IsListIter I S i
  src : h.IsList S vs.toArray
  kept : KeepF (outer.filterMap (·.frame)) h0 h

theorem cmpv_ret {hB : Heap} {outer : List Env} (CB : Cx w hB) (hS : hB.StaysIn s.heap) (hh : A.handled = none) (hd : A.depth < 545) (hfr : A.frames = some outer) (hfun : s.heap.FunFrames hB outer)
    {x : Str} {tx : Tok} {ms : List (Nat × Nat)} {dss : List (List PyData)} (hx : x.cps.size ≤ 1000) (ch : Chain x.cps 0 ms) (hm : ms.length ≤ x.cps.size) (hi : Paired Item (spl x.cps 0 ms) dss) (hz : dss.length ≤ 100)
    {P : Addr → Prop} (hP : FreshP s.heap P) :
    codeC (model prog w) A (.call (.ref 51) ⟨[.str x tx], []⟩) (fun r s' => ∃ v, r = .ok (.ret v) ∧ (∃ h' tk, s' = { s with heap := h', toks := tk } ∧ KeepF (outer.filterMap (·.frame)) s.heap h') ∧ Rd s'.heap P v (.list dss.flatten)) s := by
  have C : Cx w s.heap := CB.keeps hS
  refine' enterC (binds := [(Str.ofString "version", .str x tx)]) C (by omega) rfl rfl rfl rfl rfl rfl ?hkind ?h rfl rfl rfl
  case hkind => 
    intro y hy
    rcases List.mem_cons.mp hy with rfl | hy
    · exact .inl rfl
    · cases hy
  case h =>
    intro h₁ tk₁ I C₁ hk₁
    have hL0 : s.heap.get? s.heap.objs.size = none := Heap.get?_none_of_le (Nat.le_refl _)
    refine wpC_execs_cons (wpC_of (wpAny_Assign_Name (gname (v := .ref 43) C₁ (by kernel_rfl) ?_)))
    refine wpAny_storeName_local rfl I.toInCall.ns (fun h₂ hn₂ hs₂ => ?_) rfl
    have hk₂ : ∀ b o, s.heap.get? b = some o → h₂.get? b = some o := fun b o e => hs₂.extBut b o (ne_get e hL0) (hk₁ b o e)
    have C₂ : Cx w h₂ := C.keeps hk₂
    show wpC _ _ (execs _ _) _ _ _
    refine wpC_execs_cons (wpC_of (wpAny_Assign_Name (List_ (wpAny_items_nil (new_list (by rw [sizeLine_eq]; decide) fun D h₃ hk₃ hD₃ hl₃ => ?_)))))
    refine wpAny_storeName_local rfl (hn₂.keeps hk₃) (fun h₄ hn₄ hs₄ => ?_) rfl
    have hDL : D ≠ s.heap.objs.size := let ⟨o, _, _, e, _⟩ := hn₂; (ne_get e hD₃).symm
    have hk₄ : ∀ b o, s.heap.get? b = some o → h₄.get? b = some o := fun b o e => hs₄.extBut b o (ne_get e hL0) (hk₃ b o (hk₂ b o e))
    have C₄ : Cx w h₄ := C.keeps hk₄
    have hl₄ : h₄.PlainList D ([] : List Value).toArray := hl₃.extBut hs₄.extBut hDL
    have hD0 : s.heap.get? D = none := by
      cases q : s.heap.get? D with
      | none => rfl
      | some o => exact absurd rfl (ne_get (hk₂ _ _ q) hD₃)
    show wpC _ _ (execs _ _) _ _ _
    refine wpC_execs_cons (wpC_For (MethodCall_ (wpAny_Name (wpAny_loadName_local rfl rfl hn₄ rfl ?_) (by decide))))
    refine get_split (s := { s with heap := h₄, toks := _ }) C₄ ?_
    refine callWith_method1 (wpAny_items_cons (wpAny_Name (wpAny_loadName_local rfl rfl hn₄ rfl ?_) (by decide)))
    refine wpAny_items_nil (call_split (s := { s with heap := h₄, toks := _ }) C₄ (by omega) ch hm fun vs tk hv => ?_)
    have hlen : vs.length = dss.length := hv.length.trans hi.length
    have szl := sizeLine_eq
    generalize hH5 : h₄.push { cls := .type "list", data := .seq vs.toArray } = h₅
    have k45 : ∀ b o, h₄.get? b = some o → h₅.get? b = some o := fun b o e => hH5 ▸ Heap.get?_push_of_some _ e
    have hS5 : h₅.IsList h₄.objs.size vs.toArray := hH5 ▸ ⟨_, Heap.get?_push_size _ rfl, rfl, _, rfl⟩
    have hS4 : h₄.get? h₄.objs.size = none := Heap.get?_none_of_le (Nat.le_refl _)
    generalize h₄.objs.size = S at hS5 hS4 ⊢
    show wpAny _ _ (pyIter (.ref S)) _ _ { s with heap := h₅, toks := tk }
    refine wpAny_pyIter_list hS5 ?_
    dsimp only
    generalize hH6 : h₅.push { cls := .type "list_iterator", data := .fields #[.ref S, .int 0 0] } = h₆
    have k56 : ∀ b o, h₅.get? b = some o → h₆.get? b = some o := fun b o e => hH6 ▸ Heap.get?_push_of_some _ e
    have hI6 : h₆.IsListIter h₅.objs.size S 0 := hH6 ▸ ⟨_, Heap.get?_push_size _ rfl, rfl, rfl⟩
    have hI5 : h₅.get? h₅.objs.size = none := Heap.get?_none_of_le (Nat.le_refl _)
    generalize h₅.objs.size = IT at hI6 hI5 ⊢
    have hIS : IT ≠ S := let ⟨o, e, _⟩ := hS5; (ne_get e hI5).symm
    have hSL : S ≠ s.heap.objs.size := let ⟨o, _, _, e, _⟩ := hn₄; (ne_get e hS4).symm
    have hSD : S ≠ D := let ⟨n, e⟩ := hl₄; (ne_get e hS4).symm
    have hIL : IT ≠ s.heap.objs.size := let ⟨o, _, _, e, _⟩ := hn₄; (ne_get (k45 _ _ e) hI5).symm
    have hID : IT ≠ D := let ⟨n, e⟩ := hl₄; (ne_get (k45 _ _ e) hI5).symm
    have hS0 : s.heap.get? S = none := by
      cases q : s.heap.get? S with
      | none => rfl
      | some o => exact absurd rfl (ne_get (hk₄ _ _ q) hS4)
    have hI0 : s.heap.get? IT = none := by
      cases q : s.heap.get? IT with
      | none => rfl
      | some o => exact absurd rfl (ne_get (k45 _ _ (hk₄ _ _ q)) hI5)
    have W : ∀ env' : Env, _ := fun env' => Walks.list (prog := prog) (w := w) (A := A.deeper env') hh IT S hIS.symm vs.toArray
    refine codeC_forLoop (fun n s' => ∃ i h tk m ys, s' = { s with heap := h, toks := tk } ∧ At w hB s.heap outer s.heap.objs.size D IT S vs dss i h m ys ∧ n = vs.length + 1 - i ∧ i ≤ vs.length ∧ ys.length ≤ 2 * i) (fun n s' hst => ?_) (vs.length + 1) ?_
    · obtain ⟨i, h, tk', m, ys, rfl, a, rfl, hiv, hys⟩ := hst
      have frL : ∀ b ∈ outer.filterMap (·.frame), ∃ o, s.heap.get? b = some o := fun b hb => let ⟨_, o, e, _⟩ := hfun.mem hb; ⟨o, e⟩
      have nfr : ∀ b, s.heap.get? b = none → b ∉ outer.filterMap (·.frame) := fun b hb q => by obtain ⟨o, e⟩ := frL b q; rw [hb] at e; cases e
      by_cases hlt : i < vs.length
      · refine (W _).item i { s with heap := h, toks := tk' } _ _ (by simpa using hlt) ⟨a.it, a.src⟩ fun v g₁ tg₁ hPv hst₁ hg₁ => ?_
        obtain ⟨x', hx', t', rfl⟩ := Paired_get hv (by simpa using hPv)
        obtain ⟨ds, hds, it⟩ := Paired_get hi hx'
        refine wpAny_assign_Name (wpAny_storeName_local rfl (a.ns.at' fun o e => hg₁ _ o (by simpa using hIL.symm) e) (fun g₂ hn₂ hs₂ => ?_) rfl)
        have up : ∀ b o, b ≠ s.heap.objs.size → b ≠ IT → h.get? b = some o → g₂.get? b = some o := fun b o hb hb' e => hs₂.extBut b o hb (hg₁ b o (by simpa using hb') e)
        have kept₂ : KeepF (outer.filterMap (·.frame)) s.heap g₂ := a.kept.step fun b o o' e q => up b o (ne_get e hL0) (ne_get e hI0) q
        have lst₂ : g₂.PlainList D ys.toArray := a.lst.at fun o e => up D o hDL hID.symm e
        have it₂ : g₂.IsListIter IT S (i + 1) := hst₁.1.at fun o e => hs₂.extBut _ o hIL e
        have src₂ : g₂.IsList S vs.toArray := hst₁.2.at fun o e => hs₂.extBut _ o hSL e
        have C₂ : Cx w g₂ := cx_frames CB hS hfun kept₂
        refine wpC_execs_cons (wpC_If (wpAny_isTrue_Compare1 (wpAny_Name (wpAny_loadName_local rfl rfl hn₂ rfl ?_) (by decide))))
        refine Calls.Constant_str (SB.notContains (wpAny_truthy_bool ?_))
        cases it with
        | skip hc =>
          rw [show Txt.contains (Str.ofString "._+-") x' = true from hc]
          show wpC _ _ (execs [] _) _ _ _
          refine wpC_of (wpAny_execs_nil ?_)
          show wpC _ _ (execs [] _) _ _ _
          refine wpC_of (wpAny_execs_nil ?_)
          exact ⟨vs.length + 1 - (i + 1), by omega, i + 1, g₂, _, _, ys, rfl, ⟨hn₂, (by rw [if_neg (by decide)]; exact a.res), lst₂, (by simpa using rdnum a.rd hds (h' := g₂) .nil), it₂, src₂, kept₂⟩, rfl, hlt, by omega⟩
        | num hj =>
          rename_i j
          obtain ⟨c1, c2, c3⟩ := num_in hj
          rw [show Txt.contains (Str.ofString "._+-") (Str.ofString (toString j)) = false from c1]
          show wpC _ _ (execs [_, _] _) _ _ _
          refine wpC_execs_cons (wpC_Try_except ?_)
          refine wpC_execs_cons (wpC_of (wpAny_Assign_Name (Call_ (bname (s := { s with heap := g₂, toks := _ }) C₂ (by kernel_rfl) PyProof.Rows.boot_int (by decide) ?_))))
          refine Pv.callWith_type1 (wpAny_items_cons (wpAny_Name (wpAny_loadName_local rfl rfl hn₂ rfl ?_) (by decide)))
          refine wpAny_items_cons (wpAny_Constant_int (wpAny_items_nil ?_))
          refine call_base c2 c3 ?_
          refine wpAny_storeName_local rfl hn₂ (fun g₃ hn₃ hs₃ => ?_) rfl
          show wpC _ _ (execs [_] _) _ _ _
          refine wpC_execs_cons (wpC_of (wpAny_Assign_Name (wpAny_Constant_int ?_)))
          refine wpAny_storeName_local rfl hn₃ (fun g₄ hn₄ hs₄ => ?_) rfl
          show wpC _ _ (execs [] _) _ _ _
          refine wpC_of (wpAny_execs_nil ?_)
          show wpC _ _ (execs [] _) _ _ _
          refine wpC_of (wpAny_execs_nil ?_)
          show wpC _ _ (execs [_] _) _ _ _
          have up₄ : ∀ b o, b ≠ s.heap.objs.size → g₂.get? b = some o → g₄.get? b = some o := fun b o hb e => hs₄.extBut b o hb (hs₃.extBut b o hb e)
          refine wpC_execs_cons (wpC_of (ext_stmt (s := { s with heap := g₄, toks := _ }) (D := D) (ys := ys) hn₄ ?_ rfl rfl (lst₂.at fun o e => up₄ D o hDL e) (by omega) rfl rfl rfl rfl rfl rfl ⟨_, rfl⟩ fun g₅ hl₅ hk₅ => ?_))
          · rw [if_neg (by decide), if_neg (by decide), if_neg (by decide)]; exact a.res
          show wpC _ _ (execs [] _) _ _ _
          refine wpC_of (wpAny_execs_nil ?_)
          show wpC _ _ (execs [] _) _ _ _
          refine wpC_of (wpAny_execs_nil ?_)
          refine ⟨vs.length + 1 - (i + 1), by omega, i + 1, g₅, _, _, ys ++ [_, _], rfl, ⟨hn₄.at' fun o e => hk₅ _ o hDL.symm e, ?_, hl₅, rdnum a.rd hds (.cons (.int _ _) (.cons (.int _ _) .nil)), it₂.at fun o e => hk₅ _ o hID (up₄ _ o hIL e), src₂.at fun o e => hk₅ _ o hSD (up₄ _ o hSL e), kept₂.step fun b o o' e q => hk₅ b o (ne_get e hD0) (up₄ b o (ne_get e hL0) q)⟩, rfl, hlt, by simp; omega⟩
          rw [if_neg (by decide), if_neg (by decide), if_neg (by decide)]; exact a.res
        | rc =>
          rw [show Txt.contains (Str.ofString "._+-") rcTxt = false from rc_in]
          show wpC _ _ (execs [_, _] _) _ _ _
          refine wpC_execs_cons (wpC_Try_except ?_)
          refine wpC_execs_cons (wpC_Assign_Name (Call_C (bname (s := { s with heap := g₂, toks := _ }) C₂ (by kernel_rfl) PyProof.Rows.boot_int (by decide) ?_)))
          refine callWithC_type (wpAny_items_cons (wpAny_Name (wpAny_loadName_local rfl rfl hn₂ rfl ?_) (by decide)))
          refine wpAny_items_cons (wpAny_Constant_int (wpAny_items_nil ?_))
          refine callC_rc hh fun gx tk₃ ex mm te hE => ?_
          dsimp only at hE ⊢
          have hLo : ∃ o, g₂.get? s.heap.objs.size = some o ∧ ∀ vs, o.data ≠ .fields vs := by
            obtain ⟨o, es, ep, e, d, _⟩ := hn₂
            exact ⟨o, e, fun vs q => by rw [d] at q; cases q⟩
          obtain ⟨oL, eL, dL⟩ := hLo
          refine caught (base := hB) (outer := outer) (L := s.heap.objs.size) (by show A.frames.map _ = _; rw [hfr]; rfl) ⟨(by intro q; cases q), ⟨_, oL, rfl, hS.fresh, hE.keeps _ _ eL, dL⟩, funFrames_keepF (kept₂.step fun b o o' _ q => hE.keeps b o q) hfun⟩ rfl hE ?_ ?_
          · intro h' Q' E' k q
            have kept₃ : KeepF (outer.filterMap (·.frame)) s.heap h' := .cons hL0 ((KeepF.of_weak kept₂).trans k)
            exact bname (s := { s with heap := h', toks := _ }) (cx_frames CB hS hfun kept₃) (by kernel_rfl) boot_VE (by decide) q
          · intro h' E' k
            have kept₃ : KeepF (outer.filterMap (·.frame)) s.heap h' := .cons hL0 ((KeepF.of_weak kept₂).trans k)
            have C₃ := cx_frames CB hS hfun kept₃
            have hn₃ := k.ns hn₂
            have up₃ : ∀ b o, b ≠ s.heap.objs.size → s.heap.get? b = none → g₂.get? b = some o → h'.get? b = some o := fun b o hb hn e => k.1 b o (fun q => by
              rcases List.mem_cons.mp q with q | q
              · exact hb q
              · exact nfr b hn q) e
            refine wpAny_execs_cons (wpAny_Assign_Name (MethodCall_ (gname (s := { s with heap := h', toks := _ }) (v := .ref 44) C₃ (by kernel_rfl) ?_)))
            refine get_get (s := { s with heap := h', toks := _ }) C₃ ?_
            refine callWith_method1 (wpAny_items_cons (wpAny_Name (wpAny_loadName_local rfl rfl hn₃ rfl ?_) (by decide)))
            refine wpAny_items_cons (wpAny_Constant_int (wpAny_items_nil (call_stage (s := { s with heap := h', toks := _ }) C₃ fun t'' => ?_)))
            refine wpAny_storeName_local rfl hn₃ (fun g₄ hn₄ hs₄ => ?_) rfl
            show wpAny _ _ (execs [] _) _ _ _
            refine wpAny_execs_nil ?_
            show wpC _ _ (execs [_] _) _ _ _
            have up₄ : ∀ b o, b ≠ s.heap.objs.size → h'.get? b = some o → g₄.get? b = some o := fun b o hb e => hs₄.extBut b o hb e
            refine wpC_execs_cons (wpC_of (ext_stmt (s := { s with heap := g₄, toks := _ }) (D := D) (ys := ys) hn₄ ?_ rfl rfl (lst₂.at fun o e => up₄ D o hDL (up₃ D o hDL hD0 e)) (by omega) rfl rfl rfl rfl rfl rfl ⟨_, rfl⟩ fun g₅ hl₅ hk₅ => ?_))
            · rw [if_neg (by decide), if_neg (by decide)]; exact a.res
            show wpC _ _ (execs [] _) _ _ _
            refine wpC_of (wpAny_execs_nil ?_)
            show wpC _ _ (execs [] _) _ _ _
            refine wpC_of (wpAny_execs_nil ?_)
            refine ⟨vs.length + 1 - (i + 1), by omega, i + 1, g₅, _, _, ys ++ [_, _], rfl, ⟨hn₄.at' fun o e => hk₅ _ o hDL.symm e, ?_, hl₅, rdnum a.rd hds (.cons (.int _ _) (.cons (.str _ _) .nil)), it₂.at fun o e => hk₅ _ o hID (up₄ _ o hIL (up₃ _ o hIL hI0 e)), src₂.at fun o e => hk₅ _ o hSD (up₄ _ o hSL (up₃ _ o hSL hS0 e)), kept₃.step fun b o o' e q => hk₅ b o (ne_get e hD0) (up₄ b o (ne_get e hL0) q)⟩, rfl, hlt, by simp; omega⟩
            rw [if_neg (by decide), if_neg (by decide)]; exact a.res
      · obtain rfl : i = vs.length := by omega
        refine (W _).done { s with heap := h, toks := tk' } _ _ (by simpa using (And.intro a.it a.src)) fun g₁ tg₁ hg₁ => ?_
        refine wpAny_execs_nil ?_
        show wpC _ _ (execs _ _) _ _ _
        have up : ∀ b o, b ≠ IT → h.get? b = some o → g₁.get? b = some o := fun b o hb e => hg₁ b o (by simpa using hb) e
        refine wpC_execs_cons (wpC_of (wpAny_Return_some (wpAny_Name (wpAny_loadName_local rfl rfl (a.ns.at' fun o e => up _ o hIL.symm e) a.res ?_) (by decide))))
        refine ⟨⟨g₁, _, rfl, a.kept.step fun b o o' e q => up b o (ne_get e hI0) q⟩, ?_⟩
        refine .mk_list (vs := ys) (hP D hD0) (a.lst.at fun o e => up D o hID.symm e).isList ?_
        have hr := a.rd
        rw [hlen, List.take_length] at hr
        exact rd_none hr
    · exact ⟨0, h₆, _, _, [], rfl, ⟨hn₄.keeps fun b o e => k56 b o (k45 b o e), rfl, hl₄.at fun o e => k56 _ o (k45 _ o e), .nil, hI6, hS5.at fun o e => k56 _ o e, .of_keeps fun b o e => k56 b o (k45 b o (hk₄ b o e))⟩, rfl, Nat.zero_le _, Nat.zero_le _⟩
end
end Mine
end

/-! ### Plain -/
section
set_option maxRecDepth 100000
namespace Mine
open PySem PySem.W PyProof.Rows PySem.SeqAt

def dg (n : Nat) : List Nat := (Str.ofString (toString (n : Int))).cps.toList
def mkT (b : Bool) : List Nat := if b then [114, 99] else [46]
def tl : List (Bool × Nat) → List Nat
  | [] => []
  | (b, n) :: r => mkT b ++ (dg n ++ tl r)
def flR : List (Bool × Nat) → List PyData
  | [] => []
  | (b, n) :: r => (if b then [.int 50, .str rcTxt] else []) ++ (.int 100 :: .int n :: flR r)

theorem dg_facts : ∀ n : Nat, n < 12 → (1 ≤ (dg n).length ∧ (dg n).length ≤ 2) ∧ ∀ c ∈ dg n, 48 ≤ c ∧ c ≤ 57 := by decide +kernel
theorem dg_inj : ∀ n : Nat, n < 12 → ∀ m : Nat, m < 12 → dg n = dg m → n = m := by decide +kernel
theorem skip_empty : Item ⟨#[]⟩ [] := .skip (by decide +kernel)
theorem skip_dot : Item ⟨#[46]⟩ [] := .skip (by decide +kernel)
theorem rc_cps : rcTxt = ⟨#[114, 99]⟩ := by decide +kernel
theorem item_num {n : Nat} (h : n < 12) : Item ⟨(dg n).toArray⟩ [.int 100, .int n] := by
  have e : (⟨(dg n).toArray⟩ : Str) = Str.ofString (toString (n : Int)) := by unfold dg; rfl
  rw [e]; exact .num ⟨by omega, by omega⟩

theorem tl_head : ∀ (r : List (Bool × Nat)), tl r = [] ∨ ∃ c t, tl r = c :: t ∧ ¬ isDig c
  | [] => .inl rfl
  | (true, n) :: r => .inr ⟨114, _, rfl, by unfold isDig; omega⟩
  | (false, n) :: r => .inr ⟨46, _, rfl, by unfold isDig; omega⟩

theorem gd (l : List Nat) (i : Nat) : l.toArray.getD i 0 = (l[i]?).getD 0 := by simp [Array.getD_eq_getD_getElem?]
theorem gd_mid (pre mid post : List Nat) (j : Nat) (h : j < mid.length) : (pre ++ (mid ++ post)).toArray.getD (pre.length + j) 0 = mid[j] := by
  rw [gd, List.getElem?_append_right (by omega), Nat.add_sub_cancel_left, List.getElem?_append_left h, List.getElem?_eq_getElem h]; rfl
theorem gd_post (pre post : List Nat) (c : Nat) (t : List Nat) (h : post = c :: t) : (pre ++ post).toArray.getD pre.length 0 = c := by
  rw [gd, List.getElem?_append_right (Nat.le_refl _), Nat.sub_self, h]; rfl
theorem cut_of {text pre mid post : List Nat} (ht : text = pre ++ (mid ++ post)) {a b : Nat} (ha : a = pre.length) (hb : b = pre.length + mid.length) : cut text.toArray a b = ⟨mid.toArray⟩ := by
  unfold cut
  subst ha hb ht
  rw [List.extract_toArray]
  congr 1
  simp [List.extract_eq_drop_take]
theorem cut_nil (text : Array Nat) (a : Nat) : cut text a a = ⟨#[]⟩ := by unfold cut; simp; omega

theorem found_num {pre : List Nat} {n : Nat} {r : List (Bool × Nat)} {text : List Nat} (ht : text = pre ++ (dg n ++ tl r)) (hn : n < 12) (hz : text.length < 1000) {a : Nat} {first : Bool} {m0 m1 : Option Nat} {seen : Sre.Seen} :
    a = pre.length → ∃ sn, Goes 11 (at_ text.toArray text.toArray.size a first m0 m1 seen) (fin text.toArray text.toArray.size a (a + (dg n).length) first sn) := by
  rintro rfl
  obtain ⟨⟨h1, h2⟩, h3⟩ := dg_facts n hn
  have hsz : text.toArray.size = pre.length + (dg n).length + (tl r).length := by rw [ht]; simp; omega
  refine try_digits h1 (by rw [hsz]; omega) (by rw [List.size_toArray]; omega) (fun j hj => ?_) ?_
  · rw [ht, gd_mid _ _ _ _ hj]
    exact h3 _ (List.getElem_mem hj)
  · rcases tl_head r with e | ⟨c, t, e, hc⟩
    · left; rw [hsz, e]; rfl
    · right
      rw [ht, ← List.append_assoc, show pre.length + (dg n).length = (pre ++ dg n).length by simp, gd_post _ _ c t e]
      exact hc

theorem chain_tl : ∀ (r : List (Bool × Nat)) (pre text : List Nat), (∀ p ∈ r, p.2 < 12) → text = pre ++ tl r → text.length < 1000 →
    ∃ ms dss, Chain text.toArray pre.length ms ∧ Paired Item (spl text.toArray pre.length ms) dss ∧ dss.flatten = flR r ∧ ms.length ≤ 2 * r.length ∧ dss.length ≤ 4 * r.length + 1
  | [], pre, text, _, ht, _ => by
    have e : text.toArray.size = pre.length := by rw [ht]; simp [tl]
    refine ⟨[], [[]], ?_, ?_, rfl, by simp, by simp⟩
    · rw [← e]; exact .nil
    · refine .cons ?_ .nil
      have : cut text.toArray pre.length text.toArray.size = ⟨#[]⟩ := by
        rw [e]; unfold cut; simp
      rw [this]; exact skip_empty
  | (b, n) :: r, pre, text, hb, ht, hz => by
    have hn : n < 12 := hb (b, n) (by simp)
    obtain ⟨⟨h1, h2⟩, h3⟩ := dg_facts n hn
    have hbr : ∀ p ∈ r, p.2 < 12 := fun p hp => hb p (List.mem_cons_of_mem _ hp)
    have hsz : text.toArray.size = pre.length + (mkT b).length + (dg n).length + (tl r).length := by rw [ht]; simp [tl]; omega
    cases b with
    | false =>
      have t0 : text = pre ++ ([46] ++ (dg n ++ tl r)) := ht
      have t1 : text = (pre ++ [46]) ++ (dg n ++ tl r) := by rw [t0]; simp
      have t2 : text = (pre ++ [46] ++ dg n) ++ tl r := by rw [t0]; simp
      obtain ⟨ms, dss, c, p, f, l1, l2⟩ := chain_tl r (pre ++ [46] ++ dg n) text hbr t2 hz
      have e1 : (pre ++ [46]).length = pre.length + 1 := by simp
      have e2 : (pre ++ [46] ++ dg n).length = pre.length + 1 + (dg n).length := by simp; omega
      rw [e2] at c p
      have hs : pre.length + 1 + (dg n).length ≤ text.toArray.size := by rw [hsz]; show _ ≤ _ + 1 + _ + _; omega
      refine ⟨(pre.length, pre.length + 1) :: (pre.length + 1, pre.length + 1 + (dg n).length) :: ms, [] :: [] :: [] :: [.int 100, .int n] :: dss, .cons ?_ (.cons ?_ c), ?_, ?_, ?_, ?_⟩
      · obtain ⟨sn, e⟩ := forSearch_at (text := text.toArray) (s := pre.length) (lim := text.toArray.size) (by omega)
        obtain ⟨sn', g⟩ := try_dot (text := text.toArray) (s := pre.length) (lim := text.toArray.size) (first := true) (m0 := none) (m1 := none) (seen := sn) (by omega) (by rw [t0]; exact gd_post _ _ 46 _ rfl)
        exact ⟨by omega, by omega, Nat.le_refl _, sn', true, by rw [e]; exact g.mono (by omega)⟩
      · obtain ⟨sn, e⟩ := forSearch_at (text := text.toArray) (s := pre.length + 1) (lim := text.toArray.size) (by omega)
        obtain ⟨sn', g⟩ := found_num t1 hn hz (a := pre.length + 1) (first := true) (m0 := none) (m1 := none) (seen := sn) e1.symm
        exact ⟨by omega, by omega, Nat.le_refl _, sn', true, by rw [e]; exact g.mono (by omega)⟩
      · simp only [spl]
        refine .cons ?_ (.cons ?_ (.cons ?_ (.cons ?_ p)))
        · rw [cut_nil]; exact skip_empty
        · rw [cut_of (a := pre.length) (b := pre.length + 1) t0 rfl rfl]; exact skip_dot
        · rw [cut_nil]; exact skip_empty
        · rw [cut_of t1 e1.symm (by rw [e1])]; exact item_num hn
      · simp [flR, f]
      · simp; omega
      · simp; omega
    | true =>
      have t0 : text = pre ++ ([114, 99] ++ (dg n ++ tl r)) := ht
      have t1 : text = (pre ++ [114, 99]) ++ (dg n ++ tl r) := by rw [t0]; simp
      have t2 : text = (pre ++ [114, 99] ++ dg n) ++ tl r := by rw [t0]; simp
      obtain ⟨ms, dss, c, p, f, l1, l2⟩ := chain_tl r (pre ++ [114, 99] ++ dg n) text hbr t2 hz
      have e1 : (pre ++ [114, 99]).length = pre.length + 2 := by simp
      have e2 : (pre ++ [114, 99] ++ dg n).length = pre.length + 2 + (dg n).length := by simp; omega
      rw [e2] at c p
      have hs : pre.length + 2 + (dg n).length ≤ text.toArray.size := by rw [hsz]; show _ ≤ _ + 2 + _ + _; omega
      refine ⟨(pre.length + 2, pre.length + 2 + (dg n).length) :: ms, [.int 50, .str rcTxt] :: [.int 100, .int n] :: dss, .cons ?_ c, ?_, ?_, ?_, ?_⟩
      · obtain ⟨sn, e⟩ := forSearch_at (text := text.toArray) (s := pre.length) (lim := text.toArray.size) (by omega)
        obtain ⟨sn1, g1⟩ := try_other (text := text.toArray) (s := pre.length) (lim := text.toArray.size) (first := true) (m0 := none) (m1 := none) (seen := sn) (by omega) (.inl (by rw [t0]; exact gd_post _ _ 114 _ rfl))
        obtain ⟨sn2, g2⟩ := try_other (text := text.toArray) (s := pre.length + 1) (lim := text.toArray.size) (first := false) (m0 := some pre.length) (m1 := none) (seen := sn1) (by omega) (.inr (by
          rw [show text = (pre ++ [114]) ++ (99 :: (dg n ++ tl r)) by rw [t0]; simp, show pre.length + 1 = (pre ++ [114]).length by simp]; exact gd_post _ _ 99 _ rfl))
        obtain ⟨sn', g⟩ := found_num t1 hn hz (a := pre.length + 2) (first := false) (m0 := some (pre.length + 1)) (m1 := none) (seen := sn2) e1.symm
        exact ⟨by omega, by omega, by omega, sn', false, by rw [e]; exact ((g1.trans g2).trans g).mono (by omega)⟩
      · simp only [spl]
        refine .cons ?_ (.cons ?_ p)
        · rw [cut_of (a := pre.length) (b := pre.length + 2) t0 rfl rfl, ← rc_cps]; exact .rc
        · rw [cut_of t1 e1.symm (by rw [e1])]; exact item_num hn
      · simp [flR, f]
      · simp; omega
      · simp; omega

/-- a version's name and its ranks -/
def vname (n : Nat) (r : List (Bool × Nat)) : Str := ⟨(dg n ++ tl r).toArray⟩
def vflat (n : Nat) (r : List (Bool × Nat)) : List PyData := .int 100 :: .int n :: flR r
theorem tl_len : ∀ (r : List (Bool × Nat)), (∀ p ∈ r, p.2 < 12) → 2 * r.length ≤ (tl r).length ∧ (tl r).length ≤ 4 * r.length
  | [], _ => by simp [tl]
  | (b, n) :: r, h => by
    have := tl_len r fun p hp => h p (List.mem_cons_of_mem _ hp)
    obtain ⟨⟨h1, h2⟩, _⟩ := dg_facts n (h (b, n) (by simp))
    have hm : 1 ≤ (mkT b).length ∧ (mkT b).length ≤ 2 := by cases b <;> simp [mkT]
    simp only [tl, List.length_append, List.length_cons]
    omega
theorem chain_name {n : Nat} {r : List (Bool × Nat)} (hn : n < 12) (hr : ∀ p ∈ r, p.2 < 12) (hl : r.length ≤ 2) :
    ∃ ms dss, (vname n r).cps.size ≤ 1000 ∧ Chain (vname n r).cps 0 ms ∧ ms.length ≤ (vname n r).cps.size ∧ Paired Item (spl (vname n r).cps 0 ms) dss ∧ dss.length ≤ 100 ∧ dss.flatten = vflat n r := by
  have hl1 := tl_len r hr
  obtain ⟨⟨h1, h2⟩, _⟩ := dg_facts n hn
  have hz : (dg n ++ tl r).length < 1000 := by rw [List.length_append]; omega
  obtain ⟨ms, dss, c, p, f, l1, l2⟩ := chain_tl r (dg n) (dg n ++ tl r) hr rfl hz
  have hsz : (dg n ++ tl r).toArray.size = (dg n).length + (tl r).length := by simp
  refine ⟨(0, 0 + (dg n).length) :: ms, [] :: [.int 100, .int n] :: dss, by show (dg n ++ tl r).toArray.size ≤ _; omega, .cons ?_ (by rw [Nat.zero_add]; exact c), ?_, ?_, ?_, ?_⟩
  · show Found (dg n ++ tl r).toArray _ _ _
    obtain ⟨sn, e⟩ := forSearch_at (text := (dg n ++ tl r).toArray) (s := 0) (lim := (dg n ++ tl r).toArray.size) (by omega)
    obtain ⟨sn', g⟩ := found_num (pre := []) (text := dg n ++ tl r) rfl hn hz (a := 0) (first := true) (m0 := none) (m1 := none) (seen := sn) rfl
    exact ⟨by omega, by omega, Nat.le_refl _, sn', true, by rw [e]; exact g.mono (by omega)⟩
  · show _ ≤ (dg n ++ tl r).toArray.size
    simp only [List.length_cons]; omega
  · show Paired Item (spl (dg n ++ tl r).toArray _ _) _
    simp only [spl]
    refine .cons ?_ (.cons ?_ (by rw [Nat.zero_add]; exact p))
    · rw [cut_nil]; exact skip_empty
    · rw [cut_of (text := dg n ++ tl r) (a := 0) (b := 0 + (dg n).length) (pre := []) (mid := dg n) (post := tl r) rfl rfl rfl]; exact item_num hn
  · simp; omega
  · simp [vflat, f]
end Mine
end

/-! ### Plain2 -/
section
set_option maxRecDepth 100000
namespace Mine
open PySem PySem.W PyProof.Rows PySem.SeqAt

def ND (s : List Nat) : Prop := s = [] ∨ ∃ c t, s = c :: t ∧ ¬ isDig c
theorem tw_nd {s : List Nat} (h : ND s) : s.takeWhile (fun c => decide (48 ≤ c ∧ c ≤ 57)) = [] := by
  rcases h with rfl | ⟨c, t, rfl, hc⟩
  · rfl
  · rw [List.takeWhile_cons, if_neg]
    simpa [isDig] using hc
theorem dg_split {n m : Nat} {s t : List Nat} (hn : n < 12) (hm : m < 12) (hs : ND s) (ht : ND t) (e : dg n ++ s = dg m ++ t) : n = m ∧ s = t := by
  have key : ∀ k : Nat, k < 12 → ∀ u, ND u → (dg k ++ u).takeWhile (fun c => decide (48 ≤ c ∧ c ≤ 57)) = dg k := fun k hk u hu => by
    rw [List.takeWhile_append_of_pos (fun a ha => by simpa using (dg_facts k hk).2 a ha), tw_nd hu, List.append_nil]
  have e1 : dg n = dg m := by rw [← key n hn s hs, ← key m hm t ht, e]
  exact ⟨dg_inj n hn m hm e1, List.append_cancel_left (e1 ▸ e)⟩

def PP (T T' : List Nat) : Prop := T' = T ∨ ∃ z, T' = T ++ 46 :: z
def QQ (F F' : List PyData) : Prop := ∃ z, F' = F ++ z ∧ (z = [] ∨ ∃ z', z = .int 100 :: z')
theorem nd46 (u z : List Nat) (h : ND u) : ND (u ++ 46 :: z) := by
  rcases h with rfl | ⟨c, t, rfl, hc⟩
  · exact .inr ⟨46, z, rfl, by unfold isDig; omega⟩
  · exact .inr ⟨c, _, rfl, hc⟩
theorem pp_num {n m : Nat} {r r' : List (Bool × Nat)} (hn : n < 12) (hm : m < 12) : PP (dg n ++ tl r) (dg m ++ tl r') ↔ n = m ∧ PP (tl r) (tl r') := by
  constructor
  · rintro (e | ⟨z, e⟩)
    · obtain ⟨a, b⟩ := dg_split hm hn (tl_head r') (tl_head r) e
      exact ⟨a.symm, .inl b⟩
    · rw [List.append_assoc] at e
      obtain ⟨a, b⟩ := dg_split hm hn (tl_head r') (nd46 _ z (tl_head r)) e
      exact ⟨a.symm, .inr ⟨z, b⟩⟩
  · rintro ⟨rfl, e | ⟨z, e⟩⟩
    · exact .inl (by rw [e])
    · exact .inr ⟨z, by rw [e, List.append_assoc]⟩
theorem pp_app {u T T' : List Nat} : PP (u ++ T) (u ++ T') ↔ PP T T' := by
  unfold PP
  simp only [List.append_assoc, List.append_cancel_left_eq]
theorem qq_cons {d d' : PyData} {F F' : List PyData} : QQ (d :: F) (d' :: F') ↔ d = d' ∧ QQ F F' := by
  constructor
  · rintro ⟨z, e, h⟩
    rw [List.cons_append, List.cons_eq_cons] at e
    exact ⟨e.1.symm, z, e.2, h⟩
  · rintro ⟨rfl, z, e, h⟩
    exact ⟨z, by rw [e]; rfl, h⟩
theorem pq_tl : ∀ (r r' : List (Bool × Nat)), (∀ p ∈ r, p.2 < 12) → (∀ p ∈ r', p.2 < 12) → (PP (tl r) (tl r') ↔ QQ (flR r) (flR r'))
  | [], [], _, _ => ⟨fun _ => ⟨[], rfl, .inl rfl⟩, fun _ => .inl rfl⟩
  | [], (false, m) :: r', _, _ => ⟨fun _ => ⟨_, rfl, .inr ⟨_, rfl⟩⟩, fun _ => .inr ⟨_, rfl⟩⟩
  | [], (true, m) :: r', _, _ => by
    constructor
    · rintro (e | ⟨z, e⟩)
      · cases e
      · have e : 114 :: _ = 46 :: z := e
        cases e
    · rintro ⟨z, e, h⟩
      have e : flR ((true, m) :: r') = z := e
      subst e
      rcases h with h | ⟨z', h⟩
      · cases h
      · cases h
  | (b, n) :: r, [], _, _ => by
    constructor
    · rintro (e | ⟨z, e⟩)
      · cases b <;> cases e
      · cases b <;> cases e
    · rintro ⟨z, e, h⟩
      cases b <;> cases e
  | (false, n) :: r, (true, m) :: r', _, _ => by
    constructor
    · rintro (e | ⟨z, e⟩) <;> cases e
    · rintro ⟨z, e, h⟩; cases e
  | (true, n) :: r, (false, m) :: r', _, _ => by
    constructor
    · rintro (e | ⟨z, e⟩) <;> cases e
    · rintro ⟨z, e, h⟩; cases e
  | (false, n) :: r, (false, m) :: r', h, h' => by
    have ih := pq_tl r r' (fun p hp => h p (List.mem_cons_of_mem _ hp)) fun p hp => h' p (List.mem_cons_of_mem _ hp)
    show PP ([46] ++ (dg n ++ tl r)) ([46] ++ (dg m ++ tl r')) ↔ QQ (.int 100 :: .int n :: flR r) (.int 100 :: .int m :: flR r')
    rw [pp_app, pp_num (h (false, n) (by simp)) (h' (false, m) (by simp)), qq_cons, qq_cons, ih]
    simp
    intro _; omega
  | (true, n) :: r, (true, m) :: r', h, h' => by
    have ih := pq_tl r r' (fun p hp => h p (List.mem_cons_of_mem _ hp)) fun p hp => h' p (List.mem_cons_of_mem _ hp)
    show PP ([114, 99] ++ (dg n ++ tl r)) ([114, 99] ++ (dg m ++ tl r')) ↔ QQ (.int 50 :: .str rcTxt :: .int 100 :: .int n :: flR r) (.int 50 :: .str rcTxt :: .int 100 :: .int m :: flR r')
    rw [pp_app, pp_num (h (true, n) (by simp)) (h' (true, m) (by simp)), qq_cons, qq_cons, qq_cons, qq_cons, ih]
    simp
    intro _; omega
theorem pq {n m : Nat} {r r' : List (Bool × Nat)} (hn : n < 12) (hm : m < 12) (h : ∀ p ∈ r, p.2 < 12) (h' : ∀ p ∈ r', p.2 < 12) : PP (dg n ++ tl r) (dg m ++ tl r') ↔ QQ (vflat n r) (vflat m r') := by
  unfold vflat
  rw [pp_num hn hm, qq_cons, qq_cons, pq_tl r r' h h']
  simp
  intro _; omega

theorem tellB_iff (x n : Str) : tellB x n = true ↔ PP x.cps.toList n.cps.toList := by
  have hd : (dotTxt).cps.toList = [46] := by decide +kernel
  have hx : (x ++ dotTxt).cps.toList = x.cps.toList ++ [46] := by
    show (x.cps ++ dotTxt.cps).toList = _
    rw [Array.toList_append, hd]
  unfold tellB PP Txt.startswith
  rw [Bool.or_eq_true, decide_eq_true_iff, Bool.and_eq_true, StrLaws.subAt_eq, decide_eq_true_iff, beq_iff_eq, List.drop_zero, hx]
  have hlen : (x ++ dotTxt).length = (x.cps.toList ++ [46]).length := by
    rw [← hx, Array.length_toList]; rfl
  have hnl : n.length = n.cps.toList.length := by rw [Array.length_toList]; rfl
  rw [hlen, hnl]
  constructor
  · rintro (e | ⟨_, e⟩)
    · left; rw [e]
    · right
      refine ⟨n.cps.toList.drop (x.cps.toList ++ [46]).length, ?_⟩
      conv => lhs; rw [← List.take_append_drop (x.cps.toList ++ [46]).length n.cps.toList, e]
      simp
  · rintro (e | ⟨z, e⟩)
    · left
      cases n; cases x
      congr 1
      exact Array.toList_inj.mp e
    · right
      rw [e]
      constructor
      · simp
      · rw [show x.cps.toList ++ 46 :: z = (x.cps.toList ++ [46]) ++ z by simp, List.take_left']
        rfl

theorem eqv_atom {a b : PyData} (ha : Atom a) (hb : Atom b) : PyData.eqv a b = true ↔ a = b := by
  rcases ha with ⟨i, rfl⟩ | rfl <;> rcases hb with ⟨j, rfl⟩ | rfl <;> simp [PyData.eqv]
theorem eqvAll_atom : ∀ {a b : List PyData}, (∀ d ∈ a, Atom d) → (∀ d ∈ b, Atom d) → (PyData.eqvAll a b = true ↔ a = b)
  | [], [], _, _ => by simp [PyData.eqvAll]
  | [], _ :: _, _, _ => by simp [PyData.eqvAll]
  | _ :: _, [], _, _ => by simp [PyData.eqvAll]
  | x :: a, y :: b, ha, hb => by
    rw [PyData.eqvAll, Bool.and_eq_true, eqv_atom (ha x (by simp)) (hb y (by simp)), eqvAll_atom (fun d hd => ha d (List.mem_cons_of_mem _ hd)) fun d hd => hb d (List.mem_cons_of_mem _ hd), List.cons_eq_cons]
theorem dueB_iff {rd k : List PyData} (hr : ∀ d ∈ rd, Atom d) (hk : ∀ d ∈ k, Atom d) : dueB rd k = true ↔ QQ rd k := by
  have hd : ∀ d ∈ (k.drop rd.length).take (rd.length + 1 - rd.length), Atom d := fun d h => hk d (List.mem_of_mem_drop (List.mem_of_mem_take h))
  have h100 : ∀ d ∈ [PyData.int 100], Atom d := fun d h => .inl ⟨100, by simpa using h⟩
  unfold dueB QQ
  rw [Bool.and_eq_true, List.any_cons, List.any_cons, List.any_nil, Bool.or_false, Bool.or_eq_true, PyData.eqv, PyData.eqv, PyData.eqv, eqvAll_atom (fun d h => hk d (List.mem_of_mem_take h)) hr, eqvAll_atom (by simp) hd, eqvAll_atom h100 hd, Nat.add_sub_cancel_left]
  constructor
  · rintro ⟨e, h⟩
    refine ⟨k.drop rd.length, ?_, ?_⟩
    · conv => lhs; rw [← List.take_append_drop rd.length k, e]
    · generalize k.drop rd.length = z at h
      cases z with
      | nil => exact .inl rfl
      | cons a z =>
        rcases h with h | h
        · simp at h
        · simp at h; exact .inr ⟨z, by rw [h]⟩
  · rintro ⟨z, rfl, h⟩
    refine ⟨by simp, ?_⟩
    rw [List.drop_left]
    rcases h with rfl | ⟨z', rfl⟩
    · exact .inl rfl
    · exact .inr rfl
theorem flR_atom : ∀ (r : List (Bool × Nat)), ∀ d ∈ flR r, Atom d
  | [], d, h => by cases h
  | (b, n) :: r, d, h => by
    have ih := flR_atom r d
    cases b
    · rcases List.mem_cons.mp h with rfl | h
      · exact .inl ⟨_, rfl⟩
      · rcases List.mem_cons.mp h with rfl | h
        · exact .inl ⟨_, rfl⟩
        · exact ih h
    · rcases List.mem_cons.mp h with rfl | h
      · exact .inl ⟨_, rfl⟩
      · rcases List.mem_cons.mp h with rfl | h
        · exact .inr rfl
        · rcases List.mem_cons.mp h with rfl | h
          · exact .inl ⟨_, rfl⟩
          · rcases List.mem_cons.mp h with rfl | h
            · exact .inl ⟨_, rfl⟩
            · exact ih h
theorem vflat_atom (n : Nat) (r : List (Bool × Nat)) : ∀ d ∈ vflat n r, Atom d := fun d h => by
  rcases List.mem_cons.mp h with rfl | h
  · exact .inl ⟨_, rfl⟩
  · rcases List.mem_cons.mp h with rfl | h
    · exact .inl ⟨_, rfl⟩
    · exact flR_atom r d h
/-- the plain law: the names are told as the ranks are -/
theorem tell_due {n m : Nat} {r r' : List (Bool × Nat)} (hn : n < 12) (hm : m < 12) (h : ∀ p ∈ r, p.2 < 12) (h' : ∀ p ∈ r', p.2 < 12) :
    PyData.int (tell (vname n r) (vname m r')) = dueI (vflat n r) (vflat m r') := by
  have e : tellB (vname n r) (vname m r') = dueB (vflat n r) (vflat m r') := by
    rw [Bool.eq_iff_iff, tellB_iff, dueB_iff (vflat_atom _ _) (vflat_atom _ _), ← pq hn hm h h']
    unfold vname
    simp
  unfold tell dueI
  rw [e]
end Mine
end

/-! ### Ver -/
section
set_option maxRecDepth 100000
namespace Mine
open PySem PySem.W PyProof.Rows PySem.SeqAt

def vn (x : Int) : Nat := (numOf x 0).toNat
def vr (x : Int) : List (Bool × Nat) := [(decide (markIx x 0 ≠ 0), (numOf x 1).toNat), (decide (markIx x 1 ≠ 0), (numOf x 2).toNat)].take (x.fmod 3).toNat
def pcsR : List (Bool × Nat) → List Pc
  | [] => []
  | (b, n) :: r => (if b then .rc else .dot) :: .num n :: pcsR r
def pcsOf (n : Nat) (r : List (Bool × Nat)) : List Pc := .num n :: pcsR r

theorem num_bd (x : Int) (k : Nat) : 0 ≤ numOf x k ∧ numOf x k < 12 := fmod_bd _ (by decide) (by decide)
theorem vn_lt (x : Int) : vn x < 12 := by have := num_bd x 0; unfold vn; omega
theorem vr_lt (x : Int) : ∀ p ∈ vr x, p.2 < 12 := fun p hp => by
  have h1 := num_bd x 1
  have h2 := num_bd x 2
  have := List.mem_of_mem_take hp
  rcases List.mem_cons.mp this with rfl | this
  · show (numOf x 1).toNat < 12; omega
  · rcases List.mem_cons.mp this with rfl | this
    · show (numOf x 2).toNat < 12; omega
    · cases this
theorem vr_len (x : Int) : (vr x).length ≤ 2 := by
  unfold vr; rw [List.length_take]; exact Nat.min_le_right _ _
theorem num_str (x : Int) (k : Nat) : numStr x k = Pc.str (.num ((numOf x k).toNat : Nat)) := by
  unfold numStr Pc.str
  rw [Int.toNat_of_nonneg (num_bd x k).1]
theorem mark_str (x : Int) (k : Nat) : markOf x k = Pc.str (if decide (markIx x k ≠ 0) then .rc else .dot) := by
  unfold markOf
  by_cases h : markIx x k = 0 <;> simp [h, Pc.str]
theorem pieces_eq (x : Int) : piecesL x = (pcsOf (vn x) (vr x)).map Pc.str := by
  have hb := fmod_bd x (b := 3) (by decide) (by decide)
  have hc : x.fmod 3 = 0 ∨ x.fmod 3 = 1 ∨ x.fmod 3 = 2 := by omega
  unfold piecesL vr vn pcsOf
  rw [num_str, num_str, num_str, mark_str, mark_str]
  rcases hc with e | e | e <;> rw [e] <;> rfl
theorem str_num (n : Nat) : (Pc.str (.num n)).cps = (dg n).toArray := by unfold dg; rfl
theorem str_mark (b : Bool) : (Pc.str (if b then .rc else .dot)).cps = (mkT b).toArray := by cases b <;> decide +kernel
theorem join_fold (g : Str) (hg : g.cps = #[]) : ∀ (r : List (Bool × Nat)) (acc : Array Nat), ((pcsR r).map Pc.str).foldl (fun acc p => acc ++ g.cps ++ p.cps) acc = acc ++ (tl r).toArray
  | [], acc => by simp [pcsR, tl]
  | (b, n) :: r, acc => by
    show ((pcsR r).map Pc.str).foldl (fun acc p => acc ++ g.cps ++ p.cps) (acc ++ g.cps ++ (Pc.str (if b then .rc else .dot)).cps ++ g.cps ++ (Pc.str (.num n)).cps) = _
    rw [join_fold g hg r, str_mark, str_num, hg]
    simp [tl]
theorem join_eq (n : Nat) (r : List (Bool × Nat)) : Txt.join (Str.ofString "") ((pcsOf n r).map Pc.str) = vname n r := by
  unfold Txt.join Builtin.Str.glued vname
  congr 1
  show ((pcsR r).map Pc.str).foldl (fun acc p => acc ++ (Str.ofString "").cps ++ p.cps) (Pc.str (.num n)).cps = _
  rw [join_fold _ (by decide +kernel), str_num]
  simp
theorem flatR_eq : ∀ (r : List (Bool × Nat)), (pcsR r).flatMap Pc.flat = flR r
  | [] => rfl
  | (b, n) :: r => by cases b <;> simp [pcsR, flR, Pc.flat, flatR_eq r, rcTxt]
theorem flat_eq (n : Nat) (r : List (Bool × Nat)) : flatOf (pcsOf n r) = vflat n r := by
  simp [flatOf, pcsOf, vflat, Pc.flat, flatR_eq]
theorem pcsR_ok : ∀ (r : List (Bool × Nat)), (∀ p ∈ r, p.2 < 12) → ∀ p ∈ pcsR r, p.ok
  | [], _, p, hp => by cases hp
  | (b, n) :: r, h, p, hp => by
    have hn : n < 12 := h (b, n) (by simp)
    rcases List.mem_cons.mp hp with rfl | hp
    · cases b <;> trivial
    · rcases List.mem_cons.mp hp with rfl | hp
      · exact ⟨by omega, by omega⟩
      · exact pcsR_ok r (fun q hq => h q (List.mem_cons_of_mem _ hq)) p hp
theorem pcs_ok (x : Int) : ∀ p ∈ pcsOf (vn x) (vr x), p.ok := fun p hp => by
  have hn := vn_lt x
  rcases List.mem_cons.mp hp with rfl | hp
  · exact ⟨by omega, by omega⟩
  · exact pcsR_ok _ (vr_lt x) p hp
theorem pcsR_len : ∀ (r : List (Bool × Nat)), (pcsR r).length = 2 * r.length
  | [] => rfl
  | (b, n) :: r => by simp [pcsR, pcsR_len r]; omega
theorem pcs_len (x : Int) : (pcsOf (vn x) (vr x)).length ≤ 5 := by
  have := vr_len x
  show (pcsR (vr x)).length + 1 ≤ 5
  rw [pcsR_len]; omega
theorem vflat_len (x : Int) : (vflat (vn x) (vr x)).length ≤ 100 := by
  have h1 := flatOf_len (pcsOf (vn x) (vr x))
  have h2 := pcs_len x
  rw [flat_eq] at h1
  omega
theorem vname_len (x : Int) : (vname (vn x) (vr x)).length ≤ 1000 := by
  obtain ⟨_, _, h, _⟩ := chain_name (vn_lt x) (vr_lt x) (vr_len x)
  exact h
/-- no name is the one that the reader knows from the start -/
theorem vname_ne (x : Int) : vname (vn x) (vr x) ≠ strTxt := fun e => by
  have h1 : (vname (vn x) (vr x)).cps.toList = strTxt.cps.toList := by rw [e]
  have h2 : strTxt.cps.toList = [60, 115, 116, 114, 105, 110, 103, 62] := by decide +kernel
  rw [h2] at h1
  have h3 : dg (vn x) ++ tl (vr x) = [60, 115, 116, 114, 105, 110, 103, 62] := by simpa [vname] using h1
  obtain ⟨⟨h4, _⟩, h5⟩ := dg_facts (vn x) (vn_lt x)
  generalize dg (vn x) = d at h3 h4 h5
  cases d with
  | nil => simp at h4
  | cons c d =>
    rw [List.cons_append, List.cons_eq_cons] at h3
    have := h5 c (by simp)
    omega
theorem pieces_sum (x : Int) : (((piecesL x)).map (·.length)).sum + (piecesL x).length * (Str.ofString "").length ≤ 16777216 := by
  have e : (Str.ofString "").length = 0 := by decide +kernel
  have key : ∀ p ∈ piecesL x, p.length ≤ 2 := by
    rw [pieces_eq]
    intro p hp
    obtain ⟨q, hq, rfl⟩ := List.mem_map.mp hp
    have ok := pcs_ok x q hq
    cases q with
    | num i =>
      obtain ⟨n, rfl⟩ := Int.eq_ofNat_of_zero_le ok.1
      have : n < 12 := by have := ok.2; omega
      have := (dg_facts n this).1.2
      show (Pc.str (.num n)).cps.size ≤ 2
      rw [str_num]; simpa using this
    | dot => decide +kernel
    | rc => decide +kernel
  have hl : (piecesL x).length ≤ 5 := by rw [pieces_eq, List.length_map]; exact pcs_len x
  have : ∀ l : List Str, (∀ p ∈ l, p.length ≤ 2) → (l.map (·.length)).sum ≤ 2 * l.length := by
    intro l
    induction l with
    | nil => intro _; simp
    | cons a l ih =>
      intro h
      have h1 := h a (by simp)
      have h2 := ih fun p hp => h p (List.mem_cons_of_mem _ hp)
      simp only [List.map_cons, List.sum_cons, List.length_cons]
      omega
  have := this _ key
  rw [e]; omega
end Mine
end

/-! ### CompF -/
section
set_option maxRecDepth 100000
set_option maxHeartbeats 1000000
namespace Mine
open PySem PySem.W PyProof.Rows PySem.SeqAt

section
variable {prog : Program} {w : World} {A : Around} {E : Value → Shared → Prop} {s : Shared} {env : Env}

theorem add_ll {l b : Addr} {vs ws : List Value} {Q : Value → Shared → Prop} (hl : s.heap.IsList l vs.toArray) (hb : s.heap.IsList b ws.toArray) (hsz : vs.length + ws.length ≤ sizeLine)
    (h : ∀ D h', (∀ b o, s.heap.get? b = some o → h'.get? b = some o) → s.heap.get? D = none → h'.IsList D (vs ++ ws).toArray → Q (.ref D) { s with heap := h' }) :
    wpAny (model prog w) A (binaryOp .Add (.ref l) (.ref b)) Q E s := by
  obtain ⟨⟨cls, dd, data, sl⟩, ho, hc, n, hd⟩ := hl
  obtain ⟨⟨cls2, dd2, data2, sl2⟩, ho2, hc2, n2, hd2⟩ := hb
  simp only at hc hd hc2 hd2
  subst hc hd hc2 hd2
  refine concat_meets ⟨_, ho, rfl⟩ ⟨_, ho2, rfl⟩ noFill_list_add seq_list_add PySem.F.slot_list_add PySem.F.entry_list_add (PySem.F.args_list_add_2 _ _) (list_addW l b vs.toArray ws.toArray n n2 dd dd2 sl sl2 (by simpa using hsz)) ⟨ho, ho2, ?_⟩
  have e : vs.toArray ++ ws.toArray = (vs ++ ws).toArray := by simp
  rw [e]
  exact h _ _ (fun _ _ e => Heap.get?_push_of_some _ e) (push_none _) ⟨_, Heap.get?_push_size _ rfl, rfl, _, rfl⟩

/-- a comprehension whose turns may fill the slots of its function's own frame, stored under a local name -/
theorem comp_assignF {elt iter : Expr} {x y : Str} {px py : Pos} {scope : Scope} {cl : List (Str × Addr)} {pos spos : Pos} {P : Addr → Prop} {Q : Flow → Shared → Prop} (hh : A.handled = none)
    (hsw : swapsWith (.ListComp elt [⟨.Name x px, iter, [], 0⟩] scope pos) (some (.Name y py)) spos.line env = pure true)
    (hclos : closureFor scope env = pure cl) (hcell : ∀ y ∈ scope.names, y.2 ≠ .cell) (hkind : scope.kind = .function)
    (hnames : ∀ y ∈ scope.names, y.2 = .local → scope.names.lookup y.1 = some .local) (hx : scope.names.lookup x = some .local) (hs : ∀ x, foldedSetIterable iter env x = pure x)
    (hy : env.kindOf y = some .local) (hp : (env.scope.kind == .class || (env.scope.kind == .module && env.locals != env.globals)) = false)
    (hPL : ¬ P env.locals)
    (h : wpAny (model prog w) A (eval iter env) (fun xv s₁ => ∃ (ax : Addr) (vs : List Value) (ds : List PyData) (m : Str → Option Value), xv = .ref ax ∧ s₁.heap.IsList ax (List.toArray vs) ∧ vs.length ≤ sizeLine ∧ FreshP s₁.heap P ∧ ax ≠ env.locals ∧ s₁.heap.Ns env.locals m ∧ ds.length = vs.length ∧
      (∀ C (P₂ : Addr → Prop) (i : Nat) v d s₂ m₂ E', vs[i]? = some v → ds[i]? = some d → KeepsU (fun a => a ≠ env.locals) s₁ s₂ → s₂.heap.Ns env.locals m → FreshP s₂.heap P₂ → (∀ a, P₂ a → P a) → s₂.heap.Ns C m₂ → m₂ x = some v →
        wpC (model prog w) A (eval elt (compEnvC scope cl C env)) (fun u s₄ => (∃ h' tk, s₄ = { s₂ with heap := h', toks := tk } ∧ KeepF [env.locals] s₂.heap h') ∧ Rd s₄.heap P₂ u d) E' s₂) ∧
      ∀ D h' tk, h'.Ns env.locals (fun z => if z = y then some (.ref D) else m z) → (∀ b o, b ≠ env.locals → s₁.heap.get? b = some o → h'.get? b = some o) →
        Rd h' P (.ref D) (.list ds) → Q .next { s₁ with heap := h', toks := tk }) E s) :
    wpC (model prog w) A (exec (.Assign [.Name y py] (.ListComp elt [⟨.Name x px, iter, [], 0⟩] scope pos) spos) env) Q E s := by
  rw [exec_Assign_Name_used _ _ _ _ hsw]
  refine wpC_bind (wpC_standAt (wpC_bind ?_))
  show wpC _ A (do let _ ← comprehension (.ListComp elt [⟨.Name x px, iter, [], 0⟩] scope pos) scope env _ (newList []) false (eval iter env) (some (assign (.Name y py) env))) _ _ s
  refine wpC_bind (wpC_mono (wpC_comp_use (u := assign (.Name y py) env) (Q := fun _ s' => Q .next s') rfl hs hclos hkind hnames
    (wpAny_mono h (fun xv s₁ h₁ => ?_) fun _ _ e => e)) (fun _ s' hq => wpC_pure (wpC_pure hq)) fun _ _ e => e)
  obtain ⟨ax, vs, ds, m, rfl, hl, hsz, hP, hax, hn, hdl, turn, hQ⟩ := h₁
  have hLl : ∃ o, s₁.heap.get? env.locals = some o := let ⟨o, _, _, e, _⟩ := hn; ⟨o, e⟩
  refine comp_blockC (RR := fun acc C => compPost (model prog w) A E (some (assign (.Name y py) env)) (fun _ s' => Q .next s') acc C) (ax := ax) (vs := vs) hh (fun a => a ≠ env.locals)
    (fun C I D i ys h => (env.locals ≠ C ∧ env.locals ≠ I ∧ env.locals ≠ D) ∧ h.Ns env.locals m ∧ RdAll h (fun a => P a ∧ a ≠ C ∧ a ≠ I ∧ a ≠ D) ys (ds.take i)) hcell hkind hx hl hsz ?_ hax ?_ ?_ ?_ ?_
  · intro a e q; obtain ⟨o, e'⟩ := hLl; rw [q, e'] at e; cases e
  · rintro C I D i ys h h' ⟨n0, hN, j⟩ k
    exact ⟨n0, hN.at' fun o e => k _ o n0.1 n0.2.1 n0.2.2 e, j.mono fun b o p e => ⟨k b o p.2.1 p.2.2.1 p.2.2.2 e, p⟩⟩
  · intro C I D s₂ T old
    obtain ⟨o, e'⟩ := hLl
    have ne : ∀ q, s₁.heap.get? q = none → env.locals ≠ q := fun q e z => by rw [← z, e'] at e; cases e
    exact ⟨⟨ne _ T.nC, ne _ T.nI, ne _ T.nD⟩, hn.at' fun o e => old _ o e, .nil⟩
  · rintro C I D i v ys s₂ m₂ E' hv T hns hm ⟨n0, hN, hj⟩
    obtain ⟨d, hd⟩ : ∃ d, ds[i]? = some d := by
      have hi := (List.getElem?_eq_some_iff.mp hv).1
      exact ⟨_, List.getElem?_eq_getElem (by omega)⟩
    have hF : FreshP s₂.heap (fun a => P a ∧ a ≠ C ∧ a ≠ I ∧ a ≠ D) := fun a e => ⟨hP a (by
        cases q : s₁.heap.get? a with
        | none => rfl
        | some o =>
          exfalso
          by_cases hz : a = env.locals
          · obtain ⟨o', _, _, e', _⟩ := hN; rw [hz, e'] at e; cases e
          · rw [T.keep a o hz q] at e; cases e),
      (by rintro rfl; obtain ⟨o, q⟩ := T.lC; rw [q] at e; cases e), (by rintro rfl; obtain ⟨o, q⟩ := T.lI; rw [q] at e; cases e), (by rintro rfl; obtain ⟨o, q⟩ := T.lD; rw [q] at e; cases e)⟩
    refine wpAny_tests_nil ⟨⟨_, _, rfl, fun _ _ _ e => e⟩, ?_⟩
    simp only [if_true]
    have hk : KeepsU (fun a => a ≠ env.locals) s₁ s₂ := by
      obtain ⟨h, tk, rfl⟩ := T.same
      exact ⟨h, tk, rfl, T.keep⟩
    refine wpC_mono (turn C _ i v d s₂ m₂ E' hv hd hk hN hF (fun a p => p.1) hns hm) (fun u s₄ h₄ => ?_) fun _ _ e => e
    obtain ⟨⟨h', tk, rfl, K⟩, hr⟩ := h₄
    refine ⟨⟨h', tk, rfl, fun b o hb e => K.1 b o (by simpa using hb) e⟩, n0, K.ns hN, ?_⟩
    rw [List.take_add_one, hd]
    exact (hj.mono fun b o p e => ⟨K.1 b o (by rintro q; rw [List.mem_singleton] at q; exact hPL (q ▸ p.1)) e, p⟩).append (.cons hr .nil)
  · rintro C I D h' tk m' ys hns hpl ⟨n0, hN, hj⟩ hC hD hDC hk
    rw [← hdl, List.take_length] at hj
    have hLC := n0.1
    have hLD := n0.2.2
    show wpAny _ A (assign (.Name y py) env (.ref D)) _ _ _
    refine wpAny_assign_Name (wpAny_storeName_local hy hN (fun h₂ hn₂ hs₂ => ?_) hp)
    refine ⟨m', hns.sameBut hs₂ (Ne.symm hLC), fun h₃ hs₃ => ?_⟩
    refine hQ D h₃ _ (hn₂.sameBut hs₃ hLC) (fun b o hb e => hs₃.extBut b o (by rintro rfl; rw [hC] at e; cases e) (hs₂.extBut b o hb (hk b o hb e))) ?_
    refine Rd.mk_list (vs := ys) (hP D hD) (by simpa using ((hpl.extBut hs₂.extBut (Ne.symm hLD)).extBut hs₃.extBut hDC).isList) ?_
    exact hj.mono fun b o p e => ⟨hs₃.extBut b o p.2.1 (hs₂.extBut b o (by rintro rfl; exact hPL p.1) e), p.1⟩
end
end Mine
end

/-! ### Law -/
section
set_option maxRecDepth 100000
set_option maxHeartbeats 2000000
namespace Mine
open PySem PySem.W PyProof.Rows PySem.SeqAt

def PL (L : Addr) : Addr → Prop := fun a => a ≠ L ∧ a ≠ L + 1 ∧ a ≠ L + 1 + 1
/-- what stands while law runs -/
structure LS (s : Shared) (h : Heap) (L : Addr) (m : Str → Option Value) (v1 v2 : Option Value) : Prop where
  ns : h.Ns L m
  c1 : h.IsCell (L + 1) v1
  c2 : h.IsCell (L + 1 + 1) v2
  keep : ∀ b o, s.heap.get? b = some o → h.get? b = some o
theorem LS.fresh {s : Shared} {h : Heap} {L : Addr} {m : Str → Option Value} {v1 v2 : Option Value} (l : LS s h L m v1 v2) : FreshP h (PL L) := fun a e =>
  ⟨(by rintro rfl; obtain ⟨o, _, _, q, _⟩ := l.ns; rw [q] at e; cases e), (by rintro rfl; obtain ⟨o, q, _⟩ := l.c1; rw [q] at e; cases e), (by rintro rfl; obtain ⟨o, q, _⟩ := l.c2; rw [q] at e; cases e)⟩
theorem LS.keeps {s : Shared} {h h' : Heap} {L : Addr} {m : Str → Option Value} {v1 v2 : Option Value} (l : LS s h L m v1 v2) (k : ∀ b o, h.get? b = some o → h'.get? b = some o) : LS s h' L m v1 v2 :=
  ⟨l.ns.keeps k, l.c1.keeps k, l.c2.keeps k, fun b o e => k b o (l.keep b o e)⟩
theorem succ_ne' (L : Nat) : L + 1 ≠ L ∧ L + 1 + 1 ≠ L ∧ L + 1 + 1 ≠ L + 1 := by omega
theorem LS.local {s : Shared} {h h' : Heap} {L : Addr} {m m' : Str → Option Value} {v1 v2 : Option Value} (l : LS s h L m v1 v2) (hL : s.heap.get? L = none) (hn : h'.Ns L m') (k : ∀ b o, b ≠ L → h.get? b = some o → h'.get? b = some o) : LS s h' L m' v1 v2 :=
  ⟨hn, let ⟨o, e, d⟩ := l.c1; ⟨o, k _ o (succ_ne' L).1 e, d⟩, let ⟨o, e, d⟩ := l.c2; ⟨o, k _ o (succ_ne' L).2.1 e, d⟩, fun b o e => k b o (ne_get e hL) (l.keep b o e)⟩
def laws : List Int := [3, 40, 364, 328, 41, 5224, 10841, 5225]
def pcD (x : Int) : PyData := .list ((piecesL x).map .str)
def nmD (x : Int) : PyData := .str (vname (vn x) (vr x))
def flD (x : Int) : PyData := .list (vflat (vn x) (vr x))
theorem range_map {α : Type} (f : α → PyData) (l : List α) : (List.range l.length).filterMap (fun i => (l[i]?).bind fun x => some (f x)) = l.map f := by
  rw [filterMap_range]; simp
theorem get_map {α : Type} {l : List α} {f : α → PyData} {i : Nat} {d : PyData} (h : (l.map f)[i]? = some d) : ∃ x, l[i]? = some x ∧ d = f x := by
  rw [List.getElem?_map] at h
  cases hq : l[i]? with
  | none => rw [hq] at h; cases h
  | some p => rw [hq] at h; cases h; exact ⟨p, rfl, rfl⟩

theorem of_ref {h : Heap} {P : Addr → Prop} {a : Addr} {ds : List PyData} (r : Rd h P (.ref a) (.list ds)) : ∃ vs : List Value, h.IsList a vs.toArray ∧ RdAll h P vs ds ∧ P a := by
  obtain ⟨b, vs, e, p, q, r'⟩ := r.of_list
  cases e
  exact ⟨vs, q, r', p⟩
theorem strsAre_rd {h : Heap} {P : Addr → Prop} : ∀ {vs : List Value} {ss : List Str}, RdAll h P vs (ss.map .str) → StrsAre vs ss
  | _, [], .nil => .nil
  | _, _ :: _, .cons r rs => by cases r; exact .cons _ _ (strsAre_rd rs)

def flL (x : Int) : List PyData := vflat (vn x) (vr x)
def toL (ys : List Int) (x : Int) : List PyData := ys.map fun y => .int (tell (vname (vn x) (vr x)) (vname (vn y) (vr y)))
def toD (ys : List Int) (x : Int) : PyData := .list (toL ys x)
def duD (ys : List Int) (x : Int) : PyData := .list ((ys.map flL).map (dueI (flL x)))
theorem fl_lists (ys : List Int) : ys.map flD = (ys.map flL).map .list := by rw [List.map_map]; rfl
theorem to_lists (ys zs : List Int) : zs.map (toD ys) = (zs.map (toL ys)).map .list := by rw [List.map_map]; rfl
theorem to_due (ys : List Int) : ys.map (toD ys) = ys.map (duD ys) := by
  refine List.map_congr_left fun x _ => ?_
  unfold toD toL duD
  rw [List.map_map]
  congr 1
  refine List.map_congr_left fun y _ => ?_
  exact tell_due (vn_lt x) (vn_lt y) (vr_lt x) (vr_lt y)
theorem fl_atoms (ys : List Int) : ∀ es ∈ ys.map flL, ∀ d ∈ es, Atom d := fun es he d hd => by
  obtain ⟨x, _, rfl⟩ := List.mem_map.mp he
  exact vflat_atom _ _ d hd
theorem to_atoms (ys zs : List Int) : ∀ es ∈ zs.map (toL ys), ∀ d ∈ es, Atom d := fun es he d hd => by
  obtain ⟨x, _, rfl⟩ := List.mem_map.mp he
  obtain ⟨y, _, rfl⟩ := List.mem_map.mp hd
  exact .inl ⟨_, rfl⟩
theorem shaped_fl (ys : List Int) : shaped (.list (ys.map flD)) = true := by rw [fl_lists]; exact shaped_lists (fl_atoms ys)
theorem shaped_to (ys zs : List Int) : shaped (.list (zs.map (toD ys))) = true := by rw [to_lists]; exact shaped_lists (to_atoms ys zs)
theorem rd_ints {h : Heap} {P : Addr → Prop} : ∀ {vs : List Value} {ds : List PyData}, RdAll h P vs ds → (∀ d ∈ ds, ∃ i, d = .int i) → ∀ v ∈ vs, ∃ i t, v = .int i t
  | _, _, .nil, _, v, hv => by cases hv
  | _, _, .cons r rs, hd, v, hv => by
    rcases List.mem_cons.mp hv with rfl | hv
    · obtain ⟨i, rfl⟩ := hd _ (List.mem_cons_self ..)
      cases r
      exact ⟨_, _, rfl⟩
    · exact rd_ints rs (fun d h => hd d (List.mem_cons_of_mem _ h)) v hv
theorem flatten_len (ys zs : List Int) : (zs.map (toL ys)).flatten.length = zs.length * ys.length := by
  induction zs with
  | nil => simp
  | cons z zs ih => simp only [List.map_cons, List.flatten_cons, List.length_append, ih, List.length_cons]; simp [toL, Nat.add_mul]; omega

section
variable {prog : Program} {w : World} {A : Around} {s : Shared}
theorem callC_fn {E : Value → Shared → Prop} {env : Env} {f : Addr} {o : Obj} {fd : FuncData} {e : Expr} {rest : List Expr} {pos : Pos} {Q : Value → Shared → Prop} (ho : (KK w).lookup f = some o) (hdat : o.data = .func fd)
    (h : wpAny (model prog w) A (spliced (backTo pos (starEach (e :: rest) env))) (fun vs s₁ => Cx w s₁.heap ∧ wpC (model prog w) A (call (.ref f) vs) Q E s₁) E s)
    (he : starEach (e :: rest) env = (false, eval e env) :: starEach rest env := by rfl) :
    wpC (model prog w) A (callWith pos (.ref f) [] (backTo pos (starEach (e :: rest) env)) []) Q E s :=
  callWithC_def hdat (wpAny_mono h (fun _ _ h₁ => ⟨h₁.1.X _ _ ho, h₁.2⟩) fun _ _ x => x) he
theorem law_ret (C : Cx w s.heap) (hh : A.handled = none) (hd : A.depth < 500) (hu : A.units + 200 < cLine) (hfr : A.frames = some []) {v : Value} {xs : List Int} (hl : xs.length ≤ 63) (hr : Rd s.heap (fun _ => True) v (.list (xs.map .int))) :
    codeC (model prog w) A (.call (.ref 143) ⟨[v], []⟩) (fun r s' => ∃ u, r = .ok (.ret u) ∧ u = .bool true ∧ Keeps s s') s := by
  refine' enterC (binds := [(Str.ofString "script", v)]) C (by omega) rfl rfl rfl rfl rfl rfl ?hkind ?h rfl rfl rfl
  case hkind => 
    intro y hy
    rcases List.mem_cons.mp hy with rfl | hy
    · exact .inl rfl
    · cases hy
  case h =>
    intro h₁ tk₁ I C₁ hk₁
    have szl := sizeLine_eq
    have hL0 : s.heap.get? s.heap.objs.size = none := Heap.get?_none_of_le (Nat.le_refl _)
    have l₁ : LS s h₁ s.heap.objs.size _ _ _ := ⟨I.toInCall.ns, I.cell (Str.ofString "names") _ rfl, I.cell (Str.ofString "due") _ rfl, hk₁⟩
    obtain ⟨ax, us, rfl, -, hlu, hru⟩ := hr.of_list
    have hul : us.length = xs.length := by simpa using hru.length
    generalize hys : xs.take 5 ++ laws = ys
    have hyl : ys.length ≤ 13 := by rw [← hys]; simp [laws]; omega
    refine wpC_execs_cons (wpC_of (comp_assign (P := PL s.heap.objs.size) hh rfl rfl (by decide) rfl (by decide) rfl (fun _ => rfl) rfl rfl ?_ (fun q => q.1 rfl)))
    refine wpAny_BinOp (sub_take ?_)
    refine NameLC I rfl rfl rfl ?_ (by decide)
    refine ⟨ax, us, rfl, hlu.at fun o e => hk₁ _ o e, by omega, ?_⟩
    refine wpAny_Constant_int ⟨_, _, rfl, by decide, keeps_tok _ _, fun D₂ h₂ hk₂ hD₂ hl₂ => ?_⟩
    refine List_ (wpAny_items_cons (wpAny_Constant_int (wpAny_items_cons (wpAny_Constant_int (wpAny_items_cons (wpAny_Constant_int (wpAny_items_cons (wpAny_Constant_int (wpAny_items_cons (wpAny_Constant_int (wpAny_items_cons (wpAny_Constant_int (wpAny_items_cons (wpAny_Constant_int (wpAny_items_cons (wpAny_Constant_int (wpAny_items_nil ?_)))))))))))))))))
    refine new_list (by rw [sizeLine_eq]; show 8 ≤ _; decide) fun D₃ h₃ hk₃ hD₃ hl₃ => ?_
    refine add_ll (hl₂.at fun o e => hk₃ _ o e) hl₃.isList (by simp; omega) fun D₄ h₄ hk₄ hD₄ hl₄ => ?_
    have k14 : ∀ b o, h₁.get? b = some o → h₄.get? b = some o := fun b o e => hk₄ b o (hk₃ b o (hk₂ b o e))
    have l₄ := l₁.keeps k14
    have hvv : ∃ vs : List Value, h₄.IsList D₄ vs.toArray ∧ RdAll h₄ (fun _ => True) vs (ys.map .int) := by
      refine ⟨_, hl₄, ?_⟩
      rw [← hys, List.map_append, List.map_take]
      refine RdAll.append ((hru.take 5).keeps fun b o e => k14 b o (hk₁ b o e)) ?_
      exact .cons (.int _ _) (.cons (.int _ _) (.cons (.int _ _) (.cons (.int _ _) (.cons (.int _ _) (.cons (.int _ _) (.cons (.int _ _) (.cons (.int _ _) .nil)))))))
    refine hvv.elim fun vs hvv => ?_
    have hlv := hvv.1
    have r₄ := hvv.2
    have hvl : vs.length = ys.length := by simpa using r₄.length
    refine ⟨D₄, vs, fun i => (ys[i]?).bind fun x => some (pcD x), _, rfl, hlv, by omega, l₄.fresh, ?_, l₄.ns, ?_⟩
    · intro Cc P₂ i u s₂ m₂ E' hu' k₂ f₂ sub hns hm hD
      obtain ⟨d, hd', ru⟩ := r₄.get hu'
      obtain ⟨x, hx, rfl⟩ := get_map hd'
      obtain ⟨tx, rfl⟩ := ru.of_int
      have C₂ : Cx w s₂.heap := (C.keeps l₄.keep).keeps (ksub k₂)
      refine wpAny_tests_nil ⟨keeps_refl _, ?_, ?_⟩
      · show true = ((ys[i]?).bind fun x => some (pcD x)).isSome
        rw [hx]; rfl
      · intro d hd'
        have hd' : (ys[i]?).bind (fun x => some (pcD x)) = some d := hd'
        rw [hx] at hd'
        cases hd'
        refine Call_ (gname (v := .ref 118) C₂ (by kernel_rfl) ?_)
        refine call_fn rfl rfl (wpAny_items_cons (wpAny_Name (wpAny_loadName_local rfl rfl hns hm ?_) (by decide)))
        refine wpAny_items_nil ⟨C₂, ?_⟩
        refine call_ret (pieces_ret (A := A.deeper _) C₂ hh (by show A.depth + 1 < 550; omega) x tx) fun v' s' h' => ?_
        exact ⟨h'.1, h'.2 _ f₂⟩
    · intro D₅ h₅ tk₅ hn₅ hk₅ r₅
      rw [hvl, range_map] at r₅
      have l₅ : LS s h₅ s.heap.objs.size _ _ _ := l₄.local hL0 hn₅ hk₅
      have C₅ := C.keeps l₅.keep
      have r₅ : Rd h₅ (PL s.heap.objs.size) (.ref D₅) (.list (ys.map pcD)) := r₅.mono fun b o p e => ⟨e, p.1⟩
      show wpC _ _ (execs _ _) _ _ { s with heap := h₅, toks := tk₅ }
      obtain ⟨vs₅, hl₅, rv₅, pD₅⟩ := of_ref r₅
      have hl5 : vs₅.length = ys.length := by simpa using rv₅.length
      refine wpC_execs_cons (wpC_of (Assign_Tuple (Tuple_ (wpAny_items_cons (comp_eval (P := PL s.heap.objs.size) hh rfl (by decide) rfl (by decide) rfl (fun _ => rfl) ?_)))))
      refine wpAny_Name (wpAny_loadName_local rfl rfl l₅.ns rfl ?_) (by decide)
      refine ⟨D₅, vs₅, fun i => (ys[i]?).bind fun x => some (nmD x), rfl, hl₅, by omega, l₅.fresh, ?_, ?_⟩
      · intro Cc P₂ i u s₂ m₂ E' hu' k₂ f₂ sub hns hm hD
        obtain ⟨d, hd', ru⟩ := rv₅.get hu'
        obtain ⟨x, hx, rfl⟩ := get_map hd'
        obtain ⟨av, ws, rfl, pav, hlw, hw⟩ := ru.of_list
        refine wpAny_tests_nil ⟨keeps_refl _, ?_, ?_⟩
        · show true = ((ys[i]?).bind fun x => some (nmD x)).isSome
          rw [hx]; rfl
        · intro d hd'
          have hd' : (ys[i]?).bind (fun x => some (nmD x)) = some d := hd'
          rw [hx] at hd'
          cases hd'
          refine MethodCall_ (Calls.Constant_str ?_)
          refine GM.join ?_
          refine callWith_method1 (wpAny_items_cons (wpAny_Name (wpAny_loadName_local rfl rfl hns hm ?_) (by decide)))
          refine wpAny_items_nil (join_list (hlw.at fun o e => ksub k₂ _ o e) (by simpa using strsAre_rd hw) (pieces_sum x) fun t' tk' => ?_)
          refine ⟨keeps_tok _ _, ?_⟩
          rw [pieces_eq, join_eq]
          exact .str _ _
      · intro v₆ s₆ k₆ r₆
        rw [hl5, range_map] at r₆
        show wpAny _ _ (spliced _) _ _ s₆
        obtain ⟨h₆, tk₆, rfl, hk₆⟩ := k₆
        have l₆ := l₅.keeps hk₆
        refine wpAny_items_cons (comp_eval (P := PL s.heap.objs.size) hh rfl (by decide) rfl (by decide) rfl (fun _ => rfl) ?_)
        refine wpAny_Name (wpAny_loadName_local rfl rfl l₆.ns rfl ?_) (by decide)
        refine ⟨D₅, vs₅, fun i => (ys[i]?).bind fun x => some (flD x), rfl, hl₅.at fun o e => hk₆ _ o e, by omega, l₆.fresh, ?_, ?_⟩
        · intro Cc P₂ i u s₂ m₂ E' hu' k₂ f₂ sub hns hm hD
          obtain ⟨d, hd', ru⟩ := rv₅.get hu'
          obtain ⟨x, hx, rfl⟩ := get_map hd'
          have C₂ : Cx w s₂.heap := (C.keeps l₆.keep).keeps (ksub k₂)
          refine wpAny_tests_nil ⟨keeps_refl _, ?_, ?_⟩
          · show true = ((ys[i]?).bind fun x => some (flD x)).isSome
            rw [hx]; rfl
          · intro d hd'
            have hd' : (ys[i]?).bind (fun x => some (flD x)) = some d := hd'
            rw [hx] at hd'
            cases hd'
            have ru₂ : Rd s₂.heap P₂ u (.list ((pcsOf (vn x) (vr x)).map fun p => .str p.str)) := by
              have e : pcD x = .list ((pcsOf (vn x) (vr x)).map fun p => .str p.str) := by unfold pcD; rw [pieces_eq, List.map_map]; rfl
              rw [← e]
              exact ru.mono fun b o p e => ⟨ksub k₂ b o (hk₆ b o e), sub b o (hk₆ b o e) p⟩
            refine Call_ (gname (v := .ref 128) C₂ (by kernel_rfl) ?_)
            refine call_fn rfl rfl (wpAny_items_cons (wpAny_Name (wpAny_loadName_local rfl rfl hns hm ?_) (by decide)))
            refine wpAny_items_nil ⟨C₂, ?_⟩
            refine call_ret (flat_ret (A := A.deeper _) C₂ hh (by show A.depth + 1 < 545; omega) f₂ (pcs_ok x) (pcs_len x) ru₂) fun v' s' h' => ?_
            rw [flat_eq] at h'
            exact h'
        · intro v₇ s₇ k₇ r₇
          rw [hl5, range_map] at r₇
          show wpAny _ _ (spliced _) _ _ s₇
          obtain ⟨h₇, tk₇, rfl, hk₇⟩ := k₇
          refine wpAny_items_nil (new_tuple (by rw [sizeLine_eq]; show 2 ≤ _; decide) fun T h₈ hk₈ hn₈ ht₈ => ?_)
          refine assign_Tuple_tuple hh ht₈ rfl rfl fun h₉ hx₉ => ?_
          have hk₉ : ∀ b o, h₈.get? b = some o → h₉.get? b = some o := fun b o e => hx₉ b o (Nat.ne_of_lt (Heap.lt_size e)) e
          have l₉ := l₆.keeps fun b o e => hk₉ b o (hk₈ b o (hk₇ b o e))
          refine wpAny_assignInOrder_more (wpAny_assign_Name (wpAny_storeName_cell rfl rfl rfl l₉.c1 fun h₁₀ hc₁₀ hs₁₀ => ?_))
          refine wpAny_assignInOrder_more (wpAny_assign_Name (wpAny_storeName_cell rfl rfl rfl (l₉.c2.sameBut hs₁₀ (succ_ne' _).2.2) fun h₁₁ hc₁₁ hs₁₁ => ?_))
          refine wpAny_assignInOrder_none ?_
          show wpC _ _ (execs _ _) _ _ { s with heap := h₁₁, toks := tk₇ }
          have o₁₁ : ∀ b o, PL s.heap.objs.size b → h₉.get? b = some o → h₁₁.get? b = some o := fun b o p e => hs₁₁.extBut b o p.2.2 (hs₁₀.extBut b o p.2.1 e)
          have l₁₁ : LS s h₁₁ s.heap.objs.size _ (some v₆) (some v₇) := ⟨(l₉.ns.sameBut hs₁₀ (succ_ne' _).1.symm).sameBut hs₁₁ (succ_ne' _).2.1.symm, hc₁₀.sameBut hs₁₁ (succ_ne' _).2.2.symm, hc₁₁, fun b o e => hs₁₁.extBut b o (ne_get e (gone _ (by omega))) (hs₁₀.extBut b o (ne_get e (gone _ (by omega))) (l₉.keep b o e))⟩
          have rn : Rd h₁₁ (PL s.heap.objs.size) v₆ (.list (ys.map nmD)) := r₆.mono fun b o p e => ⟨o₁₁ b o p (hk₉ b o (hk₈ b o (hk₇ b o e))), p⟩
          have rd : Rd h₁₁ (PL s.heap.objs.size) v₇ (.list (ys.map flD)) := r₇.mono fun b o p e => ⟨o₁₁ b o p (hk₉ b o (hk₈ b o e)), p⟩
          obtain ⟨an, nvs, rfl, pan, hln, rnv⟩ := rn.of_list
          obtain ⟨ad, dvs, rfl, pad, hld, rdv⟩ := rd.of_list
          have hnl : nvs.length = ys.length := by simpa using rnv.length
          have hdl : dvs.length = ys.length := by simpa using rdv.length
          refine wpC_execs_cons (comp_assignF (P := PL s.heap.objs.size) hh rfl rfl (by decide) rfl (by decide) rfl (fun _ => rfl) rfl rfl (fun q => q.1 rfl) ?_)
          refine wpAny_Name (wpAny_loadName_cell rfl rfl rfl l₁₁.c1 ?_) (by decide)
          refine ⟨an, nvs, ys.map flD, _, rfl, hln, by omega, l₁₁.fresh, pan.1, l₁₁.ns, by simp [hnl], ?_, ?_⟩
          · intro Cc P₂ i u d s₂ m₂ E' hu' hd' k₂ hN f₂ sub hns hm
            obtain ⟨d0, h0, ru⟩ := rnv.get hu'
            obtain ⟨x, hx, rfl⟩ := get_map h0
            obtain ⟨x', hx', rfl⟩ := get_map hd'
            obtain rfl : x = x' := by rw [hx] at hx'; cases hx'; rfl
            obtain ⟨tx, rfl⟩ := ru.of_str
            obtain ⟨h₁₂, tk₁₂, rfl, kk₂⟩ := k₂
            have keep0 : s.heap.StaysIn h₁₂ := fun b o e => kk₂ b o (ne_get e hL0) (l₁₁.keep b o e)
            have C₂ : Cx w h₁₂ := C.keeps keep0
            obtain ⟨ms, dss, z1, z2, z3, z4, z5, z6⟩ := chain_name (vn_lt x) (vr_lt x) (vr_len x)
            refine Call_C (gname (s := { s with heap := h₁₂, toks := tk₁₂ }) (v := .ref 51) C₂ (by kernel_rfl) ?_)
            refine callC_fn rfl rfl (wpAny_items_cons (wpAny_Name (wpAny_loadName_local rfl rfl hns hm ?_) (by decide)))
            refine wpAny_items_nil ⟨C₂, ?_⟩
            have hLo : ∃ o, h₁₂.get? s.heap.objs.size = some o ∧ ∀ vs, o.data ≠ .fields vs := by
              obtain ⟨o, es, ep, e, dd, _⟩ := hN
              exact ⟨o, e, fun vs q => by rw [dd] at q; cases q⟩
            obtain ⟨oL, eL, dL⟩ := hLo
            have hF : ∀ env', (A.deeper env').frames = some [env'] := fun env' => by show A.frames.map _ = _; rw [hfr]; rfl
            refine wpC_call (codeC_mono (cmpv_ret (A := A.deeper _) (outer := [_]) (s := { s with heap := h₁₂, toks := tk₁₂ }) (hB := s.heap) (P := P₂) (dss := dss) C keep0 hh (by show A.depth + 1 < 545; omega) (hF _) ⟨(by intro q; cases q), ⟨_, oL, rfl, hL0, eL, dL⟩, trivial⟩ z1 z2 z3 z4 z5 f₂) ?_)
            rintro r s' ⟨v, rfl, ⟨h', tk, rfl, K⟩, hr⟩
            rw [z6] at hr
            exact ⟨⟨h', tk, rfl, K⟩, hr⟩
          · intro D₁₂ h₁₂ tk₁₂ hn₁₂ hk₁₂ r₁₂
            show wpC _ _ (execs _ _) _ _ { s with heap := h₁₂, toks := tk₁₂ }
            have l₁₂ : LS s h₁₂ s.heap.objs.size _ _ _ := l₁₁.local hL0 hn₁₂ hk₁₂
            have rn₁₂ := rn.mono (P' := PL s.heap.objs.size) fun b o p e => ⟨hk₁₂ b o p.1 e, p⟩
            have rd₁₂ := rd.mono (P' := PL s.heap.objs.size) fun b o p e => ⟨hk₁₂ b o p.1 e, p⟩
            refine wpC_of ?_
            obtain ⟨_, q1⟩ := r₁₂.reads
            obtain ⟨_, q2⟩ := rd₁₂.reads
            refine wpAny_execs_cons (wpAny_If (wpAny_isTrue_Compare1 (wpAny_Name (wpAny_loadName_local rfl rfl l₁₂.ns rfl ?_) (by decide))))
            refine wpAny_Name (wpAny_loadName_cell rfl rfl rfl l₁₂.c2 ?_) (by decide)
            refine compareNe_shaped q1 q2 (shaped_fl ys) (shaped_fl ys) (by show A.units + 3 + 64 < cLine; omega) (wpAny_truthy_bool ?_)
            rw [eqv_refl _ (canLay_of_shaped (shaped_fl ys))]
            show wpAny _ _ (execs [] _) _ _ _
            refine wpAny_execs_nil ?_
            show wpAny _ _ (execs _ _) _ _ { s with heap := h₁₂, toks := _ }
            refine wpAny_execs_cons (comp_assign (P := PL s.heap.objs.size) hh rfl rfl (by decide) rfl (by decide) rfl (fun _ => rfl) rfl rfl ?_ (fun q => q.1 rfl))
            refine wpAny_Name (wpAny_loadName_cell rfl rfl rfl l₁₂.c1 ?_) (by decide)
            refine ⟨an, nvs, fun i => (ys[i]?).bind fun x => some (toD ys x), _, rfl, hln.at fun o e => hk₁₂ _ o pan.1 e, by omega, l₁₂.fresh, ?_, l₁₂.ns, ?_⟩
            · intro Cc P₂ i u s₂ m₂ E' hu' k₂ f₂ sub hns hm hD
              obtain ⟨d0, h0, ru⟩ := rnv.get hu'
              obtain ⟨x, hx, rfl⟩ := get_map h0
              obtain ⟨tx, rfl⟩ := ru.of_str
              have C₂ : Cx w s₂.heap := (C.keeps l₁₂.keep).keeps (ksub k₂)
              have c₂ := l₁₂.c1.keeps (ksub k₂)
              have rn₂ : Rd s₂.heap P₂ (.ref an) (.list ((ys.map fun y => vname (vn y) (vr y)).map .str)) := by
                have e : (ys.map fun y => vname (vn y) (vr y)).map PyData.str = ys.map nmD := by rw [List.map_map]; rfl
                rw [e]
                exact rn₁₂.mono fun b o p e => ⟨ksub k₂ b o e, sub b o e p⟩
              refine wpAny_tests_nil ⟨keeps_refl _, ?_, ?_⟩
              · show true = ((ys[i]?).bind fun x => some (toD ys x)).isSome
                rw [hx]; rfl
              · intro d hd'
                have hd' : (ys[i]?).bind (fun x => some (toD ys x)) = some d := hd'
                rw [hx] at hd'
                cases hd'
                refine Call_ (gname (v := .ref 133) C₂ (by kernel_rfl) ?_)
                refine call_fn rfl rfl (wpAny_items_cons (wpAny_Name (wpAny_loadName_local rfl rfl hns hm ?_) (by decide)))
                refine wpAny_items_cons (wpAny_Name (wpAny_loadName_cell rfl rfl rfl c₂ ?_) (by decide))
                refine wpAny_items_nil ⟨C₂, ?_⟩
                refine call_ret (told_ret (A := A.deeper _) (ns := ys.map fun y => vname (vn y) (vr y)) C₂ hh (by show A.depth + 1 < 535; omega) f₂ ?_ (vname_len x) (by simp; omega) rn₂) fun v' s' h' => ?_
                · intro n hn
                  obtain ⟨y, _, rfl⟩ := List.mem_map.mp hn
                  exact vname_ne y
                · rw [List.map_map] at h'
                  exact h'
            · intro D₁₃ h₁₃ tk₁₃ hn₁₃ hk₁₃ r₁₃
              rw [hnl, range_map] at r₁₃
              show wpAny _ _ (execs _ _) _ _ { s with heap := h₁₃, toks := tk₁₃ }
              have l₁₃ : LS s h₁₃ s.heap.objs.size _ _ _ := l₁₂.local hL0 hn₁₃ hk₁₃
              have r₁₃ : Rd h₁₃ (PL s.heap.objs.size) (.ref D₁₃) (.list (ys.map (toD ys))) := r₁₃.mono fun b o p e => ⟨e, p.1⟩
              have rd₁₃ := rd₁₂.mono (P' := PL s.heap.objs.size) fun b o p e => ⟨hk₁₃ b o p.1 e, p⟩
              have C₁₃ := C.keeps l₁₃.keep
              obtain ⟨tvs, htl, rtv, pD⟩ := of_ref r₁₃
              rw [to_lists] at rtv
              obtain ⟨ws, w1, w2, w3⟩ := lists_split rtv
              have hfl := flatten_len ys ys
              have htl' : tvs.length = ys.length := by simpa using rtv.length
              have hws : ws.flatten.length ≤ 13 * 13 := by rw [w3.length, hfl]; exact Nat.mul_le_mul hyl hyl
              have hint : ∀ v ∈ ws.flatten, ∃ i t, v = Value.int i t := rd_ints w3 fun d hd => by
                obtain ⟨es, he, hd⟩ := List.mem_flatten.mp hd
                obtain ⟨x, _, rfl⟩ := List.mem_map.mp he
                obtain ⟨y, _, rfl⟩ := List.mem_map.mp hd
                exact ⟨_, rfl⟩
              refine wpAny_execs_cons (wpAny_If (wpAny_isTrue_Compare1 (comp_flat hh rfl (by decide) rfl (by decide) rfl rfl (fun _ => rfl) (by decide) (by decide) ?_)))
              refine wpAny_Name (wpAny_loadName_local rfl rfl l₁₃.ns rfl ?_) (by decide)
              refine ⟨D₁₃, tvs, ws, fun _ => false, rfl, htl, w1, by omega, by omega, fun i v e => ?_, ?_, ?_⟩
              · obtain ⟨a, u, e1, e2, e3⟩ := w2 i v e
                exact ⟨a, u, e1, e2, .inr e3⟩
              · intro Cc v u s₂ m₂ E' hk hu' hv hns hm
                obtain ⟨iv, tv, rfl⟩ := hint v (List.mem_flatten.mpr ⟨u, hu', hv⟩)
                have C₂ : Cx w s₂.heap := C₁₃.keeps hk
                refine wpAny_tests_one (wpAny_isTrue_Compare1 (Call_ (bname C₂ (by kernel_rfl) PyProof.Rows.boot_type (by decide) ?_)))
                refine Pv.callWith_type1 (wpAny_items_cons (wpAny_Name (wpAny_loadName_local rfl rfl hns hm ?_) (by decide)))
                refine wpAny_items_nil (call_type_of (Tx := "int") rfl (by decide) ?_)
                refine bname C₂ (by kernel_rfl) PyProof.Rows.boot_int (by decide) ?_
                refine isnot_type_same (wpAny_truthy_bool ?_)
                exact ⟨rfl, keeps_refl _⟩
              · intro D₁₄ h₁₄ tk₁₄ hl₁₄ hn₁₄ hk₁₄
                rw [show ws.flatten.filter (fun _ => false) = [] from by simp] at hl₁₄
                refine List_ (wpAny_items_nil (new_list (by rw [sizeLine_eq]; show 0 ≤ _; decide) fun D₁₅ h₁₅ hk₁₅ hn₁₅ hl₁₅ => ?_))
                have hk15 : ∀ b o, h₁₃.get? b = some o → h₁₅.get? b = some o := fun b o e => hk₁₅ b o (hk₁₄ b o e)
                have l₁₅ := l₁₃.keeps hk15
                have ra : Rd h₁₅ (fun _ => True) (.ref D₁₄) (.list []) := .mk_list (vs := []) trivial (hl₁₄.at fun o e => hk₁₅ _ o e) .nil
                have rb : Rd h₁₅ (fun _ => True) (.ref D₁₅) (.list []) := .mk_list (vs := []) trivial hl₁₅.isList .nil
                show wpAny _ _ (compareOp _ _ _) _ _ _
                obtain ⟨_, qa⟩ := ra.reads
                obtain ⟨_, qb⟩ := rb.reads
                refine compareNe_shaped qa qb (by decide) (by decide) (by show A.units + 3 + 64 < cLine; omega) (wpAny_truthy_bool ?_)
                rw [show PyData.eqv (.list []) (.list []) = true from rfl]
                show wpAny _ _ (execs [] _) _ _ _
                refine wpAny_execs_nil ?_
                show wpAny _ _ (execs _ _) _ _ { s with heap := h₁₅, toks := _ }
                have r₁₅ := r₁₃.keeps hk15
                have rd₁₅ := rd₁₃.keeps hk15
                refine wpAny_execs_cons (wpAny_Return_some (wpAny_Compare1 (wpAny_Name (wpAny_loadName_local rfl rfl l₁₅.ns rfl ?_) (by decide))))
                refine comp_eval (P := PL s.heap.objs.size) hh rfl (by decide) rfl (by decide) rfl (fun _ => rfl) ?_
                refine wpAny_Name (wpAny_loadName_cell rfl rfl rfl l₁₅.c2 ?_) (by decide)
                refine ⟨ad, dvs, fun i => (ys[i]?).bind fun x => some (duD ys x), rfl, hld.at fun o e => hk15 _ o (hk₁₃ _ o pad.1 (hk₁₂ _ o pad.1 e)), by omega, l₁₅.fresh, ?_, ?_⟩
                · intro Cc P₂ i u s₂ m₂ E' hu' k₂ f₂ sub hns hm hD
                  obtain ⟨d0, h0, ru⟩ := rdv.get hu'
                  obtain ⟨x, hx, rfl⟩ := get_map h0
                  have C₂ : Cx w s₂.heap := (C.keeps l₁₅.keep).keeps (ksub k₂)
                  have c₂ := l₁₅.c2.keeps (ksub k₂)
                  have up : ∀ b o, PL s.heap.objs.size b → h₁₁.get? b = some o → s₂.heap.get? b = some o ∧ P₂ b := fun b o p e =>
                    have e' := hk15 b o (hk₁₃ b o p.1 (hk₁₂ b o p.1 e))
                    ⟨ksub k₂ b o e', sub b o e' p⟩
                  have ru₂ : Rd s₂.heap P₂ u (.list (flL x)) := ru.mono up
                  have rd₂ : Rd s₂.heap P₂ (.ref ad) (.list ((ys.map flL).map .list)) := by
                    rw [← fl_lists]
                    exact rd.mono up
                  refine wpAny_tests_nil ⟨keeps_refl _, ?_, ?_⟩
                  · show true = ((ys[i]?).bind fun x => some (duD ys x)).isSome
                    rw [hx]; rfl
                  · intro d hd'
                    have hd' : (ys[i]?).bind (fun x => some (duD ys x)) = some d := hd'
                    rw [hx] at hd'
                    cases hd'
                    refine Call_ (gname (v := .ref 138) C₂ (by kernel_rfl) ?_)
                    refine call_fn rfl rfl (wpAny_items_cons (wpAny_Name (wpAny_loadName_local rfl rfl hns hm ?_) (by decide)))
                    refine wpAny_items_cons (wpAny_Name (wpAny_loadName_cell rfl rfl rfl c₂ ?_) (by decide))
                    refine wpAny_items_nil ⟨C₂, ?_⟩
                    refine call_ret (due_ret (A := A.deeper _) (rd := flL x) (kds := ys.map flL) C₂ hh (by show A.depth + 1 < 545; omega) (by show A.units + 3 + 100 < cLine; omega) f₂ (vflat_atom _ _) (fl_atoms ys) (vflat_len x) (by simp; omega) ?_ ru₂ rd₂) fun v' s' h' => ?_
                    · intro k hk
                      obtain ⟨y, _, rfl⟩ := List.mem_map.mp hk
                      exact vflat_len y
                    · exact h'
                · intro v₁₆ s₁₆ k₁₆ r₁₆
                  rw [hdl, range_map, ← to_due] at r₁₆
                  show wpAny _ _ (compareOp _ _ _) _ _ s₁₆
                  obtain ⟨h₁₆, tk₁₆, rfl, hk₁₆⟩ := k₁₆
                  obtain ⟨_, qa⟩ := (r₁₅.keeps hk₁₆).reads
                  obtain ⟨_, qb⟩ := r₁₆.reads
                  refine compareEq_shaped qa qb (shaped_to ys ys) (shaped_to ys ys) (by show A.units + 3 + 64 < cLine; omega) ?_
                  rw [eqv_refl _ (canLay_of_shaped (shaped_to ys ys))]
                  exact ⟨rfl, _, _, rfl, fun b o e => hk₁₆ b o (l₁₅.keep b o e)⟩
end
end Mine
end

/-! ### End -/
section
set_option maxRecDepth 100000
set_option maxHeartbeats 4000000
namespace Mine
open PySem PySem.W PyProof.Rows PySem.SeqAt

theorem rd_of_ints {h : Heap} {P : Addr → Prop} : ∀ {vs : List Value} {xs : List Int}, IntsAre vs xs → RdAll h P vs (xs.map .int)
  | _, _, .nil => .nil
  | _, _, .cons n t r => .cons (.int n t) (rd_of_ints r)

theorem holds : PySem.Challenge.rw_ny0063_01.Holds := by
  apply Hd.hd
  intro w s₀ s₁ mg mb G Y a o pm cd doc dV kV ho hd hcd hD hmg hg args vals as hpre hlay hrd hwl hlo
  have C : Cx w s₁.heap := ⟨kIn_of Y, mg, mb, _, G.T⟩
  have e := mg_of C.X G.T.g (n := Str.ofString "law") (v := .ref 143) (by kernel_rfl)
  have ha : a = 143 := by
    have h1 : mg (Str.ofString "law") = some (.ref a) := hmg
    rw [h1] at e
    cases e
    rfl
  subst ha
  clear hD hd ho hcd hmg e
  wrow_args hpre hlay hrd hwl hlo
  rename_i xs _ _ _ _ _ _ _ av vs _ hl _ _ _ hI _ hc _
  have hc' : xs.length ≤ 63 := by omega
  have hr : Rd s₁.heap (fun _ => True) (.ref av) (.list (xs.map .int)) := .mk_list trivial hl (rd_of_ints hI)
  refine wpC_call (codeC_mono (law_ret (A := callerA) C rfl (by decide) (by decide) rfl hc' hr) ?_)
  rintro r s' ⟨u, rfl, rfl, h', tk, rfl, k⟩
  refine ⟨.inl ⟨_, .bool true, [], rfl, fun _ => rfl, .bool true, ?_, fun _ => ⟨.nil, fun _ h => nomatch h⟩⟩, .of_keep k, rfl, .of_eq hg⟩
  wrow_post
end Mine
end

theorem PySem.Challenge.cw_ny0063_01_holds : PySem.Challenge.rw_ny0063_01.Holds :=
  Mine.holds
